import PyProof.Rows.All
import Wide.All
import OpenK.AllK
import Wide.FinOn
import Lean
import PySem.Challenge.RW_wu0090_01
open PySem PySem.W PyProof.Rows
set_option Elab.async false
set_option maxRecDepth 100000
set_option maxHeartbeats 4000000
namespace Mine
open PySem PySem.W PySem.Calls PyProof.Rows

def tabO (vs : Array Value) : Obj := { cls := .none, data := .fields vs }
/-- the part of the text that the top's facts are about. -/
def view : Program := { PySem.Challenge.pw_wu0090_01 with main := { PySem.Challenge.pw_wu0090_01.main with
  body := [0, 2, 3, 4, 5, 11, 12, 14, 15, 16, 17, 18, 19, 20, 21].filterMap fun i => PySem.Challenge.pw_wu0090_01.main.body[i]? } }
abbrev loose0 : List Str := ["_Accumulator", "insort_right", "bisect_right", "bisect_left"]
abbrev rw0 : RowW := PySem.Challenge.rw_wu0090_01.row.toRowW
abbrev xt0 (s : Shared) : Bool := xlAt view [] s && recOk (RowW.records rw0) s
abbrev with2 (K : Params → Frag) (P : Params) : Frag := K P ++ [(140, tabO #[]), (147, tabO #[])]
abbrev hk0 (K : Params → Frag) (as : List Addr) (e : ∀ P, as ++ [140, 147] = (with2 K P).map (·.1)) : Hook := kHook (with2 K) (as ++ [140, 147]) e
theorem pack {A B W H : Prop} (f : A → B → W → H) (w : W) (h : A ∧ B) : H := f h.1 h.2 w
-- the head in place of the library's: the run of the top in one, and two code tables told as well
local macro_rules | `(tactic| o_head ($_f $k $a $_e)) => `(tactic| (
  refine pack (fun h1 h2 h3 => holds_open (q := view) (loose := loose0) (Xt := xt0) (XP := XL view [])
    (Yf := Hook.obs (hk0 $k $a (fun _ => by kernel_rfl))) (Ya := Hook.val (hk0 $k $a (fun _ => by kernel_rfl))) (YP := Hook.says (hk0 $k $a (fun _ => by kernel_rfl)))
    (N := 3112) h1 (Hook.of _) (Hook.keeps _) (fun s e => xl_of s (Bool.and_eq_true_iff.mp e).1) XL.keeps (by rfl) (by rfl) (by rfl) (fun s e => recFacts_of (Bool.and_eq_true_iff.mp e).2) (by rfl) ?k1 (by decide +kernel) ⟨rfl, rfl, rfl, rfl, rfl, by decide +kernel⟩ h3 h2) ?hw ?hc
  case k1 => assumption))
set_option maxHeartbeats 8000000 in
open_top hed for PySem.Challenge.rw_wu0090_01
theorem half {A B H : Prop} (f : A ∧ B → H) (a : A) (b : B) : H := f ⟨a, b⟩
/-- the head: the run of the top is checked here. -/
def hedB := half hed (by intro w; kernel_rfl)
end Mine
namespace Mine
open PySem PySem.W PySem.Calls PyProof.Rows
theorem sub_cons {α : Type} {x : α} {l l' : List α} (h1 : x ∈ l) (h2 : ∀ q ∈ l', q ∈ l) : ∀ q ∈ x :: l', q ∈ l := fun q hq => by
  rcases List.mem_cons.mp hq with e | hq
  · rw [e]; exact h1
  · exact h2 q hq
theorem sub_tail {α : Type} {x : α} {l r : List α} (h : ∀ q ∈ r, q ∈ l) : ∀ q ∈ r, q ∈ x :: l := fun q hq => List.mem_cons_of_mem _ (h q hq)
theorem sub_nil {α : Type} {l : List α} : ∀ q ∈ ([] : List α), q ∈ l := fun _ h => nomatch h
theorem all_cons {α : Type} {P : α → Prop} {x : α} {l : List α} (h : P x) (t : ∀ q ∈ l, P q) : ∀ q ∈ x :: l, P q := fun q hq => by
  rcases List.mem_cons.mp hq with e | hq
  · rw [e]; exact h
  · exact t q hq
theorem all_nil {α : Type} {P : α → Prop} : ∀ q ∈ ([] : List α), P q := fun _ h => nomatch h

/-- numbers that grow. -/
def Chain : List Nat → Prop
  | [] => True
  | [_] => True
  | a :: b :: r => a < b ∧ Chain (b :: r)
theorem Chain.lt0 : ∀ {r : List Nat} {a : Nat} (_ : Chain (a :: r)) (j : Nat) {b : Nat}, r[j]? = some b → a < b
  | [], _, _, _, _, e => by cases e
  | b :: r, a, h, 0, c, e => by cases e; exact h.1
  | b :: r, a, h, j + 1, c, e => Nat.lt_trans h.1 (Chain.lt0 h.2 j e)
theorem Chain.lt : ∀ {l : List Nat} (_ : Chain l) (i j : Nat) {a b : Nat}, l[i]? = some a → l[j]? = some b → i < j → a < b
  | [], _, _, _, _, _, e, _, _ => by cases e
  | x :: r, h, 0, j + 1, a, b, e1, e2, _ => by cases e1; exact Chain.lt0 h j e2
  | [x], h, i + 1, j, a, b, e1, e2, hij => by cases e1
  | x :: y :: r, h, i + 1, j + 1, a, b, e1, e2, hij => Chain.lt h.2 i j e1 e2 (Nat.lt_of_succ_lt_succ hij)
end Mine
namespace Mine
open PySem PySem.W PySem.Calls PyProof.Rows

abbrev pw : Program := PySem.Challenge.rw_wu0090_01.row.prog
abbrev AR (dp un : Nat) (fr : Option (List Env)) (gd : Option (List Code)) : Around := { handled := none, depth := dp, frames := fr, guards := gd, units := un }

theorem fill (w : World) (P : PySem.W.OpenLaw → Frag → Prop) (h : P PySem.Challenge.rw_wu0090_01 (hed.heap_39 w.params)) : P PySem.Challenge.rw_wu0090_01 (hed.heap_39 w.params) := by
  k_fill
  exact h

/-- a call of a def of the text: the callee's base is the caller's heap without the ledger. -/
theorem code_K {w : World} {A : Around} {s : Shared} {h₀ : Heap} {L : Addr} {m : Str → Option Value} {news : List (Addr × Obj)} {R : Result → Shared → Prop} {name qual : Str} {params : Arguments} {body : List Stmt} {scope : Scope} {dV kV doc pm cdv ct oc : Value} {an od : Option Addr} {osl : Array (Option Value)} {f : Addr} {args : Args} {binds : List (Str × Value)} {K : Frag}
    {p : Program} {loose : List Str} {mg mb : Str → Option Value}
    (F : Fr h₀ L s.heap m) (N : News h₀ L s.heap news) (X : K.In h₀) (T : TopRead p loose mg mb h₀)
    (ho : K.lookup f = some ⟨oc, od, .func (fnOf name qual params body scope dV kV doc pm an cdv ct), osl⟩) (hcd : codeIn K cdv qual = true) (hroom : A.depth < recursionLimit)
    (hbind : BindsTo s (fnOf name qual params body scope dV kV doc pm an cdv ct) args binds) (hloc : ∀ y ∈ binds, scope.names.lookup y.1 = some .local)
    (h : ∀ g L' h₁, h₀.StaysIn g → Fr h₀ L g m → Fr g L' h₁ (fun y => binds.reverse.lookup y) → News g L' h₁ news → K.In g → TopRead p loose mg mb g → (∀ p ∈ news, p.1 < L') →
      wpAny (model pw w) (A.deeper (envOf qual scope L' f cdv)) (execs body (envOf qual scope L' f cdv))
        (fun fl s' => LeaveK h₀ L m g R (match fl with | .ret v => v | _ => .none) s')
        (fun e s' => wpAny (model pw w) (A.deeper (envOf qual scope L' f cdv)) (leaving (envOf qual scope L' f cdv) e) (fun _ s'' => R (.error e) s'') (fun e' s'' => R (.error e') s'') s')
        { s with heap := h₁, toks := s.toks + binds.length })
    (hco : scope.isCoroutine = false := by rfl) (hgen : scope.isGenerator = false := by rfl) (hk : scope.kind = .function := by rfl)
    (hcell : ∀ x ∈ scope.names, x.2 ≠ .cell := by decide) : codeAny (model pw w) A (.call (.ref f) args) R s := by
  have X' := X.keeps F.keep
  refine codeAny_call_def (fd := fnOf name qual params body scope dV kV doc pm an cdv ct) (body := body) (binds := binds) hroom (X' _ _ ho) rfl (T.nolimit.keeps F.keep) (codeRec_of X' hcd) rfl hbind hcell hloc (fun h₁ hns hk₁ => ?_) hco hgen hk
  have nm : ∀ b o, h₀.get? b = some o → b ∉ news.map (·.1) := fun b o e q => by
    obtain ⟨p, hp, rfl⟩ := List.mem_map.mp q
    rw [(N p hp).2.2] at e; cases e
  have st : h₀.StaysIn (hideAll s.heap (news.map (·.1))) := fun b o e => hideAll_get _ (F.keep b o e) (nm b o e)
  obtain ⟨oL, es, ep, hL, hLd, hLk, hLf⟩ := F.ns
  have nL : L ∉ news.map (·.1) := fun q => by
    obtain ⟨p, hp, e⟩ := List.mem_map.mp q
    exact (N p hp).2.1 e
  have hLg := hideAll_get (news.map (·.1)) hL nL
  refine wpAny_mono (h _ s.heap.objs.size h₁ st ⟨⟨oL, es, ep, hLg, hLd, hLk, hLf⟩, st, F.above⟩ ⟨hns, fun b o e => hk₁ b o (of_hideAll _ e), Nat.le_of_eq (hideAll_size _ _)⟩
    (fun p hp => ⟨hk₁ _ _ (N p hp).1, Nat.ne_of_lt (Heap.lt_size (N p hp).1), hideAll_none _ (List.mem_map_of_mem hp)⟩) (X.keeps st) (T.keeps st) (fun p hp => Heap.lt_size (N p hp).1)) (fun fl s' hl => ?_) fun _ _ y => y
  obtain ⟨L', m', news', F', N', k⟩ := hl
  refine k ⟨⟨oL, es, ep, F'.keep L oL hLg, hLd, hLk, hLf⟩, fun b o e => F'.keep b o (st b o e), F.above⟩ fun p hp => ⟨(N' p hp).1, fun q => ?_, ?_⟩
  · have := (N' p hp).2.2; rw [q, hLg] at this; cases this
  · cases q : h₀.get? p.1 with
    | none => rfl
    | some o => have := (N' p hp).2.2; rw [st _ _ q] at this; cases this

/-- a call of a def of the text that only reads the objects of ro: these stand in the callee's base. -/
theorem code_KR {w : World} {A : Around} {s : Shared} {h₀ : Heap} {L : Addr} {m : Str → Option Value} {ro news : List (Addr × Obj)} {R : Result → Shared → Prop} {name qual : Str} {params : Arguments} {body : List Stmt} {scope : Scope} {dV kV doc pm cdv ct oc : Value} {an od : Option Addr} {osl : Array (Option Value)} {f : Addr} {args : Args} {binds : List (Str × Value)} {K : Frag}
    {p : Program} {loose : List Str} {mg mb : Str → Option Value}
    (F : Fr h₀ L s.heap m) (N : News h₀ L s.heap news) (hro : ∀ p ∈ ro, p ∈ news) (X : K.In h₀) (T : TopRead p loose mg mb h₀)
    (ho : K.lookup f = some ⟨oc, od, .func (fnOf name qual params body scope dV kV doc pm an cdv ct), osl⟩) (hcd : codeIn K cdv qual = true) (hroom : A.depth < recursionLimit)
    (hbind : BindsTo s (fnOf name qual params body scope dV kV doc pm an cdv ct) args binds) (hloc : ∀ y ∈ binds, scope.names.lookup y.1 = some .local)
    (h : ∀ g L' h₁, (∀ p ∈ ro, g.get? p.1 = some p.2) → Fr g L' h₁ (fun y => binds.reverse.lookup y) → News g L' h₁ [] → K.In g → TopRead p loose mg mb g →
      wpAny (model pw w) (A.deeper (envOf qual scope L' f cdv)) (execs body (envOf qual scope L' f cdv))
        (fun fl s' => LeaveK h₀ L m g (fun r s' => News h₀ L s'.heap news → R r s') (match fl with | .ret v => v | _ => .none) s')
        (fun e s' => wpAny (model pw w) (A.deeper (envOf qual scope L' f cdv)) (leaving (envOf qual scope L' f cdv) e) (fun _ s'' => R (.error e) s'') (fun e' s'' => R (.error e') s'') s')
        { s with heap := h₁, toks := s.toks + binds.length })
    (hco : scope.isCoroutine = false := by rfl) (hgen : scope.isGenerator = false := by rfl) (hk : scope.kind = .function := by rfl)
    (hcell : ∀ x ∈ scope.names, x.2 ≠ .cell := by decide) : codeAny (model pw w) A (.call (.ref f) args) R s := by
  have X' := X.keeps F.keep
  refine codeAny_call_def (fd := fnOf name qual params body scope dV kV doc pm an cdv ct) (body := body) (binds := binds) hroom (X' _ _ ho) rfl (T.nolimit.keeps F.keep) (codeRec_of X' hcd) rfl hbind hcell hloc (fun h₁ hns hk₁ => ?_) hco hgen hk
  refine wpAny_mono (h s.heap s.heap.objs.size h₁ (fun p hp => (N p (hro p hp)).1) ⟨hns, hk₁, Nat.le_refl _⟩ (fun _ hp => nomatch hp) X' (T.keeps F.keep)) (fun fl s' hl => ?_) fun _ _ y => y
  obtain ⟨L', m', news', F', N', k⟩ := hl
  obtain ⟨oL, es, ep, hL, hLd, hLk, hLf⟩ := F.ns
  refine k ⟨⟨oL, es, ep, F'.keep L oL hL, hLd, hLk, hLf⟩, fun b o e => F'.keep b o (F.keep b o e), F.above⟩ (fun p hp => ⟨(N' p hp).1, fun q => ?_, ?_⟩) fun p hp => ⟨F'.keep _ _ (N p hp).1, (N p hp).2⟩
  · have := (N' p hp).2.2; rw [q, hL] at this; cases this
  · cases q : h₀.get? p.1 with
    | none => rfl
    | some o => have := (N' p hp).2.2; rw [F.keep _ _ q] at this; cases this

theorem isList_of {g : Heap} {a : Addr} {its : Array Value} {n : Nat} (h : g.get? a = some (listOf its n)) : g.IsList a its := ⟨_, h, rfl, n, rfl⟩

theorem never_leaves {w : World} {A A' : Around} {t : Sem Flow} {Q : Flow → Shared → Prop} {E : Value → Shared → Prop} {s : Shared} (h : wpAny (model pw w) A t Q (fun _ _ => False) s) : wpAny (model pw w) A t Q E s := wpAny_mono h (fun _ _ x => x) (fun _ _ x => x.elim)

/-- the ground that every contract asks: the written part, the top, the module of the built-ins. -/
structure Gd (w : World) (p : Program) (loose : List Str) (mg mb : Str → Option Value) (h : Heap) : Prop where
  X : (hed.heap_39 w.params).In h
  T : TopRead p loose mg mb h
  M : ∃ bm ob, BMod h mainGlobals mg bm ob
theorem Gd.keeps {w : World} {p : Program} {loose : List Str} {mg mb : Str → Option Value} {h h' : Heap} (G : Gd w p loose mg mb h) (hk : h.StaysIn h') : Gd w p loose mg mb h' :=
  ⟨G.X.keeps hk, G.T.keeps hk, let ⟨bm, ob, M⟩ := G.M; ⟨bm, ob, M.keeps hk⟩⟩

/-- generators' states have been added. -/
structure GX (a b : Array GenState) : Prop where
  size : a.size ≤ b.size
  same : ∀ i, i < a.size → b[i]? = a[i]?
  bare : AllBare a → AllBare b
theorem GX.refl (a : Array GenState) : GX a a := ⟨Nat.le_refl _, fun _ _ => rfl, fun h => h⟩
theorem GX.trans {a b c : Array GenState} (x : GX a b) (y : GX b c) : GX a c :=
  ⟨Nat.le_trans x.size y.size, fun i hi => (y.same i (Nat.lt_of_lt_of_le hi x.size)).trans (x.same i hi), fun h => y.bare (x.bare h)⟩
theorem GX.only {a b : Array GenState} {gs : GenState} (hb : gs.bare = true) (x : GenOnlyQ a.size (a.push gs) b) : GX a b := by
  refine ⟨?_, fun i hi => ?_, fun h => AllBare.moved (AllBare.push h hb) x⟩
  · rcases x with rfl | ⟨⟨h, _⟩, _⟩
    · simp
    · rw [h]; simp
  · have e : (a.push gs)[i]? = a[i]? := by rw [Array.getElem?_push, if_neg (Nat.ne_of_lt hi)]
    rcases x with rfl | ⟨⟨_, h⟩, _⟩
    · exact e
    · rw [h i (Nat.ne_of_lt hi), e]

end Mine
namespace Mine
open PySem PySem.W PySem.Calls PyProof.Rows

/-- a callee that found its caller's frame in the ledger has come to its end. -/
def LeaveF (h₀ : Heap) (L : Addr) (m : Str → Option Value) (g : Heap) (oL : Obj) (R : Result → Shared → Prop) (v : Value) (s' : Shared) : Prop :=
  ∃ L' m' sl news', Fr g L' s'.heap m' ∧ News g L' s'.heap ((L, { oL with slots := sl }) :: news') ∧ (∀ p ∈ news', p.1 ≠ L) ∧ (Fr h₀ L s'.heap m → News h₀ L s'.heap news' → R (.ok (.ret v)) s')

/-- an object that is the names of a frame. -/
structure FrO (oL : Obj) (L : Addr) (m : Str → Option Value) : Prop where
  ns : ∀ sl (h : Heap), h.get? L = some { oL with slots := sl } → h.Ns L m
  dict : ∃ es ep, oL.data = .dict es ep
theorem FrO.nf {oL : Obj} {L : Addr} {m : Str → Option Value} (x : FrO oL L m) : ∀ vs, oL.data ≠ .fields vs := fun vs q => by
  obtain ⟨es, ep, e⟩ := x.dict
  rw [e] at q; cases q

/-- a call of a def of the text: the callee's base is the caller's heap without the ledger and without the caller's frame. -/
theorem code_KF {w : World} {A : Around} {s : Shared} {h₀ : Heap} {L : Addr} {m : Str → Option Value} {news : List (Addr × Obj)} {R : Result → Shared → Prop} {name qual : Str} {params : Arguments} {body : List Stmt} {scope : Scope} {dV kV doc pm cdv ct oc : Value} {an od : Option Addr} {osl : Array (Option Value)} {f : Addr} {args : Args} {binds : List (Str × Value)} {K : Frag}
    {p : Program} {loose : List Str} {mg mb : Str → Option Value}
    (F : Fr h₀ L s.heap m) (N : News h₀ L s.heap news) (X : K.In h₀) (T : TopRead p loose mg mb h₀)
    (ho : K.lookup f = some ⟨oc, od, .func (fnOf name qual params body scope dV kV doc pm an cdv ct), osl⟩) (hcd : codeIn K cdv qual = true) (hroom : A.depth < recursionLimit)
    (hbind : BindsTo s (fnOf name qual params body scope dV kV doc pm an cdv ct) args binds) (hloc : ∀ y ∈ binds, scope.names.lookup y.1 = some .local)
    (h : ∀ g L' h₁ oL, h₀.StaysIn g → g.get? L = none → FrO oL L m → Fr g L' h₁ (fun y => binds.reverse.lookup y) → News g L' h₁ ((L, oL) :: news) → K.In g → TopRead p loose mg mb g → (∀ p ∈ (L, oL) :: news, p.1 < L') → (∀ p ∈ news, p.1 ≠ L) →
      wpAny (model pw w) (A.deeper (envOf qual scope L' f cdv)) (execs body (envOf qual scope L' f cdv))
        (fun fl s' => LeaveF h₀ L m g oL R (match fl with | .ret v => v | _ => .none) s')
        (fun e s' => wpAny (model pw w) (A.deeper (envOf qual scope L' f cdv)) (leaving (envOf qual scope L' f cdv) e) (fun _ s'' => R (.error e) s'') (fun e' s'' => R (.error e') s'') s')
        { s with heap := h₁, toks := s.toks + binds.length })
    (hco : scope.isCoroutine = false := by rfl) (hgen : scope.isGenerator = false := by rfl) (hk : scope.kind = .function := by rfl)
    (hcell : ∀ x ∈ scope.names, x.2 ≠ .cell := by decide) : codeAny (model pw w) A (.call (.ref f) args) R s := by
  have X' := X.keeps F.keep
  refine codeAny_call_def (fd := fnOf name qual params body scope dV kV doc pm an cdv ct) (body := body) (binds := binds) hroom (X' _ _ ho) rfl (T.nolimit.keeps F.keep) (codeRec_of X' hcd) rfl hbind hcell hloc (fun h₁ hns hk₁ => ?_) hco hgen hk
  obtain ⟨oL, es, ep, hL, hLd, hLk, hLf⟩ := F.ns
  have nm : ∀ b o, h₀.get? b = some o → b ∉ L :: news.map (·.1) := fun b o e q => by
    rcases List.mem_cons.mp q with rfl | q
    · exact Nat.lt_irrefl _ (Nat.lt_of_lt_of_le (Heap.lt_size e) F.above)
    · obtain ⟨p, hp, rfl⟩ := List.mem_map.mp q
      rw [(N p hp).2.2] at e; cases e
  have st : h₀.StaysIn (hideAll s.heap (L :: news.map (·.1))) := fun b o e => hideAll_get _ (F.keep b o e) (nm b o e)
  have hne : ∀ p ∈ news, p.1 ≠ L := fun p hp => (N p hp).2.1
  have lt : ∀ p ∈ (L, oL) :: news, p.1 < s.heap.objs.size := fun p hp => by
    rcases List.mem_cons.mp hp with rfl | hp
    · exact Heap.lt_size hL
    · exact Heap.lt_size (N p hp).1
  refine wpAny_mono (h _ s.heap.objs.size h₁ oL st (hideAll_none _ List.mem_cons_self) ⟨fun sl h e => ⟨_, es, ep, e, hLd, hLk, hLf⟩, es, ep, hLd⟩ ⟨hns, fun b o e => hk₁ b o (of_hideAll _ e), Nat.le_of_eq (hideAll_size _ _)⟩
    (fun p hp => ?_) (X.keeps st) (T.keeps st) lt hne) (fun fl s' hl => ?_) fun _ _ y => y
  · rcases List.mem_cons.mp hp with rfl | hp
    · exact ⟨hk₁ _ _ hL, Nat.ne_of_lt (Heap.lt_size hL), hideAll_none _ List.mem_cons_self⟩
    · exact ⟨hk₁ _ _ (N p hp).1, Nat.ne_of_lt (Heap.lt_size (N p hp).1), hideAll_none _ (List.mem_cons_of_mem _ (List.mem_map_of_mem hp))⟩
  · obtain ⟨L', m', sl, news', F', N', hn', k⟩ := hl
    refine k ⟨⟨_, es, ep, (N' _ List.mem_cons_self).1, hLd, hLk, hLf⟩, fun b o e => F'.keep b o (st b o e), F.above⟩ fun p hp => ⟨(N' p (List.mem_cons_of_mem _ hp)).1, hn' p hp, ?_⟩
    cases q : h₀.get? p.1 with
    | none => rfl
    | some o => have := (N' p (List.mem_cons_of_mem _ hp)).2.2; rw [st _ _ q] at this; cases this

/-- frames that lie in a heap, apart from some places. -/
def FrsAt (h : Heap) (ex : List Addr) (l : List Env) : Prop := ∀ env ∈ l, env.scope.kind ≠ .module ∧ ∃ L o, env.frame = some L ∧ L ∉ ex ∧ h.get? L = some o ∧ ∀ vs, o.data ≠ .fields vs
theorem FrsAt.funFrames {h base : Heap} {ex : List Addr} : ∀ {l : List Env}, FrsAt h ex l → (∀ b ∈ l.filterMap (·.frame), base.get? b = none) → h.FunFrames base l
  | [], _, _ => trivial
  | env :: l, x, hb => by
    obtain ⟨hk, L, o, hf, _, ho, hd⟩ := x env List.mem_cons_self
    exact ⟨hk, ⟨L, o, hf, hb L (List.mem_filterMap.mpr ⟨env, List.mem_cons_self, hf⟩), ho, hd⟩, FrsAt.funFrames (fun e he => x e (List.mem_cons_of_mem _ he)) fun b hm => hb b (by
      obtain ⟨e, he, q⟩ := List.mem_filterMap.mp hm
      exact List.mem_filterMap.mpr ⟨e, List.mem_cons_of_mem _ he, q⟩)⟩
theorem FrsAt.moved {h h' : Heap} {ex : List Addr} {l : List Env} (x : FrsAt h ex l) (hk : ∀ b o, b ∉ ex → h.get? b = some o → h'.get? b = some o) : FrsAt h' ex l := fun env he =>
  let ⟨k, L, o, hf, hn, ho, hd⟩ := x env he
  ⟨k, L, o, hf, hn, hk L o hn ho, hd⟩
end Mine
namespace Mine
open PySem PySem.W PySem.Calls PyProof.Rows

/-- as code_KF, for a def some of whose names are cells. -/
theorem code_KFC {w : World} {A : Around} {s : Shared} {h₀ : Heap} {L : Addr} {m : Str → Option Value} {news : List (Addr × Obj)} {R : Result → Shared → Prop} {name qual : Str} {params : Arguments} {body : List Stmt} {scope : Scope} {dV kV doc pm cdv ct oc : Value} {an od : Option Addr} {osl : Array (Option Value)} {f : Addr} {args : Args} {binds : List (Str × Value)} {K : Frag}
    {p : Program} {loose : List Str} {mg mb : Str → Option Value}
    (F : Fr h₀ L s.heap m) (N : News h₀ L s.heap news) (X : K.In h₀) (T : TopRead p loose mg mb h₀)
    (ho : K.lookup f = some ⟨oc, od, .func (fnOf name qual params body scope dV kV doc pm an cdv ct), osl⟩) (hcd : codeIn K cdv qual = true) (hroom : A.depth < recursionLimit)
    (hbind : BindsTo s (fnOf name qual params body scope dV kV doc pm an cdv ct) args binds) (hkind : (binds.all fun y => scope.names.lookup y.1 == some .local || scope.names.lookup y.1 == some .cell) = true)
    (hnd : ((cellsFrom 0 scope.names []).map (·.1)).Nodup)
    (h : ∀ g L' h₁ tk oL cells, h₀.StaysIn g → g.get? L = none → FrO oL L m → Fr g L' h₁ (bindL (envOfC qual scope L' f cdv).kindOf binds fun _ => none) → News g L' h₁ (cells ++ (L, oL) :: news) →
      CellsAre (bindC (envOfC qual scope L' f cdv).kindOf binds fun _ => none) (cellsFrom (L' + 1) scope.names []) cells → K.In g → TopRead p loose mg mb g → (∀ p ∈ (L, oL) :: news, p.1 < L') → (∀ p ∈ news, p.1 ≠ L) →
      wpAny (model pw w) (A.deeper (envOfC qual scope L' f cdv)) (execs body (envOfC qual scope L' f cdv))
        (fun fl s' => LeaveF h₀ L m g oL R (match fl with | .ret v => v | _ => .none) s')
        (fun e s' => wpAny (model pw w) (A.deeper (envOfC qual scope L' f cdv)) (leaving (envOfC qual scope L' f cdv) e) (fun _ s'' => R (.error e) s'') (fun e' s'' => R (.error e') s'') s')
        { s with heap := h₁, toks := tk })
    (hco : scope.isCoroutine = false := by rfl) (hgen : scope.isGenerator = false := by rfl) (hk : scope.kind = .function := by rfl) : codeAny (model pw w) A (.call (.ref f) args) R s := by
  have X' := X.keeps F.keep
  obtain ⟨oL, es, ep, hL, hLd, hLk, hLf⟩ := F.ns
  refine codeAny_call_function hroom (X' _ _ ho) rfl hco hgen rfl (codeRec_of X' hcd) (hbind _ _ _ _ ?_)
  refine wpAny_newFunctionEnv_cells hk (kindsX hkind _) fun env' he s' x => ?_
  subst he
  refine ⟨(T.nolimit.keeps F.keep).keeps x.toInCall.keep, codeAny_func ?_⟩
  obtain ⟨h₁, tk, rfl, _⟩ := x.done
  have hk₁ := x.toInCall.keep
  obtain ⟨cells, NC, Y⟩ := Cl.news (h₀ := s.heap) (Nat.le_refl _) fun n c hm => ⟨x.cell n c (lookup_of_mem_nodup (cellsFrom_names scope.names 0 (s.heap.objs.size + 1) [] [] rfl ▸ hnd) hm), x.above n c hm⟩
  have nm : ∀ b o, h₀.get? b = some o → b ∉ L :: news.map (·.1) := fun b o e q => by
    rcases List.mem_cons.mp q with rfl | q
    · exact Nat.lt_irrefl _ (Nat.lt_of_lt_of_le (Heap.lt_size e) F.above)
    · obtain ⟨p, hp, rfl⟩ := List.mem_map.mp q
      rw [(N p hp).2.2] at e; cases e
  have st : h₀.StaysIn (hideAll s.heap (L :: news.map (·.1))) := fun b o e => hideAll_get _ (F.keep b o e) (nm b o e)
  have hne : ∀ p ∈ news, p.1 ≠ L := fun p hp => (N p hp).2.1
  have lt : ∀ p ∈ (L, oL) :: news, p.1 < s.heap.objs.size := fun p hp => by
    rcases List.mem_cons.mp hp with rfl | hp
    · exact Heap.lt_size hL
    · exact Heap.lt_size (N p hp).1
  refine wpAny_mono (h _ s.heap.objs.size h₁ tk oL cells st (hideAll_none _ List.mem_cons_self) ⟨fun sl h e => ⟨_, es, ep, e, hLd, hLk, hLf⟩, es, ep, hLd⟩ ⟨x.toInCall.ns, fun b o e => hk₁ b o (of_hideAll _ e), Nat.le_of_eq (hideAll_size _ _)⟩
    (fun p hp => ?_) Y (X.keeps st) (T.keeps st) lt hne) (fun fl s' hl => ?_) fun _ _ y => y
  · rcases List.mem_append.mp hp with hp | hp
    · refine ⟨(NC p hp).1, (NC p hp).2.1, ?_⟩
      cases q : (hideAll s.heap (L :: news.map (·.1))).get? p.1 with
      | none => rfl
      | some o => have := of_hideAll _ q; rw [(NC p hp).2.2] at this; cases this
    rcases List.mem_cons.mp hp with rfl | hp
    · exact ⟨hk₁ _ _ hL, Nat.ne_of_lt (Heap.lt_size hL), hideAll_none _ List.mem_cons_self⟩
    · exact ⟨hk₁ _ _ (N p hp).1, Nat.ne_of_lt (Heap.lt_size (N p hp).1), hideAll_none _ (List.mem_cons_of_mem _ (List.mem_map_of_mem hp))⟩
  · obtain ⟨L', m', sl, news', F', N', hn', k⟩ := hl
    refine k ⟨⟨_, es, ep, (N' _ List.mem_cons_self).1, hLd, hLk, hLf⟩, fun b o e => F'.keep b o (st b o e), F.above⟩ fun p hp => ⟨(N' p (List.mem_cons_of_mem _ hp)).1, hn' p hp, ?_⟩
    cases q : h₀.get? p.1 with
    | none => rfl
    | some o => have := (N' p (List.mem_cons_of_mem _ hp)).2.2; rw [st _ _ q] at this; cases this
end Mine
namespace Mine
open PySem PySem.W PySem.Calls PyProof.Rows

/-- an exception under way: what stays, the frames that are about, the mark on its newest entry. -/
structure Fly (base : Heap) (l : List Env) (e : Addr) (X : String) (fl : Value) (h : Heap) : Prop where
  stays : base.StaysIn h
  fresh : base.get? e = none
  frames : h.FunFrames base l
  tr : ∃ a0, h.TracedAtW base e (.type X) a0 fl

theorem fresh_of {base h : Heap} (hb : base.StaysIn h) {e : Addr} (hn : h.get? e = none) : base.get? e = none := by
  cases hq : base.get? e with
  | none => rfl
  | some o => have := hb e o hq; rw [hn] at this; cases this

section
variable {M : Model} {A : Around} {E : Value → Shared → Prop} {s : Shared} {base h : Heap} {env : Env} {l outer : List Env} {L e : Addr} {X : String} {fl : Value} {Q : Unit → Shared → Prop}

theorem Fly.typeIs (x : Fly base l e X fl s.heap) : s.TypeIs (.ref e) X := by
  obtain ⟨a0, t⟩ := x.tr
  obtain ⟨ob, h1, h2⟩ := t.there
  exact ⟨ob, h1, h2⟩

theorem fly_first (hfr : A.frames = some (env :: outer)) (hf : env.frame = some L) (hx : Heap.NewExc h s.heap e X) (hb : base.StaysIn h) (hl : h.FunFrames base (env :: outer))
    (hQ : ∀ h', Fly base (env :: outer) e X (rawInt L) h' → s.heap.UpToSlots h' → Q () { s with heap := h' }) : wpAny M A (noteFrame (.ref e) env) Q E s := by
  obtain ⟨ob, tp, he, hcls, hd⟩ := hx.there
  have hen : base.get? e = none := fresh_of hb hx.new
  unfold noteFrame
  simp only [hf]
  refine wpAny_bind (wpAny_field he hd (x := .none) rfl ?_)
  rw [if_neg (by decide)]
  refine wpAny_entryW (a0 := tp) hfr (hl.of_keeps fun b o hb _ => ⟨o, hx.keeps b o hb, rfl⟩) hf he (fun b o e => hx.keeps b o (hb b o e)) hen hd (by show 1 < 6; decide) rfl fun h' hN => ?_
  obtain ⟨k1, k2, k3, k4⟩ := hN
  exact hQ h' ⟨k1, hen, k2, tp, hcls ▸ k3⟩ k4

theorem fly_set {fr : Option Addr} (x : Fly base l e X fl s.heap)
    (hQ : ∀ h', Fly base l e X (fr.elim .none fun f => rawInt f) h' → s.heap.UpToSlots h' → Q () { s with heap := h' }) : wpAny M A (setFlight (.ref e) fr) Q E s := by
  obtain ⟨hkb, hen, hl, a0, oe, vs, T, oT, ts, he, hcls, hd, h1, hnT, hTe, hT, hdT, h3⟩ := x
  have hsz3 : 3 < ts.size := (Array.getElem?_eq_some_iff.mp h3).1
  have other : ∀ b, b ≠ T → (s.heap.update T (Obj.mapFields (·.setIfInBounds 3 (fr.elim Value.none fun f => rawInt f)))).get? b = s.heap.get? b :=
    fun b hb => Heap.get?_update_other _ _ (Ne.symm hb)
  have noRecord : ∀ b o, s.heap.get? b = some o → (∀ vs, o.data ≠ .fields vs) → b ≠ T := fun b o hb hnf q => by
    rw [q, hT] at hb; injection hb with hb; subst hb; exact hnf ts hdT
  unfold setFlight
  refine wpAny_bind (wpAny_field he hd h1 ?_)
  rw [if_pos (show (Value.ref T != Value.none) = true from by simp)]
  refine wpAny_setField hT hdT hsz3 (hQ _ ⟨fun b o hbo => (other b fun q => by rw [q, hnT] at hbo; cases hbo).trans (hkb b o hbo), hen,
    hl.of_keeps fun b o hb hnf => ⟨o, (other b (noRecord b o hb hnf)).trans hb, rfl⟩, a0, ?_⟩ fun b o hb hnf => ⟨o.slots, (other b (noRecord b o hb hnf)).trans hb⟩)
  exact ⟨oe, vs, T, _, _, (other e (Ne.symm hTe)).trans he, hcls, hd, h1, hnT, hTe, Heap.get?_update_self _ hT (Obj.isFreed_of_fields (Obj.data_mapFields hdT _)), Obj.data_mapFields hdT _, by simp [hsz3]⟩

theorem fly_back (hf : env.frame = some L) (x : Fly base l e X fl s.heap)
    (hQ : ∀ h', Fly base l e X (rawInt L) h' → s.heap.UpToSlots h' → Q () { s with heap := h' }) :
    wpAny M A (do
      if (← field (.ref e) 1) == Value.none then unsupported "frame.own-activation:exception-without-traceback"
      setFlight (.ref e) env.frame) Q E s := by
  obtain ⟨a0, oe, vs, T, oT, ts, he, hcls, hd, h1, r⟩ := x.tr
  refine wpAny_bind (wpAny_field he hd h1 ?_)
  rw [if_neg (show ¬ ((Value.ref T == Value.none) = true) from Bool.false_ne_true)]
  refine fly_set x fun h' y k => hQ h' ?_ k
  rw [hf] at y
  exact y

theorem fly_again (hf : env.frame = some L) (x : Fly base l e X (rawInt L) s.heap) (h : Q () s) : wpAny M A (noteFrame (.ref e) env) Q E s := by
  obtain ⟨a0, t⟩ := x.tr
  exact wpAny_noteFrame_againW hf t h

theorem fly_leave (hf : env.frame = some L) (x : Fly base (env :: outer) e X (rawInt L) s.heap)
    (hQ : ∀ h', Fly base outer e X .none h' → s.heap.UpToSlots h' → Q () { s with heap := h' }) : wpAny M A (leaving env (.ref e)) Q E s := by
  unfold leaving
  refine wpAny_bind (fly_again hf x (fly_set (fr := none) x fun h' y k => hQ h' ⟨y.stays, y.fresh, y.frames.2.2, y.tr⟩ k))

theorem fly_on (hfr : A.frames = some (env :: outer)) (hf : env.frame = some L) (x : Fly base (env :: outer) e X .none s.heap)
    (hQ : ∀ h', Fly base (env :: outer) e X (rawInt L) h' → s.heap.UpToSlots h' → Q () { s with heap := h' }) : wpAny M A (noteFrame (.ref e) env) Q E s := by
  obtain ⟨hkb, hen, hl, a0, t⟩ := x
  refine wpAny_noteFrame_onW hfr hl hf t hkb hen fun h' hN => ?_
  obtain ⟨k1, k2, k3, k4⟩ := hN
  exact hQ h' ⟨k1, hen, k2, a0, k3⟩ k4
end

end Mine
namespace Mine
open PySem PySem.W PySem.Calls PyProof.Rows

def bisL (ns : List Int) (x : Int) : Nat → Int → Int → Int
  | 0, lo, _ => lo
  | n + 1, lo, hi => if lo < hi then (if ns.getD ((lo + hi).fdiv 2).toNat 0 < x then bisL ns x n ((lo + hi).fdiv 2 + 1) hi else bisL ns x n lo ((lo + hi).fdiv 2)) else lo
def bisR (ns : List Int) (x : Int) : Nat → Int → Int → Int
  | 0, lo, _ => lo
  | n + 1, lo, hi => if lo < hi then (if x < ns.getD ((lo + hi).fdiv 2).toNat 0 then bisR ns x n lo ((lo + hi).fdiv 2) else bisR ns x n ((lo + hi).fdiv 2 + 1) hi) else lo

structure BisS where
  n : Nat
  lo : Int
  tl : Tok
  hi : Int
  th : Tok

theorem mid_bnd {lo hi : Int} (h : lo < hi) : lo ≤ (lo + hi).fdiv 2 ∧ (lo + hi).fdiv 2 < hi := by
  rw [Int.fdiv_eq_ediv_of_nonneg _ (by decide)]; omega
theorem bisL_end {ns : List Int} {x : Int} {n : Nat} {lo hi : Int} (h : ¬ lo < hi) : bisL ns x n lo hi = lo := by
  cases n <;> simp [bisL, h]
theorem bisL_up {ns : List Int} {x : Int} {n : Nat} {lo hi z : Int} (hlt : lo < hi) (hn : hi - lo ≤ n) (h : bisL ns x n lo hi = z) (hx : ns.getD ((lo + hi).fdiv 2).toNat 0 < x) :
    hi - ((lo + hi).fdiv 2 + 1) ≤ (n - 1 : Nat) ∧ bisL ns x (n - 1) ((lo + hi).fdiv 2 + 1) hi = z ∧ n - 1 < n := by
  have := mid_bnd hlt
  cases n with
  | zero => omega
  | succ n => simp only [bisL, if_pos hlt, if_pos hx] at h; simp only [Nat.add_sub_cancel]; exact ⟨by omega, h, by omega⟩
theorem bisL_dn {ns : List Int} {x : Int} {n : Nat} {lo hi z : Int} (hlt : lo < hi) (hn : hi - lo ≤ n) (h : bisL ns x n lo hi = z) (hx : ¬ ns.getD ((lo + hi).fdiv 2).toNat 0 < x) :
    (lo + hi).fdiv 2 - lo ≤ (n - 1 : Nat) ∧ bisL ns x (n - 1) lo ((lo + hi).fdiv 2) = z ∧ n - 1 < n := by
  have := mid_bnd hlt
  cases n with
  | zero => omega
  | succ n => simp only [bisL, if_pos hlt, if_neg hx] at h; simp only [Nat.add_sub_cancel]; exact ⟨by omega, h, by omega⟩
theorem bisL_bnd {ns : List Int} {x : Int} : ∀ {n : Nat} {lo hi : Int}, lo ≤ hi → lo ≤ bisL ns x n lo hi ∧ bisL ns x n lo hi ≤ hi
  | 0, lo, hi, h => ⟨Int.le_refl _, h⟩
  | n + 1, lo, hi, h => by
    unfold bisL
    split
    · rename_i hlt
      have := mid_bnd hlt
      split
      · have := @bisL_bnd ns x n ((lo + hi).fdiv 2 + 1) hi (by omega); omega
      · have := @bisL_bnd ns x n lo ((lo + hi).fdiv 2) (by omega); omega
    · exact ⟨Int.le_refl _, h⟩
theorem bisR_end {ns : List Int} {x : Int} {n : Nat} {lo hi : Int} (h : ¬ lo < hi) : bisR ns x n lo hi = lo := by
  cases n <;> simp [bisR, h]
theorem bisR_up {ns : List Int} {x : Int} {n : Nat} {lo hi z : Int} (hlt : lo < hi) (hn : hi - lo ≤ n) (h : bisR ns x n lo hi = z) (hx : ¬ x < ns.getD ((lo + hi).fdiv 2).toNat 0) :
    hi - ((lo + hi).fdiv 2 + 1) ≤ (n - 1 : Nat) ∧ bisR ns x (n - 1) ((lo + hi).fdiv 2 + 1) hi = z ∧ n - 1 < n := by
  have := mid_bnd hlt
  cases n with
  | zero => omega
  | succ n => simp only [bisR, if_pos hlt, if_neg hx] at h; simp only [Nat.add_sub_cancel]; exact ⟨by omega, h, by omega⟩
theorem bisR_dn {ns : List Int} {x : Int} {n : Nat} {lo hi z : Int} (hlt : lo < hi) (hn : hi - lo ≤ n) (h : bisR ns x n lo hi = z) (hx : x < ns.getD ((lo + hi).fdiv 2).toNat 0) :
    (lo + hi).fdiv 2 - lo ≤ (n - 1 : Nat) ∧ bisR ns x (n - 1) lo ((lo + hi).fdiv 2) = z ∧ n - 1 < n := by
  have := mid_bnd hlt
  cases n with
  | zero => omega
  | succ n => simp only [bisR, if_pos hlt, if_pos hx] at h; simp only [Nat.add_sub_cancel]; exact ⟨by omega, h, by omega⟩
theorem bisR_bnd {ns : List Int} {x : Int} : ∀ {n : Nat} {lo hi : Int}, lo ≤ hi → lo ≤ bisR ns x n lo hi ∧ bisR ns x n lo hi ≤ hi
  | 0, lo, hi, h => ⟨Int.le_refl _, h⟩
  | n + 1, lo, hi, h => by
    unfold bisR
    split
    · rename_i hlt
      have := mid_bnd hlt
      split
      · have := @bisR_bnd ns x n lo ((lo + hi).fdiv 2) (by omega); omega
      · have := @bisR_bnd ns x n ((lo + hi).fdiv 2 + 1) hi (by omega); omega
    · exact ⟨Int.le_refl _, h⟩
theorem bl_K {w : World} {dp un : Nat} {fr : Option (List Env)} {gd : Option (List Code)} {s : Shared} {h₀ : Heap} {L : Addr} {m : Str → Option Value} {news : List (Addr × Obj)} {p : Program} {loose : List Str} {mg mb : Str → Option Value}
    {row : Addr} {vs : List Value} {ep : Nat} {ns : List Int} {x lo : Int} {t tl : Tok} {args : List Value} {Q E : Value → Shared → Prop}
    (F : Fr h₀ L s.heap m) (N : News h₀ L s.heap news) (X : (hed.heap_39 w.params).In h₀) (T : TopRead p loose mg mb h₀)
    (hrow : (row, listOf vs.toArray ep) ∈ news) (hi : IntsAre vs ns) (hlen : ns.length < 2 ^ 20) (hdp : dp < 900) (h0 : 0 ≤ lo) (h1 : lo ≤ ns.length)
    (hargs : (args = [.ref row, .int x t] ∧ lo = 0 ∧ tl = 433) ∨ args = [.ref row, .int x t, .int lo tl] ∨ args = [.ref row, .int x t, .int lo tl, .none])
    (h : ∀ t' h' tk', Fr h₀ L h' m → News h₀ L h' news → Q (.int (bisL ns x ns.length lo ns.length) t') { s with heap := h', toks := tk' }) :
    wpAny (model pw w) (AR dp un fr gd) (call (.ref 209) args) Q E s := by
  refine wpAny_call ?_
  refine' code_KR (ro := [(row, listOf vs.toArray ep)]) (binds := [("a", .ref row), ("x", .int x t), ("lo", .int lo tl), ("hi", .none), ("key", .none)]) F N (by simpa using hrow) X T ?k6 ?k7 ?k8 ?k9 ?kB ?_ ?c1 ?c2 ?c3 ?c4
  case k6 => k_is
  case k7 => k_is
  case k8 => exact Nat.lt_trans hdp (by decide)
  case k9 => rcases hargs with ⟨rfl, rfl, rfl⟩ | rfl | rfl <;> exact kp_binds (X.keeps F.keep) (fun _ => rfl)
  case kB => exact locs rfl
  case c1 => exact rfl
  case c2 => exact rfl
  case c3 => exact rfl
  case c4 => decide
  intro g L' h₁ hg F N X T
  dsimp only
  k_fold
  have hl := isList_of (hg _ (List.mem_cons_self))
  dsimp only at hl
  clear hg
  k_with_none
  k_with "same" =>
    intro z h2 h3
    simp only [List.forall_mem_cons, List.not_mem_nil, false_implies, implies_true, and_true, ne_eq] at h2
    simp only [List.contains_cons, List.contains_nil, Bool.or_false, beq_eq_false_iff_ne, ne_eq] at h3
    simp [kstB, h2, h3]
  k_with "steps" => repeat' (fail_if_success (with_reducible show wpAny _ _ (exec (PySem.Stmt.While _ _ _ _) _) _ _ _)); (first | (k_unfold; (try dsimp only)) | (k_end; kc_close) | walk1 | (dsimp only; walk1) | (leave1; (try dsimp only)) | fail "no step")
  k_extra "steps"
  rename Fr _ _ _ _ => lF
  rename News _ _ _ _ => lN
  refine ksw_while (σ := BisS) (fun _ => []) (fun c => [("lo", .int c.lo c.tl), ("hi", .int c.hi c.th)]) (fun _ => True) ["mid"]
      (fun c => 0 ≤ c.lo ∧ c.lo ≤ c.hi ∧ c.hi ≤ ns.length ∧ c.hi - c.lo ≤ c.n ∧ bisL ns x c.n c.lo c.hi = bisL ns x ns.length lo ns.length) (fun c => c.n) ⟨ns.length, lo, tl, ns.length, _⟩ lF lN trivial (List.forall_mem_cons.mpr ⟨rfl, List.forall_mem_cons.mpr ⟨rfl, fun _ h => nomatch h⟩⟩) ?kp ?kt
  case kp => exact ⟨h0, h1, by dsimp only; omega, by dsimp only; omega, rfl⟩
  case kt =>
    rintro ⟨n, lo', tl', hi', th'⟩ u h₂ tk₂ - ⟨i1, i2, i3, i4, i5⟩ F N
    dsimp only at i1 i2 i3 i4 i5 F N ⊢
    k_steps
    · rename Fr _ _ _ _ => lF
      rename News _ _ _ _ => lN
      refine ksw_end ⟨n - 1, (lo' + hi').fdiv 2 + 1, _, hi', _⟩ lF lN (fun _ h => nomatch h) trivial (List.forall_mem_cons.mpr ⟨rfl, List.forall_mem_cons.mpr ⟨rfl, fun _ h => nomatch h⟩⟩) ?hr ?hp ?hm
      case hr => k_extra "same"
      case hp => have := mid_bnd (by assumption : lo' < hi'); have hb := bisL_up (by assumption) i4 i5 (by assumption); exact ⟨by dsimp only; omega, by dsimp only; omega, by dsimp only; omega, hb.1, hb.2.1⟩
      case hm => exact (bisL_up (by assumption) i4 i5 (by assumption)).2.2
    · rename Fr _ _ _ _ => lF
      rename News _ _ _ _ => lN
      refine ksw_end ⟨n - 1, lo', _, (lo' + hi').fdiv 2, _⟩ lF lN (fun _ h => nomatch h) trivial (List.forall_mem_cons.mpr ⟨rfl, List.forall_mem_cons.mpr ⟨rfl, fun _ h => nomatch h⟩⟩) ?hr ?hp ?hm
      case hr => k_extra "same"
      case hp => have := mid_bnd (by assumption : lo' < hi'); have hb := bisL_dn (by assumption) i4 i5 (by assumption); exact ⟨by dsimp only; omega, by dsimp only; omega, by dsimp only; omega, hb.1, hb.2.1⟩
      case hm => exact (bisL_dn (by assumption) i4 i5 (by assumption)).2.2
    · rw [← i5, bisL_end (by assumption)] at h
      exact h _ _ _ (by assumption) (by assumption)

theorem bl_Kh {w : World} {dp un : Nat} {fr : Option (List Env)} {gd : Option (List Code)} {s : Shared} {h₀ : Heap} {L : Addr} {m : Str → Option Value} {news : List (Addr × Obj)} {p : Program} {loose : List Str} {mg mb : Str → Option Value}
    {row : Addr} {vs : List Value} {ep : Nat} {ns : List Int} {x lo hiv : Int} {t tl thi : Tok} {args : List Value} {Q E : Value → Shared → Prop}
    (F : Fr h₀ L s.heap m) (N : News h₀ L s.heap news) (X : (hed.heap_39 w.params).In h₀) (T : TopRead p loose mg mb h₀)
    (hrow : (row, listOf vs.toArray ep) ∈ news) (hi : IntsAre vs ns) (hlen : ns.length < 2 ^ 20) (hdp : dp < 900) (h0 : 0 ≤ lo) (h1 : lo ≤ hiv) (h2 : hiv ≤ ns.length)
    (hargs : args = [.ref row, .int x t, .int lo tl, .int hiv thi])
    (h : ∀ t' h' tk', Fr h₀ L h' m → News h₀ L h' news → Q (.int (bisL ns x ns.length lo hiv) t') { s with heap := h', toks := tk' }) :
    wpAny (model pw w) (AR dp un fr gd) (call (.ref 209) args) Q E s := by
  refine wpAny_call ?_
  refine' code_KR (ro := [(row, listOf vs.toArray ep)]) (binds := [("a", .ref row), ("x", .int x t), ("lo", .int lo tl), ("hi", .int hiv thi), ("key", .none)]) F N (by simpa using hrow) X T ?k6 ?k7 ?k8 ?k9 ?kB ?_ ?c1 ?c2 ?c3 ?c4
  case k6 => k_is
  case k7 => k_is
  case k8 => exact Nat.lt_trans hdp (by decide)
  case k9 => subst hargs; exact kp_binds (X.keeps F.keep) (fun _ => rfl)
  case kB => exact locs rfl
  case c1 => exact rfl
  case c2 => exact rfl
  case c3 => exact rfl
  case c4 => decide
  intro g L' h₁ hg F N X T
  dsimp only
  k_fold
  have hl := isList_of (hg _ (List.mem_cons_self))
  dsimp only at hl
  clear hg
  k_with_none
  k_with "same" =>
    intro z h2 h3
    simp only [List.forall_mem_cons, List.not_mem_nil, false_implies, implies_true, and_true, ne_eq] at h2
    simp only [List.contains_cons, List.contains_nil, Bool.or_false, beq_eq_false_iff_ne, ne_eq] at h3
    simp [kstB, h2, h3]
  k_with "steps" => repeat' (fail_if_success (with_reducible show wpAny _ _ (exec (PySem.Stmt.While _ _ _ _) _) _ _ _)); (first | (k_unfold; (try dsimp only)) | (k_end; kc_close) | walk1 | (dsimp only; walk1) | (leave1; (try dsimp only)) | fail "no step")
  k_extra "steps"
  rename Fr _ _ _ _ => lF
  rename News _ _ _ _ => lN
  refine ksw_while (σ := BisS) (fun _ => []) (fun c => [("lo", .int c.lo c.tl), ("hi", .int c.hi c.th)]) (fun _ => True) ["mid"]
      (fun c => 0 ≤ c.lo ∧ c.lo ≤ c.hi ∧ c.hi ≤ ns.length ∧ c.hi - c.lo ≤ c.n ∧ bisL ns x c.n c.lo c.hi = bisL ns x ns.length lo hiv) (fun c => c.n) ⟨ns.length, lo, tl, hiv, _⟩ lF lN trivial (List.forall_mem_cons.mpr ⟨rfl, List.forall_mem_cons.mpr ⟨rfl, fun _ h => nomatch h⟩⟩) ?kp ?kt
  case kp => exact ⟨h0, h1, by dsimp only; omega, by dsimp only; omega, rfl⟩
  case kt =>
    rintro ⟨n, lo', tl', hi', th'⟩ u h₂ tk₂ - ⟨i1, i2, i3, i4, i5⟩ F N
    dsimp only at i1 i2 i3 i4 i5 F N ⊢
    k_steps
    · rename Fr _ _ _ _ => lF
      rename News _ _ _ _ => lN
      refine ksw_end ⟨n - 1, (lo' + hi').fdiv 2 + 1, _, hi', _⟩ lF lN (fun _ h => nomatch h) trivial (List.forall_mem_cons.mpr ⟨rfl, List.forall_mem_cons.mpr ⟨rfl, fun _ h => nomatch h⟩⟩) ?hr ?hp ?hm
      case hr => k_extra "same"
      case hp => have := mid_bnd (by assumption : lo' < hi'); have hb := bisL_up (by assumption) i4 i5 (by assumption); exact ⟨by dsimp only; omega, by dsimp only; omega, by dsimp only; omega, hb.1, hb.2.1⟩
      case hm => exact (bisL_up (by assumption) i4 i5 (by assumption)).2.2
    · rename Fr _ _ _ _ => lF
      rename News _ _ _ _ => lN
      refine ksw_end ⟨n - 1, lo', _, (lo' + hi').fdiv 2, _⟩ lF lN (fun _ h => nomatch h) trivial (List.forall_mem_cons.mpr ⟨rfl, List.forall_mem_cons.mpr ⟨rfl, fun _ h => nomatch h⟩⟩) ?hr ?hp ?hm
      case hr => k_extra "same"
      case hp => have := mid_bnd (by assumption : lo' < hi'); have hb := bisL_dn (by assumption) i4 i5 (by assumption); exact ⟨by dsimp only; omega, by dsimp only; omega, by dsimp only; omega, hb.1, hb.2.1⟩
      case hm => exact (bisL_dn (by assumption) i4 i5 (by assumption)).2.2
    · rw [← i5, bisL_end (by assumption)] at h
      exact h _ _ _ (by assumption) (by assumption)

theorem br_K {w : World} {dp un : Nat} {fr : Option (List Env)} {gd : Option (List Code)} {s : Shared} {h₀ : Heap} {L : Addr} {m : Str → Option Value} {news : List (Addr × Obj)} {p : Program} {loose : List Str} {mg mb : Str → Option Value}
    {row : Addr} {vs : List Value} {ep : Nat} {ns : List Int} {x lo : Int} {t tl : Tok} {args : List Value} {Q E : Value → Shared → Prop}
    (F : Fr h₀ L s.heap m) (N : News h₀ L s.heap news) (X : (hed.heap_39 w.params).In h₀) (T : TopRead p loose mg mb h₀)
    (hrow : (row, listOf vs.toArray ep) ∈ news) (hi : IntsAre vs ns) (hlen : ns.length < 2 ^ 20) (hdp : dp < 900) (h0 : 0 ≤ lo) (h1 : lo ≤ ns.length)
    (hargs : (args = [.ref row, .int x t] ∧ lo = 0 ∧ tl = 419) ∨ args = [.ref row, .int x t, .int lo tl] ∨ args = [.ref row, .int x t, .int lo tl, .none])
    (h : ∀ t' h' tk', Fr h₀ L h' m → News h₀ L h' news → Q (.int (bisR ns x ns.length lo ns.length) t') { s with heap := h', toks := tk' }) :
    wpAny (model pw w) (AR dp un fr gd) (call (.ref 200) args) Q E s := by
  refine wpAny_call ?_
  refine' code_KR (ro := [(row, listOf vs.toArray ep)]) (binds := [("a", .ref row), ("x", .int x t), ("lo", .int lo tl), ("hi", .none), ("key", .none)]) F N (by simpa using hrow) X T ?k6 ?k7 ?k8 ?k9 ?kB ?_ ?c1 ?c2 ?c3 ?c4
  case k6 => k_is
  case k7 => k_is
  case k8 => exact Nat.lt_trans hdp (by decide)
  case k9 => rcases hargs with ⟨rfl, rfl, rfl⟩ | rfl | rfl <;> exact kp_binds (X.keeps F.keep) (fun _ => rfl)
  case kB => exact locs rfl
  case c1 => exact rfl
  case c2 => exact rfl
  case c3 => exact rfl
  case c4 => decide
  intro g L' h₁ hg F N X T
  dsimp only
  k_fold
  have hl := isList_of (hg _ (List.mem_cons_self))
  dsimp only at hl
  clear hg
  k_with_none
  k_with "same" =>
    intro z h2 h3
    simp only [List.forall_mem_cons, List.not_mem_nil, false_implies, implies_true, and_true, ne_eq] at h2
    simp only [List.contains_cons, List.contains_nil, Bool.or_false, beq_eq_false_iff_ne, ne_eq] at h3
    simp [kstB, h2, h3]
  k_with "steps" => repeat' (fail_if_success (with_reducible show wpAny _ _ (exec (PySem.Stmt.While _ _ _ _) _) _ _ _)); (first | (k_unfold; (try dsimp only)) | (k_end; kc_close) | walk1 | (dsimp only; walk1) | (leave1; (try dsimp only)) | fail "no step")
  k_extra "steps"
  rename Fr _ _ _ _ => lF
  rename News _ _ _ _ => lN
  refine ksw_while (σ := BisS) (fun _ => []) (fun c => [("lo", .int c.lo c.tl), ("hi", .int c.hi c.th)]) (fun _ => True) ["mid"]
      (fun c => 0 ≤ c.lo ∧ c.lo ≤ c.hi ∧ c.hi ≤ ns.length ∧ c.hi - c.lo ≤ c.n ∧ bisR ns x c.n c.lo c.hi = bisR ns x ns.length lo ns.length) (fun c => c.n) ⟨ns.length, lo, tl, ns.length, _⟩ lF lN trivial (List.forall_mem_cons.mpr ⟨rfl, List.forall_mem_cons.mpr ⟨rfl, fun _ h => nomatch h⟩⟩) ?kp ?kt
  case kp => exact ⟨h0, h1, by dsimp only; omega, by dsimp only; omega, rfl⟩
  case kt =>
    rintro ⟨n, lo', tl', hi', th'⟩ u h₂ tk₂ - ⟨i1, i2, i3, i4, i5⟩ F N
    dsimp only at i1 i2 i3 i4 i5 F N ⊢
    k_steps
    · rename Fr _ _ _ _ => lF
      rename News _ _ _ _ => lN
      refine ksw_end ⟨n - 1, lo', _, (lo' + hi').fdiv 2, _⟩ lF lN (fun _ h => nomatch h) trivial (List.forall_mem_cons.mpr ⟨rfl, List.forall_mem_cons.mpr ⟨rfl, fun _ h => nomatch h⟩⟩) ?hr ?hp ?hm
      case hr => k_extra "same"
      case hp => have := mid_bnd (by assumption : lo' < hi'); have hb := bisR_dn (by assumption) i4 i5 (by assumption); exact ⟨by dsimp only; omega, by dsimp only; omega, by dsimp only; omega, hb.1, hb.2.1⟩
      case hm => exact (bisR_dn (by assumption) i4 i5 (by assumption)).2.2
    · rename Fr _ _ _ _ => lF
      rename News _ _ _ _ => lN
      refine ksw_end ⟨n - 1, (lo' + hi').fdiv 2 + 1, _, hi', _⟩ lF lN (fun _ h => nomatch h) trivial (List.forall_mem_cons.mpr ⟨rfl, List.forall_mem_cons.mpr ⟨rfl, fun _ h => nomatch h⟩⟩) ?hr ?hp ?hm
      case hr => k_extra "same"
      case hp => have := mid_bnd (by assumption : lo' < hi'); have hb := bisR_up (by assumption) i4 i5 (by assumption); exact ⟨by dsimp only; omega, by dsimp only; omega, by dsimp only; omega, hb.1, hb.2.1⟩
      case hm => exact (bisR_up (by assumption) i4 i5 (by assumption)).2.2
    · rw [← i5, bisR_end (by assumption)] at h
      exact h _ _ _ (by assumption) (by assumption)

theorem br_Kh {w : World} {dp un : Nat} {fr : Option (List Env)} {gd : Option (List Code)} {s : Shared} {h₀ : Heap} {L : Addr} {m : Str → Option Value} {news : List (Addr × Obj)} {p : Program} {loose : List Str} {mg mb : Str → Option Value}
    {row : Addr} {vs : List Value} {ep : Nat} {ns : List Int} {x lo hiv : Int} {t tl thi : Tok} {args : List Value} {Q E : Value → Shared → Prop}
    (F : Fr h₀ L s.heap m) (N : News h₀ L s.heap news) (X : (hed.heap_39 w.params).In h₀) (T : TopRead p loose mg mb h₀)
    (hrow : (row, listOf vs.toArray ep) ∈ news) (hi : IntsAre vs ns) (hlen : ns.length < 2 ^ 20) (hdp : dp < 900) (h0 : 0 ≤ lo) (h1 : lo ≤ hiv) (h2 : hiv ≤ ns.length)
    (hargs : args = [.ref row, .int x t, .int lo tl, .int hiv thi])
    (h : ∀ t' h' tk', Fr h₀ L h' m → News h₀ L h' news → Q (.int (bisR ns x ns.length lo hiv) t') { s with heap := h', toks := tk' }) :
    wpAny (model pw w) (AR dp un fr gd) (call (.ref 200) args) Q E s := by
  refine wpAny_call ?_
  refine' code_KR (ro := [(row, listOf vs.toArray ep)]) (binds := [("a", .ref row), ("x", .int x t), ("lo", .int lo tl), ("hi", .int hiv thi), ("key", .none)]) F N (by simpa using hrow) X T ?k6 ?k7 ?k8 ?k9 ?kB ?_ ?c1 ?c2 ?c3 ?c4
  case k6 => k_is
  case k7 => k_is
  case k8 => exact Nat.lt_trans hdp (by decide)
  case k9 => subst hargs; exact kp_binds (X.keeps F.keep) (fun _ => rfl)
  case kB => exact locs rfl
  case c1 => exact rfl
  case c2 => exact rfl
  case c3 => exact rfl
  case c4 => decide
  intro g L' h₁ hg F N X T
  dsimp only
  k_fold
  have hl := isList_of (hg _ (List.mem_cons_self))
  dsimp only at hl
  clear hg
  k_with_none
  k_with "same" =>
    intro z h2 h3
    simp only [List.forall_mem_cons, List.not_mem_nil, false_implies, implies_true, and_true, ne_eq] at h2
    simp only [List.contains_cons, List.contains_nil, Bool.or_false, beq_eq_false_iff_ne, ne_eq] at h3
    simp [kstB, h2, h3]
  k_with "steps" => repeat' (fail_if_success (with_reducible show wpAny _ _ (exec (PySem.Stmt.While _ _ _ _) _) _ _ _)); (first | (k_unfold; (try dsimp only)) | (k_end; kc_close) | walk1 | (dsimp only; walk1) | (leave1; (try dsimp only)) | fail "no step")
  k_extra "steps"
  rename Fr _ _ _ _ => lF
  rename News _ _ _ _ => lN
  refine ksw_while (σ := BisS) (fun _ => []) (fun c => [("lo", .int c.lo c.tl), ("hi", .int c.hi c.th)]) (fun _ => True) ["mid"]
      (fun c => 0 ≤ c.lo ∧ c.lo ≤ c.hi ∧ c.hi ≤ ns.length ∧ c.hi - c.lo ≤ c.n ∧ bisR ns x c.n c.lo c.hi = bisR ns x ns.length lo hiv) (fun c => c.n) ⟨ns.length, lo, tl, hiv, _⟩ lF lN trivial (List.forall_mem_cons.mpr ⟨rfl, List.forall_mem_cons.mpr ⟨rfl, fun _ h => nomatch h⟩⟩) ?kp ?kt
  case kp => exact ⟨h0, h1, by dsimp only; omega, by dsimp only; omega, rfl⟩
  case kt =>
    rintro ⟨n, lo', tl', hi', th'⟩ u h₂ tk₂ - ⟨i1, i2, i3, i4, i5⟩ F N
    dsimp only at i1 i2 i3 i4 i5 F N ⊢
    k_steps
    · rename Fr _ _ _ _ => lF
      rename News _ _ _ _ => lN
      refine ksw_end ⟨n - 1, lo', _, (lo' + hi').fdiv 2, _⟩ lF lN (fun _ h => nomatch h) trivial (List.forall_mem_cons.mpr ⟨rfl, List.forall_mem_cons.mpr ⟨rfl, fun _ h => nomatch h⟩⟩) ?hr ?hp ?hm
      case hr => k_extra "same"
      case hp => have := mid_bnd (by assumption : lo' < hi'); have hb := bisR_dn (by assumption) i4 i5 (by assumption); exact ⟨by dsimp only; omega, by dsimp only; omega, by dsimp only; omega, hb.1, hb.2.1⟩
      case hm => exact (bisR_dn (by assumption) i4 i5 (by assumption)).2.2
    · rename Fr _ _ _ _ => lF
      rename News _ _ _ _ => lN
      refine ksw_end ⟨n - 1, (lo' + hi').fdiv 2 + 1, _, hi', _⟩ lF lN (fun _ h => nomatch h) trivial (List.forall_mem_cons.mpr ⟨rfl, List.forall_mem_cons.mpr ⟨rfl, fun _ h => nomatch h⟩⟩) ?hr ?hp ?hm
      case hr => k_extra "same"
      case hp => have := mid_bnd (by assumption : lo' < hi'); have hb := bisR_up (by assumption) i4 i5 (by assumption); exact ⟨by dsimp only; omega, by dsimp only; omega, by dsimp only; omega, hb.1, hb.2.1⟩
      case hm => exact (bisR_up (by assumption) i4 i5 (by assumption)).2.2
    · rw [← i5, bisR_end (by assumption)] at h
      exact h _ _ _ (by assumption) (by assumption)
end Mine
namespace Mine
open PySem PySem.W PySem.Calls PyProof.Rows

def insR (ns : List Int) (x : Int) : List Int :=
  ns.take (bisR ns x ns.length 0 ns.length).toNat ++ x :: ns.drop (bisR ns x ns.length 0 ns.length).toNat

theorem insR_length (ns : List Int) (x : Int) : (insR ns x).length = ns.length + 1 := by
  unfold insR
  rw [List.length_append, List.length_cons, List.length_take, List.length_drop]
  omega

theorem ins_ints {vs : List Value} {ns : List Int} {x : Int} {t : Tok} (hi : IntsAre vs ns) : IntsAre (kl_ins vs (bisR ns x ns.length 0 ns.length) (.int x t)) (insR ns x) := by
  have hb := @bisR_bnd ns x ns.length 0 ns.length (by omega)
  unfold kl_ins insR
  rw [if_neg (by omega), hi.length, Nat.min_eq_left (by omega)]
  exact IntsAre.append (hi.take _) (.cons _ _ (hi.drop _))

theorem ins_K {w : World} {dp un : Nat} {fr : Option (List Env)} {gd : Option (List Code)} {s : Shared} {h₀ : Heap} {L : Addr} {m : Str → Option Value} {rest : List (Addr × Obj)} {p : Program} {loose : List Str} {mg mb : Str → Option Value}
    {row : Addr} {vs : List Value} {ep : Nat} {ns : List Int} {x : Int} {t : Tok} {Q E : Value → Shared → Prop}
    (F : Fr h₀ L s.heap m) (N : News h₀ L s.heap ((row, listOf vs.toArray ep) :: rest)) (hrest : ∀ p ∈ rest, p.1 ≠ row) (X : (hed.heap_39 w.params).In h₀) (T : TopRead p loose mg mb h₀)
    (hi : IntsAre vs ns) (hlen : ns.length < 2 ^ 20) (hdp : dp < 890)
    (h : ∀ vs' ep' h' tk', IntsAre vs' (insR ns x) → Fr h₀ L h' m → News h₀ L h' ((row, listOf vs'.toArray ep') :: rest) → Q .none { s with heap := h', toks := tk' }) :
    wpAny (model pw w) (AR dp un fr gd) (call (.ref 191) [.ref row, .int x t]) Q E s := by
  refine wpAny_call ?_
  refine' code_K (binds := [("a", .ref row), ("x", .int x t), ("lo", .int 0 406), ("hi", .none), ("key", .none)]) F N X T ?k6 ?k7 ?k8 ?k9 ?kB ?_ ?c1 ?c2 ?c3 ?c4
  case k6 => k_is
  case k7 => k_is
  case k8 => exact Nat.lt_trans hdp (by decide)
  case k9 => exact kp_binds (X.keeps F.keep) (fun _ => rfl)
  case kB => exact locs rfl
  case c1 => exact rfl
  case c2 => exact rfl
  case c3 => exact rfl
  case c4 => decide
  intro g L' h₁ st FG F N X T hlt
  dsimp only
  k_fold
  k_with_none
  have hb := @bisR_bnd ns x ns.length 0 ns.length (by omega)
  k_steps
  refine' br_K (ns := ns) (by k_asm) (by k_asm) (by k_asm) (by k_asm) (List.Mem.head _) (by assumption) (by assumption) (by show dp + 1 < 900; omega) (by decide) (by omega) (.inr (.inr rfl)) ?_
  intro t' h' tk' F N
  dsimp only
  k_steps
  refine' kl_insert (l := kl_ins vs (bisR ns x ns.length 0 ns.length) (.int x t)) (by k_asm) (by k_asm) ?f rfl (Upd.head hrest) ?z ?_
  case f => simp only [Builtin.List.listFitsIndex, Bool.and_eq_true, decide_eq_true_eq]; omega
  case z => show vs.length ≤ sizeLine; rw [hi.length]; exact Nat.le_trans (Nat.le_of_lt hlen) (by decide)
  intro h' F N
  k_steps
  exact h _ _ _ _ (ins_ints hi) (by assumption) (by assumption)
end Mine
namespace Mine
open PySem PySem.W PySem.Calls PyProof.Rows

abbrev tupO (vs : List Value) : Obj := { cls := .type "tuple", data := .seq vs.toArray }
abbrev accObj (dx : Addr) (its : List Value) (n : Nat) : Obj := { cls := .ref 178, dict := some dx, data := .seq its.toArray n }

section
variable {w : World} {A : Around} {E : Value → Shared → Prop} {s : Shared} {a dx : Addr} {its : List Value} {n : Nat}

theorem acc_type {M : Model} {h : Heap} (ha : h.get? a = some (accObj dx its n)) : Looks M h (typeOf (.ref a)) (.ref 178) :=
  (Looks.ld ha).andThen .now

theorem acc_isList {M : Model} {h : Heap} (X : (hed.heap_39 w.params).In h) (ha : h.get? a = some (accObj dx its n)) : Looks M h (isInstance (.ref a) (.type "list")) true :=
  (acc_type ha).andThen (looks_subIn X (by k_is))

theorem acc_special {M : Model} {h : Heap} {name : Str} {r : Option Value} (X : (hed.heap_39 w.params).In h) (ha : h.get? a = some (accObj dx its n)) (e : findIn (hed.heap_39 w.params) (.ref 178) name = some r) :
    Looks M h (specialOf (.ref a) name) r := (acc_type ha).andThen (looks_findIn X e)

theorem check_any {M : Model} {i owner n : String} {self : Value} {rest : List Value} {kw : List (Str × Value)} {Q : Unit → Shared → Prop}
    (hk : builtinKind i = some .slot ∨ builtinKind i = some .method) (hs : splitId i = some (owner, n)) (hi : Looks M s.heap (isInstance self (.type owner)) true) (ha : argsOk i ⟨self :: rest, kw⟩) (q : Q () s) :
    wpAny M A (checkBuiltinCall i ⟨self :: rest, kw⟩) Q E s := by
  rcases hk with hk | hk <;>
  · simp only [checkBuiltinCall, hk, hs]
    refine wpAny_bind (hi.here ?_)
    simp only [Bool.not_true, Bool.false_eq_true, if_false]
    cases hsig : Manifest.signature? i with
    | none => exact wpAny_pure q
    | some sig =>
      simp only [argsOk, hsig] at ha
      have h2 : Bind.checkArgs i sig ⟨self :: rest, kw⟩ = pure () := ha
      show wpAny M A (Bind.checkArgs i sig ⟨self :: rest, kw⟩) Q E s
      rw [h2]; exact wpAny_pure q

/-- a builtin of list's called upon an _Accumulator. -/
theorem acc_call {id nm : String} {b : Builtin} {rest : List Value} {Q : Value → Shared → Prop} (X : (hed.heap_39 w.params).In s.heap) (ha : s.heap.get? a = some (accObj dx its n))
    (hk : builtinKind id = some .slot ∨ builtinKind id = some .method) (hs : splitId id = some ("list", nm)) (hp : plainId id = true) (hb : entryFor table id = some b) (hargs : argsOk id ⟨.ref a :: rest, []⟩)
    (h : wpAny (model pw w) A.in1 (b ⟨.ref a :: rest, []⟩) (fun fin s' => ∃ v, fin = .done (.ret v) ∧ Q v s') E s) :
    wpAny (model pw w) A (call (.builtin id) (.ref a :: rest)) Q E s := by
  refine wpAny_call (codeAny_call_builtin hp hb (check_any hk hs (acc_isList X ha) hargs (wpAny_mono h (fun fin s' h' => ?_) fun _ _ h' => h')))
  obtain ⟨v, rfl, hv⟩ := h'; exact hv

theorem acc_iter {Q : Value → Shared → Prop} (X : (hed.heap_39 w.params).In s.heap) (ha : s.heap.get? a = some (accObj dx its n))
    (h : Q (.ref s.heap.objs.size) { s with heap := s.heap.push { cls := .type "list_iterator", data := .fields #[.ref a, .int 0 0] } }) :
    wpAny (model pw w) A (pyIter (.ref a)) Q E s := by
  have L : Looks (model pw w) s.heap (specialOf (.ref a) "__iter__") (some (.builtin "list.__iter__")) := acc_special X ha (by k_is)
  unfold pyIter
  refine wpAny_bind (L.here ?_)
  show wpAny _ A (callSpecialIfBoundUnlessNone? (.ref a) "__iter__" _ >>= _) Q E s
  refine wpAny_bind ?_
  simp only [callSpecialIfBoundUnlessNone?, bindSpecialIfBound?]
  refine wpAny_holding (wpAny_bind (wpAny_bind (L.here ?_)))
  simp only [slot_list_iter.bind]
  refine wpAny_bind (wpAny_askSetting (wpAny_ite ?_))
  have fin : ∀ {refuse : Sem Value} {Q' : Option Value → Shared → Prop}, wpAny (model pw w) A (call (.builtin "list.__iter__") [.ref a]) (fun v => Q' (some v)) E s →
      wpAny (model pw w) A (if (Value.builtin "list.__iter__" == Value.none) = true then (refuse >>= fun v => pure (some v)) else (call (.builtin "list.__iter__") [.ref a] >>= fun v => pure (some v))) Q' E s := by
    intro refuse Q' hc
    simp only [builtin_beq_none, Bool.false_eq_true, if_false]
    exact wpAny_bind (wpAny_mono hc (fun v s' h' => wpAny_pure h') fun _ _ h' => h')
  have go : wpAny (model pw w) A (call (.builtin "list.__iter__") [.ref a]) (fun it s' => wpAny (model pw w) A (do
      match ← specialOf it "__next__" with
      | none => rule "iter.non-iterator"; raiseError "TypeError" s!"iter() returned non-iterator of type '{← typeNameOf it}'"
      | some _ => pure it) Q E s') E s := by
    refine acc_call (nm := "__iter__") X ha (.inl (by decide +kernel)) (by decide +kernel) (by decide +kernel) entry_list_iter (args_list_iter _) ?_
    show wpAny _ _ (do ret (← newFields "list_iterator" [.ref a, rawInt 0])) _ _ s
    refine wpAny_bind (wpAny_newObj_type (wpAny_pure ⟨_, rfl, ?_⟩))
    refine wpAny_bind (wpAny_specialOf (T := "list_iterator") ⟨_, Heap.get?_push_size _ rfl, rfl⟩ slot_listiter_next.lookup ?_)
    exact wpAny_pure h
  split
  · exact wpAny_bind (wpAny_pure (wpAny_pure (fin go)))
  · exact wpAny_tryCatch (wpAny_bind (wpAny_pure (wpAny_pure (fin go))))


/-- the list iterator over any sequence object. -/
theorem seqit_item {it : Addr} {i : Nat} {items : Array Value} {x : Value} {ol : Obj} {nl : Nat} {Q : Option Value → Shared → Prop} (hit : s.heap.IsListIter it a i)
    (hol : s.heap.get? a = some ol) (hdl : ol.data = .seq items nl) (hx : items[i]? = some x)
    (hQ : ∀ h', h'.IsListIter it a (i + 1) → Heap.SameBut it s.heap h' → Q (some x) { s with heap := h' }) :
    wpAny (model pw w) A (pyNext (.ref it)) Q E s := by
  obtain ⟨o, ho, hc, hd⟩ := id hit
  unfold pyNext
  refine wpAny_bind (wpAny_attempt (wpAny_callSpecial?_slot (name := Str.ofString "__next__") hit.typeIs slot_listiter_next
    (wpAny_call_entry slot_listiter_next hit.typeIs entry_listiter_next ?_ (args_listiter_next _))))
  show wpAny _ _ (field (.ref it) 0 >>= _) _ _ s
  refine wpAny_bind (wpAny_field ho hd (x := .ref a) rfl ?_)
  show wpAny _ _ (if (Value.ref a == Value.none) = true then _ else _) _ _ s
  rw [if_neg (show ¬ ((Value.ref a == Value.none) = true) from Bool.false_ne_true)]
  show wpAny _ _ (field (.ref it) 1 >>= _) _ _ s
  refine wpAny_bind (wpAny_field ho hd (x := .int i 0) rfl ?_)
  show wpAny _ _ (seqItems? (.ref a) >>= _) _ _ s
  refine wpAny_bind (wpAny_seqItems hol hdl ?_)
  simp only [Int.toNat_natCast, hx]
  refine wpAny_bind (wpAny_setField ho hd (by simp) (wpAny_pure ⟨x, rfl, wpAny_pure (hQ _ ?_ (Heap.SameBut.update ..))⟩))
  exact ⟨_, Heap.get?_update_self _ ho (Obj.isFreed_of_fields (Obj.data_mapFields hd _)), (Obj.cls_mapFields ..).trans hc, by
    rw [Obj.data_mapFields hd]; simp [rawInt]⟩

theorem seqit_end {it : Addr} {i : Nat} {items : Array Value} {ol : Obj} {nl : Nat} {Q : Option Value → Shared → Prop} (hh : A.handled = none) (hit : s.heap.IsListIter it a i)
    (hol : s.heap.get? a = some ol) (hdl : ol.data = .seq items nl) (hx : items[i]? = none)
    (hQ : ∀ h', Heap.ExtBut it s.heap h' → Q none { s with heap := h' }) : wpAny (model pw w) A (pyNext (.ref it)) Q E s := by
  obtain ⟨o, ho, hc, hd⟩ := id hit
  unfold pyNext
  refine wpAny_bind (wpAny_attempt (wpAny_callSpecial?_slot (name := Str.ofString "__next__") hit.typeIs slot_listiter_next
    (wpAny_call_entry slot_listiter_next hit.typeIs entry_listiter_next ?_ (args_listiter_next _))))
  show wpAny _ _ (field (.ref it) 0 >>= _) _ _ s
  refine wpAny_bind (wpAny_field ho hd (x := .ref a) rfl ?_)
  show wpAny _ _ (if (Value.ref a == Value.none) = true then _ else _) _ _ s
  rw [if_neg (show ¬ ((Value.ref a == Value.none) = true) from Bool.false_ne_true)]
  show wpAny _ _ (field (.ref it) 1 >>= _) _ _ s
  refine wpAny_bind (wpAny_field ho hd (x := .int i 0) rfl ?_)
  show wpAny _ _ (seqItems? (.ref a) >>= _) _ _ s
  refine wpAny_bind (wpAny_seqItems hol hdl ?_)
  simp only [Int.toNat_natCast, hx]
  refine wpAny_bind (wpAny_rule (wpAny_bind (wpAny_setField ho hd (by simp) ?_)))
  show wpAny _ _ (newExc (.type "StopIteration") [] >>= _) _ _ _
  refine wpAny_bind ?_
  simp only [newExc, newTuple]
  refine wpAny_bind (wpAny_newObj_type ?_ (by size_fits))
  refine wpAny_bind (m := firstArgMember _ _) (wpAny_of_eq (a := Value.none) (by first | rfl | (simp only [firstArgMember]; rfl)) ?_)
  refine wpAny_newObj_type ?_ (by size_fits)
  simp only [raiseNew]
  refine wpAny_bind (wpAny_handled ?_)
  rw [show A.in1.handled = none from hh]
  refine wpAny_bind (wpAny_pure (wpAny_throw ?_))
  refine wpAny_bind (wpAny_isInstance (T := "StopIteration") (b := true) ⟨_, Heap.get?_push_size _ rfl, rfl⟩ isSubtype_stop ?_)
  exact wpAny_pure (hQ _ (((Heap.SameBut.update ..).extBut.push _).push _))
end
end Mine
namespace Mine
open PySem PySem.W PySem.Calls PyProof.Rows

section
variable {w : World} {A : Around}

theorem notOwned {C I a T : Addr} {i : Nat} {x y : Str} {px py tp : Pos} {kk : Nat} {M : Model} {E : Value → Shared → Prop} {s : Shared} {Q : Unit → Shared → Prop} (hit : s.heap.IsListIter I a i) (h : Q () s) :
    wpAny M A (letOwnedTupleGo (.Tuple [.Name x px, .Name y py] kk tp) (.ref I) (.ref T)) Q E s := by
  obtain ⟨o, ho, hc, hd⟩ := hit
  unfold letOwnedTupleGo
  refine wpAny_bind (wpAny_load ho ?_)
  rw [hc, hd]
  have e : (["enumerate", "zip", "dict_itemiterator", "dict_reverseitemiterator", "odict_iterator", "itertools.zip_longest", "itertools.pairwise"].contains "list_iterator") = false := by decide +kernel
  dsimp only
  rw [e, Bool.false_and, if_neg (by decide)]
  exact wpAny_pure h

structure PairsAt (gb : Heap) (C I a : Addr) (dx : Addr) (ts : List Addr) (n : Nat) (vl vw : Value) (i : Nat) (h : Heap) : Prop where
  frame : ∃ m, Fr gb C h m
  iter : h.IsListIter I a i
  acc : h.get? a = some (accObj dx (ts.map .ref) n)
  tups : ∀ t ∈ ts, h.get? t = some (tupO [vl, vw])

def pairsY (gb : Heap) (C I a : Addr) (ts : List Addr) (P : Value → Prop) : Protocol := fun _ s₀ v s kap =>
  P v ∧ GenSince C [I] s₀ s ∧ ∀ s'' : Shared, gb.StaysIn s''.heap → (∀ b ∈ C :: I :: a :: ts, ∀ o, s.heap.get? b = some o → s''.heap.get? b = some o) → kap (.send .none) s''

theorem Fr.pass {gb : Heap} {C : Addr} {h h' : Heap} {m : Str → Option Value} (F : Fr gb C h m) (hC : ∀ o, h.get? C = some o → h'.get? C = some o) (hk : gb.StaysIn h') : Fr gb C h' m :=
  ⟨F.ns.at' fun o e => hC o e, hk, F.above⟩

theorem PairsAt.pass {gb : Heap} {C I a dx : Addr} {ts : List Addr} {n : Nat} {vl vw : Value} {i : Nat} {h h' : Heap} (x : PairsAt gb C I a dx ts n vl vw i h) (hg : gb.StaysIn h') (hk : ∀ b ∈ C :: I :: a :: ts, ∀ o, h.get? b = some o → h'.get? b = some o) :
    PairsAt gb C I a dx ts n vl vw i h' := by
  obtain ⟨⟨m, F⟩, it, ac, tu⟩ := x
  refine ⟨⟨m, Fr.pass F (hk C (by simp)) hg⟩, ?_, hk a (by simp) _ ac, fun t ht => hk t (by simp [ht]) _ (tu t ht)⟩
  obtain ⟨o, ho, r⟩ := it
  exact ⟨o, hk I (by simp) o ho, r⟩

theorem seg_pairs {elt iter : Expr} {x y : Str} {px py tp : Pos} {kk : Nat} {scope : Scope} {pos : Pos} {gb : Heap} {C I a dx : Addr} {ts : List Addr} {n : Nat} {vl vw : Value} {cenv : Env} {P : Value → Prop}
    (hh : A.handled = none) (hC : cenv.locals = C) (hx : cenv.kindOf x = some .local) (hy : cenv.kindOf y = some .local) (hxy : x ≠ y)
    (hp : (cenv.scope.kind == .class || (cenv.scope.kind == .module && cenv.locals != cenv.globals)) = false) (hco : cenv.scope.isCoroutine = false)
    (hCI : C ≠ I) (hCa : C ≠ a) (hIa : I ≠ a) (hCt : ∀ t ∈ ts, t ≠ C) (hIt : ∀ t ∈ ts, t ≠ I) (hIg : gb.get? I = none)
    (helt : ∀ (s : Shared) (m : Str → Option Value) (Q : Value → Shared → Prop) (E : Value → Shared → Prop), Fr gb C s.heap m → m x = some vl → m y = some vw →
      (∀ v h' tk', P v → s.heap.StaysIn h' → Q v { s with heap := h', toks := tk' }) →
      wpAny (model pw w) (A.over (.compLoop (.GeneratorExp elt [⟨.Tuple [.Name x px, .Name y py] kk tp, iter, [], 0⟩] scope pos) 0 (.ref I) .none cenv) []) (eval elt cenv) Q E s) :
    ∀ (k i : Nat) (s₀ s : Shared), ts.length - i = k → i ≤ ts.length → PairsAt gb C I a dx ts n vl vw i s.heap → GenSince C [I] s₀ s →
      Seg (model pw w) A (fun n s₀ r s₁ => r = .ok .next ∧ (n = 0 ∧ GenSince C [I] s₀ s₁)) (pairsY gb C I a ts P) (ts.length - i) s₀
        (.compLoop (.GeneratorExp elt [⟨.Tuple [.Name x px, .Name y py] kk tp, iter, [], 0⟩] scope pos) 0 (.ref I) .none cenv)
        ((model pw w).den (.compLoop (.GeneratorExp elt [⟨.Tuple [.Name x px, .Name y py] kk tp, iter, [], 0⟩] scope pos) 0 (.ref I) .none cenv)) [] s := by
  subst hC
  have hh' : (A.over (.compLoop (.GeneratorExp elt [⟨.Tuple [.Name x px, .Name y py] kk tp, iter, [], 0⟩] scope pos) 0 (.ref I) .none cenv) []).handled = none := hh
  intro k
  induction k with
  | zero =>
    intro i s₀ s hk hi hst hsince
    obtain rfl : i = ts.length := by omega
    show Seg _ A _ _ _ s₀ _ ((compTurn _ 0 (.ref I) .none cenv).onRaise (leaving cenv)) [] s
    rw [compTurn_gen, Sem.onRaise_eq_wrap]
    refine seg_bind_wrap (wpAny_standAt ?_)
    refine seg_bind_wrap (seqit_end hh' hst.iter hst.acc rfl (by simp) fun h' hx' => ?_)
    refine seg_end (.ok .next) ⟨rfl, Nat.sub_self _, hsince.step (tk := s.toks) fun b o _ hb e => hx' b o (fun h => hb (by simp [h])) e⟩
  | succ k ih =>
    intro i s₀ s hk hi hst hsince
    have hlt : i < ts.length := by omega
    obtain ⟨t, ht⟩ : ∃ t, ts[i]? = some t := ⟨ts[i], List.getElem?_eq_getElem hlt⟩
    have htm : t ∈ ts := List.mem_of_getElem? ht
    obtain ⟨⟨m, F⟩, hit, hac, htu⟩ := id hst
    show Seg _ A _ _ _ s₀ _ ((compTurn _ 0 (.ref I) .none cenv).onRaise (leaving cenv)) [] s
    rw [compTurn_gen, Sem.onRaise_eq_wrap]
    refine seg_bind_wrap (wpAny_standAt ?_)
    refine seg_bind_wrap (seqit_item (x := .ref t) hit hac rfl (by simp [ht]) fun h₁ hit₁ hs₁ => ?_)
    refine seg_bind_wrap (notOwned (C := cenv.locals) hit₁ ?_)
    have ht₁ : h₁.get? t = some (tupO [vl, vw]) := (hs₁.2 t (hIt t htm)).trans (htu t htm)
    refine seg_bind_wrap (kcp_assign hh' ⟨_, ht₁, rfl, _, rfl⟩ hx hy hp (F.ns.sameBut hs₁ hCI) fun h₂ tk₂ hn₂ hk₂ => ?_)
    simp only [List.forIn_nil]
    refine seg_bind_wrap (wpAny_pure ?_)
    rw [if_pos rfl]
    have up : ∀ b o, b ≠ cenv.locals → b ≠ I → s.heap.get? b = some o → h₂.get? b = some o := fun b o hbC hbI e => hk₂ b o hbC ((hs₁.2 b hbI).trans e)
    have hgb : gb.StaysIn h₂ := fun b o e => up b o (fun h => Nat.lt_irrefl _ (Nat.lt_of_lt_of_le (h ▸ Heap.lt_size e : cenv.locals < gb.objs.size) F.above)) (fun h => by rw [h, hIg] at e; cases e) (F.keep b o e)
    have F₂ : Fr gb cenv.locals h₂ _ := ⟨hn₂, hgb, F.above⟩
    have hyo : ∀ v, yieldOut cenv v = yieldValue v := fun v => by simp only [yieldOut, hco, Bool.false_eq_true, if_false]
    simp only [hyo]
    rw [Sem.bind_eq_wrap', Sem.bind_eq_wrap', Sem.wrap_wrap, Sem.wrap_wrap]
    have e : ts.length - i = (ts.length - (i + 1)) + 1 := by omega
    rw [e]
    refine seg_wrap (helt _ _ _ _ F₂ (by simp [hxy]) (by simp) fun v h₃ tk₃ hv hs₃ => ?_)
    have hst₃ : PairsAt gb cenv.locals I a dx ts n vl vw (i + 1) h₃ := by
      refine ⟨⟨_, Fr.pass F₂ (fun o e => hs₃ _ o e) fun b o e => hs₃ b o (hgb b o e)⟩, ?_, hs₃ _ _ (up a _ hCa.symm hIa.symm hac), fun t' ht' => hs₃ _ _ (up t' _ (hCt t' ht') (hIt t' ht') (htu t' ht'))⟩
      obtain ⟨o, ho, r⟩ := hit₁
      exact ⟨o, hs₃ _ _ (hk₂ I o hCI.symm ho), r⟩
    refine seg_at (seg_yield rfl rfl rfl ⟨hv, hsince.step fun b o hbC hbI e => hs₃ b o (up b o hbC (fun h => hbI (by simp [h])) e), fun s'' hg' hal => ?_⟩)
    exact seg_again rfl (ih (i + 1) s'' s'' (by omega) hlt (hst₃.pass hg' hal) (GenSince.refl _ _ _))

theorem seg_pairsStart {elt iter : Expr} {x y : Str} {px py tp : Pos} {kk : Nat} {scope : Scope} {pos : Pos} {gb : Heap} {C I a dx : Addr} {ts : List Addr} {n : Nat} {vl vw : Value} {cenv : Env} {P : Value → Prop}
    (hh : A.handled = none) (hC : cenv.locals = C) (hx : cenv.kindOf x = some .local) (hy : cenv.kindOf y = some .local) (hxy : x ≠ y)
    (hp : (cenv.scope.kind == .class || (cenv.scope.kind == .module && cenv.locals != cenv.globals)) = false) (hco : cenv.scope.isCoroutine = false)
    (hCI : C ≠ I) (hCa : C ≠ a) (hIa : I ≠ a) (hCt : ∀ t ∈ ts, t ≠ C) (hIt : ∀ t ∈ ts, t ≠ I) (hIg : gb.get? I = none)
    (helt : ∀ (A' : Around) (s : Shared) (m : Str → Option Value) (Q : Value → Shared → Prop) (E : Value → Shared → Prop), A'.handled = none → Fr gb C s.heap m → m x = some vl → m y = some vw →
      (∀ v h' tk', P v → s.heap.StaysIn h' → Q v { s with heap := h', toks := tk' }) → wpAny (model pw w) A' (eval elt cenv) Q E s)
    (s₀ s : Shared) (hst : PairsAt gb C I a dx ts n vl vw 0 s.heap) (hs : GenSince C [I] s₀ s) :
    Seg (model pw w) A (fun n s₀ r s₁ => r = .ok .next ∧ (n = 0 ∧ GenSince C [I] s₀ s₁)) (pairsY gb C I a ts P) ts.length s₀
        (.compStart (.GeneratorExp elt [⟨.Tuple [.Name x px, .Name y py] kk tp, iter, [], 0⟩] scope pos) 0 (.ref I) .none cenv)
        ((model pw w).den (.compStart (.GeneratorExp elt [⟨.Tuple [.Name x px, .Name y py] kk tp, iter, [], 0⟩] scope pos) 0 (.ref I) .none cenv)) [] s := by
  have loop := seg_pairs (A := A) (iter := iter) (px := px) (py := py) (tp := tp) (kk := kk) (scope := scope) (pos := pos) (n := n) (dx := dx) (P := P) hh hC hx hy hxy hp hco hCI hCa hIa hCt hIt hIg (fun s m Q E F h1 h2 h3 => helt _ s m Q E hh F h1 h2 h3) ts.length 0 s₀ s rfl (Nat.zero_le _) hst hs
  show Seg _ A _ _ _ s₀ _ ((compStart _ 0 (.ref I) .none cenv).onRaise (leaving cenv)) [] s
  unfold compStart
  rw [Sem.onRaise_eq_wrap]
  show Seg _ A _ _ _ s₀ _ ((ask >>= _).wrap _ _ _ _) [] s
  refine seg_bind_wrap (wpAny_askSetting ?_)
  split
  · exact seg_again rfl loop
  · refine seg_bind_wrap (wpAny_rule ?_)
    show Seg _ A _ _ _ s₀ _ ((standAt iter.pos >>= _).wrap _ _ _ _) [] s
    refine seg_bind_wrap (wpAny_standAt (seg_bind_wrap ?_))
    exact wpAny_pyIter_listiter hst.iter (seg_again rfl loop)

end
end Mine
namespace Mine
open PySem PySem.W PySem.Calls PyProof.Rows

section
variable {w : World} {A : Around}

/-- the generator over the pairs of an _Accumulator, j of them told. -/
def PairGen (w : World) (A : Around) (gb : Heap) (ga g C I a : Addr) (ts : List Addr) (P : Value → Prop) (j : Nat) (s : Shared) : Prop :=
  s.heap.IsGen ga g ∧ gb.StaysIn s.heap ∧ ∃ gs, s.gens[g]? = some gs ∧ ∀ s'' : Shared, gb.StaysIn s''.heap → (∀ b ∈ C :: I :: a :: ts, ∀ o, s.heap.get? b = some o → s''.heap.get? b = some o) →
    gs.Goes (model pw w) A.in1 (fun n s₀ r s₁ => r = .ok .next ∧ (n = 0 ∧ GenSince C [I] s₀ s₁)) (pairsY gb C I a ts P) (ts.length - j) (.send .none) s''

theorem stays_of_fp {gb h h' : Heap} (hs : gb.StaysIn h) (hk : ∀ b ∈ List.range gb.objs.size, ∀ o, h.get? b = some o → h'.get? b = some o) : gb.StaysIn h' :=
  fun b o e => hk b (List.mem_range.mpr (Heap.lt_size e)) o (hs b o e)

theorem stays_since {gb : Heap} {C I : Addr} {h h' : Heap} (hs : gb.StaysIn h) (hC : gb.objs.size ≤ C) (hI : gb.get? I = none) (hk : ∀ b o, b ≠ C → b ∉ [I] → h.get? b = some o → h'.get? b = some o) : gb.StaysIn h' :=
  fun b o e => hk b o (fun q => Nat.lt_irrefl _ (Nat.lt_of_lt_of_le (q ▸ Heap.lt_size e : C < gb.objs.size) hC)) (fun q => by rw [List.mem_singleton] at q; rw [q, hI] at e; cases e) (hs b o e)

theorem walks_pairs {gb : Heap} {ga g C I a : Addr} {ts : List Addr} {P : Value → Prop} (hh : A.handled = none) (hroom : A.depth < recursionLimit) (hlim : gb.NoLimit) (hC : gb.objs.size ≤ C) (hI : gb.get? I = none) (haC : ga ≠ C) (haI : ga ≠ I) :
    WalksS pw w A ga (ga :: C :: I :: a :: (ts ++ List.range gb.objs.size)) [C, I] (GenOnlyQ g) ts.length (fun _ v => P v) (PairGen w A gb ga g C I a ts P) where
  sub := fun b hb => by
    simp only [List.mem_cons, List.not_mem_nil, or_false] at hb
    rcases hb with rfl | rfl <;> simp
  grefl := fun _ => .inl rfl
  gtrans := fun _ _ _ x y => x.trans y
  frame := fun j s h' tk st _ hk => by
    obtain ⟨⟨o, nm, qn, ho, r⟩, hs, gs, hgs, hgo⟩ := st
    refine ⟨⟨o, nm, qn, hk ga (by simp) o ho, r⟩, stays_of_fp hs fun b hb => hk b (by simp only [List.mem_cons, List.mem_append]; exact .inr (.inr (.inr (.inr (.inr hb))))), gs, hgs, fun s'' hg hal => hgo s'' hg fun b hb o e => hal b hb o (hk b ?_ o e)⟩
    simp only [List.mem_cons, List.mem_append] at hb ⊢
    rcases hb with hb | hb | hb | hb
    · exact .inr (.inl hb)
    · exact .inr (.inr (.inl hb))
    · exact .inr (.inr (.inr (.inl hb)))
    · exact .inr (.inr (.inr (.inr (.inl hb))))
  item := fun j s Q E hj st hQ => by
    obtain ⟨hg, hs, gs, hgs, hgo⟩ := st
    obtain ⟨m, hm⟩ : ∃ m, ts.length - j = m + 1 := ⟨ts.length - j - 1, by omega⟩
    rw [hm] at hgo
    refine wpAny_with_toks (Nat.le_refl s.toks) ?_
    refine wpAny_pyNext_genexpQ (P := fun n s₀ s₁ => n = 0 ∧ GenSince C [I] s₀ s₁) hh (hlim.keeps hs) hroom hg hgs (hgo _ hs fun _ _ _ e => e) (fun v s₁ gs' hb hv => ?_) (fun s₁ hp h' hk => ?_)
    · obtain ⟨hP, ⟨h₁, tk₁, rfl, hk₁⟩, hkap⟩ := hv
      intro htk
      refine hQ v _ hP ⟨let ⟨o, nm, qn, ho, r⟩ := hg; ⟨o, nm, qn, hk₁ ga o haC (by simp [haI]) ho, r⟩, stays_since hs hC hI hk₁, gs', setGen_self (gs := .running) (setGen_self hgs), fun s'' hg' hal => ?_⟩
        ⟨fun b o hb e => hk₁ b o (fun h => hb (h ▸ List.mem_cons_self ..)) (fun h => hb (List.mem_cons_of_mem _ h)) e, GenOnlyQ.of ((GenOnly.setGen s g .running).trans (GenOnly.setGen _ g gs')) (setGen_self (gs := .running) (setGen_self hgs)) hb, rfl, rfl, htk⟩
      have e : ts.length - (j + 1) = m := by omega
      rw [e]
      exact hkap s'' hg' hal
    · exact absurd hp.1 (Nat.succ_ne_zero m)
  done := fun s Q E st hQ => by
    obtain ⟨hg, hs, gs, hgs, hgo⟩ := st
    rw [Nat.sub_self] at hgo
    refine wpAny_with_toks (Nat.le_refl s.toks) ?_
    refine wpAny_pyNext_genexpQ (P := fun n s₀ s₁ => n = 0 ∧ GenSince C [I] s₀ s₁) hh (hlim.keeps hs) hroom hg hgs (hgo _ hs fun _ _ _ e => e) (fun v s₁ gs' hb hv => ?_) (fun s₁ hp h' hk => ?_)
    · obtain ⟨_, ⟨h₁, tk₁, rfl, hk₁⟩, hkap⟩ := hv
      exact False.elim (hkap { s.setGen g .running with heap := h₁, toks := tk₁ } (stays_since hs hC hI hk₁) fun _ _ _ e => e)
    · obtain ⟨_, h₁, tk₁, rfl, hk₁⟩ := hp
      intro htk
      exact hQ _ ⟨fun b o hb e => hk b o (hk₁ b o (fun h => hb (h ▸ List.mem_cons_self ..)) (fun h => hb (List.mem_cons_of_mem _ h)) e), GenOnlyQ.of ((GenOnly.setGen s g .running).trans (GenOnly.setGen _ g .finished)) (setGen_self (gs := .running) (setGen_self hgs)) rfl, rfl, rfl, htk⟩
  self := fun _ _ _ _ st hQ => wpAny_pyIter_gen st.1 hQ


/-- a walk of one item more, the first of which is never asked. -/
def OneMore (St : Nat → Shared → Prop) (i : Nat) (s : Shared) : Prop := match i with
  | 0 => False
  | i + 1 => St i s

theorem walks_more {I : Addr} {fp wr : List Addr} {G : Array GenState → Array GenState → Prop} {n : Nat} {P : Value → Prop} {St : Nat → Shared → Prop} (W : WalksS pw w A I fp wr G n (fun _ v => P v) St) :
    WalksS pw w A I fp wr G (n + 1) (fun i v => i ≠ 0 ∧ P v) (OneMore St) where
  sub := W.sub
  grefl := W.grefl
  gtrans := W.gtrans
  frame := fun i s h' tk st ht hk => by
    cases i with
    | zero => exact st
    | succ i => exact W.frame i s h' tk st ht hk
  item := fun i s Q E hi st hQ => by
    cases i with
    | zero => exact st.elim
    | succ i => exact W.item i s Q E (by omega) st fun v s' hp hs hm => hQ v s' ⟨Nat.succ_ne_zero _, hp⟩ hs hm
  done := fun s Q E st hQ => W.done s Q E st hQ
  self := fun i s Q E st hQ => by
    cases i with
    | zero => exact st.elim
    | succ i => exact W.self i s Q E st hQ

theorem preSum_const (c k : Int) (n : Nat) : preSum (fun i => if i = 0 then c else k) (n + 1) = c + n * k := by
  induction n with
  | zero => simp [preSum]
  | succ n ih =>
    show preSum _ (n + 1) + (if n + 1 = 0 then c else k) = _
    rw [ih, if_neg (Nat.succ_ne_zero n), Int.natCast_add, Int.add_mul]
    omega

theorem args_sum2 (a b : Value) : argsOk "sum" ⟨[a, b], []⟩ := by unfold argsOk; kernel_rfl

/-- sum of a generator of n ints k, from the int c on. -/
theorem sum_from {E : Value → Shared → Prop} {s : Shared} {ga g : Addr} {fp wr : List Addr} {G : Array GenState → Array GenState → Prop} {n : Nat} {P : Value → Prop} {St : Nat → Shared → Prop} {c k : Int} {tc : Tok} {Q : Value → Shared → Prop}
    (W : WalksS pw w A.in1 ga fp wr G n (fun _ v => P v) St) (hg : s.heap.IsGen ga g) (hst : St 0 s) (hfp : ∀ b ∈ fp, b < s.heap.objs.size) (hP : ∀ v, P v → ∃ t, v = .int k t)
    (hQ : ∀ s' t', (∀ b o, b ∉ wr → s.heap.get? b = some o → s'.heap.get? b = some o) → G s.gens s'.gens → s'.drawn = s.drawn → s'.os = s.os → Q (.int (c + n * k) t') s') :
    wpAny (model pw w) A (call (.builtin "sum") [.ref ga, .int c tc]) Q E s := by
  have hWn : ∀ t : Tok, ∀ v, P v → ∃ t, v = .int k t := fun _ => hP
  refine call_function_tree F.kind_sum F.plain_sum F.entry_sum (args_sum2 _ _) ?_
  unfold Builtin.«sum»
  simp only [List.length_cons, List.length_nil]
  rw [if_neg (by decide)]
  refine wpAny_bind (wpAny_of_eq (show Builtin.Builtins.bindParams "sum" ["start"] 0 ⟨[.int c tc], []⟩ = pure [some (.int c tc)] from rfl) ?_)
  refine wpAny_bind (wpAny_pyIter_gen hg ?_)
  have key : ∀ (tk : Nat) (stage : Int) (t : Tok), (stage = 0 ∨ stage = 2) → s.toks ≤ tk → codeAny (model pw w) A (.builtin "sum.loop" ⟨[.ref ga, .ref s.heap.objs.size, rawInt stage, rawInt 0], []⟩)
      (fun r s' => match r with | .ok (.ret v) => Q v s' | .ok _ => False | .error e => E e s') { s with heap := s.heap.push { cls := .type "list", data := .seq [.int c t].toArray }, toks := tk } := by
    intro tk stage t hs htk
    have hSf : s.heap.objs.size ∉ fp := fun hm => Nat.lt_irrefl _ (hfp _ hm)
    refine codeAny_sum_loopAnyS (walks_more W) (fun i => if i = 0 then c else k) (fun i v hp => ?_) s.heap.objs.size hSf n 1 _ t 0 stage hs (by omega) (by omega) ?_ ?_ fun s' t' hm => ?_
    · obtain ⟨t, e⟩ := hP v hp.2
      exact ⟨t, by rw [e, if_neg hp.1]⟩
    · exact W.frame 0 s _ tk hst htk fun b _ o e => Heap.get?_push_of_some _ e
    · rw [preSum_const c k 0]
      simpa using Heap.get?_push_size (h := s.heap) (o := { cls := .type "list", data := .seq [.int c t].toArray }) rfl
    · rw [preSum_const]
      exact hQ s' t' (fun b o hb e => hm.heap b o (by simp only [List.mem_cons, not_or]; exact ⟨Nat.ne_of_lt (Heap.lt_size e), hb⟩) (Heap.get?_push_of_some _ e)) hm.gens hm.drawn hm.os
  have rest : ∀ (tk : Nat) (stage : Int) (t : Tok), (stage = 0 ∨ stage = 2) → s.toks ≤ tk → wpAny (model pw w) A.in1 (do
      for (ty, what, hint) in [("str", "strings", "''"), ("bytes", "bytes", "b''"), ("bytearray", "bytearray", "b''")] do
        if ← isInstance (.int c t) (.type ty) then
          rule "sum.start-refused"; raiseError "TypeError" s!"sum() can't sum {what} [use {hint}.join(seq) instead]"
      again (.builtin "sum.loop" ⟨[.ref ga, ← newList [.int c t], rawInt stage, rawInt 0], []⟩))
      (fun fin s' => match fin with
        | .done f => (match (Except.ok f : Result) with | .ok (.ret v) => Q v s' | .ok _ => False | .error e => E e s')
        | .again c' => c'.quiet = true ∧ codeAny (model pw w) A c' (fun r s' => match r with | .ok (.ret v) => Q v s' | .ok _ => False | .error e => E e s') s') E { s with toks := tk } := by
    intro tk stage t hs htk
    simp only [List.forIn_cons, List.forIn_nil]
    refine wpAny_bind (wpAny_bind (wpAny_bind (wpAny_isInstance (T := "int") (b := false) (typeIs_int _ _ _) PySem.sub_int_str ?_)))
    simp only [Bool.false_eq_true, if_false]
    refine wpAny_pure (wpAny_bind (wpAny_bind (wpAny_isInstance (T := "int") (b := false) (typeIs_int _ _ _) PySem.sub_int_bytes ?_)))
    simp only [Bool.false_eq_true, if_false]
    refine wpAny_pure (wpAny_bind (wpAny_bind (wpAny_isInstance (T := "int") (b := false) (typeIs_int _ _ _) PySem.sub_int_bytearray ?_)))
    simp only [Bool.false_eq_true, if_false]
    refine wpAny_pure (wpAny_pure ?_)
    refine wpAny_bind (wpAny_newObj_type ?_)
    exact wpAny_pure ⟨plainId_quiet F.plain_sum_loop _, key tk stage t hs htk⟩
  dsimp only
  split
  · exact wpAny_bind (wpAny_rule (wpAny_bind (wpAny_mkInt (wpAny_bind (wpAny_pure (rest _ 0 _ (.inl rfl) (Nat.le_succ _)))))))
  · exact wpAny_bind (wpAny_pure (rest _ 2 _ (.inr rfl) (Nat.le_refl _)))
end
end Mine
namespace Mine
open PySem PySem.W PySem.Calls PyProof.Rows

/-- a code table grows behind its rows. -/
structure TabMore (ps ps' : Array Value) : Prop where
  ok : TriplesOk ps'.toList
  more : ∃ m, ps' = ps ++ m
theorem TabMore.refl {ps : Array Value} (h : TriplesOk ps.toList) : TabMore ps ps := ⟨h, #[], by simp⟩
theorem TabMore.trans {a b c : Array Value} (x : TabMore a b) (y : TabMore b c) : TabMore a c := by
  obtain ⟨m, rfl⟩ := x.more
  obtain ⟨m', rfl⟩ := y.more
  exact ⟨y.ok, m ++ m', by rw [Array.append_assoc]⟩

section
variable {w : World} {A : Around} {E : Value → Shared → Prop} {s : Shared} {h₀ : Heap} {L : Addr} {m : Str → Option Value} {p : Program} {loose : List Str} {mg mb : Str → Option Value}

structure CodeTab (w : World) (c P : Addr) (vs : Array Value) : Prop where
  code : (hed.heap_39 w.params).lookup c = some ⟨.type "code", none, .fields vs, #[]⟩
  f11 : vs[11]? = some (.ref P)
  f18 : ∃ x t, vs.getD 18 .none = .str x t
  f7 : ∃ x t, vs.getD 7 .none = .int x t
  f9 : ∃ b, vs.getD 9 .none = .bool b
  f10 : ∃ x t, vs.getD 10 .none = .int x t
  ne : c ≠ P

theorem News.ext {h₀ h h' : Heap} {L P : Addr} {o o' : Obj} {rest : List (Addr × Obj)} (N : News h₀ L h ((P, o) :: rest)) (hr : ∀ p ∈ rest, p.1 ≠ P) (hx : Heap.ExtBut P h h') (ho : h'.get? P = some o') : News h₀ L h' ((P, o') :: rest) := by
  intro p hp
  rcases List.mem_cons.mp hp with rfl | hp
  · exact ⟨ho, (N _ List.mem_cons_self).2⟩
  · have := N p (List.mem_cons_of_mem _ hp)
    exact ⟨hx _ _ (hr p hp) this.1, this.2⟩
theorem Fr.ext {h₀ h h' : Heap} {L P : Addr} {m : Str → Option Value} (F : Fr h₀ L h m) (hL : P ≠ L) (hP : h₀.get? P = none) (hx : Heap.ExtBut P h h') : Fr h₀ L h' m :=
  ⟨F.ns.extBut hx (Ne.symm hL), fun b o e => hx b o (fun q => by rw [q, hP] at e; cases e) (F.keep b o e), F.above⟩

theorem genCode_K {env : Env} {c P : Addr} {vs ps : Array Value} {pos : Pos} {qual : Str} {scope : Scope} {rest : List (Addr × Obj)} {Q : Value → Shared → Prop} (F : Fr h₀ L s.heap m) (N : News h₀ L s.heap ((P, tabO ps) :: rest)) (hr : ∀ p ∈ rest, p.1 ≠ P)
    (X : (hed.heap_39 w.params).In h₀) (hc : env.code = .ref c) (CT : CodeTab w c P vs) (htr : TriplesOk ps.toList)
    (h : ∀ cv h' tk ps', TabMore ps ps' → (∀ b o, b ≠ P → s.heap.get? b = some o → h'.get? b = some o) → Fr h₀ L h' m → News h₀ L h' ((P, tabO ps') :: rest) → Q cv { s with heap := h', toks := tk }) :
    wpAny (model pw w) A (genexprCode env pos qual scope) Q E s := by
  have hco := F.keep _ _ (X _ _ CT.code)
  have hP := (N _ List.mem_cons_self).1
  have hPL := (N _ List.mem_cons_self).2
  have h11 : vs.getD 11 .none = .ref P := by rw [Array.getD_eq_getD_getElem?, CT.f11]; rfl
  cases hf : codeAmong pos ps.toList with
  | some cv =>
    unfold genexprCode codeAt
    rw [hc, if_neg (show ¬ ((Value.ref c == Value.none) = true) from Bool.false_ne_true)]
    refine wpAny_bind (wpAny_fieldsOf hco rfl ?_)
    rw [h11]
    refine wpAny_bind (wpAny_fieldsOf hP rfl ?_)
    rw [hf]
    exact wpAny_pure (h cv s.heap s.toks ps (.refl htr) (fun _ _ _ e => e) F N)
  | none =>
    obtain ⟨x18, t18, e18⟩ := CT.f18
    obtain ⟨x7, t7, e7⟩ := CT.f7
    obtain ⟨b9, e9⟩ := CT.f9
    obtain ⟨x10, t10, e10⟩ := CT.f10
    refine wpAny_genexprCodeX hc ⟨_, vs, x18, t18, x7, t7, b9, x10, t10, _, hco, rfl, h11, e18, e7, e9, e10, hP, rfl, htr, CT.ne⟩ ⟨⟨_, vs, hco, rfl, rfl, CT.f11⟩, hP⟩ hf fun c' h' tk hx _ _ _ _ ht _ => ?_
    exact h _ h' tk _ ⟨by simpa using TriplesOk_snoc _ _ _ _ htr, _, rfl⟩ hx (Fr.ext F hPL.1 hPL.2 hx) (News.ext N hr hx ht.2)

theorem genN_L {scope : Scope} {C : Addr} {code : Value} {env : Env} {gb : Heap} {x : Str} {pos : Pos} {v : Value} {M : Model} {Q : Value → Shared → Prop} (F : Fr gb C s.heap m) (hv : m x = some v) (h : Q v s)
    (hk : scope.kind = .function) (hl : (genEnv scope [] C code builtinsNs env).kindOf x = some .local) (hd : (x == ("__debug__" : Str)) = false := by decide) :
    wpAny M A (eval (.Name x pos) (genEnv scope [] C code builtinsNs env)) Q E s := wpAny_Name (wpAny_loadName_local hk hl F.ns hv h) hd
theorem genN_B {scope : Scope} {C : Addr} {code : Value} {env : Env} {gb : Heap} {x : Str} {pos : Pos} {v : Value} {M : Model} {Q : Value → Shared → Prop} (F : Fr gb C s.heap m) (X : (hed.heap_39 w.params).In gb) (T : TopRead p loose mg mb gb)
    (e : nsIn (hed.heap_39 w.params) mainGlobals x = some none) (hv : bootBuiltins x = some v) (hn : x ≠ "__name__") (h : Q v s)
    (hk : scope.kind = .function) (hg : env.globals = mainGlobals) (hl : (genEnv scope [] C code builtinsNs env).kindOf x = some .globalImplicit) (hd : (x == ("__debug__" : Str)) = false := by decide) :
    wpAny M A (eval (.Name x pos) (genEnv scope [] C code builtinsNs env)) Q E s :=
  Name_function_global hk hl (loadGlobal_builtin (env := genEnv scope [] C code builtinsNs env) (hg ▸ T.g.keeps F.keep) (mg_none_of X T.g e) (T.b.keeps F.keep) ((T.builtins x hn).trans hv) h) hd
theorem genN_K {scope : Scope} {C : Addr} {code : Value} {env : Env} {gb : Heap} {x : Str} {pos : Pos} {v : Value} {M : Model} {Q : Value → Shared → Prop} (F : Fr gb C s.heap m) (X : (hed.heap_39 w.params).In gb) (T : TopRead p loose mg mb gb)
    (e : nsIn (hed.heap_39 w.params) mainGlobals x = some (some v)) (h : Q v s)
    (hk : scope.kind = .function) (hg : env.globals = mainGlobals) (hl : (genEnv scope [] C code builtinsNs env).kindOf x = some .globalImplicit) (hd : (x == ("__debug__" : Str)) = false := by decide) :
    wpAny M A (eval (.Name x pos) (genEnv scope [] C code builtinsNs env)) Q E s :=
  Name_function_global hk hl (loadGlobal_global (env := genEnv scope [] C code builtinsNs env) (hg ▸ T.g.keeps F.keep) (mg_of X T.g e) h) hd

/-- a generator expression over the pairs of an _Accumulator is made. -/
theorem genexp_K {env : Env} {c P a dx : Addr} {ts : List Addr} {n : Nat} {vl vw : Value} {vs ps : Array Value} {pos px py tp ip : Pos} {kk : Nat} {x y slf : Str} {scope : Scope} {elt : Expr} {rest : List (Addr × Obj)} {PV : Value → Prop} {Q : Value → Shared → Prop}
    (F : Fr h₀ L s.heap m) (N : News h₀ L s.heap ((P, tabO ps) :: rest)) (hr : ∀ p ∈ rest, p.1 ≠ P) (G : Gd w p loose mg mb h₀)
    (hc : env.code = .ref c) (CT : CodeTab w c P vs) (htr : TriplesOk ps.toList) (heg : env.globals = mainGlobals)
    (hacc : (a, accObj dx (ts.map .ref) n) ∈ rest) (hts : ∀ t ∈ ts, (t, tupO [vl, vw]) ∈ rest)
    (hself : wpAny (model pw w) A (eval (.Name slf ip) env) (fun v s' => v = .ref a ∧ s' = s) E s)
    (hco : scope.isCoroutine = false) (hclos : closureFor scope env = pure []) (hcell : ∀ y ∈ scope.names, y.2 ≠ .cell) (h0 : scope.names.lookup (".0" : Str) = some NameKind.local) (hkind : scope.kind = .function)
    (hx : scope.names.lookup x = some .local) (hy : scope.names.lookup y = some .local) (hxy : x ≠ y) (hroom : A.depth < recursionLimit)
    (helt : ∀ (A' : Around) (C : Addr) (code : Value) (gb : Heap) (s : Shared) (m : Str → Option Value) (Q : Value → Shared → Prop) (E : Value → Shared → Prop), A'.handled = none → Gd w p loose mg mb gb → Fr gb C s.heap m → m x = some vl → m y = some vw →
      (∀ v h' tk', PV v → s.heap.StaysIn h' → Q v { s with heap := h', toks := tk' }) →
      wpAny (model pw w) A' (eval elt (genEnv scope [] C code builtinsNs env)) Q E s)
    (h : ∀ ga I C h' tk gs ps', gs.bare = true → TabMore ps ps' → Fr h₀ L h' m → News h₀ L h' ((P, tabO ps') :: rest) → h'.IsGen ga s.gens.size →
      (∀ b ∈ ga :: C :: I :: a :: (ts ++ List.range h₀.objs.size), b < h'.objs.size) → (C ≠ L ∧ I ≠ L ∧ ∀ q ∈ (P, tabO ps') :: rest, q.1 ≠ C ∧ q.1 ≠ I) → h₀.objs.size ≤ C → h₀.objs.size ≤ I →
      (∀ B : Around, B.handled = none → B.depth < recursionLimit → WalksS pw w B ga (ga :: C :: I :: a :: (ts ++ List.range h₀.objs.size)) [C, I] (GenOnlyQ s.gens.size) ts.length (fun _ v => PV v) (PairGen w B h₀ ga s.gens.size C I a ts PV) ∧
        PairGen w B h₀ ga s.gens.size C I a ts PV 0 { s with heap := h', toks := tk, gens := s.gens.push gs }) →
      Q (.ref ga) { s with heap := h', toks := tk, gens := s.gens.push gs }) :
    wpAny (model pw w) A (eval (.GeneratorExp elt [⟨.Tuple [.Name x px, .Name y py] kk tp, .Name slf ip, [], 0⟩] scope pos) env) Q E s := by
  obtain ⟨bm, ob, M⟩ := G.M
  have hac := (N _ (List.mem_cons_of_mem _ hacc)).1
  refine wpAny_GeneratorExp_make hco hclos hcell h0 hkind hroom (wpAny_mono hself (fun xv s₁ hs₁ => ?_) fun _ _ e => e) (fun _ => by with_unfolding_all rfl)
  obtain ⟨rfl, rfl⟩ := hs₁
  refine acc_iter (G.X.keeps F.keep) hac ⟨(G.T.nolimit.keeps F.keep).push _, ?_⟩
  have F₂ := F.push (o := { cls := .type "list_iterator", data := .fields #[.ref a, .int 0 0] })
  have N₂ := fun q hq => News.push F N { cls := .type "list_iterator", data := .fields #[.ref a, .int 0 0] } (hfree := rfl) q (List.mem_cons_of_mem _ hq)
  have hI₂ := News.push F N { cls := .type "list_iterator", data := .fields #[.ref a, .int 0 0] } (hfree := rfl) _ List.mem_cons_self
  have hIP : s₁.heap.objs.size ≠ P := Nat.ne_of_gt (Heap.lt_size (N _ List.mem_cons_self).1)
  refine genCode_K (rest := rest) F₂ N₂ hr G.X hc CT htr fun code h₃ tk₃ ps₃ htm hk₃ F₃ N₃ => ?_
  have hI₃ := hk₃ _ _ hIP hI₂.1
  refine wpAny_builtinsFor (heg ▸ M.ns.keeps F₃.keep) M.name M.ne (F₃.keep _ _ M.obj) M.cls M.dict M.data ?_
  intro h' hn' hs'
  dsimp only at hn' hs' ⊢
  have hsz' : h'.objs.size = h₃.objs.size + 1 := by rw [hs'.1, Heap.size_push]
  have keep' : ∀ b o, h₃.get? b = some o → h'.get? b = some o := fun b o e => hs'.extBut b o (Nat.ne_of_lt (Heap.lt_size e)) (Heap.get?_push_of_some _ e)
  have keep₅ : ∀ {o}, ∀ b ob, h₃.get? b = some ob → (h'.push o).get? b = some ob := fun b ob e => Heap.get?_push_of_some _ (keep' b ob e)
  have hgb : h₀.objs.size ≤ s₁.heap.objs.size := Nat.le_of_lt (Nat.lt_of_le_of_lt F.above F.ns.lt)
  have hIlt : s₁.heap.objs.size < h₃.objs.size := Heap.lt_size hI₃
  have hgI : h₀.get? s₁.heap.objs.size = none := hI₂.2.2
  have fr' : ∀ o, Fr h₀ L (h'.push o) m := fun o => F₃.keeps (keep₅ (o := o))
  have st5 : ∀ o, h₀.StaysIn (h'.push o) := fun o => (fr' o).keep
  have acc5 : ∀ {o}, (h'.push o).get? a = some (accObj dx (ts.map .ref) n) := fun {o} => keep₅ _ _ (N₃ _ (List.mem_cons_of_mem _ hacc)).1
  have tup5 : ∀ {o}, ∀ t ∈ ts, (h'.push o).get? t = some (tupO [vl, vw]) := fun {o} t ht => keep₅ _ _ (N₃ _ (List.mem_cons_of_mem _ (hts t ht))).1
  have lt3 : ∀ q ∈ (P, tabO ps₃) :: rest, q.1 < h₃.objs.size := fun q hq => Heap.lt_size (N₃ q hq).1
  have neI : ∀ q ∈ (P, tabO ps₃) :: rest, q.1 ≠ s₁.heap.objs.size := fun q hq => by
    rcases List.mem_cons.mp hq with rfl | hq
    · exact Ne.symm hIP
    · exact Nat.ne_of_lt (Heap.lt_size (N _ (List.mem_cons_of_mem _ hq)).1)
  refine h h'.objs.size s₁.heap.objs.size h₃.objs.size _ _ _ ps₃ ?bare htm (fr' _) (fun q hq => ⟨keep₅ _ _ (N₃ q hq).1, (N₃ q hq).2⟩) ⟨_, _, _, Heap.get?_push_size _ rfl, rfl, rfl, rfl⟩ ?lt ⟨Nat.ne_of_gt F₃.ns.lt, Nat.ne_of_gt F.ns.lt, fun q hq => ⟨Nat.ne_of_lt (lt3 q hq), neI q hq⟩⟩ (Nat.le_trans hgb (Nat.le_of_lt hIlt)) hgb fun B hB hBd => ⟨walks_pairs hB hBd G.T.nolimit (Nat.le_trans hgb (Nat.le_of_lt hIlt)) hgI (by rw [hsz']; exact Nat.succ_ne_self _) (neN (by rw [hsz']; omega)), ⟨_, _, _, Heap.get?_push_size _ rfl, rfl, rfl, rfl⟩, st5 _, _, Array.getElem?_push_size .., fun s'' hg'' hal => ⟨rfl, ?_⟩⟩
  case bare => rfl
  case lt =>
    intro b hb
    refine ltN ?_
    rw [Heap.size_push, hsz']
    simp only [List.mem_cons, List.mem_append, List.mem_range] at hb
    rcases hb with rfl | rfl | rfl | rfl | hb | hb
    · omega
    · omega
    · omega
    · have := ltN (lt3 _ (List.mem_cons_of_mem _ hacc)); dsimp only at this; omega
    · have := ltN (lt3 _ (List.mem_cons_of_mem _ (hts b hb))); dsimp only at this; omega
    · omega
  · have at5 : PairsAt h₀ h₃.objs.size s₁.heap.objs.size a dx ts n vl vw 0 (h'.push { cls := .type "generator", data := .fields #[.int s₁.gens.size 0, .str "<genexpr>" (tk₃ + 1), .str (env.qual ++ "<genexpr>") (tk₃ + 1 + 1)] }) :=
      ⟨⟨_, hn'.push _, st5 _, Nat.le_trans hgb (Nat.le_of_lt hIlt)⟩, ⟨_, keep₅ _ _ hI₃, rfl, rfl⟩, acc5, tup5⟩
    refine seg_pairsStart (A := B.in1) hB (cenv := genEnv scope [] h₃.objs.size code builtinsNs env) rfl (by exact (by simp [Env.kindOf, genEnv, hx])) (by simp [Env.kindOf, genEnv, hy]) hxy (by simp [genEnv, hkind]) hco (Nat.ne_of_gt hIlt) ?_ ?_ ?_ ?_ hgI (fun A' s m Q E hA F h1 h2 h3 => helt A' _ _ h₀ s m Q E hA G F h1 h2 h3) s'' s'' (at5.pass hg'' hal) (GenSince.refl _ _ _)
    · exact Nat.ne_of_gt (lt3 _ (List.mem_cons_of_mem _ hacc))
    · exact (neI _ (List.mem_cons_of_mem _ hacc)).symm
    · exact fun t ht => Nat.ne_of_lt (lt3 _ (List.mem_cons_of_mem _ (hts t ht)))
    · exact fun t ht => neI _ (List.mem_cons_of_mem _ (hts t ht))
end
end Mine
namespace Mine
open PySem PySem.W PySem.Calls PyProof.Rows Builtin Builtin.ObjectAttr

theorem entry_lga : entryFor table "list.__getattribute__" = some Builtin.«object.__getattribute__» :=
  entryFor_alias (id' := "object.__getattribute__") (by kernel_rfl) rfl (by decide +kernel) (by kernel_rfl)
theorem canon_lga : (Manifest.canonical "list.__getattribute__" != "object.__getattribute__") = false := by decide +kernel

section
variable {w : World} {A : Around} {E : Value → Shared → Prop} {s : Shared} {a dx : Addr} {its : List Value} {n dn : Nat} {es : List DictEntry} {name : Str}

theorem acc_inst {h : Heap} (ha : h.get? a = some (accObj dx its n)) (hd : h.get? dx = some (dictOf es dn)) : InstAt h a (accObj dx its n) 178 (some (dictOf es dn)) := ⟨ha, rfl, rfl, hd⟩

theorem acc_get {v : Value} {expr : Bool} {Q : Value → Shared → Prop} (X : (hed.heap_39 w.params).In s.heap) (ha : s.heap.get? a = some (accObj dx its n)) (hd : s.heap.get? dx = some (dictOf es dn))
    (hn : findIn (hed.heap_39 w.params) (.ref 178) name = some none) (hl : getL name es = some (some v)) (hv : handedIn v = true) (h : Q v { s with toks := s.toks + 1 }) :
    wpAny (model pw w) A (getAttr (.ref a) name expr) Q E s := by
  have I := acc_inst ha hd
  have hf : findObj (hed.heap_39 w.params) 178 (some (dictOf es dn)) name = some (.value v) := findObj_own (attr := none) (by k_is) hn (by k_is) hl
  obtain ⟨hh, g, d, t, os⟩ := s
  dsimp only at X ha hd I
  have L0 : Looks (model pw w) hh (typeOf (.ref a)) (.ref 178) := I.type
  have L1 : Looks (model pw w) hh (typeLookup (.ref 178) "__getattribute__") (some (.builtin "list.__getattribute__")) := looks_findIn X (by k_is)
  have L2 : Looks (model pw w) hh (typeLookup (.ref 178) "__getattr__") none := looks_findIn X (by k_is)
  have L3 : Looks (model pw w) hh (find (.ref a) (.ref 178) name) (.value v) := looks_find X I hf
  unfold getAttr getAttrBy
  refine wpAny_bind (wpAny_mkText (wpAny_holding (wpAny_bind (L0.at (wpAny_bind (L1.at ?_))))))
  dsimp only
  rw [show (onTheHeap (.ref 178) && Value.builtin "list.__getattribute__" == Value.builtin "object.__getattribute__") = false from by rw [show (Value.builtin "list.__getattribute__" == Value.builtin "object.__getattribute__") = false from by decide +kernel, Bool.and_false], if_neg (by decide)]
  unfold getAttrByItsOwn
  refine wpAny_bind ((show Looks (model pw w) hh (hookBefore (.ref 178)) none from L2).at (wpAny_bind (wpAny_attempt (wpAny_holding ?_))))
  unfold callGetattribute
  rw [show (expr && onTheHeap (Value.builtin "list.__getattribute__")) = false from Bool.and_false _, if_neg (by decide)]
  unfold boundAndCalled
  rw [PySem.F.slot_list_getattribute.bind]
  refine wpAny_bind (wpAny_pure ?_)
  refine acc_call (nm := "__getattribute__") X ha (.inl (by decide +kernel)) (by decide +kernel) (by decide +kernel) entry_lga (PySem.F.args_list_getattribute_2 _ _) ?_
  unfold Builtin.«object.__getattribute__»
  refine wpAny_bind (wpAny_pure (wpAny_bind (wpAny_pure (wpAny_bind (L0.at (wpAny_bind (L3.at ?_)))))))
  refine wpAny_pure ⟨v, rfl, ?_⟩
  show wpAny _ _ (handedOut v) _ _ _
  rw [handedOut_of hv]; exact wpAny_pure h

theorem acc_method {f : Value} {tf : Value} {pl : Sem Bool} {Q : Value × List Value → Shared → Prop} (X : (hed.heap_39 w.params).In s.heap) (ha : s.heap.get? a = some (accObj dx its n)) (hd : s.heap.get? dx = some (dictOf es dn))
    (hf : findIn (hed.heap_39 w.params) (.ref 178) name = some (some f)) (ht : Looks (model pw w) s.heap (typeOf f) tf) (htf : (tf != .type "function" && tf != .type "method_descriptor" && tf != .type "wrapper_descriptor") = false)
    (hs : getL name es = some none) (h : Q (f, [.ref a]) s) :
    wpAny (model pw w) A (getMethod (.ref a) name pl) Q E s := by
  have I := acc_inst ha hd
  have L1 : Looks (model pw w) s.heap (typeLookup (.ref 178) "__getattribute__") (some (.builtin "list.__getattribute__")) := looks_findIn X (by k_is)
  have L2 : Looks (model pw w) s.heap (typeLookup (.ref 178) "__getattr__") none := looks_findIn X (by k_is)
  unfold getMethod specialOf
  refine wpAny_bind (wpAny_bind (I.type.here (L1.here ?_)))
  dsimp only
  rw [canon_lga, if_neg (by decide)]
  refine wpAny_bind (wpAny_bind (I.type.here (L2.here ?_)))
  refine wpAny_bind (wpAny_bind (I.type.here ((looks_findIn X hf).here (wpAny_bind (ht.here ?_)))))
  rw [htf, if_neg (by decide)]
  refine wpAny_bind (wpAny_loadPart ha ?_)
  refine wpAny_bind (wpAny_bind (wpAny_loadPart hd ?_))
  rw [nsLook_of (show lookIn name (dictOf es dn) = some none from hs)]
  exact wpAny_pure (wpAny_bind (wpAny_rule (wpAny_pure h)))

theorem slot_call {id o nm : String} {b : Builtin} {self : Value} {rest : List Value} {R : Result → Shared → Prop} (hp : plainId id = true) (hb : entryFor table id = some b) (hk : builtinKind id = some .slot) (hs : splitId id = some (o, nm))
    (hi : Looks (model pw w) s.heap (isInstance self (.type o)) true) (ha : argsOk id ⟨self :: rest, []⟩)
    (h : wpAny (model pw w) A.in1 (b ⟨self :: rest, []⟩) (fun fin s' => match fin with | .done f => R (.ok f) s' | .again c' => c'.quiet = true ∧ codeAny (model pw w) A c' R s') (fun e s' => R (.error e) s') s) :
    codeAny (model pw w) A (.call (.builtin id) ⟨self :: rest, []⟩) R s := codeAny_call_builtin hp hb (check_any (.inl hk) hs hi ha h)

theorem acc_set {h₀ : Heap} {L : Addr} {m : Str → Option Value} {v : Value} {es' : List DictEntry} {dn' : Nat} {rest : List (Addr × Obj)} {Q : Unit → Shared → Prop} (F : Fr h₀ L s.heap m) (N : News h₀ L s.heap ((dx, dictOf es dn) :: rest)) (hr : ∀ p ∈ rest, p.1 ≠ dx)
    (X : (hed.heap_39 w.params).In h₀) (ha : (a, accObj dx its n) ∈ rest) (hf : findIn (hed.heap_39 w.params) (.ref 178) name = some none) (hl : (getL name es).isSome = true)
    (e : (putL name (PyData.keyHash w.params name) (.str name (s.toks + 1)) v es, putN name es dn) = (es', dn')) (hz : es'.length ≤ 1000)
    (h : ∀ h', Fr h₀ L h' m → News h₀ L h' ((dx, dictOf es' dn') :: rest) → Q () { s with heap := h', toks := s.toks + 2 }) :
    wpAny (model pw w) A (setAttr (.ref a) name v) Q E s := by
  obtain ⟨hh, g, d, tk0, os⟩ := s
  dsimp only at F N e h
  have X' := X.keeps F.keep
  have ha' := (N _ (List.mem_cons_of_mem _ ha)).1
  have hd' := (N _ List.mem_cons_self).1
  have I := acc_inst ha' hd'
  obtain ⟨e1, e2⟩ := Prod.mk.inj e
  refine set_plain X' I (by k_is) ?_
  have SF := PySem.F.store_object
  have sub : Looks (model pw w) hh (isInstance (.ref a) (.type "object")) true := I.type.andThen (looks_subIn X' (by k_is))
  refine slot_call SF.slot.plain SF.entry SF.kind SF.split sub (SF.args (.ref a) (.str name tk0) v) ?_
  have hm : Looks (model pw w) hh (refuseIfOverridden (.ref a) "__setattr__") () := by
    unfold refuseIfOverridden
    refine I.type.andThen (Looks.of_peek X' ?_)
    kernel_rfl
  have ha2 : Looks (model pw w) hh (typeLookup (.ref 178) name) none := looks_findIn X' hf
  obtain ⟨U1, U2⟩ := news_upd (pre := []) (f := Obj.putName name (PyData.keyHash w.params name) (.str name (tk0 + 1)) v) F N (fun _ h => nomatch h) hr (o' := dictOf es' dn') (by rw [putName_dict, e1, e2]) rfl
  have D' := (U2 (dx, dictOf es' dn') (by simp)).1
  unfold Builtin.«object.__setattr__»
  refine wpAny_bind (hm.at ?_)
  refine wpAny_bind (wpAny_pure (wpAny_bind (I.type.at (wpAny_bind (ha2.at (wpAny_bind (wpAny_pure ?_)))))))
  dsimp only
  unfold storeInOwnDict ownDictForStores instanceDict
  refine wpAny_bind (wpAny_pure (wpAny_bind (wpAny_bind (wpAny_loadPart ha' ?_))))
  obtain ⟨cd, hcd, hdd⟩ := any_some (show (clsIn (hed.heap_39 w.params) 178).any (·.hasDict) = true from by have : hasDictIn (hed.heap_39 w.params) 178 = true := by k_is
                                                                                                            exact this)
  refine wpAny_bind ((looks_clsIn X' hcd).at ?_)
  rw [hdd]
  refine wpAny_pure (a := some dx) ?_
  dsimp only
  unfold storeInDict
  refine wpAny_bind (wpAny_pure (wpAny_bind ?_))
  unfold nsSet
  refine wpAny_bind (wpAny_bind (wpAny_askSetting (wpAny_pure (wpAny_bind (wpAny_mkText (wpAny_bind (wpAny_loadPart hd' ?_)))))))
  dsimp only
  have c : aRefKeyMayBeTheName name es.toArray = false := by
    rw [aRefKeyMayBeTheName_at, ← Array.any_toList, ← Array.any_toList]
    unfold getL at hl
    dsimp only
    split at hl
    · rename_i en he
      rw [List.any_eq_true.mpr ⟨en, List.mem_of_find?_eq_some he, List.find?_some he⟩]; rfl
    · split at hl
      · cases hl
      · rename_i z; rw [Bool.not_eq_true] at z; rw [z, Bool.and_false]
  rw [c]
  refine wpAny_updatePart hd' ?_
  refine wpAny_bind (wpAny_lookBehind D' (pastItsLine_dict (by rw [List.size_toArray, sizeLine_eq]; omega)) ?_)
  exact wpAny_pure (h _ U1 U2)
end
end Mine
namespace Mine
open PySem PySem.W PySem.Calls PyProof.Rows

theorem Fr.writes {h₀ h h' : Heap} {L : Addr} {m : Str → Option Value} {wr : List Addr} (F : Fr h₀ L h m) (hk : ∀ b o, b ∉ wr → h.get? b = some o → h'.get? b = some o) (hL : L ∉ wr) (hg : ∀ b ∈ wr, h₀.objs.size ≤ b) : Fr h₀ L h' m :=
  ⟨F.ns.at' fun o e => hk _ o hL e, fun b o e => hk b o (fun q => Nat.lt_irrefl _ (Nat.lt_of_lt_of_le (Heap.lt_size e) (hg b q))) (F.keep b o e), F.above⟩
theorem News.writes {h₀ h h' : Heap} {L : Addr} {wr : List Addr} {news : List (Addr × Obj)} (N : News h₀ L h news) (hk : ∀ b o, b ∉ wr → h.get? b = some o → h'.get? b = some o) (hw : ∀ q ∈ news, q.1 ∉ wr) : News h₀ L h' news :=
  fun q hq => ⟨hk _ _ (hw q hq) (N q hq).1, (N q hq).2⟩

/-- the same, told what is left alone: the callee's base is the caller's heap without the ledger. -/
theorem code_KX {w : World} {A : Around} {s : Shared} {h₀ : Heap} {L : Addr} {m : Str → Option Value} {news : List (Addr × Obj)} {R : Result → Shared → Prop} {name qual : Str} {params : Arguments} {body : List Stmt} {scope : Scope} {dV kV doc pm cdv ct oc : Value} {an od : Option Addr} {osl : Array (Option Value)} {f : Addr} {args : Args} {binds : List (Str × Value)} {K : Frag}
    {p : Program} {loose : List Str} {mg mb : Str → Option Value}
    (F : Fr h₀ L s.heap m) (N : News h₀ L s.heap news) (X : K.In h₀) (T : TopRead p loose mg mb h₀)
    (ho : K.lookup f = some ⟨oc, od, .func (fnOf name qual params body scope dV kV doc pm an cdv ct), osl⟩) (hcd : codeIn K cdv qual = true) (hroom : A.depth < recursionLimit)
    (hbind : BindsTo s (fnOf name qual params body scope dV kV doc pm an cdv ct) args binds) (hloc : ∀ y ∈ binds, scope.names.lookup y.1 = some .local)
    (h : ∀ g L' h₁, h₀.StaysIn g → Fr h₀ L g m → Fr g L' h₁ (fun y => binds.reverse.lookup y) → News g L' h₁ news → K.In g → TopRead p loose mg mb g → (∀ p ∈ news, p.1 < L') →
      wpAny (model pw w) (A.deeper (envOf qual scope L' f cdv)) (execs body (envOf qual scope L' f cdv))
        (fun fl s' => LeaveK h₀ L m g (fun r s' => (∀ b o, b ∉ news.map (·.1) → s.heap.get? b = some o → s'.heap.get? b = some o) → R r s') (match fl with | .ret v => v | _ => .none) s')
        (fun e s' => wpAny (model pw w) (A.deeper (envOf qual scope L' f cdv)) (leaving (envOf qual scope L' f cdv) e) (fun _ s'' => R (.error e) s'') (fun e' s'' => R (.error e') s'') s')
        { s with heap := h₁, toks := s.toks + binds.length })
    (hco : scope.isCoroutine = false := by rfl) (hgen : scope.isGenerator = false := by rfl) (hk : scope.kind = .function := by rfl)
    (hcell : ∀ x ∈ scope.names, x.2 ≠ .cell := by decide) : codeAny (model pw w) A (.call (.ref f) args) R s := by
  have X' := X.keeps F.keep
  refine codeAny_call_def (fd := fnOf name qual params body scope dV kV doc pm an cdv ct) (body := body) (binds := binds) hroom (X' _ _ ho) rfl (T.nolimit.keeps F.keep) (codeRec_of X' hcd) rfl hbind hcell hloc (fun h₁ hns hk₁ => ?_) hco hgen hk
  have nm : ∀ b o, h₀.get? b = some o → b ∉ news.map (·.1) := fun b o e q => by
    obtain ⟨p, hp, rfl⟩ := List.mem_map.mp q
    rw [(N p hp).2.2] at e; cases e
  have st : h₀.StaysIn (hideAll s.heap (news.map (·.1))) := fun b o e => hideAll_get _ (F.keep b o e) (nm b o e)
  obtain ⟨oL, es, ep, hL, hLd, hLk, hLf⟩ := F.ns
  have nL : L ∉ news.map (·.1) := fun q => by
    obtain ⟨p, hp, e⟩ := List.mem_map.mp q
    exact (N p hp).2.1 e
  have hLg := hideAll_get (news.map (·.1)) hL nL
  refine wpAny_mono (h _ s.heap.objs.size h₁ st ⟨⟨oL, es, ep, hLg, hLd, hLk, hLf⟩, st, F.above⟩ ⟨hns, fun b o e => hk₁ b o (of_hideAll _ e), Nat.le_of_eq (hideAll_size _ _)⟩
    (fun p hp => ⟨hk₁ _ _ (N p hp).1, Nat.ne_of_lt (Heap.lt_size (N p hp).1), hideAll_none _ (List.mem_map_of_mem hp)⟩) (X.keeps st) (T.keeps st) (fun p hp => Heap.lt_size (N p hp).1)) (fun fl s' hl => ?_) fun _ _ y => y
  obtain ⟨L', m', news', F', N', k⟩ := hl
  refine k ⟨⟨oL, es, ep, F'.keep L oL hLg, hLd, hLk, hLf⟩, fun b o e => F'.keep b o (st b o e), F.above⟩ (fun p hp => ⟨(N' p hp).1, fun q => ?_, ?_⟩) fun b o hb e => F'.keep b o (hideAll_get _ e hb)
  · have := (N' p hp).2.2; rw [q, hLg] at this; cases this
  · cases q : h₀.get? p.1 with
    | none => rfl
    | some o => have := (N' p hp).2.2; rw [st _ _ q] at this; cases this

section
variable {w : World} {dp un : Nat} {fr : Option (List Env)} {gd : Option (List Code)} {s : Shared} {h₀ : Heap} {L : Addr} {m : Str → Option Value} {p : Program} {loose : List Str} {mg mb : Str → Option Value} {a dx : Addr} {ts : List Addr} {n dn : Nat} {es : List DictEntry} {rest : List (Addr × Obj)} {E : Value → Shared → Prop}

theorem acc_len_KX {ps : Array Value} {sl sw : Str} {tl tw tc : Tok} {c : Int} {Q : Value → Shared → Prop}
    (F : Fr h₀ L s.heap m) (N : News h₀ L s.heap ((140, tabO ps) :: rest)) (hr : ∀ p ∈ rest, p.1 ≠ 140) (G : Gd w p loose mg mb h₀)
    (hacc : (a, accObj dx (ts.map .ref) n) ∈ rest) (hdx : (dx, dictOf es dn) ∈ rest) (hes : getL "_initial_size" es = some (some (.int c tc))) (hts : ∀ t ∈ ts, (t, tupO [.str sl tl, .str sw tw]) ∈ rest) (htr : TriplesOk ps.toList)
    (hdp : dp < 900) (hsl : ¬ (sl.length : Int) ≥ 2 ^ 63) (hsw : ¬ (sw.length : Int) ≥ 2 ^ 63)
    (h : ∀ t' h' tk' gs' ps', TabMore ps ps' → Fr h₀ L h' m → News h₀ L h' ((140, tabO ps') :: rest) → GX s.gens gs' → (∀ b o, b ∉ ((140, tabO ps) :: rest).map (·.1) → s.heap.get? b = some o → h'.get? b = some o) → Q (.int (c + ts.length * (sl.length + sw.length)) t') { s with heap := h', toks := tk', gens := gs' }) :
    wpAny (model pw w) (AR dp un fr gd) (call (.ref 145) [.ref a]) Q E s := by
  refine wpAny_call ?_
  refine' code_KX (binds := [("self", .ref a)]) F N G.X G.T ?k6 ?k7 ?k8 ?k9 ?kB ?_ ?c1 ?c2 ?c3 ?c4
  case k6 => k_is
  case k7 => k_is
  case k8 => exact Nat.lt_trans hdp (by decide)
  case k9 => exact BindsTo.of_eq rfl
  case kB => exact locs rfl
  case c1 => exact rfl
  case c2 => exact rfl
  case c3 => exact rfl
  case c4 => decide
  intro g L' h₁ st FG F N X T hlt
  dsimp only
  k_fold
  have G' := G.keeps st
  k_with_none
  k_steps
  rename Fr _ _ _ _ => lF
  rename News _ _ _ _ => lN
  refine' genexp_K (c := 144) (P := 140) (PV := fun v => ∃ t, v = .int (sl.length + sw.length) t) lF lN hr G' rfl ⟨by k_is, rfl, ⟨_, _, rfl⟩, ⟨_, _, rfl⟩, ⟨_, rfl⟩, ⟨_, _, rfl⟩, by decide⟩ htr rfl hacc hts ?gself rfl rfl (by decide) rfl rfl rfl rfl (by decide) ?groom ?gelt ?gh
  case gself => exact nameX_L lF rfl ⟨rfl, rfl⟩ rfl rfl
  case groom => show dp + 1 < recursionLimit; exact Nat.lt_of_le_of_lt (Nat.succ_le_of_lt hdp) (by decide)
  case gelt =>
    intro A' C code gb s m Q E hA Gg F h1 h2 hq
    obtain ⟨hd', dp', fr', gd', un'⟩ := A'
    dsimp only at hA
    subst hA
    have X := Gg.X
    have T := Gg.T
    k_with "eval Name" => first
      | refine genN_L F h1 ?_ rfl rfl
      | refine genN_L F h2 ?_ rfl rfl
      | refine genN_B F X T (by k_is) (by boot_fast) (by decide) ?_ rfl rfl rfl
    k_steps
    exact hq _ _ _ ⟨_, rfl⟩ (fun _ _ e => e)
  intro ga I C h' tk gs ps' hgb tm F N hg hfp hne hC hI W
  clear lF lN
  k_steps
  refine acc_get (G'.X.keeps F.keep) (N _ (List.mem_cons_of_mem _ hacc)).1 (N _ (List.mem_cons_of_mem _ hdx)).1 (by k_is) hes rfl ?_
  k_steps
  refine sum_from (W _ rfl ?dpt).1 hg (W _ rfl ?dpt).2 hfp (fun _ h => h) fun s' t' hk hG hd ho => ?_
  case dpt => exact Nat.lt_of_le_of_lt (Nat.succ_le_of_lt hdp) (by decide)
  obtain ⟨hh, gs', dr, tk', os⟩ := s'
  dsimp only at hk hG hd ho
  subst hd ho
  have hw : ∀ q ∈ (140, tabO ps') :: rest, q.1 ∉ [C, I] := fun q hq => by
    have := hne.2.2 q hq
    simp [this.1, this.2]
  refine ⟨L', _, _, Fr.writes F hk ?_ ?_, News.writes N hk hw, fun F' N' hs => h _ _ _ _ _ tm F' N' (GX.only hgb hG) hs⟩
  · simp [Ne.symm hne.1, Ne.symm hne.2.1]
  · intro b hb; rcases List.mem_cons.mp hb with rfl | hb
    · exact hC
    · rw [List.mem_singleton.mp hb]; exact hI

theorem acc_len_K {ps : Array Value} {sl sw : Str} {tl tw tc : Tok} {c : Int} {Q : Value → Shared → Prop}
    (F : Fr h₀ L s.heap m) (N : News h₀ L s.heap ((140, tabO ps) :: rest)) (hr : ∀ p ∈ rest, p.1 ≠ 140) (G : Gd w p loose mg mb h₀)
    (hacc : (a, accObj dx (ts.map .ref) n) ∈ rest) (hdx : (dx, dictOf es dn) ∈ rest) (hes : getL "_initial_size" es = some (some (.int c tc))) (hts : ∀ t ∈ ts, (t, tupO [.str sl tl, .str sw tw]) ∈ rest) (htr : TriplesOk ps.toList)
    (hdp : dp < 900) (hsl : ¬ (sl.length : Int) ≥ 2 ^ 63) (hsw : ¬ (sw.length : Int) ≥ 2 ^ 63)
    (h : ∀ t' h' tk' gs' ps', TabMore ps ps' → Fr h₀ L h' m → News h₀ L h' ((140, tabO ps') :: rest) → GX s.gens gs' → Q (.int (c + ts.length * (sl.length + sw.length)) t') { s with heap := h', toks := tk', gens := gs' }) :
    wpAny (model pw w) (AR dp un fr gd) (call (.ref 145) [.ref a]) Q E s :=
  acc_len_KX F N hr G hacc hdx hes hts htr hdp hsl hsw fun t' h' tk' gs' ps' tm F' N' gx _ => h t' h' tk' gs' ps' tm F' N' gx
end
end Mine
namespace Mine
open PySem PySem.W PySem.Calls PyProof.Rows

section
variable {w : World} {A : Around} {E : Value → Shared → Prop} {s : Shared} {env : Env} {a dx : Addr} {its : List Value} {n : Nat}

theorem mapSeq_acc (f : Array Value → Array Value) : ∃ n', Obj.mapSeq f (accObj dx its n) = accObj dx (f its.toArray).toList n' := by
  simp only [Obj.mapSeq, Array.toArray_toList]
  exact ⟨_, rfl⟩

theorem acc_update (ha : s.heap.get? a = some (accObj dx its n)) (f : Array Value → Array Value) (hz : its.length ≤ 1000) (hz' : (f its.toArray).size ≤ 1001) {Q : Unit → Shared → Prop}
    (h : ∀ h' n', h'.get? a = some (accObj dx (f its.toArray).toList n') → Heap.ExtBut a s.heap h' → Q () { s with heap := h' }) : wpAny (model pw w) A (Builtin.List.listUpdate (.ref a) f) Q E s := by
  refine wpAny_updateSeq ha rfl ?_ ?_ ?_
  · obtain ⟨n', e⟩ := mapSeq_acc (dx := dx) (its := its) (n := n) f
    refine h _ n' ?_ (Heap.SameBut.update ..).extBut
    rw [Heap.get?_update_self _ ha (by rw [e]; rfl), e]
  · have : its.toArray.size ≤ 1000 := by simpa using hz
    exact Nat.le_trans this (by decide)
  · exact Nat.le_trans hz' (by decide)

theorem e_list_pop : entryFor table "list.pop" = some Builtin.«list.pop» := entryFor_of_tree (by kernel_rfl)
theorem a_list_pop (a : Value) : argsOk "list.pop" ⟨[a], []⟩ := by unfold argsOk; kernel_rfl
theorem e_list_init : entryFor table "list.__init__" = some Builtin.«list.__init__» := entryFor_of_tree (by kernel_rfl)
theorem a_list_init (a : Value) : argsOk "list.__init__" ⟨[a], []⟩ := by unfold argsOk; kernel_rfl

theorem acc_append {v : Value} {Q : Value → Shared → Prop} (X : (hed.heap_39 w.params).In s.heap) (ha : s.heap.get? a = some (accObj dx its n)) (hz : its.length ≤ 1000)
    (h : ∀ h' n', h'.get? a = some (accObj dx (its ++ [v]) n') → Heap.ExtBut a s.heap h' → Q .none { s with heap := h' }) :
    wpAny (model pw w) A (call (.builtin "list.append") [.ref a, v]) Q E s := by
  refine acc_call (nm := "append") X ha (.inr (by decide +kernel)) (by decide +kernel) (by decide +kernel) entry_list_append (args_list_append _ _) ?_
  show wpAny _ _ (Builtin.List.listUpdate (.ref a) (·.push v) >>= fun _ => ret .none) _ _ s
  refine wpAny_bind (acc_update ha _ hz (by simpa using hz) fun h' n' e x => wpAny_pure ⟨.none, rfl, h h' n' (by simpa using e) x⟩)

abbrev gives (Q : Value → Shared → Prop) (E : Value → Shared → Prop) : Result → Shared → Prop := fun r s' => match r with | .ok (.ret v) => Q v s' | .ok _ => False | .error e => E e s'

theorem acc_code {id : String} {b : Builtin} {args : Args} {Q : Value → Shared → Prop} (hp : plainId id = true) (hb : entryFor table id = some b)
    (h : wpAny (model pw w) A.in1 (b args) (fun fin s' => ∃ v, fin = .done (.ret v) ∧ Q v s') E s) : codeAny (model pw w) A (.builtin id args) (gives Q E) s := by
  refine codeAny_builtin hb ?_
  rw [Around.under_plainId hp args]
  refine wpAny_mono h (fun fin s' h' => ?_) fun _ _ h' => h'
  obtain ⟨v, rfl, hv⟩ := h'; exact hv

theorem acc_len0 {Q : Value → Shared → Prop} (X : (hed.heap_39 w.params).In s.heap) (ha : s.heap.get? a = some (accObj dx its n))
    (h : ∀ t' tk', Q (.int its.length t') { s with toks := tk' }) :
    codeAny (model pw w) A (.builtin "list.__len__" ⟨[.ref a], []⟩) (gives Q E) s := by
  refine acc_code (by decide +kernel) entry_list_len ?_
  show wpAny _ _ (seqSize a >>= fun k => retInt k) _ _ s
  refine wpAny_bind ?_
  unfold seqSize
  refine wpAny_bind (wpAny_loadPart_at ha ?_)
  dsimp only
  refine wpAny_pure (wpAny_bind (wpAny_mkInt (wpAny_pure ⟨_, rfl, ?_⟩)))
  have := h s.toks (s.toks + 1)
  simpa using this

theorem acc_pop0 {v : Value} {Q : Value → Shared → Prop} (X : (hed.heap_39 w.params).In s.heap) (ha : s.heap.get? a = some (accObj dx (its ++ [v]) n)) (hz : its.length ≤ 999)
    (h : ∀ h' n', h'.get? a = some (accObj dx its n') → Heap.ExtBut a s.heap h' → Q v { s with heap := h' }) :
    codeAny (model pw w) A (.builtin "list.pop" ⟨[.ref a], []⟩) (gives Q E) s := by
  refine acc_code (by decide +kernel) e_list_pop ?_
  show wpAny _ _ (Builtin.List.listItems (.ref a) >>= _) _ _ s
  refine wpAny_bind (wpAny_listItems ha rfl ?_)
  have e0 : (its ++ [v]).toArray.isEmpty = false := by simp
  have e1 : ((seqIndex? (-1) (its ++ [v]).toArray.size).bind fun k => (its ++ [v]).toArray[k]?.map (k, ·)) = some (its.length, v) := by
    have : seqIndex? (-1) (its ++ [v]).toArray.size = some its.length := by
      simp [seqIndex?]
      omega
    rw [this]; simp
  simp only [e0, Bool.false_eq_true, if_false]
  show wpAny _ _ (match ((seqIndex? (-1) (its ++ [v]).toArray.size).bind fun k => (its ++ [v]).toArray[k]?.map (k, ·)) with | some (k, x) => _ | none => _) _ _ s
  rw [e1]
  refine wpAny_bind (acc_update ha _ (by simpa using hz) ?_ fun h' n' e x => wpAny_pure ⟨_, rfl, h h' n' ?_ x⟩)
  · have : ((its ++ [v]).toArray.eraseIdxIfInBounds its.length).size ≤ (its ++ [v]).toArray.size := by
      simp [Array.eraseIdxIfInBounds, List.length_eraseIdx]
    exact Nat.le_trans this (by simpa using Nat.le_succ_of_le hz)
  · have q : ((its ++ [v]).toArray.eraseIdxIfInBounds its.length).toList = its := by
      simp [Array.eraseIdxIfInBounds]
      exact List.eraseIdx_append_of_length_le (Nat.le_refl _) _ |>.trans (by simp)
    rw [e, q]

theorem acc_init0 {Q : Value → Shared → Prop} (X : (hed.heap_39 w.params).In s.heap) (ha : s.heap.get? a = some (accObj dx [] n))
    (h : ∀ h' n', h'.get? a = some (accObj dx [] n') → Heap.ExtBut a s.heap h' → Q .none { s with heap := h' }) :
    codeAny (model pw w) A (.builtin "list.__init__" ⟨[.ref a], []⟩) (gives Q E) s := by
  refine acc_code (by decide +kernel) e_list_init ?_
  show wpAny _ _ (Builtin.List.listItems (.ref a) >>= _) _ _ s
  refine wpAny_bind (wpAny_listItems ha rfl ?_)
  refine wpAny_bind (acc_update ha _ (by simp) (by simp) fun h' n' e x => ?_)
  exact wpAny_bind (wpAny_letGo (wpAny_pure ⟨_, rfl, h h' n' e x⟩))

theorem acc_seqKey {k : Value} {name : Str} {Q : Value → Shared → Prop} (X : (hed.heap_39 w.params).In s.heap) (ha : s.heap.get? a = some (accObj dx its n)) (h : Q k s) : wpAny (model pw w) A (sequenceKey (.ref a) k name) Q E s := by
  unfold sequenceKey
  refine wpAny_bind ((acc_type ha).here ?_)
  have L : Looks (model pw w) s.heap (isSubtype (.ref 178) (.type "collections.deque")) false := looks_subIn X (by k_is)
  have L2 : Looks (model pw w) s.heap (seqItemTypes.anyM fun n => isSubtype (.ref 178) (.type n)) false := by
    unfold seqItemTypes
    simp only [List.anyM]
    exact L.andThen .now
  dsimp only
  refine wpAny_bind (L2.here ?_)
  exact wpAny_pure h

theorem acc_special_call {name : Str} {id : String} {args : List Value} {Q : Option Value → Shared → Prop} (X : (hed.heap_39 w.params).In s.heap) (ha : s.heap.get? a = some (accObj dx its n))
    (e : findIn (hed.heap_39 w.params) (.ref 178) name = some (some (.builtin id))) (hb : ∀ self, bindSpecial (.builtin id) self = pure (.builtin id, [self]))
    (hc : wpAny (model pw w) A (call (.builtin id) (.ref a :: args)) (fun v => Q (some v)) E s) : wpAny (model pw w) A (callSpecial? (.ref a) name args) Q E s := by
  simp only [callSpecial?]
  refine wpAny_bind ((acc_special X ha e).here ?_)
  simp only [hb]
  exact wpAny_holding (wpAny_bind (wpAny_pure (wpAny_bind (wpAny_mono hc (fun v s' h' => wpAny_pure h') fun _ _ h' => h'))))

theorem acc_getInt {i : Int} {u : Tok} {v : Value} {Q : Value → Shared → Prop} (X : (hed.heap_39 w.params).In s.heap) (ha : s.heap.get? a = some (accObj dx its n)) (h0 : 0 ≤ i) (hfit : i < 2 ^ 63) (hk : its.toArray[i.toNat]? = some v)
    (h : Q v s) : wpAny (model pw w) A (getItem (.ref a) (.int i u)) Q E s := by
  unfold getItem
  refine wpAny_holding (wpAny_bind (acc_seqKey X ha ?_))
  refine wpAny_bind (acc_special_call X ha (by k_is) slot_list_getitem.bind ?_)
  refine acc_call (nm := "__getitem__") X ha (by decide +kernel) (by decide +kernel) (by decide +kernel) entry_list_getitem (args_list_getitem _ _) ?_
  show wpAny _ _ (Builtin.List.listSubscript? (.int i u) >>= _) _ _ s
  refine wpAny_bind (wpAny_listSubscript_int (fitsIndex_of h0 hfit) ?_)
  clear hfit
  obtain ⟨j, rfl⟩ := Int.eq_ofNat_of_zero_le h0
  have hx' : its.toArray[j]? = some v := hk
  show wpAny _ _ ((seqItemAt a j >>= fun r => pure (r.map (j, ·))) >>= _) _ _ s
  refine wpAny_bind (wpAny_bind (wpAny_seqItemAt ha rfl (wpAny_pure ?_)))
  rw [hx']
  first
    | exact wpAny_bind (wpAny_pure (wpAny_pure ⟨_, rfl, wpAny_pure h⟩))
    | exact wpAny_pure ⟨_, rfl, wpAny_pure h⟩

theorem acc_getSlice {sl : Addr} {vl vu vs : Value} {lo hi st : Option Int} {Q : Value → Shared → Prop} (X : (hed.heap_39 w.params).In s.heap) (ha : s.heap.get? a = some (accObj dx its n)) 
    (hs : s.heap.IsSliceOf sl vl vu vs) (pl : IsPart vl lo) (pu : IsPart vu hi) (ps : IsPart vs st) (h0 : st ≠ some 0)
    (h : Q (.ref s.heap.objs.size) { s with heap := s.heap.push { cls := .type "list", data := .seq (slicePick its.toArray lo hi st) } })
    (hsz : its.length ≤ 1000) : wpAny (model pw w) A (getItem (.ref a) (.ref sl)) Q E s := by
  obtain ⟨os, hos, hcs, hds⟩ := id hs
  have hTs : s.TypeIs (.ref sl) "slice" := ⟨os, hos, hcs⟩
  unfold getItem
  refine wpAny_holding (wpAny_bind (acc_seqKey X ha ?_))
  refine wpAny_bind (acc_special_call X ha (by k_is) slot_list_getitem.bind ?_)
  refine acc_call (nm := "__getitem__") X ha (by decide +kernel) (by decide +kernel) (by decide +kernel) entry_list_getitem (args_list_getitem _ _) ?_
  show wpAny _ _ (Builtin.List.listSubscript? (.ref sl) >>= _) _ _ s
  unfold Builtin.List.listSubscript?
  refine wpAny_bind (wpAny_bind (wpAny_specialOf hTs slice_no_index ?_))
  simp only [Option.isNone_none, if_true]
  refine wpAny_pure ?_
  show wpAny _ _ (typeOf (.ref sl) >>= _) _ _ s
  refine wpAny_bind (wpAny_typeOf hTs ?_)
  rw [if_neg (by decide)]
  rw [listSliceParts_eq]
  have hstep : ¬ ((rawPart st == rawInt 0) = true) := by
    cases st with
    | none => exact Bool.false_ne_true
    | some c =>
      intro hh
      have : c = 0 := by simpa [rawPart, rawInt] using hh
      exact h0 (by rw [this])
  refine wpAny_bind (wpAny_bind (wpAny_field hos hds (x := vs) rfl (wpAny_bind (wpAny_listPart ps ?_))))
  rw [if_neg hstep]
  refine wpAny_bind (wpAny_field hos hds (x := vl) rfl (wpAny_bind (wpAny_listPart pl ?_)))
  refine wpAny_bind (wpAny_field hos hds (x := vu) rfl (wpAny_bind (wpAny_listPart pu (wpAny_pure ?_))))
  refine wpAny_bind (wpAny_listItems ha rfl ?_)
  refine wpAny_bind (wpAny_of_eq (sliceIndices_raw lo hi st _ h0) ?_)
  refine wpAny_bind (wpAny_newObj_type (wpAny_pure ⟨_, rfl, wpAny_pure h⟩) (Nat.le_trans (slicePick_size_le _ lo hi st) ?_))
  have : its.toArray.size ≤ 1000 := by simpa using hsz
  exact Nat.le_trans this (by decide)

theorem e_list_setitem : entryFor table "list.__setitem__" = some Builtin.«list.__setitem__» := entryFor_of_tree (by kernel_rfl)

theorem acc_setSlice {sl l : Addr} {vl vu : Value} {lo hi : Option Int} {new : Array Value} {Q : Unit → Shared → Prop} (X : (hed.heap_39 w.params).In s.heap) (ha : s.heap.get? a = some (accObj dx its n)) 
    (hs : s.heap.IsSliceOf sl vl vu .none) (pl : IsPart vl lo) (pu : IsPart vu hi) (hl : s.heap.IsList l new) (hal : a ≠ l)
    (h : ∀ h' n', h'.get? a = some (accObj dx (its.toArray.extract 0 (sliceBounds lo hi none its.length).1.toNat ++ new ++ its.toArray.extract (max (sliceBounds lo hi none its.length).1 (sliceBounds lo hi none its.length).2.1).toNat its.length).toList n') → Heap.ExtBut a s.heap h' → Q () { s with heap := h' })
    (hsz : its.length ≤ 400) (hn : new.size ≤ 400) : wpAny (model pw w) A (setItem (.ref a) (.ref sl) (.ref l)) Q E s := by
  obtain ⟨os, hos, hcs, hds⟩ := id hs
  have hTs : s.TypeIs (.ref sl) "slice" := ⟨os, hos, hcs⟩
  unfold setItem
  refine wpAny_holding (wpAny_bind (acc_seqKey X ha ?_))
  refine wpAny_bind (acc_special_call X ha (by k_is) slot_list_setitem.bind ?_)
  refine acc_call (nm := "__setitem__") X ha (by decide +kernel) (by decide +kernel) (by decide +kernel) e_list_setitem (by unfold argsOk; kernel_rfl) ?_
  show wpAny _ _ (Builtin.List.listSubscript? (.ref sl) >>= _) _ _ s
  unfold Builtin.List.listSubscript?
  refine wpAny_bind (wpAny_bind (wpAny_specialOf hTs slice_no_index ?_))
  simp only [Option.isNone_none, if_true]
  refine wpAny_pure ?_
  show wpAny _ _ (typeOf (.ref sl) >>= _) _ _ s
  refine wpAny_bind (wpAny_typeOf hTs ?_)
  rw [if_neg (by decide)]
  rw [listSliceParts_eq]
  refine wpAny_bind (wpAny_bind (wpAny_field hos hds (x := .none) rfl (wpAny_bind (wpAny_listPart .none ?_))))
  rw [if_neg (show ¬ ((rawPart none == rawInt 0) = true) from Bool.false_ne_true)]
  refine wpAny_bind (wpAny_field hos hds (x := vl) rfl (wpAny_bind (wpAny_listPart pl ?_)))
  refine wpAny_bind (wpAny_field hos hds (x := vu) rfl (wpAny_bind (wpAny_listPart pu (wpAny_pure ?_))))
  have hne : ¬ (Builtin.List.listSameRef (.ref a) (.ref l) = true) := by
    unfold Builtin.List.listSameRef
    simp [hal]
  obtain ⟨ol, hol, hcl, nl, hdl⟩ := id hl
  rw [if_neg hne]
  refine wpAny_bind ?_
  unfold Builtin.List.listAllItems
  refine wpAny_bind (wpAny_typeOf ⟨ol, hol, hcl⟩ ?_)
  rw [if_pos (by decide)]
  refine wpAny_bind (wpAny_seqItems hol hdl (wpAny_pure ?_))
  refine wpAny_bind (wpAny_listItems ha rfl ?_)
  refine wpAny_bind (wpAny_of_eq (sliceIndices_raw lo hi none _ (by simp)) ?_)
  have e1 : (sliceBounds lo hi none its.toArray.size).2.2 = 1 := rfl
  rw [if_pos (by rw [e1]; rfl)]
  refine wpAny_bind (wpAny_rule ?_)
  have hbig : ¬ (Builtin.List.listTooLong (its.toArray.size + new.size) = true) := by
    unfold Builtin.List.listTooLong
    have : its.toArray.size + new.size ≤ 800 := by simp; omega
    have q : its.toArray.size + new.size ≤ sizeLine := Nat.le_trans this (by decide)
    simpa using q
  rw [if_neg hbig]
  refine wpAny_bind (acc_update ha _ (Nat.le_trans hsz (by decide)) ?_ fun h' n' e x => ?_)
  · simp
    omega
  · exact wpAny_bind (wpAny_letGo (wpAny_pure ⟨_, rfl, wpAny_pure (h h' n' e x)⟩))
end
end Mine
namespace Mine
open PySem PySem.W PySem.Calls PyProof.Rows

theorem slot_wd_get : Slot "wrapper_descriptor" "__get__" "wrapper_descriptor.__get__" := .of (owner := "wrapper_descriptor") (n := "__get__") (by rw [typeLookup_type, builtinLookup_eq_fast]; kernel_rfl) (by decide +kernel) (by decide +kernel) (by decide +kernel)
  (by first | exact .inl (by decide +kernel) | exact .inr (by decide +kernel)) (by rw [isSubtype_type]; kernel_rfl)
theorem slot_md_get : Slot "method_descriptor" "__get__" "method_descriptor.__get__" := .of (owner := "method_descriptor") (n := "__get__") (by rw [typeLookup_type, builtinLookup_eq_fast]; kernel_rfl) (by decide +kernel) (by decide +kernel) (by decide +kernel)
  (by first | exact .inl (by decide +kernel) | exact .inr (by decide +kernel)) (by rw [isSubtype_type]; kernel_rfl)
theorem e_wd_get : entryFor table "wrapper_descriptor.__get__" = some Builtin.«wrapper_descriptor.__get__» := entryFor_of_tree (by kernel_rfl)
theorem e_md_get : entryFor table "method_descriptor.__get__" = some Builtin.«method_descriptor.__get__» := entryFor_of_tree (by kernel_rfl)
theorem a_wd_get (a b c : Value) : argsOk "wrapper_descriptor.__get__" ⟨[a, b, c], []⟩ := by unfold argsOk; kernel_rfl
theorem a_md_get (a b c : Value) : argsOk "method_descriptor.__get__" ⟨[a, b, c], []⟩ := by unfold argsOk; kernel_rfl
theorem t_list_init : typeOf (.builtin "list.__init__") = pure (.type "wrapper_descriptor") := by show builtinType _ = _; rw [builtinType_eq_fast]; kernel_rfl
theorem t_list_len : typeOf (.builtin "list.__len__") = pure (.type "wrapper_descriptor") := by show builtinType _ = _; rw [builtinType_eq_fast]; kernel_rfl
theorem t_list_pop : typeOf (.builtin "list.pop") = pure (.type "method_descriptor") := by show builtinType _ = _; rw [builtinType_eq_fast]; kernel_rfl

section
variable {w : World} {A : Around} {E : Value → Shared → Prop} {s : Shared} {env : Env} {a dx : Addr} {its : List Value} {n : Nat}

theorem wd_get {id nm : String} {Q : Value → Shared → Prop} (X : (hed.heap_39 w.params).In s.heap) (ha : s.heap.get? a = some (accObj dx its n)) (ht : typeOf (.builtin id) = pure (.type "wrapper_descriptor"))
    (hs : (".".intercalate (id.cutAt '.').dropLast, (id.cutAt '.').getLastD "") = ("list", nm))
    (h : Q (.ref s.heap.objs.size) { s with heap := s.heap.push { cls := .type "method-wrapper", data := .fields #[.builtin id, .ref a] } }) :
    wpAny (model pw w) A (call (.builtin "wrapper_descriptor.__get__") [.builtin id, .ref a, .ref 178]) Q E s := by
  refine wpAny_call_entry slot_wd_get (show s.TypeIs (.builtin id) "wrapper_descriptor" from ht) e_wd_get ?_ (a_wd_get _ _ _)
  unfold Builtin.«wrapper_descriptor.__get__»
  refine wpAny_bind (wpAny_of_eq (a := (Value.builtin id, some (Value.ref a), some (Value.ref 178))) rfl ?_)
  obtain ⟨h1, h2⟩ := Prod.mk.inj hs
  refine wpAny_bind (wpAny_bind (wpAny_of_eq (a := ((Str.ofString ((id.cutAt '.').getLastD "")), Value.type (".".intercalate (id.cutAt '.').dropLast))) rfl ?_))
  rw [h1]
  refine wpAny_bind ((acc_isList X ha).here ?_)
  rw [if_neg (by decide)]
  exact wpAny_pure (wpAny_bind (wpAny_newObj_type (wpAny_pure ⟨_, rfl, h⟩)))

theorem md_get {id nm : String} {Q : Value → Shared → Prop} (X : (hed.heap_39 w.params).In s.heap) (ha : s.heap.get? a = some (accObj dx its n)) (ht : typeOf (.builtin id) = pure (.type "method_descriptor"))
    (hs : (".".intercalate (id.cutAt '.').dropLast, (id.cutAt '.').getLastD "") = ("list", nm)) (hm : Manifest.toldItsClass.contains id = false)
    (h : Q (.ref s.heap.objs.size) { s with heap := s.heap.push { cls := .type "builtin_function_or_method", data := .fields #[.builtin id, .ref a] } }) :
    wpAny (model pw w) A (call (.builtin "method_descriptor.__get__") [.builtin id, .ref a, .ref 178]) Q E s := by
  refine wpAny_call_entry slot_md_get (show s.TypeIs (.builtin id) "method_descriptor" from ht) e_md_get ?_ (a_md_get _ _ _)
  unfold Builtin.«method_descriptor.__get__»
  refine wpAny_bind (wpAny_of_eq (a := (Value.builtin id, some (Value.ref a), some (Value.ref 178))) rfl ?_)
  obtain ⟨h1, h2⟩ := Prod.mk.inj hs
  dsimp only
  simp only [hm, Bool.false_eq_true, if_false]
  refine wpAny_bind (wpAny_bind (wpAny_of_eq (a := ((Str.ofString ((id.cutAt '.').getLastD "")), Value.type (".".intercalate (id.cutAt '.').dropLast))) rfl ?_))
  rw [h1]
  refine wpAny_bind ((acc_isList X ha).here ?_)
  rw [if_neg (by decide)]
  exact wpAny_pure (wpAny_bind (wpAny_newObj_type (wpAny_pure ⟨_, rfl, h⟩)))

theorem sup_ga {so : Addr} {name : Str} {id gid T : String} {tk : Tok} {Q : Fin → Shared → Prop} (X : (hed.heap_39 w.params).In s.heap) (ha : s.heap.get? a = some (accObj dx its n))
    (hso : s.heap.get? so = some (ks_superObj 178 a 178)) (hn : (name == ("__class__" : Str)) = false) (hown : builtinOwn "list" name = some (.builtin id)) (ht : typeOf (.builtin id) = pure (.type T)) (hg : typeLookup (.type T) "__get__" = pure (some (.builtin gid)))
    (hget : wpAny (model pw w) A (call (.builtin gid) [.builtin id, .ref a, .ref 178]) (fun v s' => Q (.done (.ret v)) s') E s) :
    wpAny (model pw w) A (Builtin.«super.__getattribute__» ⟨[.ref so, .str name tk], []⟩) Q E s := by
  obtain ⟨hh, g, d, t, os⟩ := s
  dsimp only at X ha hso
  have hno : Looks (model pw w) hh (opaqueClassAbove (.ref 178)) none := looks_opaque X (by k_is)
  have hmro : Looks (model pw w) hh (mroOf (.ref 178)) [.ref 178, .type "list", .type "object"] := fun A Q E s k q => wpAny_bind ((looks_clsIn (cd := _) X (by k_is)) A _ E s k (wpAny_pure q))
  have hdt : (ks_superObj 178 a 178).data = .fields #[.ref 178, .ref a, .ref 178] := rfl
  have f0 : (#[.ref 178, .ref a, .ref 178] : Array Value)[0]? = some (.ref 178) := rfl
  have f1 : (#[.ref 178, .ref a, .ref 178] : Array Value)[1]? = some (.ref a) := rfl
  have f2 : (#[.ref 178, .ref a, .ref 178] : Array Value)[2]? = some (.ref 178) := rfl
  have hne : (Value.ref a == Value.ref 178) = false := by
    have : a ≠ 178 := fun q => by
      subst q
      have := X 178 _ (show (hed.heap_39 w.params).lookup 178 = some _ by k_is)
      rw [ha] at this; cases this
    simp [this]
  unfold Builtin.«super.__getattribute__»
  repeat (first
    | (with_reducible refine wpAny_field hso hdt f0 ?_) | (with_reducible refine wpAny_field hso hdt f1 ?_) | (with_reducible refine wpAny_field hso hdt f2 ?_)
    | (with_reducible refine ks_wpAny_notOpaque hno ?_)
    | (with_reducible refine Looks.at hmro ?_)
    | (simp only [hn, hne, Bool.or_false, Bool.false_eq_true, if_false])
    | wp_step
    | dsimp only)
  rw [hown]
  dsimp only
  refine wpAny_bind (wpAny_of_eq ht (wpAny_bind (wpAny_of_eq hg ?_)))
  dsimp only
  refine wpAny_bind (wpAny_holding (wpAny_mono hget (fun v s' hv => ?_) fun _ _ z => z))
  exact wpAny_bind (wpAny_pure (wpAny_pure (wpAny_pure (wpAny_pure hv))))

theorem sup_getMethod {so : Addr} {name : Str} {id gid T bt : String} {pl : Sem Bool} {Q : Value × List Value → Shared → Prop} (X : (hed.heap_39 w.params).In s.heap) (ha : s.heap.get? a = some (accObj dx its n))
    (hso : s.heap.get? so = some (ks_superObj 178 a 178)) (hn : (name == ("__class__" : Str)) = false) (hown : builtinOwn "list" name = some (.builtin id)) (ht : typeOf (.builtin id) = pure (.type T)) (hg : typeLookup (.type T) "__get__" = pure (some (.builtin gid)))
    (hget : ∀ (A : Around) (E : Value → Shared → Prop) (Q : Value → Shared → Prop), Q (.ref s.heap.objs.size) { s with heap := s.heap.push { cls := .type bt, data := .fields #[.builtin id, .ref a] }, toks := s.toks + 1 } → wpAny (model pw w) A (call (.builtin gid) [.builtin id, .ref a, .ref 178]) Q E { s with toks := s.toks + 1 })
    (hq : Q (.ref s.heap.objs.size, []) { s with heap := s.heap.push { cls := .type bt, data := .fields #[.builtin id, .ref a] }, toks := s.toks + 1 }) :
    wpAny (model pw w) A (getMethod (.ref so) name pl) Q E s := by
  obtain ⟨hh, g, d, t, os⟩ := s
  dsimp only at X ha hso hget hq
  have hlk := F.ks_slot_super_ga.lookup
  have hcan := F.ks_canon_super_ga
  have hT : ∀ t', (⟨hh, g, d, t', os⟩ : Shared).TypeIs (.ref so) "super" := fun _ => ⟨_, hso, rfl⟩
  unfold getMethod
  refine wpAny_bind (wpAny_specialOf (hT _) hlk ?_)
  show wpAny _ _ (if (Manifest.canonical "super.__getattribute__" != "object.__getattribute__") = true then _ else _) _ _ _
  rw [if_pos hcan]
  unfold getAttr getAttrBy
  refine wpAny_bind (wpAny_bind (wpAny_mkText (wpAny_holding (wpAny_bind (wpAny_typeOf (hT _) (wpAny_bind (wpAny_of_eq hlk ?_)))))))
  show wpAny _ _ (getAttrByItsOwn (.ref so) (.str name t) (.type "super") (.builtin "super.__getattribute__") true false) _ _ _
  unfold getAttrByItsOwn hookBefore callGetattribute boundAndCalled
  refine wpAny_bind (wpAny_of_eq (show (if onTheHeap (.type "super") then typeLookup (.type "super") "__getattr__" else pure none) = pure none from rfl) ?_)
  refine wpAny_bind (wpAny_attempt (wpAny_holding ?_))
  show wpAny _ _ (bindSpecial (.builtin "super.__getattribute__") (.ref so) >>= _) _ _ _
  refine wpAny_bind (wpAny_of_eq (F.ks_slot_super_ga.bind _) ?_)
  refine wpAny_mono (Q := fun v s' => v = .ref hh.objs.size ∧ s' = ⟨hh.push { cls := .type bt, data := .fields #[.builtin id, .ref a] }, g, d, t + 1, os⟩) (E := fun _ _ => False)
    (by
      refine wpAny_call_entry F.ks_slot_super_ga (hT _) F.ks_entry_super_ga (sup_ga X ha hso hn hown ht hg (hget _ _ _ ?_)) (F.ks_gaArgs_super _ _)
      exact ⟨_, rfl, rfl, rfl⟩) (fun v s' hv => ?_) fun _ _ z => z.elim
  obtain ⟨rfl, rfl⟩ := hv
  exact wpAny_pure (wpAny_pure hq)

theorem call_boundB {b : Addr} {id bt : String} {x : Value} {args : List Value} {Q : Value → Shared → Prop} (hb : s.heap.get? b = some { cls := .type bt, dict := none, data := .fields #[.builtin id, x], slots := #[] }) (ht : bt = "method-wrapper" ∨ bt = "builtin_function_or_method")
    (hck : ∀ (Q : Unit → Shared → Prop) (E : Value → Shared → Prop) (A : Around), Q () s → wpAny (model pw w) A (checkBoundCall id ⟨x :: args, []⟩) Q E s) (hp : plainId id = true) (hq : codeAny (model pw w) A (.builtin id ⟨x :: args, []⟩) (gives Q E) s) : wpAny (model pw w) A (call (.ref b) args) Q E s := by
  refine wpAny_call (codeAny_of_tree ?_)
  show wpAny _ A.in1 (callAny (.ref b) _) _ _ _
  unfold callAny
  refine wpAny_bind (wpAny_load hb ?_)
  rcases ht with rfl | rfl
  · dsimp only
    rw [if_pos (by decide)]
    show wpAny _ _ (if (_ != _) = true then _ else _) _ _ _
    rw [if_pos (by decide)]
    exact wpAny_bind (hck _ _ _ (wpAny_bind (wpAny_pure (wpAny_pure ⟨plainId_quiet hp _, hq⟩))))
  · dsimp only
    rw [if_pos (by decide)]
    show wpAny _ _ (if (_ != _) = true then _ else _) _ _ _
    rw [if_pos (by decide)]
    exact wpAny_bind (hck _ _ _ (wpAny_bind (wpAny_pure (wpAny_pure ⟨plainId_quiet hp _, hq⟩))))

theorem bound_slot {id : String} {args : Args} (hk : builtinKind id = some .slot) (ha : argsOk id args) {Q : Unit → Shared → Prop} (h : Q () s) : wpAny (model pw w) A (checkBoundCall id args) Q E s := by
  unfold checkBoundCall
  cases hsig : Manifest.signature? id with
  | none => exact wpAny_pure h
  | some sig =>
    simp only [argsOk, hsig] at ha
    have h2 : Bind.checkArgs id sig args = pure () := ha
    obtain ⟨pos, kw⟩ := args
    cases pos with
    | nil => simp only [hk]; rw [h2]; exact wpAny_bind (wpAny_pure (wpAny_pure h))
    | cons x xs =>
      simp only [hk]
      rw [if_pos (by decide), h2]
      exact wpAny_bind (wpAny_pure (wpAny_pure h))

abbrev popSig : Manifest.Signature := ⟨.positional, "list.pop", "pop", .self, [⟨"index", .posOnly, false⟩]⟩
theorem pop_sig : Manifest.signature? "list.pop" = some popSig := by rw [signature?_of (id := "list.pop") (n := ['p', 'o', 'p']) (o := ['t', 's', 'i', 'l']) (by kernel_rfl) F.owner_list]; kernel_rfl
theorem pop_kind : builtinKind "list.pop" = some .method := by decide +kernel
theorem pop_args (a : Value) : Bind.checkArgs "list.pop" { popSig with full := "_Accumulator.pop" } ⟨[a], []⟩ = pure () := by kernel_rfl
theorem pop_va : Manifest.varargsMethods.contains "list.pop" = false := by decide +kernel

theorem bound_pop (X : (hed.heap_39 w.params).In s.heap) (ha : s.heap.get? a = some (accObj dx its n)) {Q : Unit → Shared → Prop} (h : Q () s) : wpAny (model pw w) A (checkBoundCall "list.pop" ⟨[.ref a], []⟩) Q E s := by
  have L : Looks (model pw w) s.heap (isInstance (.ref a) (.type "module")) false := (acc_type ha).andThen (looks_subIn X (by k_is))
  unfold checkBoundCall
  rw [pop_sig, pop_kind]
  dsimp only
  rw [if_neg (by decide), pop_va]
  refine wpAny_bind (L.here ?_)
  rw [if_neg (by decide)]
  obtain ⟨hh, g, d, t, os⟩ := s
  refine wpAny_bind (ks_wpAny_isType_inst ha (fun c => by simp) ?_)
  rw [if_neg (by decide)]
  refine wpAny_bind ((acc_type ha).here ?_)
  dsimp only
  refine wpAny_bind ((looks_clsIn (cd := _) X (by k_is)).here ?_)
  refine wpAny_bind ((looks_typeIn X (show typeIn (hed.heap_39 w.params) (.ref 178) = some (.type "type") by k_is)).here ?_)
  rw [if_pos (by decide)]
  have e : (toString (Str.ofString "_Accumulator").toString ++ toString "." ++ toString (Bind.lastOf "list.pop")) = "_Accumulator.pop" := by decide +kernel
  dsimp only
  rw [e]
  refine wpAny_of_eq (pop_args (.ref a)) h
end

/-- a call of a method that asks super(): the callee's body with the code on top. -/
theorem code_KS {w : World} {A : Around} {s : Shared} {h₀ : Heap} {L : Addr} {m : Str → Option Value} {news : List (Addr × Obj)} {R : Result → Shared → Prop} {name qual : Str} {params : Arguments} {body : List Stmt} {scope : Scope} {dV kV doc pm cdv ct oc : Value} {an od : Option Addr} {osl : Array (Option Value)} {f cc : Addr} {args : Args} {binds : List (Str × Value)} {K : Frag}
    {p : Program} {loose : List Str} {mg mb : Str → Option Value}
    (F : Fr h₀ L s.heap m) (N : News h₀ L s.heap news) (X : K.In h₀) (T : TopRead p loose mg mb h₀)
    (ho : K.lookup f = some ⟨oc, od, .func (ksFn name qual params body scope dV kV doc pm an cdv ct cc), osl⟩) (hcd : codeIn K cdv qual = true) (hroom : A.depth < recursionLimit)
    (hbind : BindsTo s (ksFn name qual params body scope dV kV doc pm an cdv ct cc) args binds) (hloc : ∀ y ∈ binds, scope.names.lookup y.1 = some .local)
    (h : ∀ g L' h₁, h₀.StaysIn g → Fr h₀ L g m → Fr g L' h₁ (fun y => binds.reverse.lookup y) → News g L' h₁ news → K.In g → TopRead p loose mg mb g → (∀ p ∈ news, p.1 < L') →
      _root_.PySem.wpAt (model pw w) (A.deeper (ksEnv qual scope L' f cdv cc)) (.func body (ksEnv qual scope L' f cdv cc)) (execs body (ksEnv qual scope L' f cdv cc))
        (fun fl s' => LeaveK h₀ L m g R (match fl with | .ret v => v | _ => .none) s')
        (fun e s' => wpAny (model pw w) (A.deeper (ksEnv qual scope L' f cdv cc)) (leaving (ksEnv qual scope L' f cdv cc) e) (fun _ s'' => R (.error e) s'') (fun e' s'' => R (.error e') s'') s')
        { s with heap := h₁, toks := s.toks + binds.length })
    (hco : scope.isCoroutine = false := by rfl) (hgen : scope.isGenerator = false := by rfl) (hk : scope.kind = .function := by rfl)
    (hcell : ∀ x ∈ scope.names, x.2 ≠ .cell := by decide) : codeAny (model pw w) A (.call (.ref f) args) R s := by
  have X' := X.keeps F.keep
  refine ks_codeAny_call_defAt (fd := ksFn name qual params body scope dV kV doc pm an cdv ct cc) (body := body) (binds := binds) hroom (X' _ _ ho) rfl (T.nolimit.keeps F.keep) (codeRec_of X' hcd) rfl hbind hcell hloc (fun h₁ hns hk₁ => ?_) hco hgen hk
  have nm : ∀ b o, h₀.get? b = some o → b ∉ news.map (·.1) := fun b o e q => by
    obtain ⟨p, hp, rfl⟩ := List.mem_map.mp q
    rw [(N p hp).2.2] at e; cases e
  have st : h₀.StaysIn (hideAll s.heap (news.map (·.1))) := fun b o e => hideAll_get _ (F.keep b o e) (nm b o e)
  obtain ⟨oL, es, ep, hL, hLd, hLk, hLf⟩ := F.ns
  have nL : L ∉ news.map (·.1) := fun q => by
    obtain ⟨p, hp, e⟩ := List.mem_map.mp q
    exact (N p hp).2.1 e
  have hLg := hideAll_get (news.map (·.1)) hL nL
  refine ks_wpAt_mono (h _ s.heap.objs.size h₁ st ⟨⟨oL, es, ep, hLg, hLd, hLk, hLf⟩, st, F.above⟩ ⟨hns, fun b o e => hk₁ b o (of_hideAll _ e), Nat.le_of_eq (hideAll_size _ _)⟩
    (fun p hp => ⟨hk₁ _ _ (N p hp).1, Nat.ne_of_lt (Heap.lt_size (N p hp).1), hideAll_none _ (List.mem_map_of_mem hp)⟩) (X.keeps st) (T.keeps st) (fun p hp => Heap.lt_size (N p hp).1)) (fun fl s' hl => ?_) fun _ _ y => y
  obtain ⟨L', m', news', F', N', k⟩ := hl
  refine k ⟨⟨oL, es, ep, F'.keep L oL hLg, hLd, hLk, hLf⟩, fun b o e => F'.keep b o (st b o e), F.above⟩ fun p hp => ⟨(N' p hp).1, fun q => ?_, ?_⟩
  · have := (N' p hp).2.2; rw [q, hLg] at this; cases this
  · cases q : h₀.get? p.1 with
    | none => rfl
    | some o => have := (N' p hp).2.2; rw [st _ _ q] at this; cases this

section
variable {w : World} {A : Around} {E : Value → Shared → Prop} {s : Shared} {h₀ : Heap} {L : Addr} {m mg mb : Str → Option Value} {news : List (Addr × Obj)} {K : Frag} {p : Program} {loose : List Str} {x C D f f2 cc cda so : Addr} {ox : Obj} {odx : Option Obj}

theorem sup_node {body : List Stmt} {q : Str} {scope : Scope} {p0 p1 : Pos} {attr : Str} {whole : Sem Value} {fd : FuncData} {ar : Arg} {vs : Array Value} {file : Str} {tf : Tok} {oc ccl cl : Value} {od cdd cld : Option Addr} {osl ccs csl : Array (Option Value)} {cdD : ClassData} {Q : Value → Shared → Prop}
    (F : Fr h₀ L s.heap m) (X₀ : K.In h₀) (N : News h₀ L s.heap news) (T : TopRead p loose mg mb h₀)
    (hf : K.lookup f = some ⟨oc, od, .func fd, osl⟩) (hp : (fd.params.posonlyargs ++ fd.params.args).head? = some ar) (hv : m ar.arg = some (.ref x)) (I : InstAt s.heap x ox C odx)
    (hcode : K.lookup cda = some ⟨ccl, cdd, .fields vs, ccs⟩) (hvs : vs[2]? = some (.str file tf)) (hfile : ((pw.main.file : Str) == file) = true)
    (hcell : K.lookup cc = some ⟨cl, cld, .cell (some (.ref D)), csl⟩) (hD : clsIn K D = some cdD) (hsub : mroIn K C (.ref D) = some true) (hsuper : nsIn K mainGlobals "super" = some none)
    (hat : (attr == ("__class__" : Str)) = false) (hks : scope.names.lookup ("super" : Str) = some .globalImplicit) (hkc : scope.names.lookup ("__class__" : Str) = some .free) (hka : scope.names.lookup ar.arg = some .local) (hk : scope.kind = .function)
    (htop : (pw.main.scope.names.lookup ("super" : Str)).isSome = false) (hboot : bootBuiltins "super" = some (.type "super"))
    (h : ∀ so h', Fr h₀ L h' m → News h₀ L h' ((so, ks_superObj D x C) :: news) → (∀ p ∈ news, p.1 < so) → Q (.ref so) { s with heap := h' }) :
    _root_.PySem.wpAt (model pw w) A (.func body (ksEnv q scope L f (.ref cda) cc)) (attributeBase (.Call (.Name "super" p0) [] [] p1) attr (ksEnv q scope L f (.ref cda) cc) whole) Q E s := by
  have X : K.In s.heap := X₀.keeps F.keep
  obtain ⟨hh, g, d, t, os⟩ := s
  obtain ⟨oD, hD1, hD2⟩ : ∃ oD, hh.get? D = some oD ∧ oD.data = .cls cdD := by
    unfold clsIn at hD
    split at hD
    · rename_i c d cd' sl ho
      cases hD
      exact ⟨_, X _ _ ho, rfl⟩
    · cases hD
  refine ks_wpAt_super_base (env := ksEnv q scope L f (.ref cda) cc) hks hkc hat rfl (X _ _ hf) rfl hp rfl (X _ _ hcode) rfl hvs hfile htop ?_
  refine ks_loadName_global hk hks (loadGlobal_builtin (env := ksEnv q scope L f (.ref cda) cc) (T.g.keeps F.keep) (mg_none_of X₀ T.g hsuper) (T.b.keeps F.keep) ((T.builtins _ (by decide +kernel)).trans hboot) ⟨rfl, ?_⟩)
  refine wpAny_loadName_free hk hkc rfl ⟨_, X _ _ hcell, rfl⟩ ?_
  refine wpAny_loadName_local hk hka F.ns hv ?_
  refine ks_wpAny_isType_cls hD1 hD2 ⟨rfl, ?_⟩
  refine ks_wpAny_call_super hD1 hD2 I.at_ I.cls (fun c e => ?_) (looks_mroIn X hsub) (fun h' e k => ?_)
  · have := I.no
    unfold notCls at this
    rw [e] at this
    exact Bool.noConfusion this
  · obtain ⟨F', N', l'⟩ := ks_newsPush (s := ⟨hh, g, d, t, os⟩) F N rfl e k
    exact h _ _ F' N' l'
end
end Mine
namespace Mine
open PySem PySem.W PySem.Calls PyProof.Rows

theorem boot_super : bootBuiltins "super" = some (.type "super") := by decide +kernel
theorem own_len : builtinOwn "list" "__len__" = some (.builtin "list.__len__") := by kernel_rfl
theorem own_init : builtinOwn "list" "__init__" = some (.builtin "list.__init__") := by kernel_rfl
theorem own_pop : builtinOwn "list" "pop" = some (.builtin "list.pop") := by kernel_rfl
theorem cut_len : (".".intercalate ("list.__len__".cutAt '.').dropLast, ("list.__len__".cutAt '.').getLastD "") = ("list", "__len__") := by decide +kernel
theorem cut_init : (".".intercalate ("list.__init__".cutAt '.').dropLast, ("list.__init__".cutAt '.').getLastD "") = ("list", "__init__") := by decide +kernel
theorem cut_pop : (".".intercalate ("list.pop".cutAt '.').dropLast, ("list.pop".cutAt '.').getLastD "") = ("list", "pop") := by decide +kernel
theorem told_pop : Manifest.toldItsClass.contains "list.pop" = false := by decide +kernel

section
variable {w : World} {dp un : Nat} {fr : Option (List Env)} {gd : Option (List Code)} {s : Shared} {h₀ : Heap} {L : Addr} {m : Str → Option Value} {p : Program} {loose : List Str} {mg mb : Str → Option Value} {a dx : Addr} {its : List Value} {n dn : Nat} {es : List DictEntry} {rest : List (Addr × Obj)} {E : Value → Shared → Prop}

theorem callWith_bound {A : Around} {q : Addr} {pos : Pos} {f x : Value} {bt : String} {env : Env} {Q : Value → Shared → Prop} (hb : s.heap.get? q = some { cls := .type bt, dict := none, data := .fields #[f, x], slots := #[] }) (ht : bt = "method-wrapper" ∨ bt = "builtin_function_or_method")
    (h : wpAny (model pw w) A (call (.ref q) []) Q E s) : wpAny (model pw w) A (callWith pos (.ref q) [] (backTo pos (starEach [] env)) []) Q E s := by
  unfold callWith
  refine wpAny_bind (wpAny_holding (wpAny_of_eq (a := ⟨[], []⟩) rfl ?_))
  refine wpAny_bind (wpAny_standAt ?_)
  have hk : wpAny (model pw w) A (keeperOf (.ref q)) (fun k s' => k = .machine ∧ s' = s) E s := by
    unfold keeperOf
    dsimp only
    refine wpAny_bind (wpAny_load hb ?_)
    rcases ht with rfl | rfl
    · dsimp only
      rw [if_pos (by decide), if_pos (by decide)]
      exact wpAny_pure ⟨rfl, rfl⟩
    · dsimp only
      rw [if_pos (by decide), if_pos (by decide)]
      exact wpAny_pure ⟨rfl, rfl⟩
  refine wpAny_bind (wpAny_mono hk (fun k s' hk => ?_) fun _ _ z => z)
  obtain ⟨rfl, rfl⟩ := hk
  refine wpAny_bind (wpAny_mono h (fun v s' hv => ?_) fun _ _ z => z)
  exact wpAny_bind (wpAny_holding (wpAny_point (wpAny_pure hv)))

theorem acc_part_K {Q : Value → Shared → Prop}
    (F : Fr h₀ L s.heap m) (N : News h₀ L s.heap rest) (G : Gd w p loose mg mb h₀)
    (hacc : (a, accObj dx its n) ∈ rest) (hdx : (dx, dictOf es dn) ∈ rest) (hdp : dp < 900)
    (h : ∀ t' h' tk', Fr h₀ L h' m → News h₀ L h' rest → Q (.int its.length t') { s with heap := h', toks := tk' }) :
    wpAny (model pw w) (AR dp un fr gd) (call (.ref 175) [.ref a]) Q E s := by
  refine wpAny_call ?_
  refine' code_KS (binds := [("self", .ref a)]) F N G.X G.T ?k6 ?k7 ?k8 ?k9 ?kB ?_ ?c1 ?c2 ?c3 ?c4
  case k6 => k_is
  case k7 => k_is
  case k8 => exact Nat.lt_trans hdp (by decide)
  case k9 => exact BindsTo.of_eq rfl
  case kB => exact locs rfl
  case c1 => exact rfl
  case c2 => exact rfl
  case c3 => exact rfl
  case c4 => decide
  intro g L' h₁ st FG F N X T hlt
  dsimp only
  have G' := G.keeps st
  refine ks_wpAt_execs_cons (ks_wpAt_Return_some (ks_wpAt_MethodCall (sup_node F X N T (by k_is) rfl rfl (acc_inst (N _ hacc).1 (N _ hdx).1) (by k_is) rfl (by kernel_rfl) (by k_is) (by k_is) (by k_is) (by k_is) rfl rfl rfl rfl rfl (by kernel_rfl) boot_super fun so h₂ F₂ N₂ l₂ => ?_)))
  refine sup_getMethod (bt := "method-wrapper") (X.keeps F₂.keep) (N₂ _ (List.mem_cons_of_mem _ hacc)).1 (N₂ _ List.mem_cons_self).1 rfl own_len t_list_len slot_wd_get.lookup (fun A E Q hq => wd_get (X.keeps F₂.keep) (N₂ _ (List.mem_cons_of_mem _ hacc)).1 t_list_len cut_len hq) ?_
  obtain ⟨F₃, N₃, l₃⟩ := ks_newsPush (s := { s with heap := h₂ }) (o := { cls := .type "method-wrapper", data := .fields #[.builtin "list.__len__", .ref a] }) F₂ N₂ rfl (Heap.get?_push_at rfl rfl) (fun b o e => Heap.get?_push_of_some _ e)
  refine callWith_bound (N₃ _ List.mem_cons_self).1 (.inl rfl) ?_
  have ha₃ := (N₃ _ (List.mem_cons_of_mem _ (List.mem_cons_of_mem _ hacc))).1
  refine call_boundB (N₃ _ List.mem_cons_self).1 (.inl rfl) (fun Q E A hq => bound_slot (by decide +kernel) (args_list_len _) hq) (by decide +kernel) ?_
  refine acc_len0 (X.keeps F₃.keep) ha₃ fun t' tk' => ?_
  exact ⟨L', _, _, F₃, N₃, fun F' N' => h _ _ _ F' fun p hp => N' p (List.mem_cons_of_mem _ (List.mem_cons_of_mem _ hp))⟩
end
end Mine
namespace Mine
open PySem PySem.W PySem.Calls PyProof.Rows

theorem wpAt_pass {α : Type} {w : World} {A : Around} {c : Code} {E : Value → Shared → Prop} {s : Shared} {t : Sem α} {P Q : α → Shared → Prop} (h1 : ∀ Q' : α → Shared → Prop, (∀ a s', P a s' → Q' a s') → wpAny (model pw w) A t Q' E s) (h2 : ∀ a s', P a s' → Q a s') :
    _root_.PySem.wpAt (model pw w) A c t Q E s := wpAt_of_wpAny (h1 Q h2)

section
variable {w : World} {dp un : Nat} {fr : Option (List Env)} {gd : Option (List Code)} {s : Shared} {h₀ : Heap} {L : Addr} {m : Str → Option Value} {p : Program} {loose : List Str} {mg mb : Str → Option Value} {a dx : Addr} {its : List Value} {n dn : Nat} {es : List DictEntry} {rest : List (Addr × Obj)} {E : Value → Shared → Prop}

theorem acc_pop_K {v : Value} {Q : Value → Shared → Prop}
    (F : Fr h₀ L s.heap m) (N : News h₀ L s.heap ((a, accObj dx (its ++ [v]) n) :: rest)) (hr : ∀ p ∈ rest, p.1 ≠ a) (G : Gd w p loose mg mb h₀)
    (hdx : (dx, dictOf es dn) ∈ rest) (hes : getL "part_count" es = some none) (hz : its.length ≤ 999) (hdp : dp < 890)
    (h : ∀ h' tk' n', Fr h₀ L h' m → News h₀ L h' ((a, accObj dx its n') :: rest) → Q v { s with heap := h', toks := tk' }) :
    wpAny (model pw w) (AR dp un fr gd) (call (.ref 138) [.ref a]) Q E s := by
  refine wpAny_call ?_
  refine' code_KS (binds := [("self", .ref a)]) F N G.X G.T ?k6 ?k7 ?k8 ?k9 ?kB ?_ ?c1 ?c2 ?c3 ?c4
  case k6 => k_is
  case k7 => k_is
  case k8 => exact Nat.lt_trans hdp (by decide)
  case k9 => exact BindsTo.of_eq rfl
  case kB => exact locs rfl
  case c1 => exact rfl
  case c2 => exact rfl
  case c3 => exact rfl
  case c4 => decide
  intro g L' h₁ st FG F N X T hlt
  dsimp only
  have G' := G.keeps st
  refine ks_wpAt_execs_cons (wpAt_pass (P := fun f s' => f = .next ∧ ∃ h' tk', s' = { s with heap := h', toks := tk' } ∧ Fr g L' h' (fun y => [((Str.ofString "self"), Value.ref a)].reverse.lookup y) ∧ News g L' h' ((a, accObj dx (its ++ [v]) n) :: rest)) ?_ ?_)
  · intro Q' hQ'
    k_with_none
    k_with "stepz" => repeat' (fail_if_success (with_reducible show wpAny _ _ (getMethod (Value.ref _) _ _) _ _ _)); (fail_if_success (with_reducible show wpAny _ _ (call (Value.ref _) _) _ _ _)); (first | (k_unfold; (try dsimp only)) | (k_end; kc_close) | walk1 | (dsimp only; walk1) | (leave1; (try dsimp only)) | fail "no step")
    k_extra "stepz"
    refine acc_method (X.keeps F.keep) (N _ List.mem_cons_self).1 (N _ (List.mem_cons_of_mem _ hdx)).1 (by k_is) (looks_typeIn (X.keeps F.keep) (by k_is)) rfl hes ?_
    dsimp only
    k_extra "stepz"
    refine acc_part_K F N G' List.mem_cons_self (List.mem_cons_of_mem _ hdx) (Nat.lt_of_lt_of_le (Nat.succ_lt_succ hdp) (by decide)) fun t' h' tk' F N => ?_
    k_extra "stepz"
    · rename ((((its ++ [v]).length : Nat) : Int) = 0) => hc
      simp at hc
      omega
    · exact hQ' _ _ ⟨rfl, _, _, rfl, F, N⟩
  · rintro f s' ⟨rfl, h', tk', rfl, F, N⟩
    have a0 := fun {x} (q : x ∈ (a, accObj dx (its ++ [v]) n) :: rest) => N x q
    refine ks_wpAt_execs_cons (ks_wpAt_Return_some (ks_wpAt_MethodCall (sup_node F X N T (by k_is) rfl rfl (acc_inst (N _ List.mem_cons_self).1 (N _ (List.mem_cons_of_mem _ hdx)).1) (by k_is) rfl (by kernel_rfl) (by k_is) (by k_is) (by k_is) (by k_is) rfl rfl rfl rfl rfl (by kernel_rfl) boot_super fun so h₂ F₂ N₂ l₂ => ?_)))
    have ha₂ := (N₂ _ (List.mem_cons_of_mem _ List.mem_cons_self)).1
    refine sup_getMethod (bt := "builtin_function_or_method") (X.keeps F₂.keep) ha₂ (N₂ _ List.mem_cons_self).1 rfl own_pop t_list_pop slot_md_get.lookup (fun A E Q hq => md_get (X.keeps F₂.keep) ha₂ t_list_pop cut_pop told_pop hq) ?_
    obtain ⟨F₃, N₃, l₃⟩ := ks_newsPush (s := { s with heap := h₂ }) (o := { cls := .type "builtin_function_or_method", data := .fields #[.builtin "list.pop", .ref a] }) F₂ N₂ rfl (Heap.get?_push_at rfl rfl) (fun b o e => Heap.get?_push_of_some _ e)
    refine callWith_bound (N₃ _ List.mem_cons_self).1 (.inr rfl) ?_
    have N₄ : News g L' _ ((a, accObj dx (its ++ [v]) n) :: rest) := fun p hp => N₃ p (List.mem_cons_of_mem _ (List.mem_cons_of_mem _ hp))
    have ha₃ := (N₄ _ List.mem_cons_self)
    refine call_boundB (N₃ _ List.mem_cons_self).1 (.inr rfl) (fun Q E A hq => bound_pop (X.keeps F₃.keep) ha₃.1 hq) (by decide +kernel) ?_
    refine acc_pop0 (X.keeps F₃.keep) ha₃.1 hz fun h' n' ha' hx => ?_
    exact ⟨L', _, _, Fr.ext F₃ ha₃.2.1 ha₃.2.2 hx, News.ext N₄ hr hx ha', fun F' N' => h _ _ _ F' N'⟩
end
end Mine
namespace Mine
open PySem PySem.W PySem.Calls PyProof.Rows

/-- the attribute dictionary of an _Accumulator. -/
abbrev accD (w : World) (k : Tok) (v : Value) : List DictEntry := putL "_initial_size" (PyData.keyHash w.params "_initial_size") (.str "_initial_size" k) v []
theorem accD_put (w : World) (k : Tok) (v v' key : Value) (hsh : Int) (n : Nat) : (putL "_initial_size" hsh key v' (accD w k v), putN "_initial_size" (accD w k v) n) = (accD w k v', n) := rfl
theorem allLt_mem {d : Addr} : ∀ {l : List (Addr × Obj)}, AllLt d l → ∀ p ∈ l, p.1 < d
  | [], _, _, hp => nomatch hp
  | _ :: _, h, p, hp => by
    rcases List.mem_cons.mp hp with rfl | hp
    · exact h.1
    · exact allLt_mem h.2 p hp
theorem News.swap {h₀ h : Heap} {L : Addr} {x y : Addr × Obj} {r : List (Addr × Obj)} (N : News h₀ L h (x :: y :: r)) : News h₀ L h (y :: x :: r) := fun p hp => by
  rcases List.mem_cons.mp hp with rfl | hp
  · exact N _ (List.mem_cons_of_mem _ List.mem_cons_self)
  rcases List.mem_cons.mp hp with rfl | hp
  · exact N _ List.mem_cons_self
  · exact N _ (List.mem_cons_of_mem _ (List.mem_cons_of_mem _ hp))
theorem News.sub {h₀ h : Heap} {L : Addr} {l l' : List (Addr × Obj)} (N : News h₀ L h l) (hs : ∀ p ∈ l', p ∈ l) : News h₀ L h l' := fun p hp => N p (hs p hp)

section
variable {w : World} {dp un : Nat} {fr : Option (List Env)} {gd : Option (List Code)} {s : Shared} {h₀ : Heap} {L : Addr} {m : Str → Option Value} {p : Program} {loose : List Str} {mg mb : Str → Option Value} {a dx : Addr} {its : List Value} {n dn : Nat} {es : List DictEntry} {rest : List (Addr × Obj)} {E : Value → Shared → Prop}

theorem acc_push_C {sl sw : Str} {tl tw : Tok} {Q : Value → Shared → Prop}
    (F : Fr h₀ L s.heap m) (N : News h₀ L s.heap ((a, accObj dx its n) :: rest)) (hr : ∀ p ∈ rest, p.1 ≠ a) (G : Gd w p loose mg mb h₀)
    (hdx : (dx, dictOf es dn) ∈ rest) (hes : getL "append" es = some none) (hz : its.length ≤ 999) (hdp : dp < 900)
    (h : ∀ t h' tk' n', Fr h₀ L h' m → News h₀ L h' ((a, accObj dx (its ++ [.ref t]) n') :: (t, tupO [.str sl tl, .str sw tw]) :: rest) → (∀ q ∈ (a, accObj dx its n) :: rest, q.1 < t) → Q .none { s with heap := h', toks := tk' }) :
    codeAny (model pw w) (AR dp un fr gd) (.call (.ref 122) ⟨[.ref a, .str sl tl, .str sw tw], []⟩) (gives Q E) s := by
  refine' code_K (binds := [("self", .ref a), ("fws", .str sl tl), ("string", .str sw tw)]) F N G.X G.T ?k6 ?k7 ?k8 ?k9 ?kB ?_ ?c1 ?c2 ?c3 ?c4
  case k6 => k_is
  case k7 => k_is
  case k8 => exact Nat.lt_trans hdp (by decide)
  case k9 => exact BindsTo.of_eq rfl
  case kB => exact locs rfl
  case c1 => exact rfl
  case c2 => exact rfl
  case c3 => exact rfl
  case c4 => decide
  intro g L' h₁ st FG F N X T hlt
  try dsimp only
  k_fold
  have G' := G.keeps st
  k_with_none
  k_with "stepz" => repeat' (fail_if_success (with_reducible show wpAny _ _ (getMethod (Value.ref _) _ _) _ _ _)); (fail_if_success (with_reducible show wpAny _ _ (call (Value.ref _) _) _ _ _)); (first | (k_unfold; (try dsimp only)) | (k_end; kc_close) | walk1 | (dsimp only; walk1) | (leave1; (try dsimp only)) | fail "no step")
  k_extra "stepz"
  refine acc_method (X.keeps F.keep) (N _ List.mem_cons_self).1 (N _ (List.mem_cons_of_mem _ hdx)).1 (by k_is) (.now) rfl hes ?_
  dsimp only
  k_extra "stepz"
  rename Fr _ _ _ _ => F
  rename News _ _ _ _ => N
  rename a < _ ∧ AllLt _ _ => hl
  have N₂ := News.swap N
  have hal := allLt_mem hl.2
  refine acc_append (X.keeps F.keep) (N₂ _ List.mem_cons_self).1 (Nat.le_trans hz (by decide)) fun h' n' ha' hx => ?_
  have F₃ := Fr.ext F (N₂ _ List.mem_cons_self).2.1 (N₂ _ List.mem_cons_self).2.2 hx
  have N₃ := News.ext N₂ (List.forall_mem_cons.mpr ⟨Nat.ne_of_gt hl.1, hr⟩) hx ha'
  clear N N₂ F
  k_extra "stepz"
  refine ⟨L', _, _, F₃, N₃, fun F' N' => h _ _ _ _ F' N' ?_⟩
  exact (fun q hq => by
    rcases List.mem_cons.mp hq with rfl | hq
    · exact hl.1
    · exact hal q hq)

theorem acc_push_K {sl sw : Str} {tl tw : Tok} {Q : Value → Shared → Prop}
    (F : Fr h₀ L s.heap m) (N : News h₀ L s.heap ((a, accObj dx its n) :: rest)) (hr : ∀ p ∈ rest, p.1 ≠ a) (G : Gd w p loose mg mb h₀)
    (hdx : (dx, dictOf es dn) ∈ rest) (hes : getL "append" es = some none) (hz : its.length ≤ 999) (hdp : dp < 900)
    (h : ∀ t h' tk' n', Fr h₀ L h' m → News h₀ L h' ((a, accObj dx (its ++ [.ref t]) n') :: (t, tupO [.str sl tl, .str sw tw]) :: rest) → (∀ q ∈ (a, accObj dx its n) :: rest, q.1 < t) → Q .none { s with heap := h', toks := tk' }) :
    wpAny (model pw w) (AR dp un fr gd) (call (.ref 122) [.ref a, .str sl tl, .str sw tw]) Q E s := wpAny_call (acc_push_C F N hr G hdx hes hz hdp h)

theorem acc_reset_K {l : Addr} {new : List Value} {nl : Nat} {sz : Value} {k : Tok} {Q : Value → Shared → Prop}
    (F : Fr h₀ L s.heap m) (N : News h₀ L s.heap ((a, accObj dx its n) :: (dx, dictOf (accD w k sz) dn) :: rest)) (hr : ∀ p ∈ (dx, dictOf (accD w k sz) dn) :: rest, p.1 ≠ a) (hrd : ∀ p ∈ rest, p.1 ≠ dx) (G : Gd w p loose mg mb h₀)
    (hl : (l, listOf new.toArray nl) ∈ rest) (hz : its.length ≤ 400) (hzn : new.length ≤ 400) (hdp : dp < 900)
    (h : ∀ h' tk' n' t', Fr h₀ L h' m → News h₀ L h' ((a, accObj dx new n') :: (dx, dictOf (accD w k (.int 0 t')) dn) :: rest) → Q .none { s with heap := h', toks := tk' }) :
    wpAny (model pw w) (AR dp un fr gd) (call (.ref 160) [.ref a, .ref l]) Q E s := by
  refine wpAny_call ?_
  refine' code_K (binds := [("self", .ref a), ("startval", .ref l)]) F N G.X G.T ?k6 ?k7 ?k8 ?k9 ?kB ?_ ?c1 ?c2 ?c3 ?c4
  case k6 => k_is
  case k7 => k_is
  case k8 => exact Nat.lt_trans hdp (by decide)
  case k9 => exact kp_binds (G.X.keeps F.keep) (fun _ => rfl)
  case kB => exact locs rfl
  case c1 => exact rfl
  case c2 => exact rfl
  case c3 => exact rfl
  case c4 => decide
  intro g L' h₁ st FG F N X T hlt
  dsimp only
  k_fold
  have G' := G.keeps st
  k_with_none
  k_with "stepz" => repeat' (fail_if_success (with_reducible show wpAny _ _ (getMethod (Value.ref _) _ _) _ _ _)); (fail_if_success (with_reducible show wpAny _ _ (call (Value.ref _) _) _ _ _)); (first | (k_unfold; (try dsimp only)) | (k_end; kc_close) | walk1 | (dsimp only; walk1) | (leave1; (try dsimp only)) | fail "no step")
  k_extra "stepz"
  have F₂ := F.push (o := { cls := .type "slice", data := .fields #[.none, .none, .none] })
  have N₂ : News g L' _ _ := fun q hq => News.push F N { cls := .type "slice", data := .fields #[.none, .none, .none] } (hfree := rfl) q (List.mem_cons_of_mem _ hq)
  have hla : l ≠ a := hr _ (List.mem_cons_of_mem _ hl)
  refine acc_setSlice (X.keeps F₂.keep) (N₂ _ List.mem_cons_self).1 (Heap.IsSliceOf.new ..) .none .none (isList_of (N₂ _ (List.mem_cons_of_mem _ (List.mem_cons_of_mem _ hl))).1) (Ne.symm hla) (fun h' n' ha' hx => ?_) hz (by simpa using hzn)
  have ha'' : h'.get? a = some (accObj dx new n') := by
    rw [ha']
    simp [sliceBounds]
  have F₃ := Fr.ext F₂ (N₂ _ List.mem_cons_self).2.1 (N₂ _ List.mem_cons_self).2.2 hx
  have N₃ := News.swap (News.ext N₂ hr hx ha'')
  clear N₂ F₂
  k_extra "stepz"
  have hda : a ≠ dx := Ne.symm (hr _ List.mem_cons_self)
  refine acc_set F₃ N₃ (fun p hp => ?_) X List.mem_cons_self (by k_is) rfl (accD_put ..) (by simp [accD, putL]) fun h' F N => ?_
  · rcases List.mem_cons.mp hp with rfl | hp
    · exact hda
    · exact hrd p hp
  clear F₃ N₃
  have N₄ := News.swap N
  clear N
  k_extra "stepz"
  exact ⟨L', _, _, F, N₄, fun F' N' => h _ _ _ _ F' N'⟩
end
end Mine
namespace Mine
open PySem PySem.W PySem.Calls PyProof.Rows

theorem News.rot3 {h₀ h : Heap} {L : Addr} {x y z : Addr × Obj} {r : List (Addr × Obj)} (N : News h₀ L h (x :: y :: z :: r)) : News h₀ L h (y :: z :: x :: r) := fun p hp => N p (by
  simp only [List.mem_cons] at hp ⊢
  rcases hp with h | h | h | h <;> simp [h])
theorem ne_cons {a : Addr} {x : Addr × Obj} {r : List (Addr × Obj)} (h : x.1 ≠ a) (hr : ∀ p ∈ r, p.1 ≠ a) : ∀ p ∈ x :: r, p.1 ≠ a := fun p hp => by
  rcases List.mem_cons.mp hp with e | hp
  · rw [e]; exact h
  · exact hr p hp
theorem ne_tail {a : Addr} {x : Addr × Obj} {r : List (Addr × Obj)} (hr : ∀ p ∈ x :: r, p.1 ≠ a) : ∀ p ∈ r, p.1 ≠ a := fun p hp => hr p (List.mem_cons_of_mem _ hp)
theorem News.drop1 {h₀ h : Heap} {L : Addr} {x : Addr × Obj} {r : List (Addr × Obj)} (N : News h₀ L h (x :: r)) : News h₀ L h r := fun p hp => N p (List.mem_cons_of_mem _ hp)

theorem sb_from (i n : Nat) (hi : i ≤ n) : sliceBounds (some (i : Int)) none none n = ((i : Int), (n : Int), 1) := by
  simp only [sliceBounds, Option.getD_none]
  have h1 : ¬ ((i : Int) < 0) := by omega
  simp only [h1, if_false, show (1 : Int) > 0 by decide, if_true]
  congr 1
  omega

section
variable {w : World} {A : Around} {env : Env} {dp un : Nat} {fr : Option (List Env)} {gd : Option (List Code)} {s : Shared} {h₀ : Heap} {L : Addr} {m : Str → Option Value} {p : Program} {loose : List Str} {mg mb : Str → Option Value} {a dx : Addr} {its : List Value} {n dn : Nat} {es : List DictEntry} {rest : List (Addr × Obj)} {E : Value → Shared → Prop}

theorem acc_inPy {Q : Bool → Shared → Prop} (X : (hed.heap_39 w.params).In s.heap) (ha : s.heap.get? a = some (accObj dx its n)) (h : Q false s) : wpAny (model pw w) A (getitemInPython (.ref a)) Q E s := by
  rw [getitemInPython_of_ne (by simp)]
  refine wpAny_bind ((acc_special X ha (by k_is : findIn (hed.heap_39 w.params) (.ref 178) "__getitem__" = some (some (.builtin "list.__getitem__")))).here ?_)
  exact wpAny_pure h

theorem acc_subSlice {value : Expr} {lower upper : Option Expr} {p : Pos} {sl : Addr} {vl vu : Value} {lo hi : Option Int} {Q : Value → Shared → Prop} (X : (hed.heap_39 w.params).In s.heap) (ha : s.heap.get? a = some (accObj dx its n)) 
    (hs : s.heap.IsSliceOf sl vl vu .none) (pl : IsPart vl lo) (pu : IsPart vu hi)
    (h : Q (.ref s.heap.objs.size) { s with heap := s.heap.push { cls := .type "list", data := .seq (slicePick its.toArray lo hi none) } })
    (hsz : its.length ≤ 1000) : wpAny (model pw w) A (subscriptTail value (.Slice lower upper none p) (.ref a) (.ref sl)) Q E s := by
  unfold subscriptTail
  refine wpAny_bind (acc_inPy X ha ?_)
  refine wpAny_bind (wpAny_operating (acc_getSlice X ha hs pl pu .none (by simp) ?_ hsz))
  exact wpAny_bind (wpAny_letTemporaryGo (wpAny_pure h))

theorem acc_subInt {value slice : Expr} {i : Int} {u : Tok} {v : Value} {Q : Value → Shared → Prop} (X : (hed.heap_39 w.params).In s.heap) (ha : s.heap.get? a = some (accObj dx its n)) (h0 : 0 ≤ i) (hfit : i < 2 ^ 63) (hk : its.toArray[i.toNat]? = some v)
    (hsl : subscripted slice false (.ref a) (.int i u) = operate [.ref a, .int i u] (getItem (.ref a) (.int i u))) (h : Q v s) : wpAny (model pw w) A (subscriptTail value slice (.ref a) (.int i u)) Q E s := by
  unfold subscriptTail
  refine wpAny_bind (acc_inPy X ha ?_)
  rw [hsl]
  refine wpAny_bind (wpAny_operating (acc_getInt X ha h0 hfit hk ?_))
  exact wpAny_bind (wpAny_letTemporaryGo (wpAny_pure h))

theorem acc_popfrom_K {i : Nat} {ti : Tok} {Q : Value → Shared → Prop}
    (F : Fr h₀ L s.heap m) (N : News h₀ L s.heap ((a, accObj dx its n) :: rest)) (hr : ∀ p ∈ rest, p.1 ≠ a) (G : Gd w p loose mg mb h₀)
    (hi : i ≤ its.length) (hz : its.length ≤ 400) (hdp : dp < 900)
    (h : ∀ l h' tk' n', Fr h₀ L h' m → News h₀ L h' ((a, accObj dx (its.take i) n') :: (l, listOf (its.drop i).toArray 0) :: rest) → (∀ q ∈ (a, accObj dx its n) :: rest, q.1 < l) → Q (.ref l) { s with heap := h', toks := tk' }) :
    wpAny (model pw w) (AR dp un fr gd) (call (.ref 130) [.ref a, .int i ti]) Q E s := by
  refine wpAny_call ?_
  refine' code_K (binds := [("self", .ref a), ("i", .int i ti)]) F N G.X G.T ?k6 ?k7 ?k8 ?k9 ?kB ?_ ?c1 ?c2 ?c3 ?c4
  case k6 => k_is
  case k7 => k_is
  case k8 => exact Nat.lt_trans hdp (by decide)
  case k9 => exact kp_binds (G.X.keeps F.keep) (fun _ => rfl)
  case kB => exact locs rfl
  case c1 => exact rfl
  case c2 => exact rfl
  case c3 => exact rfl
  case c4 => decide
  intro g L' h₁ st FG F N X T hlt
  dsimp only
  k_fold
  have G' := G.keeps st
  k_with_none
  k_steps
  have F₂ := F.push (o := { cls := .type "slice", data := .fields #[.int i ti, .none, .none] })
  have N₂ : News g L' _ _ := fun q hq => News.push F N { cls := .type "slice", data := .fields #[.int i ti, .none, .none] } (hfree := rfl) q (List.mem_cons_of_mem _ hq)
  refine acc_subSlice (X.keeps F₂.keep) (N₂ _ List.mem_cons_self).1 (Heap.IsSliceOf.new ..) (.int _ _) .none ?_ (Nat.le_trans hz (by decide))
  have F₃ := F₂.push (o := { cls := .type "list", data := .seq (slicePick its.toArray (some (i : Int)) none none) })
  have N₃ := News.swap (News.push F₂ N₂ { cls := .type "list", data := .seq (slicePick its.toArray (some (i : Int)) none none) })
  have hgt : ∀ q ∈ (a, accObj dx its n) :: rest, q.1 < (_ : Heap).objs.size := fun q hq => Heap.lt_size (N₂ q hq).1
  have e := slicePick_from its.toArray i (by simpa using hi)
  rw [e] at N₃ F₃ ⊢
  clear F₂ N₂ F N
  k_steps
  rename Fr _ _ _ _ => F
  rename News _ _ _ _ => N
  rename a < _ ∧ _ < _ ∧ AllLt _ _ => hl
  have N := News.swap N
  have F₂ := F.push (o := { cls := .type "slice", data := .fields #[.int i ti, .none, .none] })
  have N₂ : News g L' _ _ := fun q hq => News.push F N { cls := .type "slice", data := .fields #[.int i ti, .none, .none] } (hfree := rfl) q (List.mem_cons_of_mem _ hq)
  refine acc_setSlice (new := #[]) (X.keeps F₂.keep) (N₂ _ List.mem_cons_self).1 (Heap.IsSliceOf.new ..) (.int _ _) .none (isList_of (N₂ _ (List.mem_cons_of_mem _ List.mem_cons_self)).1) (Nat.ne_of_lt hl.1) (fun h' n' ha' hx => ?_) hz (by simp)
  rw [sb_from _ _ hi] at ha'
  have ha'' : h'.get? a = some (accObj dx (its.take i) n') := by
    rw [ha']
    have : (max (i : Int) its.length).toNat = its.length := by omega
    simp [this]
  have F₃ := Fr.ext F₂ (N₂ _ List.mem_cons_self).2.1 (N₂ _ List.mem_cons_self).2.2 hx
  have hga := hgt _ List.mem_cons_self
  have N₃ := News.ext N₂ (ne_cons (Nat.ne_of_gt hl.1) (ne_cons (Nat.ne_of_gt hga) hr)) hx ha''
  clear N₂ F₂ F N
  k_steps
  show LeaveK h₀ L m g _ _ _
  exact ⟨L', _, _, F₃, N₃, fun F' N' => h _ _ _ _ F' (News.drop1 (News.swap N')) hgt⟩

theorem acc_reset0_K {sz : Value} {k : Tok} {Q : Value → Shared → Prop}
    (F : Fr h₀ L s.heap m) (N : News h₀ L s.heap ((a, accObj dx its n) :: (dx, dictOf (accD w k sz) dn) :: rest)) (hr : ∀ p ∈ (dx, dictOf (accD w k sz) dn) :: rest, p.1 ≠ a) (hrd : ∀ p ∈ rest, p.1 ≠ dx) (G : Gd w p loose mg mb h₀)
    (hz : its.length ≤ 400) (hdp : dp < 900)
    (h : ∀ h' tk' n' t', Fr h₀ L h' m → News h₀ L h' ((a, accObj dx [] n') :: (dx, dictOf (accD w k (.int 0 t')) dn) :: rest) → Q .none { s with heap := h', toks := tk' }) :
    wpAny (model pw w) (AR dp un fr gd) (call (.ref 160) [.ref a]) Q E s := by
  refine wpAny_call ?_
  refine' code_K (binds := [("self", .ref a), ("startval", .none)]) F N G.X G.T ?k6 ?k7 ?k8 ?k9 ?kB ?_ ?c1 ?c2 ?c3 ?c4
  case k6 => k_is
  case k7 => k_is
  case k8 => exact Nat.lt_trans hdp (by decide)
  case k9 => exact kp_binds (G.X.keeps F.keep) (fun _ => rfl)
  case kB => exact locs rfl
  case c1 => exact rfl
  case c2 => exact rfl
  case c3 => exact rfl
  case c4 => decide
  intro g L' h₁ st FG F N X T hlt
  dsimp only
  k_fold
  have G' := G.keeps st
  k_with_none
  k_steps
  rename Fr _ _ _ _ => F
  rename News _ _ _ _ => N
  rename a < _ ∧ dx < _ ∧ AllLt _ _ => hl
  have N := News.rot3 N
  have F₂ := F.push (o := { cls := .type "slice", data := .fields #[.none, .none, .none] })
  have N₂ : News g L' _ _ := fun q hq => News.push F N { cls := .type "slice", data := .fields #[.none, .none, .none] } (hfree := rfl) q (List.mem_cons_of_mem _ hq)
  refine acc_setSlice (new := #[]) (X.keeps F₂.keep) (N₂ _ List.mem_cons_self).1 (Heap.IsSliceOf.new ..) .none .none (isList_of (N₂ _ (List.mem_cons_of_mem _ (List.mem_cons_of_mem _ List.mem_cons_self))).1) (Nat.ne_of_lt hl.1) (fun h' n' ha' hx => ?_) hz (by simp)
  have ha'' : h'.get? a = some (accObj dx [] n') := by
    rw [ha']
    simp [sliceBounds]
  have hr' := ne_cons (hr _ List.mem_cons_self) (ne_cons (x := (_, listOf #[] 0)) (Nat.ne_of_gt hl.1) (ne_tail hr))
  have F₃ := Fr.ext F₂ (N₂ _ List.mem_cons_self).2.1 (N₂ _ List.mem_cons_self).2.2 hx
  have N₃ := News.swap (News.ext N₂ hr' hx ha'')
  clear N₂ F₂ F N
  k_steps
  have hda : a ≠ dx := Ne.symm (hr _ List.mem_cons_self)
  refine acc_set F₃ N₃ (ne_cons hda (ne_cons (Nat.ne_of_gt hl.2.1) hrd)) X List.mem_cons_self (by k_is) rfl (accD_put ..) (by simp [accD, putL]) fun h' F N => ?_
  clear F₃ N₃
  have N₄ := News.swap N
  clear N
  k_steps
  exact ⟨L', _, _, F, N₄, fun F' N' => h _ _ _ _ F' (News.drop1 (News.rot3 (News.rot3 N')))⟩
end
end Mine
namespace Mine
open PySem PySem.W PySem.Calls PyProof.Rows

theorem ln_kind : builtinKind "list.__new__" = some .builtinFn := by decide +kernel
theorem ln_split : splitId "list.__new__" = some ("list", "__new__") := by decide +kernel
theorem ln_sig (a b : Value) : argsOk "list.__new__" ⟨[a, b], []⟩ := by
  unfold argsOk; rw [signature?_of (id := "list.__new__") (n := ['_', '_', 'w', 'e', 'n', '_', '_']) (o := ['t', 's', 'i', 'l']) (by kernel_rfl) F.owner_list]; kernel_rfl
section
variable {w : World} {A : Around} {R : Result → Shared → Prop} {h : Heap} {g : Array GenState} {d : Drawn} {t : Nat} {os : OsState}

theorem madeL (X : (hed.heap_39 w.params).In h) : Looks (model pw w) h (Bind.madeBy (.ref 178)) (some "list.__new__") := by
  have hmro : Looks (model pw w) h (mroOf (.ref 178)) [.ref 178, .type "list", .type "object"] := fun A Q E s k q => wpAny_bind ((looks_clsIn (cd := _) X (by k_is)) A _ E s k (wpAny_pure q))
  intro A Q E s k q
  unfold Bind.madeBy
  refine wpAny_bind (hmro A _ E s k ?_)
  rw [List.forIn_cons]
  have ho := X 178 _ (show (hed.heap_39 w.params).lookup 178 = some _ by k_is)
  refine wpAny_bind (wpAny_bind (wpAny_bind (wpAny_bind (wpAny_loadPart (k _ _ ho) (wpAny_pure ?_)))))
  dsimp only
  exact wpAny_pure (wpAny_pure (wpAny_pure q))

theorem baseL (X : (hed.heap_39 w.params).In h) : Looks (model pw w) h (Bind.staticBase (.ref 178)) (.ref 178) := by
  have hmro : Looks (model pw w) h (mroOf (.ref 178)) [.ref 178, .type "list", .type "object"] := fun A Q E s k q => wpAny_bind ((looks_clsIn (cd := _) X (by k_is)) A _ E s k (wpAny_pure q))
  intro A Q E s k q
  unfold Bind.staticBase
  refine wpAny_bind (hmro A _ E s k ?_)
  rw [List.forIn_cons]
  exact wpAny_bind (wpAny_bind (wpAny_bind (madeL X A _ E s k (wpAny_pure (wpAny_pure (wpAny_pure q))))))

theorem new_L {v : Value} (X : (hed.heap_39 w.params).In h)
    (hq : R (.ok (.ret (.ref (h.objs.size + 1)))) ⟨(h.push emptyDict).push (accObj h.objs.size [] 0), g, d, t, os⟩) :
    codeAny (model pw w) A (.call (.builtin "list.__new__") ⟨[.ref 178, v], []⟩) R ⟨h, g, d, t, os⟩ := by
  refine codeAny_call_builtin_code (Code.quiet_builtin _ (by decide +kernel)) ?_
  have hmade := madeL X
  have hbase := baseL X
  have hty : Looks (model pw w) h (isType (.ref 178)) true := by
    have ho := X 178 _ (show (hed.heap_39 w.params).lookup 178 = some _ by k_is)
    intro A Q E s k q
    exact ks_wpAny_isType_cls (k _ _ ho) rfl q
  have hsub : Looks (model pw w) h (isSubtype (.ref 178) (.type "list")) true := looks_subIn X (by k_is)
  have hin : codeAny (model pw w) A (.builtin "list.__new__" ⟨[.ref 178, v], []⟩) R ⟨h, g, d, t, os⟩ := by
    refine codeAny_builtin_stack F.entry_list_new rfl fun p st => ?_
    rw [Around.under_plainId F.plain_list_new _]
    have hown := owner_list_new
    simp only [hown]
    repeat (first | simp only [bne_self_eq_false, Bool.false_eq_true, if_false] | lk)
    have ho := X 178 _ (show (hed.heap_39 w.params).lookup 178 = some _ by k_is)
    show wpAny _ _ (load 178) _ _ _
    refine wpAny_load (Heap.get?_push_of_some _ (Heap.get?_push_of_some _ ho)) ?_
    dsimp only
    refine wpAny_pure ?_
    rw [if_neg (by decide)]
    refine wpAny_pure (wpAny_pure ?_)
    show R _ _
    rw [Heap.size_push]
    exact hq
  have hck : ∀ (Q : Unit → Shared → Prop) (E : Value → Shared → Prop), Q () ⟨h, g, d, t, os⟩ → wpAny (model pw w) A.in1 (match Manifest.signature? "list.__new__" with
      | some sig => Bind.checkArgs "list.__new__" sig ⟨[.ref 178, v], []⟩
      | x => pure ()) Q E ⟨h, g, d, t, os⟩ := fun Q E hq => by
    have ha := ln_sig (.ref 178) v
    cases hsig : Manifest.signature? "list.__new__" with
    | none => exact wpAny_pure hq
    | some sig =>
      simp only [argsOk, hsig] at ha
      have h2 : Bind.checkArgs "list.__new__" sig ⟨[.ref 178, v], []⟩ = pure () := ha
      show wpAny _ _ (Bind.checkArgs "list.__new__" sig ⟨[.ref 178, v], []⟩) _ _ _
      rw [h2]; exact wpAny_pure hq
  simp only [checkBuiltinCall, ln_kind, ln_split]
  repeat (first | exact hck _ _ hin | simp only [bne_self_eq_false, Bool.false_eq_true, if_false] | lk)

theorem make_L {v : Value} (X : (hed.heap_39 w.params).In h) 
    (hq : codeAny (model pw w) (A.under (.builtin "type.__call__" ⟨[.ref 178, v], []⟩)) (.call (.ref 115) ⟨[.ref (h.objs.size + 1), v], []⟩) (InitBack (h.objs.size + 1) R) ⟨(h.push emptyDict).push (accObj h.objs.size [] 0), g, d, t, os⟩) :
    codeAny (model pw w) A (.call (.ref 178) ⟨[v], []⟩) R ⟨h, g, d, t, os⟩ := by
  have made := madeL X
  have hm : Looks (model pw w) h (mroOf (.ref 178)) [.ref 178, .type "list", .type "object"] := fun A Q E s k q => wpAny_bind ((looks_clsIn (cd := _) X (by k_is)) A _ E s k (wpAny_pure q))
  have hC := X 178 _ (show (hed.heap_39 w.params).lookup 178 = some _ by k_is)
  have hcall : Looks (model pw w) h (specialOf (.ref 178) "__call__") (some (.builtin "type.__call__")) := looks_specialIn X (by k_is)
  have typ : Looks (model pw w) h (isInstance (.ref 178) (.type "type")) true := looks_instIn X (by k_is)
  have self : Looks (model pw w) h (isSubtype (.ref 178) (.ref 178)) true := looks_subIn X (by k_is)
  have hi : Looks (model pw w) h (typeLookup (.ref 178) "__init__") (some (.ref 115)) := looks_findIn X (by k_is)
  have hb : Looks (model pw w) h (bindSpecial (.ref 115) (.ref (h.objs.size + 1))) (.ref 115, [.ref (h.objs.size + 1)]) := bind_fn X _ (by k_is)
  refine codeAny_of_tree ?_
  show wpAny _ _ (callAny (.ref 178) _) _ _ _
  unfold callAny
  refine wpAny_bind (wpAny_load hC ?_)
  show wpAny _ _ (callAny.viaDunder (.ref 178) _) _ _ _
  unfold callAny.viaDunder
  refine wpAny_bind (hcall.at ?_)
  dsimp only
  rw [tc_bind]
  refine wpAny_bind (wpAny_pure (wpAny_bind (wpAny_pure ?_)))
  refine wpAny_pure (a := Fin.again (.call (.builtin "type.__call__") ⟨[.ref 178, v], []⟩)) (And.intro rfl ?_)
  refine codeAny_call_builtin_at (Code.quiet_builtin _ (by decide +kernel)) entry_typeCall (check_slot tc_kind tc_split typ (tc_args _ _ _) ?_)
  unfold Builtin.«type.__call__»
  repeat (first | simp only [Bool.false_eq_true, if_false] | with_reducible refine wpAny_call ?_ | lk)
  refine new_L X ?_
  have k : ∀ b o, h.get? b = some o → ((h.push emptyDict).push (accObj h.objs.size [] 0)).get? b = some o := fun b o e => Heap.get?_push_of_some _ (Heap.get?_push_of_some _ e)
  have hx : ((h.push emptyDict).push (accObj h.objs.size [] 0)).get? (h.objs.size + 1) = some (accObj h.objs.size [] 0) := by heap_get
  have t1 : Looks (model pw w) ((h.push emptyDict).push (accObj h.objs.size [] 0)) (typeOf (.ref (h.objs.size + 1))) (.ref 178) := (Looks.ld hx).andThen .now
  have s1 := self.keeps k
  have i1 := hi.keeps k
  have b1 := hb.keeps k
  unfold isInstance callSpecial? specialOf
  repeat (first | with_reducible refine wpAny_call ?_ | lk)
  refine codeAny_mono hq fun r s' z => ?_
  rcases r with e | (v | _ | _ | _) <;> first | exact z | exact z.elim | skip
  obtain ⟨rfl, z⟩ := z
  exact wpAny_pure (wpAny_pure z)
end
end Mine
namespace Mine
open PySem PySem.W PySem.Calls PyProof.Rows

section
variable {w : World} {A : Around} {dp un : Nat} {fr : Option (List Env)} {gd : Option (List Code)} {s : Shared} {h₀ : Heap} {L : Addr} {m : Str → Option Value} {p : Program} {loose : List Str} {mg mb : Str → Option Value} {a dx : Addr} {its : List Value} {n dn : Nat} {es : List DictEntry} {rest : List (Addr × Obj)} {E : Value → Shared → Prop}

theorem acc_set0 {v : Value} {Q : Unit → Shared → Prop} (F : Fr h₀ L s.heap m) (N : News h₀ L s.heap ((dx, emptyDict) :: rest)) (hr : ∀ p ∈ rest, p.1 ≠ dx)
    (X : (hed.heap_39 w.params).In h₀) (ha : (a, accObj dx its n) ∈ rest) (hf : findIn (hed.heap_39 w.params) (.ref 178) "_initial_size" = some none) 
    (h : ∀ h', Fr h₀ L h' m → News h₀ L h' ((dx, dictOf (accD w (s.toks + 1) v) 1) :: rest) → Q () { s with heap := h', toks := s.toks + 2 }) :
    wpAny (model pw w) A (setAttr (.ref a) "_initial_size" v) Q E s := by
  exact acc_set (es := []) (dn := 0) F N hr X ha hf rfl rfl (by simp [putL]) h

theorem acc_init_K {v : Value} {R : Result → Shared → Prop} (hA : A.depth < 900)
    (F : Fr h₀ L s.heap m) (N : News h₀ L s.heap ((a, accObj dx [] n) :: (dx, emptyDict) :: rest)) (hr : ∀ p ∈ (dx, emptyDict) :: rest, p.1 ≠ a) (hrd : ∀ p ∈ rest, p.1 ≠ dx) (G : Gd w p loose mg mb h₀)
    (h : ∀ h' tk' n' t', Fr h₀ L h' m → News h₀ L h' ((a, accObj dx [] n') :: (dx, dictOf (accD w t' v) 1) :: rest) → R (.ok (.ret .none)) { s with heap := h', toks := tk' }) :
    codeAny (model pw w) A (.call (.ref 115) ⟨[.ref a, v], []⟩) R s := by
  refine' code_KS (binds := [("self", .ref a), ("initial_size", v)]) F N G.X G.T ?k6 ?k7 ?k8 ?k9 ?kB ?_ ?c1 ?c2 ?c3 ?c4
  case k6 => k_is
  case k7 => k_is
  case k8 => exact Nat.lt_trans hA (by decide)
  case k9 => exact kp_binds (G.X.keeps F.keep) (fun _ => rfl)
  case kB => exact locs rfl
  case c1 => exact rfl
  case c2 => exact rfl
  case c3 => exact rfl
  case c4 => decide
  intro g L' h₁ st FG F N X T hlt
  have G' := G.keeps st
  refine ks_wpAt_execs_cons (wpAt_pass (P := fun f s' => f = .next ∧ ∃ h' tk' t', s' = { s with heap := h', toks := tk' } ∧ Fr g L' h' (fun y => [((Str.ofString "self"), Value.ref a), ((Str.ofString "initial_size"), v)].reverse.lookup y) ∧ News g L' h' ((a, accObj dx [] n) :: (dx, dictOf (accD w t' v) 1) :: rest)) ?_ ?_)
  · intro Q' hQ'
    k_with_none
    k_steps
    have hda : a ≠ dx := Ne.symm (hr _ List.mem_cons_self)
    refine acc_set0 F (News.swap N) (ne_cons hda hrd) X List.mem_cons_self (by k_is) fun h' F N => ?_
    k_steps
    exact hQ' _ _ ⟨rfl, _, _, _, rfl, F, News.swap N⟩
  · rintro f s' ⟨rfl, h', tk', t', rfl, F, N⟩
    refine ks_wpAt_execs_cons (ks_wpAt_Expr_any (ks_wpAt_MethodCall (sup_node F X N T (by k_is) rfl rfl (acc_inst (N _ List.mem_cons_self).1 (N _ (List.mem_cons_of_mem _ List.mem_cons_self)).1) (by k_is) rfl (by kernel_rfl) (by k_is) (by k_is) (by k_is) (by k_is) rfl rfl rfl rfl rfl (by kernel_rfl) boot_super fun so h₂ F₂ N₂ l₂ => ?_)))
    have ha₂ := (N₂ _ (List.mem_cons_of_mem _ List.mem_cons_self)).1
    refine sup_getMethod (bt := "method-wrapper") (X.keeps F₂.keep) ha₂ (N₂ _ List.mem_cons_self).1 rfl own_init t_list_init slot_wd_get.lookup (fun A E Q hq => wd_get (X.keeps F₂.keep) ha₂ t_list_init cut_init hq) ?_
    obtain ⟨F₃, N₃, l₃⟩ := ks_newsPush (s := { s with heap := h₂ }) (o := { cls := .type "method-wrapper", data := .fields #[.builtin "list.__init__", .ref a] }) F₂ N₂ rfl (Heap.get?_push_at rfl rfl) (fun b o e => Heap.get?_push_of_some _ e)
    refine callWith_bound (N₃ _ List.mem_cons_self).1 (.inl rfl) ?_
    have N₄ : News g L' _ _ := News.drop1 (News.drop1 N₃)
    have ha₃ := (N₄ _ List.mem_cons_self)
    refine call_boundB (N₃ _ List.mem_cons_self).1 (.inl rfl) (fun Q E A hq => bound_slot (by decide +kernel) (a_list_init _) hq) (by decide +kernel) ?_
    refine acc_init0 (X.keeps F₃.keep) ha₃.1 fun h' n' ha' hx => ?_
    refine wpAt_of_wpAny ?_
    have F₄ := Fr.ext F₃ ha₃.2.1 ha₃.2.2 hx
    have hdn : dx ≠ a := hr (dx, emptyDict) List.mem_cons_self
    have N₅ := News.ext N₄ (ne_cons hdn (ne_tail hr)) hx ha'
    k_with_none
    k_steps
    exact ⟨L', _, _, F₄, N₅, fun F' N' => h _ _ _ _ F' N'⟩

theorem acc_new_K {v : Value} {Q : Value → Shared → Prop} (hdp : dp < 890)
    (F : Fr h₀ L s.heap m) (N : News h₀ L s.heap rest) (G : Gd w p loose mg mb h₀)
    (h : ∀ a dx h' tk' n' t', Fr h₀ L h' m → News h₀ L h' ((a, accObj dx [] n') :: (dx, dictOf (accD w t' v) 1) :: rest) → (∀ q ∈ rest, q.1 < dx) → dx < a → Q (.ref a) { s with heap := h', toks := tk' }) :
    wpAny (model pw w) (AR dp un fr gd) (call (.ref 178) [v]) Q E s := by
  obtain ⟨hh, g, d, t, os⟩ := s
  refine wpAny_call (make_L (G.X.keeps F.keep) ?_)
  have N₂ : News h₀ L ((hh.push emptyDict).push (accObj hh.objs.size [] 0)) ((hh.objs.size + 1, accObj hh.objs.size [] 0) :: (hh.objs.size, emptyDict) :: rest) := by
    have := (N.push F emptyDict).push (F.push _) (accObj hh.objs.size [] 0)
    rwa [Heap.size_push] at this
  have lt : ∀ q ∈ rest, q.1 < hh.objs.size := fun q hq => Heap.lt_size (N q hq).1
  refine acc_init_K ?_ ((F.push _).push _) N₂ (ne_cons (Nat.ne_of_lt (Nat.lt_succ_self _)) fun q hq => Nat.ne_of_lt (Nat.lt_succ_of_lt (lt q hq))) (fun q hq => Nat.ne_of_lt (lt q hq)) G fun h' tk' n' t' F' N' => ?_
  · rw [depth_under_kw]; show dp + 1 < 900; omega
  · exact ⟨rfl, h _ _ _ _ _ _ F' N' lt (Nat.lt_succ_self _)⟩
end
end Mine
namespace Mine
open PySem PySem.W PySem.Calls PyProof.Rows

theorem str_e : ("" : Str) = Str.empty := by decide +kernel
theorem join_two (x y : Str) : Txt.join "" [x, y] = x ++ y := by
  show Builtin.Str.glued _ _ = _
  rw [StrLaws.glued_eq_join]
  show x ++ "" ++ y = x ++ y
  rw [str_e, Str.append_empty]

/-- so many words in a row. -/
def lineS : Nat → Str → Str
  | 0, _ => Str.empty
  | n + 1, x => x ++ lineS n x
theorem join_reps (x : Str) : ∀ n, Txt.join "" (List.replicate n x) = lineS n x := by
  intro n
  show Builtin.Str.glued _ _ = _
  rw [StrLaws.glued_eq_join, str_e]
  induction n with
  | zero => rfl
  | succ n ih =>
    cases n with
    | zero => exact (Str.append_empty x).symm
    | succ n =>
      show x ++ Str.empty ++ Str.join Str.empty (List.replicate (n + 1) x) = x ++ lineS (n + 1) x
      rw [ih, Str.append_empty]

section
variable {w : World} {dp un : Nat} {fr : Option (List Env)} {gd : Option (List Code)} {s : Shared} {h₀ : Heap} {L : Addr} {m : Str → Option Value} {p : Program} {loose : List Str} {mg mb : Str → Option Value} {a dx : Addr} {ts : List Addr} {n dn : Nat} {es : List DictEntry} {rest : List (Addr × Obj)} {E : Value → Shared → Prop}

theorem acc_str_K {ps : Array Value} {sl sw : Str} {tl tw : Tok} {Q : Value → Shared → Prop}
    (F : Fr h₀ L s.heap m) (N : News h₀ L s.heap ((147, tabO ps) :: rest)) (hr : ∀ p ∈ rest, p.1 ≠ 147) (G : Gd w p loose mg mb h₀)
    (hacc : (a, accObj dx (ts.map .ref) n) ∈ rest) (hts : ∀ t ∈ ts, (t, tupO [.str sl tl, .str sw tw]) ∈ rest) (htr : TriplesOk ps.toList)
    (hdp : dp < 900) (hw : ts.length * (sl.length + sw.length) ≤ 1000) (hn : ts.length ≤ 1000) (hlw : sl.length + sw.length ≤ 1000)
    (h : ∀ t' h' tk' gs' ps', TabMore ps ps' → Fr h₀ L h' m → News h₀ L h' ((147, tabO ps') :: rest) → GX s.gens gs' → Q (.str (lineS ts.length (sl ++ sw)) t') { s with heap := h', toks := tk', gens := gs' }) :
    wpAny (model pw w) (AR dp un fr gd) (call (.ref 152) [.ref a]) Q E s := by
  refine wpAny_call ?_
  refine' code_K (binds := [("self", .ref a)]) F N G.X G.T ?k6 ?k7 ?k8 ?k9 ?kB ?_ ?c1 ?c2 ?c3 ?c4
  case k6 => k_is
  case k7 => k_is
  case k8 => exact Nat.lt_trans hdp (by decide)
  case k9 => exact BindsTo.of_eq rfl
  case kB => exact locs rfl
  case c1 => exact rfl
  case c2 => exact rfl
  case c3 => exact rfl
  case c4 => decide
  intro g L' h₁ st FG F N X T hlt
  dsimp only
  k_fold
  have G' := G.keeps st
  k_with_none
  k_steps
  rename Fr _ _ _ _ => lF
  rename News _ _ _ _ => lN
  refine' genexp_K (c := 151) (P := 147) (PV := fun v => ∃ t, v = .str (sl ++ sw) t) lF lN hr G' rfl ⟨by k_is, rfl, ⟨_, _, rfl⟩, ⟨_, _, rfl⟩, ⟨_, rfl⟩, ⟨_, _, rfl⟩, by decide⟩ htr rfl hacc hts ?gself rfl rfl (by decide) rfl rfl rfl rfl (by decide) ?groom ?gelt ?gh
  case gself => exact nameX_L lF rfl ⟨rfl, rfl⟩ rfl rfl
  case groom => show dp + 1 < recursionLimit; exact Nat.lt_of_le_of_lt (Nat.succ_le_of_lt hdp) (by decide)
  case gelt =>
    intro A' C code gb s m Q E hA Gg F h1 h2 hq
    obtain ⟨hd', dp', fr', gd', un'⟩ := A'
    dsimp only at hA
    subst hA
    have X := Gg.X
    have T := Gg.T
    k_with "eval Name" => first
      | refine genN_L F h1 ?_ rfl rfl
      | refine genN_L F h2 ?_ rfl rfl
      | refine genN_K F X T (by k_is) ?_ rfl rfl rfl
    k_steps
    refine wpAny_newObj_type ?_ (by size_fits)
    k_steps
    refine join_tupleW (ys := [sl, sw]) (D := s.heap.objs.size) (items := #[.str sl tl, .str sw tw]) ⟨_, Heap.get?_push_size _ rfl, rfl, _, rfl⟩ (.cons _ _ (.cons _ _ .nil)) (by decide) (by simp; omega) fun t' k => ?_
    rw [join_two]
    exact hq _ _ _ ⟨_, rfl⟩ fun b o e => Heap.get?_push_of_some _ e
  intro ga I C h' tk gs ps' hgb tm F N hg hfp hne hC hI W
  clear lF lN
  k_steps
  refine SC.joinGen (W _ rfl ?dpt).1 (fun i s hs => ?_) (W _ rfl ?dpt).2 hfp List.mem_cons_self (fun i v hv => let ⟨t, e⟩ := hv; ⟨_, t, e⟩) (fun s' l hm hacc => ?_) ?_
  case dpt => exact Nat.lt_of_le_of_lt (Nat.succ_le_of_lt hdp) (by decide)
  · obtain ⟨⟨o, nm, qn, ho, hc, _⟩, _⟩ := hs
    exact ⟨o, ho, hc⟩
  · obtain ⟨hh, gs', dr, tk', os⟩ := s'
    have hk := hm.heap
    have hG := hm.gens
    have hd := hm.drawn
    have ho := hm.os
    dsimp only at hk hG hd ho
    subst hd ho
    have hl : l.map (·.1) = List.replicate ts.length (sl ++ sw) := by
      apply List.ext_getElem?
      intro j
      have hsz : l.length = ts.length := by simpa [strValues] using hacc.1
      by_cases hj : j < ts.length
      · have hj' : j < l.length := hsz ▸ hj
        obtain ⟨u, hv⟩ := hacc.2 j (.str l[j].1 l[j].2) (by simp [strValues, List.getElem?_eq_getElem hj'])
        injection hv with h1 _
        simp [List.getElem?_eq_getElem hj', hj, h1]
      · rw [List.getElem?_eq_none (by simpa [hsz] using Nat.le_of_not_lt hj), List.getElem?_eq_none (by simpa using Nat.le_of_not_lt hj)]
    rw [hl]
    refine ⟨joinOk_of_weight ?_ (by decide), fun t' k => ?_⟩
    · simp [Str.length_append]
      omega
    rw [join_reps]
    have hw : ∀ q ∈ (147, tabO ps') :: rest, q.1 ∉ [C, I] := fun q hq => by
      have := hne.2.2 q hq
      simp [this.1, this.2]
    refine ⟨L', _, _, Fr.writes F hk ?_ ?_, News.writes N hk hw, fun F' N' => h _ _ _ _ _ tm F' N' (GX.only hgb hG)⟩
    · simp [Ne.symm hne.1, Ne.symm hne.2.1]
    · intro b hb; rcases List.mem_cons.mp hb with rfl | hb
      · exact hC
      · rw [List.mem_singleton.mp hb]; exact hI
  · exact Nat.le_trans hn (by decide)
end
end Mine
namespace Mine
open PySem PySem.W PySem.Calls PyProof.Rows

section
variable {w : World} {dp un : Nat} {fr : Option (List Env)} {gd : Option (List Code)} {s : Shared} {h₀ : Heap} {L : Addr} {m : Str → Option Value} {p : Program} {loose : List Str} {mg mb : Str → Option Value} {a dx : Addr} {ts : List Addr} {n dn : Nat} {es : List DictEntry} {rest : List (Addr × Obj)} {E : Value → Shared → Prop}

theorem acc_tlen_KX {ps : Array Value} {sl sw : Str} {tl tw tc : Tok} {c : Int} {Q : Value → Shared → Prop}
    (F : Fr h₀ L s.heap m) (N : News h₀ L s.heap ((140, tabO ps) :: rest)) (hr : ∀ p ∈ rest, p.1 ≠ 140) (G : Gd w p loose mg mb h₀)
    (hacc : (a, accObj dx (ts.map .ref) n) ∈ rest) (hdx : (dx, dictOf es dn) ∈ rest) (hes : getL "_initial_size" es = some (some (.int c tc))) (hts : ∀ t ∈ ts, (t, tupO [.str sl tl, .str sw tw]) ∈ rest) (htr : TriplesOk ps.toList)
    (hdp : dp < 900) (hsl : ¬ (sl.length : Int) ≥ 2 ^ 63) (hsw : ¬ (sw.length : Int) ≥ 2 ^ 63) (h0 : 0 ≤ c + ts.length * (sl.length + sw.length)) (h63 : c + ts.length * (sl.length + sw.length) < 2 ^ 63)
    (h : ∀ t' h' tk' gs' ps', TabMore ps ps' → Fr h₀ L h' m → News h₀ L h' ((140, tabO ps') :: rest) → GX s.gens gs' → (∀ b o, b ∉ ((140, tabO ps) :: rest).map (·.1) → s.heap.get? b = some o → h'.get? b = some o) → Q (.int (c + ts.length * (sl.length + sw.length)) t') { s with heap := h', toks := tk', gens := gs' }) :
    wpAny (model pw w) (AR dp un fr gd) (Builtin.«len» ⟨[.ref a], []⟩) (fun fin s' => ∃ v, fin = .done (.ret v) ∧ Q v s') E s := by
  have X := G.X.keeps F.keep
  have ha := (N _ (List.mem_cons_of_mem _ hacc)).1
  unfold Builtin.«len»
  refine wpAny_bind (m := oneArg "len" _) (wpAny_pure ?_)
  refine wpAny_bind (m := callSpecial? (.ref a) (Str.ofString "__len__")) (special_fn X (acc_inst ha (N _ (List.mem_cons_of_mem _ hdx)).1) (by k_is) (by k_is) ?_)
  refine acc_len_KX F N hr G hacc hdx hes hts htr hdp hsl hsw fun t' h' tk' gs' ps' tm F' N' gx hs => ?_
  generalize c + ts.length * (sl.length + sw.length) = z at h0 h63 h
  dsimp only
  refine wpAny_bind (wpAny_holding (wpAny_pure ?_))
  refine wpAny_bind (wpAny_letGo ?_)
  show wpAny _ _ (if z < 0 then _ else _) _ _ _
  rw [if_neg (by omega)]
  show wpAny _ _ (if z ≥ 2 ^ 63 then _ else _) _ _ _
  rw [if_neg (by omega)]
  exact wpAny_bind (wpAny_mkInt (wpAny_pure ⟨_, rfl, h _ _ _ _ _ tm F' N' gx hs⟩))

theorem acc_tlen_K {ps : Array Value} {sl sw : Str} {tl tw tc : Tok} {c : Int} {Q : Value → Shared → Prop}
    (F : Fr h₀ L s.heap m) (N : News h₀ L s.heap ((140, tabO ps) :: rest)) (hr : ∀ p ∈ rest, p.1 ≠ 140) (G : Gd w p loose mg mb h₀)
    (hacc : (a, accObj dx (ts.map .ref) n) ∈ rest) (hdx : (dx, dictOf es dn) ∈ rest) (hes : getL "_initial_size" es = some (some (.int c tc))) (hts : ∀ t ∈ ts, (t, tupO [.str sl tl, .str sw tw]) ∈ rest) (htr : TriplesOk ps.toList)
    (hdp : dp < 900) (hsl : ¬ (sl.length : Int) ≥ 2 ^ 63) (hsw : ¬ (sw.length : Int) ≥ 2 ^ 63) (h0 : 0 ≤ c + ts.length * (sl.length + sw.length)) (h63 : c + ts.length * (sl.length + sw.length) < 2 ^ 63)
    (h : ∀ t' h' tk' gs' ps', TabMore ps ps' → Fr h₀ L h' m → News h₀ L h' ((140, tabO ps') :: rest) → GX s.gens gs' → Q (.int (c + ts.length * (sl.length + sw.length)) t') { s with heap := h', toks := tk', gens := gs' }) :
    wpAny (model pw w) (AR dp un fr gd) (Builtin.«len» ⟨[.ref a], []⟩) (fun fin s' => ∃ v, fin = .done (.ret v) ∧ Q v s') E s :=
  acc_tlen_KX F N hr G hacc hdx hes hts htr hdp hsl hsw h0 h63 fun t' h' tk' gs' ps' tm F' N' gx _ => h t' h' tk' gs' ps' tm F' N' gx

/-- len(..) of an _Accumulator. -/
theorem acc_blen_K {ps : Array Value} {sl sw : Str} {tl tw tc : Tok} {c : Int} {Q : Value → Shared → Prop}
    (F : Fr h₀ L s.heap m) (N : News h₀ L s.heap ((140, tabO ps) :: rest)) (hr : ∀ p ∈ rest, p.1 ≠ 140) (G : Gd w p loose mg mb h₀)
    (hacc : (a, accObj dx (ts.map .ref) n) ∈ rest) (hdx : (dx, dictOf es dn) ∈ rest) (hes : getL "_initial_size" es = some (some (.int c tc))) (hts : ∀ t ∈ ts, (t, tupO [.str sl tl, .str sw tw]) ∈ rest) (htr : TriplesOk ps.toList)
    (hdp : dp < 900) (hsl : ¬ (sl.length : Int) ≥ 2 ^ 63) (hsw : ¬ (sw.length : Int) ≥ 2 ^ 63) (h0 : 0 ≤ c + ts.length * (sl.length + sw.length)) (h63 : c + ts.length * (sl.length + sw.length) < 2 ^ 63)
    (h : ∀ t' h' tk' gs' ps', TabMore ps ps' → Fr h₀ L h' m → News h₀ L h' ((140, tabO ps') :: rest) → GX s.gens gs' → Q (.int (c + ts.length * (sl.length + sw.length)) t') { s with heap := h', toks := tk', gens := gs' }) :
    wpAny (model pw w) (AR dp un fr gd) (call (.builtin "len") [.ref a]) Q E s :=
  Calls.call_function_entry kind_len plain_len entry_len (args_len1 _) (acc_tlen_K F N hr G hacc hdx hes hts htr hdp hsl hsw h0 h63 h)

/-- len(..) of an _Accumulator. -/
theorem acc_blen_KX {ps : Array Value} {sl sw : Str} {tl tw tc : Tok} {c : Int} {Q : Value → Shared → Prop}
    (F : Fr h₀ L s.heap m) (N : News h₀ L s.heap ((140, tabO ps) :: rest)) (hr : ∀ p ∈ rest, p.1 ≠ 140) (G : Gd w p loose mg mb h₀)
    (hacc : (a, accObj dx (ts.map .ref) n) ∈ rest) (hdx : (dx, dictOf es dn) ∈ rest) (hes : getL "_initial_size" es = some (some (.int c tc))) (hts : ∀ t ∈ ts, (t, tupO [.str sl tl, .str sw tw]) ∈ rest) (htr : TriplesOk ps.toList)
    (hdp : dp < 900) (hsl : ¬ (sl.length : Int) ≥ 2 ^ 63) (hsw : ¬ (sw.length : Int) ≥ 2 ^ 63) (h0 : 0 ≤ c + ts.length * (sl.length + sw.length)) (h63 : c + ts.length * (sl.length + sw.length) < 2 ^ 63)
    (h : ∀ t' h' tk' gs' ps', TabMore ps ps' → Fr h₀ L h' m → News h₀ L h' ((140, tabO ps') :: rest) → GX s.gens gs' → (∀ b o, b ∉ ((140, tabO ps) :: rest).map (·.1) → s.heap.get? b = some o → h'.get? b = some o) → Q (.int (c + ts.length * (sl.length + sw.length)) t') { s with heap := h', toks := tk', gens := gs' }) :
    wpAny (model pw w) (AR dp un fr gd) (call (.builtin "len") [.ref a]) Q E s :=
  Calls.call_function_entry kind_len plain_len entry_len (args_len1 _) (acc_tlen_KX F N hr G hacc hdx hes hts htr hdp hsl hsw h0 h63 h)

theorem acc_truthy_K {ps : Array Value} {sl sw : Str} {tl tw tc : Tok} {c : Int} {Q : Bool → Shared → Prop}
    (F : Fr h₀ L s.heap m) (N : News h₀ L s.heap ((140, tabO ps) :: rest)) (hr : ∀ p ∈ rest, p.1 ≠ 140) (G : Gd w p loose mg mb h₀)
    (hacc : (a, accObj dx (ts.map .ref) n) ∈ rest) (hdx : (dx, dictOf es dn) ∈ rest) (hes : getL "_initial_size" es = some (some (.int c tc))) (hts : ∀ t ∈ ts, (t, tupO [.str sl tl, .str sw tw]) ∈ rest) (htr : TriplesOk ps.toList)
    (hdp : dp < 900) (hsl : ¬ (sl.length : Int) ≥ 2 ^ 63) (hsw : ¬ (sw.length : Int) ≥ 2 ^ 63) (h0 : 0 ≤ c + ts.length * (sl.length + sw.length)) (h63 : c + ts.length * (sl.length + sw.length) < 2 ^ 63)
    (h : ∀ h' tk' gs' ps', TabMore ps ps' → Fr h₀ L h' m → News h₀ L h' ((140, tabO ps') :: rest) → GX s.gens gs' → Q (c + ts.length * (sl.length + sw.length) != 0) { s with heap := h', toks := tk', gens := gs' }) :
    wpAny (model pw w) (AR dp un fr gd) (truthy (.ref a)) Q E s := by
  have X := G.X.keeps F.keep
  have ha := (N _ (List.mem_cons_of_mem _ hacc)).1
  unfold truthy
  refine wpAny_bind (m := callSpecial? (.ref a) (Str.ofString "__bool__")) ?_
  simp only [callSpecial?]
  refine wpAny_bind ((acc_special X ha (by k_is : findIn (hed.heap_39 w.params) (.ref 178) "__bool__" = some none)).here (wpAny_pure ?_))
  dsimp only
  refine wpAny_bind ((acc_special X ha (by k_is : findIn (hed.heap_39 w.params) (.ref 178) "__len__" = some (some (.ref 145)))).here ?_)
  rw [if_neg (by simp)]
  refine wpAny_bind (wpAny_runValue (codeAny_builtin entry_len ?_))
  rw [Around.under_plainId plain_len]
  refine wpAny_mono (acc_tlen_K (Q := fun v s' => ∃ t h' tk' gs' ps', v = .int (c + ts.length * (sl.length + sw.length)) t ∧ s' = { s with heap := h', toks := tk', gens := gs' } ∧ TabMore ps ps' ∧ Fr h₀ L h' m ∧ News h₀ L h' ((140, tabO ps') :: rest) ∧ GX s.gens gs') F N hr G hacc hdx hes hts htr hdp hsl hsw h0 h63 fun t' h' tk' gs' ps' tm F' N' gx => ⟨_, _, _, _, _, rfl, rfl, tm, F', N', gx⟩) (fun fin s' hv => ?_) fun _ _ z => z
  obtain ⟨v, rfl, t, h', tk', gs', ps', rfl, rfl, tm, F', N', gx⟩ := hv
  exact wpAny_pure (h _ _ _ _ tm F' N' gx)

theorem acc_strcall_K {ps : Array Value} {sl sw : Str} {tl tw : Tok} {Q : Value → Shared → Prop} (hun : un + 2 < 9900)
    (F : Fr h₀ L s.heap m) (N : News h₀ L s.heap ((147, tabO ps) :: rest)) (hr : ∀ p ∈ rest, p.1 ≠ 147) (G : Gd w p loose mg mb h₀)
    (hacc : (a, accObj dx (ts.map .ref) n) ∈ rest) (hdx : (dx, dictOf es dn) ∈ rest) (hts : ∀ t ∈ ts, (t, tupO [.str sl tl, .str sw tw]) ∈ rest) (htr : TriplesOk ps.toList)
    (hdp : dp < 900) (hw : ts.length * (sl.length + sw.length) ≤ 1000) (hn : ts.length ≤ 1000) (hlw : sl.length + sw.length ≤ 1000)
    (h : ∀ t' h' tk' gs' ps', TabMore ps ps' → Fr h₀ L h' m → News h₀ L h' ((147, tabO ps') :: rest) → GX s.gens gs' → Q (.str (lineS ts.length (sl ++ sw)) t') { s with heap := h', toks := tk', gens := gs' }) :
    wpAny (model pw w) (AR dp un fr gd) (call (.type "str") [.ref a]) Q E s := by
  have X := G.X.keeps F.keep
  have ha := (N _ (List.mem_cons_of_mem _ hacc)).1
  refine kso_call (show un + 1 + 1 < cLine from hun) X (acc_inst ha (N _ (List.mem_cons_of_mem _ hdx)).1) (by k_is) (by k_is) ?_
  exact acc_str_K F N hr G hacc hts htr hdp hw hn hlw h
end
end Mine
namespace Mine
open PySem PySem.W PySem.Calls PyProof.Rows

section
variable {w : World} {dp un : Nat} {fr : Option (List Env)} {gd : Option (List Code)} {s : Shared} {h₀ : Heap} {L : Addr} {m : Str → Option Value} {p : Program} {loose : List Str} {mg mb : Str → Option Value} {a dx : Addr} {ts : List Addr} {n dn : Nat} {es : List DictEntry} {rest : List (Addr × Obj)} {E : Value → Shared → Prop}

theorem acc_ws_K {pl ps : Array Value} {sl sw : Str} {tl tw tc : Tok} {Q : Value → Shared → Prop} (hun : un + 10 < 9900)
    (F : Fr h₀ L s.heap m) (N : News h₀ L s.heap ((140, tabO pl) :: (147, tabO ps) :: rest)) (hr : ∀ p ∈ rest, p.1 ≠ 140) (hr2 : ∀ p ∈ rest, p.1 ≠ 147) (G : Gd w p loose mg mb h₀)
    (hacc : (a, accObj dx (ts.map .ref) n) ∈ rest) (hdx : (dx, dictOf es dn) ∈ rest) (hes : getL "_initial_size" es = some (some (.int 0 tc))) (hts : ∀ t ∈ ts, (t, tupO [.str sl tl, .str sw tw]) ∈ rest) (htr : TriplesOk pl.toList) (htr2 : TriplesOk ps.toList)
    (hdp : dp < 890) (hw : ts.length * (sl.length + sw.length) ≤ 1000) (hn : ts.length ≤ 1000) (hlw : sl.length + sw.length ≤ 1000) (h1 : 1 ≤ ts.length) (h2 : 1 ≤ sl.length + sw.length)
    (hsp : Txt.isspace (lineS ts.length (sl ++ sw)) = false)
    (h : ∀ h' tk' gs' pl' ps', TabMore pl pl' → TabMore ps ps' → Fr h₀ L h' m → News h₀ L h' ((140, tabO pl') :: (147, tabO ps') :: rest) → GX s.gens gs' → Q (.bool false) { s with heap := h', toks := tk', gens := gs' }) :
    wpAny (model pw w) (AR dp un fr gd) (call (.ref 167) [.ref a]) Q E s := by
  refine wpAny_call ?_
  refine' code_K (binds := [("self", .ref a)]) F N G.X G.T ?k6 ?k7 ?k8 ?k9 ?kB ?_ ?c1 ?c2 ?c3 ?c4
  case k6 => k_is
  case k7 => k_is
  case k8 => exact Nat.lt_trans hdp (by decide)
  case k9 => exact BindsTo.of_eq rfl
  case kB => exact locs rfl
  case c1 => exact rfl
  case c2 => exact rfl
  case c3 => exact rfl
  case c4 => decide
  intro g L' h₁ st FG F N X T hlt
  dsimp only
  k_fold
  have G' := G.keeps st
  k_with_none
  k_steps
  have iw : ∀ {x : Addr × Obj}, x ∈ rest → x ∈ (140, tabO pl) :: (147, tabO ps) :: rest := fun h => List.mem_cons_of_mem _ (List.mem_cons_of_mem _ h)
  refine acc_get (X.keeps F.keep) (N _ (iw hacc)).1 (N _ (iw hdx)).1 (by k_is) hes rfl ?_
  k_steps
  have hm1 : 1 ≤ ts.length * (sl.length + sw.length) := Nat.mul_le_mul h1 h2
  have hmi : ((ts.length * (sl.length + sw.length) : Nat) : Int) = ts.length * (sl.length + sw.length) := by simp
  refine acc_truthy_K F N (ne_cons (show (147 : Nat) ≠ 140 by decide) hr) G' (List.mem_cons_of_mem _ hacc) (List.mem_cons_of_mem _ hdx) hes (fun t ht => List.mem_cons_of_mem _ (hts t ht)) htr (Nat.lt_of_lt_of_le (Nat.succ_lt_succ hdp) (by decide)) (by omega) (by omega) (by rw [← hmi]; omega) (by rw [← hmi]; omega) fun h' tk' gs' pl' tm F N gx => ?_
  have hv : ((0 : Int) + ts.length * (sl.length + sw.length) != 0) = true := by rw [← hmi]; simp only [bne_iff_ne, ne_eq]; omega
  rw [hv]
  k_steps
  refine acc_strcall_K (show un + 3 + 2 < 9900 by omega) F (News.swap N) (ne_cons (show (140 : Nat) ≠ 147 by decide) hr2) G' (List.mem_cons_of_mem _ hacc) (List.mem_cons_of_mem _ hdx) (fun t ht => List.mem_cons_of_mem _ (hts t ht)) htr2 (Nat.lt_of_lt_of_le (Nat.succ_lt_succ hdp) (by decide)) hw hn hlw fun t' h' tk' gs' ps' tm2 F N gx2 => ?_
  have N := News.swap N
  k_steps
  rw [hsp]
  exact ⟨L', _, _, F, N, fun F' N' => h _ _ _ _ _ tm tm2 F' N' (gx.trans gx2)⟩
end
end Mine
namespace Mine
open PySem PySem.W PySem.Calls PyProof.Rows Builtin Builtin.ObjectAttr

/-- a method called with a star alone: the method is got as a value. -/
theorem starCall {M : Model} {A : Around} {E : Value → Shared → Prop} {s : Shared} {env : Env} {o e : Expr} {name : Str} {apos pos p : Pos} {Q : Value → Shared → Prop}
    (h : wpAny M A (eval o env) (fun ov s₁ => wpAny M A (getAttr ov name true) (fun f s₂ => wpAny M A (callWith pos f [] (backTo pos (starEach [.Starred e p] env)) []) Q E s₂) E s₁) E s)
    (he : eval (.Call (.Attribute o name apos) [.Starred e p] [] pos) env = (do
      let ov ← eval o env
      standAt apos.atName
      let (f, first) ← holding [ov] (do let g ← getAttr ov name true; pure (g, ([] : List Value)))
      callWith pos f first (backTo pos (starEach [.Starred e p] env)) []) := by rfl) :
    wpAny M A (eval (.Call (.Attribute o name apos) [.Starred e p] [] pos) env) Q E s := by
  rw [he]
  exact wpAny_bind (wpAny_mono h (fun ov s₁ h₁ => wpAny_bind (wpAny_standAt (wpAny_bind (wpAny_holding (wpAny_bind (wpAny_mono h₁ (fun f s₂ h₂ => wpAny_pure h₂) fun _ _ x => x)))))) fun _ _ x => x)

section
variable {w : World} {A : Around} {E : Value → Shared → Prop} {s : Shared} {a dx : Addr} {its : List Value} {n dn : Nat} {es : List DictEntry} {name : Str} {h₀ : Heap}

theorem acc_getm {f : Addr} {expr : Bool} {Q : Value → Shared → Prop} (X : (hed.heap_39 w.params).In s.heap) (ha : s.heap.get? a = some (accObj dx its n)) (hd : s.heap.get? dx = some (dictOf es dn))
    (hff : findObj (hed.heap_39 w.params) 178 (some (dictOf es dn)) name = some (.bind (.builtin "function.__get__") (.ref f))) (ht : typeIn (hed.heap_39 w.params) (.ref f) = some (.type "function"))
    (h : Q (.ref s.heap.objs.size) { s with heap := s.heap.push (methodObj (.ref f) (.ref a)), toks := s.toks + 1 }) :
    wpAny (model pw w) A (getAttr (.ref a) name expr) Q E s := by
  have I := acc_inst ha hd
  obtain ⟨hh, g, d, t, os⟩ := s
  dsimp only at X ha hd I
  have L0 : Looks (model pw w) hh (typeOf (.ref a)) (.ref 178) := I.type
  have L1 : Looks (model pw w) hh (typeLookup (.ref 178) "__getattribute__") (some (.builtin "list.__getattribute__")) := looks_findIn X (by k_is)
  have L2 : Looks (model pw w) hh (typeLookup (.ref 178) "__getattr__") none := looks_findIn X (by k_is)
  have L3 : Looks (model pw w) hh (find (.ref a) (.ref 178) name) (.bind (.builtin "function.__get__") (.ref f)) := looks_find X I hff
  unfold getAttr getAttrBy
  refine wpAny_bind (wpAny_mkText (wpAny_holding (wpAny_bind (L0.at (wpAny_bind (L1.at ?_))))))
  dsimp only
  rw [show (onTheHeap (.ref 178) && Value.builtin "list.__getattribute__" == Value.builtin "object.__getattribute__") = false from by rw [show (Value.builtin "list.__getattribute__" == Value.builtin "object.__getattribute__") = false from by decide +kernel, Bool.and_false], if_neg (by decide)]
  unfold getAttrByItsOwn
  refine wpAny_bind ((show Looks (model pw w) hh (hookBefore (.ref 178)) none from L2).at (wpAny_bind (wpAny_attempt (wpAny_holding ?_))))
  unfold callGetattribute
  rw [show (expr && onTheHeap (Value.builtin "list.__getattribute__")) = false from Bool.and_false _, if_neg (by decide)]
  unfold boundAndCalled
  rw [PySem.F.slot_list_getattribute.bind]
  refine wpAny_bind (wpAny_pure ?_)
  refine acc_call (nm := "__getattribute__") X ha (.inl (by decide +kernel)) (by decide +kernel) (by decide +kernel) entry_lga (PySem.F.args_list_getattribute_2 _ _) ?_
  unfold Builtin.«object.__getattribute__»
  refine wpAny_bind (wpAny_pure (wpAny_bind (wpAny_pure (wpAny_bind (L0.at (wpAny_bind (L3.at ?_)))))))
  dsimp only
  unfold bindTo
  dsimp only
  refine wpAny_bind (wpAny_holding (wpAny_call (fn_get X ht ?_)))
  refine wpAny_pure ⟨_, rfl, ?_⟩
  exact wpAny_pure h

theorem callWith_bm {b f : Addr} {e : Expr} {env : Env} {pos p : Pos} {x : Value} {Q : Value → Shared → Prop} (hf : fnIn (hed.heap_39 w.params) f = true)
    (h : wpAny (model pw w) A (eval e env) (fun v s₁ => StarOf (model pw w) A E v (fun vs s₂ => MethP (hed.heap_39 w.params) b f x s₂.heap ∧ codeAny (model pw w) A (.call (.ref f) ⟨x :: vs, []⟩) (gives Q E) s₂) s₁) E s) :
    wpAny (model pw w) A (callWith pos (.ref b) [] (backTo pos (starEach [.Starred e p] env)) []) Q E s := by
  refine ks_call (P := MethP (hed.heap_39 w.params) b f x) rfl (keeps_M hf) (ks_lone ?_)
  refine wpAny_mono h (fun v s₁ h₁ => ?_) fun _ _ z => z
  unfold StarOf at h₁ ⊢
  refine wpAny_mono h₁ (fun bb s₂ h₂ => ⟨h₂.1, wpAny_mono h₂.2 (fun vs s₃ h₃ => ⟨h₃.1, ?_⟩) fun _ _ z => z⟩) fun _ _ z => z
  exact wpAny_call (method_call h₃.1.1 h₃.2)
end
end Mine
namespace Mine
open PySem PySem.W PySem.Calls PyProof.Rows

/-- what the attributes of a _ValueFormatter tell. -/
structure FmtD (es : List DictEntry) (mx cl : Int) (sp : Str) (lines acc : Addr) : Prop where
  ml : ∃ t, getL "_maxlen" es = some (some (.int mx t))
  cl : ∃ t, getL "_continuation_ws_len" es = some (some (.int cl t))
  sp : ∃ t, getL "_splitchars" es = some (some (.str sp t))
  ln : getL "_lines" es = some (some (.ref lines))
  cu : getL "_current_line" es = some (some (.ref acc))
  n1 : getL "_append_chunk" es = some none
  n2 : getL "newline" es = some none
  n3 : getL "_maxlengths" es = some none
  n4 : getL "_str" es = some none

local macro_rules | `(tactic| k_all) => `(tactic| assumption)

section
variable {w : World} {A : Around} {dp un : Nat} {fr : Option (List Env)} {gd : Option (List Code)} {s : Shared} {h₀ : Heap} {L : Addr} {m : Str → Option Value} {p : Program} {loose : List Str} {mg mb : Str → Option Value} {a dx : Addr} {its : List Value} {n dn : Nat} {es : List DictEntry} {rest : List (Addr × Obj)} {E : Value → Shared → Prop}

theorem fmt_init_K {x dl : Addr} {hd mx : Int} {cw sp : Str} {th tm tc ts : Tok} {R : Result → Shared → Prop} 
    (F : Fr h₀ L s.heap m) (N : News h₀ L s.heap ((x, instObj 94 dl) :: (dl, dictOf [] 0) :: rest)) (hx : dl < x) (hrd : ∀ p ∈ rest, p.1 < dl) (G : Gd w p loose mg mb h₀) (hdp : dp < 880) (hcw : ¬ (cw.length : Int) ≥ 2 ^ 63)
    (h : ∀ lines acc dx es n n' t' h' tk', FmtD es mx cw.length sp lines acc → Fr h₀ L h' m → News h₀ L h' ((acc, accObj dx [] n') :: (dx, dictOf (accD w t' (.int hd th)) 1) :: (lines, listOf #[] 0) :: (x, instObj 94 dl) :: (dl, dictOf es n) :: rest) → (lines < dx ∧ x < lines ∧ dx < acc) → R (.ok (.ret .none)) { s with heap := h', toks := tk' }) :
    codeAny (model pw w) (AR dp un fr gd) (.call (.ref 35) ⟨[.ref x, .int hd th, .int mx tm, .str cw tc, .str sp ts], []⟩) R s := by
  refine' code_K (binds := [("self", .ref x), ("headerlen", .int hd th), ("maxlen", .int mx tm), ("continuation_ws", .str cw tc), ("splitchars", .str sp ts)]) F N G.X G.T ?k6 ?k7 ?k8 ?k9 ?kB ?_ ?c1 ?c2 ?c3 ?c4
  case k6 => k_is
  case k7 => k_is
  case k8 => exact Nat.lt_trans hdp (by decide)
  case k9 => exact BindsTo.of_eq rfl
  case kB => exact locs rfl
  case c1 => exact rfl
  case c2 => exact rfl
  case c3 => exact rfl
  case c4 => decide
  have hrd' : ∀ p ∈ rest, p.1 ≠ dl := fun p hp => Nat.ne_of_lt (hrd p hp)
  have hrx : ∀ p ∈ rest, p.1 ≠ x := fun p hp => Nat.ne_of_lt (Nat.lt_trans (hrd p hp) hx)
  intro g L' h₁ st FG F N X T hlt
  k_fold
  have G' := G.keeps st
  k_with_none
  have hx' : @LT.lt Nat _ dl x := hx
  k_steps
  rename Fr _ _ _ _ => lF
  rename News _ _ _ _ => lN
  refine acc_new_K (Nat.lt_of_lt_of_le (Nat.succ_lt_succ hdp) (by decide)) lF lN G' fun a dx h' tk' n' t' F N l1 l2 => ?_
  have l1' := allLt_of l1
  simp only [AllLt] at l1'
  have l2' : @LT.lt Nat _ dx a := l2
  clear lF lN
  k_steps
  rename Fr _ _ _ _ => lF
  rename News _ _ _ _ => lN
  refine ⟨L', _, _, lF, lN, fun F' N' => ?_⟩
  refine h _ _ _ _ _ _ _ _ _ ?_ F' N' ⟨l1'.1, ?_, l2⟩
  · exact ⟨⟨_, rfl⟩, ⟨_, rfl⟩, ⟨_, rfl⟩, rfl, rfl, rfl, rfl, rfl, rfl⟩
  · refine ltN ?_
    omega
end
end Mine
namespace Mine
open PySem PySem.W PySem.Calls PyProof.Rows
local macro_rules | `(tactic| k_all) => `(tactic| assumption)
section
variable {w : World} {A : Around} {dp un : Nat} {fr : Option (List Env)} {gd : Option (List Code)} {s : Shared} {h₀ : Heap} {L : Addr} {m : Str → Option Value} {p : Program} {loose : List Str} {mg mb : Str → Option Value} {a dx : Addr} {its : List Value} {n dn : Nat} {es : List DictEntry} {rest : List (Addr × Obj)} {E : Value → Shared → Prop}

theorem fmt_new_K {hd mx : Int} {cw sp : Str} {th tm tc ts : Tok} {Q : Value → Shared → Prop} 
    (F : Fr h₀ L s.heap m) (N : News h₀ L s.heap rest) (G : Gd w p loose mg mb h₀) (hdp : dp < 870) (hcw : ¬ (cw.length : Int) ≥ 2 ^ 63)
    (h : ∀ x dl lines acc dx es n n' t' h' tk', FmtD es mx cw.length sp lines acc → Fr h₀ L h' m → News h₀ L h' ((acc, accObj dx [] n') :: (dx, dictOf (accD w t' (.int hd th)) 1) :: (lines, listOf #[] 0) :: (x, instObj 94 dl) :: (dl, dictOf es n) :: rest) → (∀ q ∈ rest, q.1 < dl) → (dl < x ∧ x < lines ∧ lines < dx ∧ dx < acc) → Q (.ref x) { s with heap := h', toks := tk' }) :
    wpAny (model pw w) (AR dp un fr gd) (call (.ref 94) [.int hd th, .int mx tm, .str cw tc, .str sp ts]) Q E s := by
  refine call_cls F G.X N (by k_is) (by k_is) (by k_is) fun x dl h' F' N' hl hx => ?_
  refine fmt_init_K (dp := dp + 1) F' N' hx hl G (by omega) hcw fun lines acc dx es n n' t' h' tk' hF F'' N'' ho => ?_
  exact ⟨rfl, h _ _ _ _ _ _ _ _ _ _ _ hF F'' N'' hl ⟨hx, ho.2.1, ho.1, ho.2.2⟩⟩

theorem fmt_get {ln dl : Addr} {name : Str} {v : Value} {expr : Bool} {Q : Value → Shared → Prop} (F : Fr h₀ L s.heap m) (X : (hed.heap_39 w.params).In h₀) (i1 : s.heap.get? ln = some (instObj 94 dl)) (i2 : s.heap.get? dl = some (dictOf es dn))
    (hg : plainGet (hed.heap_39 w.params) 94 name = true) (ha : findIn (hed.heap_39 w.params) (.ref 94) name = some none) (hl : getL name es = some (some v)) (hv : handedIn v = true) (h : Q v { s with toks := s.toks + 1 }) :
    wpAny (model pw w) A (getAttr (.ref ln) name expr) Q E s := get_own F X ⟨i1, rfl, rfl, i2⟩ hg (by k_is) ha rfl hl hv h

/-- a chunk that fits in the line. -/
theorem chunk_fit_K {ln dl lines : Addr} {mx cl hd : Int} {sp sl sw : Str} {tl tw k th : Tok} {ts : List Addr} {pl : Array Value} {Q : Value → Shared → Prop} 
    (F : Fr h₀ L s.heap m) (N : News h₀ L s.heap ((140, tabO pl) :: (a, accObj dx (ts.map .ref) n) :: rest)) (hr : ∀ p ∈ rest, p.1 ≠ 140) (hra : ∀ p ∈ rest, p.1 ≠ a) (ha : a ≠ 140) (G : Gd w p loose mg mb h₀) (hD : FmtD es mx cl sp lines a)
    (hi : (ln, instObj 94 dl) ∈ rest) (hdl : (dl, dictOf es dn) ∈ rest) (hdx : (dx, dictOf (accD w k (.int hd th)) 1) ∈ rest) (hts : ∀ t ∈ ts, (t, tupO [.str sl tl, .str sw tw]) ∈ rest) (htr : TriplesOk pl.toList)
    (hdp : dp < 860) (hn : ts.length ≤ 500) (hlw : sl.length + sw.length ≤ 500) (h0 : 0 ≤ hd) (hm : hd + (ts.length + 1) * (sl.length + sw.length) ≤ mx) (hmx : mx < 100000) 
    (h : ∀ t h' tk' n' gs' pl', TabMore pl pl' → Fr h₀ L h' m → News h₀ L h' ((140, tabO pl') :: (a, accObj dx ((ts ++ [t]).map .ref) n') :: (t, tupO [.str sl tl, .str sw tw]) :: rest) → (∀ q ∈ (140, tabO pl) :: (a, accObj dx (ts.map .ref) n) :: rest, q.1 < t) → GX s.gens gs' → Q .none { s with heap := h', toks := tk', gens := gs' }) :
    wpAny (model pw w) (AR dp un fr gd) (call (.ref 91) [.ref ln, .str sl tl, .str sw tw]) Q E s := by
  refine wpAny_call ?_
  refine' code_K (binds := [("self", .ref ln), ("fws", .str sl tl), ("string", .str sw tw)]) F N G.X G.T ?k6 ?k7 ?k8 ?k9 ?kB ?_ ?c1 ?c2 ?c3 ?c4
  case k6 => k_is
  case k7 => k_is
  case k8 => exact Nat.lt_trans hdp (by decide)
  case k9 => exact BindsTo.of_eq rfl
  case kB => exact locs rfl
  case c1 => exact rfl
  case c2 => exact rfl
  case c3 => exact rfl
  case c4 => decide
  intro g L' h₁ st FG F N X T hlt
  dsimp only
  k_fold
  have G' := G.keeps st
  k_with_none
  k_with "stepz" => repeat' (first | (with_reducible show wpAny _ _ (getMethod _ (Str.ofString "append") _) _ _ _) | (fail_if_success (with_reducible show wpAny _ _ (getMethod (Value.ref _) _ _) _ _ _))); (fail_if_success (with_reducible show wpAny _ _ (call (Value.ref _) _) _ _ _)); (first | (k_unfold; (try dsimp only)) | (k_end; kc_close) | walk1 | (dsimp only; walk1) | (leave1; (try dsimp only)) | fail "no step")
  k_extra "stepz"
  have iw : ∀ {x : Addr × Obj}, x ∈ rest → x ∈ (140, tabO pl) :: (a, accObj dx (ts.map .ref) n) :: rest := fun h => List.mem_cons_of_mem _ (List.mem_cons_of_mem _ h)
  refine fmt_get F X (N _ (iw hi)).1 (N _ (iw hdl)).1 (by k_is) (by k_is) hD.cu rfl ?_
  k_extra "stepz"
  refine acc_method (X.keeps F.keep) (N _ (List.mem_cons_of_mem _ List.mem_cons_self)).1 (N _ (iw hdx)).1 (by k_is) (looks_typeIn (X.keeps F.keep) (by k_is)) rfl rfl ?_
  dsimp only
  k_extra "stepz"
  refine acc_push_K F (News.swap N) (ne_cons (Ne.symm ha) hra) G' (List.mem_cons_of_mem _ hdx) rfl (by simp; omega) (Nat.lt_of_lt_of_le (Nat.succ_lt_succ hdp) (by decide)) fun t h' tk' n' F N lt => ?_
  k_extra "stepz"
  have N := News.rot3 (News.rot3 N)
  have e1 : ts.map Value.ref ++ [.ref t] = (ts ++ [t]).map .ref := by simp
  rw [e1] at N
  have iw2 : ∀ {x : Addr × Obj} {n'}, x ∈ rest → x ∈ (a, accObj dx ((ts ++ [t]).map .ref) n') :: (t, tupO [.str sl tl, .str sw tw]) :: rest := fun h => List.mem_cons_of_mem _ (List.mem_cons_of_mem _ h)
  refine fmt_get F X (N _ (List.mem_cons_of_mem _ (iw2 hi))).1 (N _ (List.mem_cons_of_mem _ (iw2 hdl))).1 (by k_is) (by k_is) hD.cu rfl ?_
  k_extra "stepz"
  have hta : t ≠ 140 := Nat.ne_of_gt (lt _ (List.mem_cons_of_mem _ List.mem_cons_self))
  have hlen : (ts ++ [t]).length = ts.length + 1 := by simp
  have hmi : (((ts ++ [t]).length * (sl.length + sw.length) : Nat) : Int) = (ts ++ [t]).length * (sl.length + sw.length) := by simp
  have hm' : hd + (ts ++ [t]).length * (sl.length + sw.length) ≤ mx := by rw [hlen]; exact_mod_cast hm
  have hm2 : 0 ≤ hd + (ts ++ [t]).length * (sl.length + sw.length) := by rw [← hmi]; omega
  have hts2 : ∀ t' ∈ ts ++ [t], (t', tupO [.str sl tl, .str sw tw]) ∈ (a, accObj dx ((ts ++ [t]).map .ref) n') :: (t, tupO [.str sl tl, .str sw tw]) :: rest := fun t' ht => by
    rcases List.mem_append.mp ht with ht | ht
    · exact iw2 (hts _ ht)
    · rw [List.mem_singleton.mp ht]; exact List.mem_cons_of_mem _ List.mem_cons_self
  refine acc_blen_K F N (ne_cons ha (ne_cons hta hr)) G' List.mem_cons_self (iw2 hdx) rfl hts2 htr (Nat.lt_of_lt_of_le (Nat.succ_lt_succ hdp) (by decide)) (by omega) (by omega) hm2 (by omega) fun t' h' tk' gs' pl' tm F N gx => ?_
  k_extra "stepz"
  obtain ⟨tm', em⟩ := hD.ml
  refine fmt_get F X (N _ (List.mem_cons_of_mem _ (iw2 hi))).1 (N _ (List.mem_cons_of_mem _ (iw2 hdl))).1 (by k_is) (by k_is) em rfl ?_
  k_extra "stepz"
  exact ⟨L', _, _, F, N, fun F' N' => h _ _ _ _ _ _ tm F' N' (fun q hq => lt q (by simp only [List.mem_cons] at hq ⊢; rcases hq with h | h | h <;> simp [h])) gx⟩
end
end Mine
namespace Mine
open PySem PySem.W PySem.Calls PyProof.Rows

section
variable {M : Model} {A : Around} {R : GenEnd} {Y : Protocol} {n : Nat} {s₀ : Shared} {c : Code} {fs : List Frame} {s : Shared} {env : Env}
  {K : Flow → Sem Fin} {H : Value → Sem Fin} {gd : Bool → Bool} {lv : List Value → List Value}

/-- where a loop of the generator's body comes back to. -/
abbrev backTree (env : Env) (K : Flow → Sem Fin) (H : Value → Sem Fin) (gd : Bool → Bool) (lv : List Value → List Value) (r : Result) : Sem Fin :=
  ((match r with | .ok f => (.pure f : Sem Flow) | .error e => .raise e).onRaise fun (x : Value) => do
    if (← field x 1) == Value.none then unsupported "frame.own-activation:exception-without-traceback"
    setFlight x env.frame).wrap K H gd lv

theorem seg_For {target iter : Expr} {body orelse : List Stmt} {pos : Pos}
    (h : wpAny M (A.over c fs) (eval iter env) (fun x s₁ => wpAny M (A.over c fs) (pyIter x) (fun it s₂ => ∀ p, Seg M A R Y n s₀ (.forLoop target it body orelse env) (M.den (.forLoop target it body orelse env))
        (.ret (backTree env K H gd lv) none (gd false) (lv []) c p [] :: fs) s₂) (fun _ _ => False) s₁) (fun _ _ => False) s)
    (hs : ∀ x, foldedSetIterable iter env x = pure x := by intro _; rfl) :
    Seg M A R Y n s₀ c ((exec (.For target iter body orelse pos) env).wrap K H gd lv) fs s := by
  rw [exec_For]
  refine seg_bind_wrap (wpAny_standAt ?_)
  refine seg_bind_wrap (wpAny_mono h (fun x s₁ h₁ => ?_) fun _ _ z => z.elim)
  refine seg_bind_wrap (wpAny_of_eq (hs x) ?_)
  refine seg_bind_wrap (wpAny_standAt ?_)
  refine seg_bind_wrap (wpAny_holding (wpAny_mono h₁ (fun it s₂ h₂ => ?_) fun _ _ z => z.elim))
  exact seg_call h₂

theorem seg_If {test : Expr} {body orelse : List Stmt} {pos : Pos}
    (h : wpAny M (A.over c fs) (isTrue test env (eval test env)) (fun b s' => if b = true then Seg M A R Y n s₀ c ((execs body env).wrap K H gd lv) fs s' else Seg M A R Y n s₀ c ((execs orelse env).wrap K H gd lv) fs s') (fun _ _ => False) s) :
    Seg M A R Y n s₀ c ((exec (.If test body orelse pos) env).wrap K H gd lv) fs s := by
  rw [exec_If]
  refine seg_bind_wrap (wpAny_standAt ?_)
  refine seg_bind_wrap (wpAny_mono h (fun b s' hb => ?_) fun _ _ z => z.elim)
  cases b with
  | true => rw [if_pos rfl] at hb ⊢; exact hb
  | false => rw [if_neg Bool.false_ne_true] at hb ⊢; exact hb
end

section
variable {prog : Program} {w : World} {A : Around} {R : GenEnd} {Y : Protocol} {n : Nat} {s₀ : Shared} {fs : List Frame} {s : Shared} {env : Env}

/-- what a loop does with an exception that leaves it. -/
abbrev loopRaise (env : Env) (e : Value) : Sem Fin := (do noteFrame e env; theTreesLotGoes e : Sem Unit).wrap (fun _ => .raise e) .raise id id

theorem seg_forLoop {target : Expr} {it : Value} {body orelse : List Stmt}
    (h : wpAny (model prog w) (A.over (.forLoop target it body orelse env) fs) (pyNext it) (fun r s₁ => match r with
      | none => Seg (model prog w) A R Y n s₀ (.forLoop target it body orelse env) (.pure (.again (.block orelse env))) fs s₁
      | some v => wpAny (model prog w) (A.over (.forLoop target it body orelse env) fs) (assign target env v) (fun _ s₂ =>
          Seg (model prog w) A R Y n s₀ (.forLoop target it body orelse env) ((execs body env).wrap (fun f => match f with
            | .next | .cont => .pure (.again (.forLoop target it body orelse env))
            | .brk => .pure (.done .next)
            | .ret v => .pure (.done (.ret v))) (loopRaise env) id id) fs s₂) (fun _ _ => False) s₁) (fun _ _ => False) s)
    (ht : ∀ v, letOwnedTupleGo target it v = pure () := by intro _; rfl) :
    Seg (model prog w) A R Y n s₀ (.forLoop target it body orelse env) ((model prog w).den (.forLoop target it body orelse env)) fs s := by
  show Seg _ A R Y n s₀ _ ((forTurn target it body orelse env).onRaise (fun x => do noteFrame x env; theTreesLotGoes x)) fs s
  unfold forTurn
  rw [Sem.onRaise_eq_wrap]
  refine seg_bind_wrap (wpAny_standAt ?_)
  refine seg_bind_wrap (wpAny_onRaise (wpAny_mono h (fun r s₁ h₁ => ?_) fun _ _ z => z.elim))
  cases r with
  | none => exact h₁
  | some v =>
    refine seg_bind_wrap (wpAny_of_eq (ht v) ?_)
    refine seg_bind_wrap (wpAny_mono h₁ (fun _ s₂ h₂ => ?_) fun _ _ z => z.elim)
    rw [Sem.bind_eq_wrap', Sem.wrap_wrap]
    rw [Sem.wrap_congr (execs body env) _ _ (K' := fun f => match f with
            | .next | .cont => .pure (.again (.forLoop target it body orelse env))
            | .brk => .pure (.done .next)
            | .ret v => .pure (.done (.ret v))) (H' := loopRaise env)
        (fun f => by cases f <;> rfl)
        (fun e => by first | exact Sem.bind_eq_wrap _ _ | (show (do noteFrame e env; theTreesLotGoes e : Sem Unit).bind (fun _ => .raise e) = _; rw [Sem.bind_eq_wrap]))]
    exact h₂
end
end Mine
namespace Mine
open PySem PySem.W PySem.Calls PyProof.Rows

abbrev genO (g : Nat) (nm qn : Value) : Obj := { cls := .type "generator", data := .fields #[.int g 0, nm, qn] }
theorem genO_is {h : Heap} {a : Addr} {g : Nat} {nm qn : Value} (e : h.get? a = some (genO g nm qn)) : h.IsGen a g := ⟨_, nm, qn, e, rfl, rfl, rfl⟩
/-- an object that is a namespace of these names. -/
def NsO (o : Obj) (m : Str → Option Value) : Prop := ∀ (h : Heap) (a : Addr), h.get? a = some o → h.Ns a m

theorem ns_obj {h : Heap} {a : Addr} {m : Str → Option Value} (x : h.Ns a m) : ∃ o, h.get? a = some o ∧ NsO o m := by
  obtain ⟨o, es, ep, ho, r⟩ := x
  exact ⟨o, ho, fun h a e => ⟨o, es, ep, e, r⟩⟩

/-- a call of a generator function of the text. -/
theorem gen_K {w : World} {A : Around} {s : Shared} {h₀ : Heap} {L : Addr} {m : Str → Option Value} {news : List (Addr × Obj)} {R : Result → Shared → Prop} {name qual : Str} {params : Arguments} {body : List Stmt} {scope : Scope} {dV kV doc pm cdv ct oc : Value} {an od : Option Addr} {osl : Array (Option Value)} {f : Addr} {args : Args} {binds : List (Str × Value)} {K : Frag}
    {p : Program} {loose : List Str} {mg mb : Str → Option Value}
    (F : Fr h₀ L s.heap m) (N : News h₀ L s.heap news) (X : K.In h₀) (T : TopRead p loose mg mb h₀)
    (ho : K.lookup f = some ⟨oc, od, .func (fnOf name qual params body scope dV kV doc pm an cdv ct), osl⟩) (hcd : codeIn K cdv qual = true) (hroom : A.depth < recursionLimit)
    (hbind : BindsTo s (fnOf name qual params body scope dV kV doc pm an cdv ct) args binds) (hloc : ∀ y ∈ binds, scope.names.lookup y.1 = some .local)
    (h : ∀ ga C oC nm qn h' tk', Fr h₀ L h' m → News h₀ L h' ((ga, genO s.gens.size nm qn) :: (C, oC) :: news) → NsO oC (fun y => binds.reverse.lookup y) → C < ga → (∀ p ∈ news, p.1 < C) →
      R (.ok (.ret (.ref ga))) { s with heap := h', toks := tk', gens := s.gens.push (.fresh (.func body (envOf qual scope C f cdv))) })
    (hco : scope.isCoroutine = false := by rfl) (hgen : scope.isGenerator = true := by rfl) (hk : scope.kind = .function := by rfl)
    (hcell : ∀ x ∈ scope.names, x.2 ≠ .cell := by decide) : codeAny (model pw w) A (.call (.ref f) args) R s := by
  have X' := X.keeps F.keep
  refine codeAny_call_generator (fd := fnOf name qual params body scope dV kV doc pm an cdv ct) (body := body) hroom (X' _ _ ho) rfl hco hgen rfl (codeRec_of X' hcd) ?_
  refine hbind _ _ _ _ ?_
  refine wpAny_newFunctionEnv hcell hloc (fun h₁ hns₁ hsb₁ => ?_) hk
  have k₁ : ∀ b o, s.heap.get? b = some o → h₁.get? b = some o := fun b o e => hsb₁.extBut b o (Nat.ne_of_lt (Heap.lt_size e)) (Heap.get?_push_of_some _ e)
  refine ⟨(T.nolimit.keeps F.keep).keeps k₁, ?_⟩
  obtain ⟨oC, hoC, hN⟩ := ns_obj hns₁
  have hsz : h₁.objs.size = s.heap.objs.size + 1 := by rw [hsb₁.1, Heap.size_push]
  have F₁ : Fr h₀ L h₁ m := F.keeps k₁
  have lt : ∀ p ∈ news, p.1 < s.heap.objs.size := fun p hp => Heap.lt_size (N p hp).1
  have hC0 : h₀.get? s.heap.objs.size = none := by
    cases z : h₀.get? s.heap.objs.size with
    | none => rfl
    | some o => exact absurd (Heap.lt_size (F.keep _ _ z)) (Nat.lt_irrefl _)
  have N₁ : News h₀ L h₁ ((s.heap.objs.size, oC) :: news) := fun p hp => by
    rcases List.mem_cons.mp hp with rfl | hp
    · exact ⟨hoC, Nat.ne_of_gt F.ns.lt, hC0⟩
    · exact ⟨k₁ _ _ (N p hp).1, (N p hp).2⟩
  have N₂ := News.push F₁ N₁ (genO s.gens.size (.str name (s.toks + binds.length)) (.str qual (s.toks + binds.length + 1)))
  exact h _ _ oC _ _ _ _ (F₁.push _) N₂ hN (by rw [hsz]; exact Nat.lt_succ_self _) lt

section
variable {w : World} {A : Around} {dp un : Nat} {fr : Option (List Env)} {gd : Option (List Code)} {s : Shared} {h₀ : Heap} {L : Addr} {m : Str → Option Value} {p : Program} {loose : List Str} {mg mb : Str → Option Value} {a dx : Addr} {its : List Value} {n dn : Nat} {es : List DictEntry} {rest : List (Addr × Obj)} {E : Value → Shared → Prop}

/-- a fresh generator of a def of the text. -/
def FreshGen (w : World) (f C : Addr) (gs : GenState) : Prop := ∃ oc od osl name qual params body scope dV kV doc pm an cdv ct, (hed.heap_39 w.params).lookup f = some ⟨oc, od, .func (fnOf name qual params body scope dV kV doc pm an cdv ct), osl⟩ ∧ gs = .fresh (.func body (envOf qual scope C f cdv))

theorem max_make_K {ln : Addr} {Q : Value → Shared → Prop}
    (F : Fr h₀ L s.heap m) (N : News h₀ L s.heap rest) (G : Gd w p loose mg mb h₀) (hdp : dp < 900)
    (h : ∀ ga C oC nm qn h' tk' gs, Fr h₀ L h' m → News h₀ L h' ((ga, genO s.gens.size nm qn) :: (C, oC) :: rest) → NsO oC (fun y => [((Str.ofString "self"), Value.ref ln)].reverse.lookup y) → C < ga → (∀ p ∈ rest, p.1 < C) → FreshGen w 77 C gs →
      Q (.ref ga) { s with heap := h', toks := tk', gens := s.gens.push gs }) :
    wpAny (model pw w) (AR dp un fr gd) (call (.ref 77) [.ref ln]) Q E s := by
  refine wpAny_call ?_
  refine' gen_K (binds := [("self", .ref ln)]) F N G.X G.T ?k6 ?k7 ?k8 ?k9 ?kB ?_ ?c1 ?c2 ?c3 ?c4
  case k6 => k_is
  case k7 => k_is
  case k8 => exact Nat.lt_trans hdp (by decide)
  case k9 => exact BindsTo.of_eq rfl
  case kB => exact locs rfl
  case c1 => exact rfl
  case c2 => exact rfl
  case c3 => exact rfl
  case c4 => decide
  intro ga C oC nm qn h' tk' F' N' hN hlt hl
  exact h _ _ _ _ _ _ _ _ F' N' hN hlt hl ⟨_, _, _, _, _, _, _, _, _, _, _, _, _, _, _, by k_is, rfl⟩

theorem grp_make_K {wa : Addr} {Q : Value → Shared → Prop}
    (F : Fr h₀ L s.heap m) (N : News h₀ L s.heap rest) (G : Gd w p loose mg mb h₀) (hdp : dp < 900)
    (h : ∀ ga C oC nm qn h' tk' gs, Fr h₀ L h' m → News h₀ L h' ((ga, genO s.gens.size nm qn) :: (C, oC) :: rest) → NsO oC (fun y => [((Str.ofString "grouping"), Value.ref wa)].reverse.lookup y) → C < ga → (∀ p ∈ rest, p.1 < C) → FreshGen w 216 C gs →
      Q (.ref ga) { s with heap := h', toks := tk', gens := s.gens.push gs }) :
    wpAny (model pw w) (AR dp un fr gd) (call (.ref 216) [.ref wa]) Q E s := by
  refine wpAny_call ?_
  refine' gen_K (binds := [("grouping", .ref wa)]) F N G.X G.T ?k6 ?k7 ?k8 ?k9 ?kB ?_ ?c1 ?c2 ?c3 ?c4
  case k6 => k_is
  case k7 => k_is
  case k8 => exact Nat.lt_trans hdp (by decide)
  case k9 => exact BindsTo.of_eq rfl
  case kB => exact locs rfl
  case c1 => exact rfl
  case c2 => exact rfl
  case c3 => exact rfl
  case c4 => decide
  intro ga C oC nm qn h' tk' F' N' hN hlt hl
  exact h _ _ _ _ _ _ _ _ F' N' hN hlt hl ⟨_, _, _, _, _, _, _, _, _, _, _, _, _, _, _, by k_is, rfl⟩
end
end Mine
namespace Mine
open PySem PySem.W PySem.Calls PyProof.Rows

/-- between two states nothing of the heap has changed but the one code table, which has grown; and generators have been added. -/
structure Near (s s' : Shared) : Prop where
  heap : ∀ b o, b ≠ 140 → s.heap.get? b = some o → s'.heap.get? b = some o
  tab : ∀ pl, TriplesOk pl.toList → s.heap.get? 140 = some (tabO pl) → ∃ pl', TabMore pl pl' ∧ s'.heap.get? 140 = some (tabO pl')
  gens : GX s.gens s'.gens
  drawn : s'.drawn = s.drawn
  os : s'.os = s.os
theorem Near.refl (s : Shared) : Near s s := ⟨fun _ _ _ e => e, fun pl h e => ⟨pl, .refl h, e⟩, .refl _, rfl, rfl⟩
theorem Near.toks {s : Shared} {tk : Nat} : Near s { s with toks := tk } := ⟨fun _ _ _ e => e, fun pl h e => ⟨pl, .refl h, e⟩, .refl _, rfl, rfl⟩

/-- what a generator that tells f and then r for ever tells and leaves: all of C, ln, dl and the ground have to stay. -/
def maxY (N : Nat) (f r : Int) (gb : Heap) (C ln dl : Addr) : Protocol := fun n s₀ v s kap =>
  (∃ t, v = .int (if n = N then f else r) t) ∧ Near s₀ s ∧ (0 < n → ∀ s'' : Shared, gb.StaysIn s''.heap → (∀ b ∈ [C, ln, dl], ∀ o, s.heap.get? b = some o → s''.heap.get? b = some o) → kap (.send .none) s'')
abbrev maxR : GenEnd := fun _ _ r _ => r = .ok (.ret .none) ∧ False

section
variable {w : World} {dp un : Nat} {fr : Option (List Env)} {gd : Option (List Code)} {s : Shared} {m : Str → Option Value} {p : Program} {loose : List Str} {mg mb : Str → Option Value} {a dx : Addr} {ts : List Addr} {n dn : Nat} {es : List DictEntry} {rest : List (Addr × Obj)}

theorem ar_gen {α : Type} {A : Around} {d : Nat} {t : Sem α} {Q : α → Shared → Prop} {E : Value → Shared → Prop} (hA : A.handled = none) (hd : A.depth ≤ d) (h : ∀ dp un fr gd, dp ≤ d → wpAny (model pw w) (AR dp un fr gd) t Q E s) : wpAny (model pw w) A t Q E s := by
  obtain ⟨hd', dp', fr', gd', un'⟩ := A
  dsimp only at hA
  subst hA
  exact h _ _ _ _ hd

theorem Near.after {s₀ s : Shared} {tk : Nat} (x : Near s₀ s) : Near s₀ { s with toks := tk } := ⟨x.heap, x.tab, x.gens, x.drawn, x.os⟩

/-- a loop for ever that tells one thing. -/
theorem while_seg {A : Around} {env : Env} {e : Expr} {ypos spos tpos : Pos} {kk : Nat} {R : GenEnd} {Y : Protocol} {fs : List Frame} {Pre : Shared → Prop} {Pass : Shared → Shared → Prop} {P0 : Value → Prop} {M : Nat} {Rel : Shared → Shared → Prop} (hrefl : ∀ s, Rel s s) (hafter : ∀ s₀ s tk, Rel s₀ s → Rel s₀ { s with toks := tk })
    (hY : ∀ n s₀ v s kap, P0 v → n ≤ M → Rel s₀ s → Pre s → (0 < n → ∀ s'', Pass s s'' → kap (.send .none) s'') → Y n s₀ v s kap)
    (hpass : ∀ s s'', Pre s → Pass s s'' → Pre s'') (htok : ∀ s tk, Pre s → Pre { s with toks := tk })
    (he : ∀ s Q E, Pre s → (∀ v tk, P0 v → Q v { s with toks := tk }) → wpAny (model pw w) (A.over (.whileLoop (.Constant (.bool true) kk tpos) [.Expr (.Yield (some e) ypos) spos] [] env) fs) (eval e env) Q E s)
    (hfs : splitAtGen fs = none) (hfg : fs.any Frame.guarded = false) (hco : env.scope.isCoroutine = false) (hi : interactive env = false) :
    ∀ n, n ≤ M → ∀ s₀ s, Pre s → Rel s₀ s → Seg (model pw w) A R Y (n + 1) s₀ (.whileLoop (.Constant (.bool true) kk tpos) [.Expr (.Yield (some e) ypos) spos] [] env) ((model pw w).den (.whileLoop (.Constant (.bool true) kk tpos) [.Expr (.Yield (some e) ypos) spos] [] env)) fs s := by
  intro n
  induction n with
  | zero =>
    intro hn s₀ s hp hs
    refine seg_whileLoop ?_
    k_with_none
    k_steps
    refine seg_execs_cons (seg_Expr_Yield hfs rfl hfg ?_ hco hi)
    refine he _ _ _ hp fun v tk hv => ?_
    intro kap _
    exact hY _ _ _ _ _ hv hn (hafter _ _ _ hs) (htok _ _ hp) fun h => absurd h (Nat.lt_irrefl _)
  | succ n ih =>
    intro hn s₀ s hp hs
    refine seg_whileLoop ?_
    k_with_none
    k_steps
    refine seg_execs_cons (seg_Expr_Yield hfs rfl hfg ?_ hco hi)
    refine he _ _ _ hp fun v tk hv => ?_
    intro kap hk
    refine hY _ _ _ _ _ hv hn (hafter _ _ _ hs) (htok _ _ hp) fun _ s'' hps => hk .none s'' ?_
    dsimp only
    exact seg_execs_nil (seg_again rfl (ih (Nat.le_of_succ_le hn) s'' s'' (hpass _ _ (htok _ tk hp) hps) (hrefl _)))

theorem max_seg {gb : Heap} {C ln dl lines : Addr} {mx cl hd : Int} {sp sl sw : Str} {tl tw k th : Tok} {pl : Array Value} {gs : GenState} {N : Nat}
    (hf : FreshGen w 77 C gs) (F : Fr gb C s.heap (fun y => [((Str.ofString "self"), Value.ref ln)].reverse.lookup y)) (Nw : News gb C s.heap ((140, tabO pl) :: rest)) (hr : ∀ p ∈ rest, p.1 ≠ 140) (G : Gd w p loose mg mb gb)
    (hD : FmtD es mx cl sp lines a) (hi : (ln, instObj 94 dl) ∈ rest) (hdl : (dl, dictOf es dn) ∈ rest) (hacc : (a, accObj dx (ts.map .ref) n) ∈ rest) (hdx : (dx, dictOf (accD w k (.int hd th)) 1) ∈ rest) (hts : ∀ t ∈ ts, (t, tupO [.str sl tl, .str sw tw]) ∈ rest) (htr : TriplesOk pl.toList)
    (hdp : dp < 800) (hsl : ¬ (sl.length : Int) ≥ 2 ^ 63) (hsw : ¬ (sw.length : Int) ≥ 2 ^ 63) (h0 : 0 ≤ hd + ts.length * (sl.length + sw.length)) (h63 : hd + ts.length * (sl.length + sw.length) < 2 ^ 63) :
    gs.Goes (model pw w) (AR dp un fr gd) maxR (maxY N (mx - (hd + ts.length * (sl.length + sw.length))) (mx - cl) gb C ln dl) (N + 1) (.send .none) s := by
  obtain ⟨oc, od, osl, name, qual, params, body, scope, dV, kV, doc, pm, an, cdv, ct, hK, rfl⟩ := hf
  refine ⟨rfl, ?_⟩
  have hc := hK.symm.trans (show (hed.heap_39 w.params).lookup 77 = some _ from by k_is)
  cases hc
  clear hK
  have X := G.X
  have T := G.T
  refine seg_func ?_
  refine seg_execs_cons ?_
  refine seg_Expr_Yield rfl rfl rfl ?_
  refine ar_gen (d := dp + 1) rfl (Nat.le_refl _) fun dp' un' fr' gd' hd' => ?_
  have iw : ∀ {x : Addr × Obj}, x ∈ rest → x ∈ (140, tabO pl) :: rest := fun h => List.mem_cons_of_mem _ h
  obtain ⟨tm, em⟩ := hD.ml
  have Nl := Nw
  k_steps
  refine fmt_get F X (Nw _ (iw hi)).1 (Nw _ (iw hdl)).1 (by k_is) (by k_is) em rfl ?_
  k_steps
  refine fmt_get F X (Nw _ (iw hi)).1 (Nw _ (iw hdl)).1 (by k_is) (by k_is) hD.cu rfl ?_
  k_steps
  refine acc_blen_KX F Nw hr G hacc hdx rfl hts htr (show dp' < 900 by omega) hsl hsw h0 h63 fun t' h' tk' gs' pl' tm2 F' N' gx hs => ?_
  k_steps
  rename_i kap hkap
  have near : Near s { s with heap := h', gens := gs', toks := tk' + 1 } := by
    refine ⟨fun b o hb e => ?_, fun pl0 ht0 e0 => ?_, gx, rfl, rfl⟩
    · by_cases q : b ∈ ((140, tabO pl) :: rest).map (·.1)
      · obtain ⟨z, hz, rfl⟩ := List.mem_map.mp q
        have e1 := (Nw z hz).1
        rw [e] at e1; cases e1
        rcases List.mem_cons.mp hz with rfl | hz
        · exact absurd rfl hb
        · exact (N' z (List.mem_cons_of_mem _ hz)).1
      · exact hs b o q e
    · have e1 := (Nw _ List.mem_cons_self).1
      rw [e0] at e1
      have e3 : tabO pl = tabO pl0 := (Option.some.inj e1).symm
      injection e3 with _ _ e4
      injection e4 with e5
      subst e5
      exact ⟨pl', tm2, (N' _ List.mem_cons_self).1⟩
  refine ⟨⟨_, by rw [if_pos rfl]⟩, near, fun hN s'' hg hal => hkap _ s'' ?_⟩
  dsimp only
  obtain ⟨N1, rfl⟩ : ∃ N1, N = N1 + 1 := ⟨N - 1, by omega⟩
  refine seg_execs_cons (seg_While fun p => ?_)
  obtain ⟨tcl, ecl⟩ := hD.cl
  refine while_seg (Rel := Near) Near.refl (fun _ _ _ x => x.after) (P0 := fun v => ∃ t, v = .int (mx - cl) t) (Pre := fun s => Fr gb C s.heap (fun y => [((Str.ofString "self"), Value.ref ln)].reverse.lookup y) ∧ s.heap.get? ln = some (instObj 94 dl) ∧ s.heap.get? dl = some (dictOf es dn))
    (Pass := fun s s'' => gb.StaysIn s''.heap ∧ ∀ b ∈ [C, ln, dl], ∀ o, s.heap.get? b = some o → s''.heap.get? b = some o) (M := N1) ?_ ?_ (fun s tk h => h) ?_ rfl rfl rfl rfl N1 (Nat.le_refl _) s'' s'' ?_ (Near.refl _)
  · rintro n s₀ v s kap ⟨t, rfl⟩ hn hs hp hk
    exact ⟨⟨t, by rw [if_neg (by omega)]⟩, hs, fun h s'' hg hal => hk h s'' ⟨hg, hal⟩⟩
  · rintro s s'' ⟨h1, h2, h3⟩ ⟨hg, hal⟩
    exact ⟨Fr.pass h1 (fun o e => hal C (by simp) o e) hg, hal _ (by simp) _ h2, hal _ (by simp) _ h3⟩
  · rintro s Q E ⟨h1, h2, h3⟩ hq
    refine ar_gen (d := dp + 5) rfl ?_ fun dp' un' fr' gd' hd' => ?_
    · show dp + 1 + 0 ≤ dp + 5
      omega
    have F := h1
    k_with_none
    k_steps
    refine fmt_get F X h2 h3 (by k_is) (by k_is) em rfl ?_
    k_steps
    refine fmt_get F X h2 h3 (by k_is) (by k_is) ecl rfl ?_
    k_steps
    exact hq _ _ ⟨_, rfl⟩
  · have i1 : h'.get? ln = some (instObj 94 dl) := (N' _ (List.mem_cons_of_mem _ hi)).1
    have i2 : h'.get? dl = some (dictOf es dn) := (N' _ (List.mem_cons_of_mem _ hdl)).1
    exact ⟨Fr.pass F' (fun o e => hal C (by simp) o e) hg, hal _ (by simp) _ i1, hal _ (by simp) _ i2⟩
end
end Mine
namespace Mine
open PySem PySem.W PySem.Calls PyProof.Rows

theorem sub_ve_stop : isSubtype (.type "ValueError") (.type "StopIteration") = pure false := by rw [isSubtype_type]; kernel_rfl

section
variable {w : World} {A : Around} {E : Value → Shared → Prop} {s : Shared}

/-- a generator is asked for its next value. -/
theorem next_gen {a : Addr} {g n : Nat} {gs : GenState} {R : GenEnd} {Y : Protocol} {Q : Option Value → Shared → Prop} (hh : A.handled = none)
    (hl : s.heap.NoLimit) (hroom : A.depth < recursionLimit)
    (hg : s.heap.IsGen a g) (hgs : s.gens[g]? = some gs)
    (hgo : gs.Goes (model pw w) A.in1 R Y n (.send .none) (s.setGen g .running))
    (hY : ∀ v s₁ gs', gs'.bare = true → Y (n - 1) (s.setGen g .running) v s₁ (fun r' s'' => match n with
        | 0 => False
        | m + 1 => gs'.Goes (model pw w) A.in1 R Y m r' s'') → Q (some v) (s₁.setGen g gs'))
    (hP : ∀ r s₁, R n (s.setGen g .running) r s₁ → (r = .ok (.ret .none) ∧ ∀ h', (∀ b o, s₁.heap.get? b = some o → h'.get? b = some o) → Q none { s₁.setGen g .finished with heap := h' }) ∨
      (∃ e, r = .error e ∧ s₁.heap.IsGen a g ∧ s₁.TypeIs e "ValueError" ∧ E e (s₁.setGen g .finished))) :
    wpAny (model pw w) A (pyNext (.ref a)) Q E s := by
  unfold pyNext
  refine wpAny_bind (wpAny_attempt (wpAny_callSpecial?_slot (name := Str.ofString "__next__") hg.typeIs slot_gen_next
    (wpAny_call_entry slot_gen_next hg.typeIs entry_gen_next ?_ (args_gen_next _))))
  show wpAny _ A.in1 (Builtin.Generator.genWake (.ref a) (.send .none)) _ _ s
  unfold Builtin.Generator.genWake
  refine wpAny_bind (wpAny_holding (wpAny_genNumber hg (wpAny_bind (wpAny_genState hgs ?_))))
  cases gs with
  | running => exact hgo.elim
  | finished => exact hgo.elim
  | _ =>
    refine wpAny_bind (wpAny_roomToWake hl hroom ?_)
    show wpAny _ A.in1 (.resume g (.send .none) [] _) _ _ s
    refine wpAny_resumeQ hgs hgo (fun x s₁ hx => ?_) (fun v s₁ gs' hb hv => ?_)
    · rcases hP x s₁ hx with ⟨rfl, hp⟩ | ⟨e, rfl, hi, ht, he⟩
      · show wpAny _ A.in1 (newExc (.type "StopIteration") [] >>= _) _ _ _
        refine wpAny_bind ?_
        simp only [newExc, newTuple]
        refine wpAny_bind (wpAny_newObj_type ?_ (by size_fits))
        refine wpAny_bind (m := firstArgMember _ _) (wpAny_of_eq (a := Value.none) (by first | rfl | (simp only [firstArgMember]; rfl)) ?_)
        refine wpAny_newObj_type ?_ (by size_fits)
        simp only [raiseNew]
        refine wpAny_bind (wpAny_bind (wpAny_handled ?_))
        first | rw [show A.in1.handled = none from hh] | rw [hh]
        refine wpAny_throw ?_
        refine wpAny_bind (wpAny_isInstance (T := "StopIteration") (b := true) ⟨_, Heap.get?_push_size _ rfl, rfl⟩ isSubtype_stop ?_)
        exact wpAny_pure (hp _ fun b o hb => Heap.get?_push_of_some _ (Heap.get?_push_of_some _ hb))
      · show wpAny _ A.in1 (Builtin.Generator.genLeft (.ref a) e) _ _ _
        unfold Builtin.Generator.genLeft Builtin.Generator.madeByALambda
        obtain ⟨o, nm, qn, ho, hc, hd, hsl⟩ := hi
        refine wpAny_bind (wpAny_bind (wpAny_load (show (s₁.setGen g .finished).heap.get? a = some o from ho) ?_))
        rw [hd]
        refine wpAny_pure ?_
        refine wpAny_bind (wpAny_isInstance (T := "ValueError") (b := false) ht sub_ve_stop ?_)
        rw [if_neg (by simp)]
        unfold Builtin.Generator.genEscaped
        refine wpAny_bind (wpAny_isInstance (T := "ValueError") (b := false) ht sub_ve_stop ?_)
        simp only [Bool.not_false, if_true]
        refine wpAny_bind (wpAny_throw ?_)
        refine wpAny_bind (wpAny_isInstance (T := "ValueError") (b := false) ht sub_ve_stop ?_)
        rw [if_neg (by simp)]
        exact wpAny_throw he
    · exact wpAny_pure ⟨v, rfl, wpAny_pure (hY v s₁ gs' hb hv)⟩
end

theorem GX.get {a b : Array GenState} (x : GX a b) {i : Nat} {g : GenState} (h : a[i]? = some g) : b[i]? = some g := by
  rw [x.same i ?_, h]
  rcases Nat.lt_or_ge i a.size with q | q
  · exact q
  · rw [Array.getElem?_eq_none q] at h; cases h

/-- generators' states have been added, and those of ex have changed. -/
structure GXs (ex : List Nat) (a b : Array GenState) : Prop where
  size : a.size ≤ b.size
  same : ∀ i, i < a.size → i ∉ ex → b[i]? = a[i]?
  bare : AllBare a → AllBare b
theorem GX.s {a b : Array GenState} {ex : List Nat} (x : GX a b) : GXs ex a b := ⟨x.size, fun i hi _ => x.same i hi, x.bare⟩
theorem GXs.refl {ex : List Nat} (a : Array GenState) : GXs ex a a := (GX.refl a).s
theorem GXs.trans {ex : List Nat} {a b c : Array GenState} (x : GXs ex a b) (y : GXs ex b c) : GXs ex a c :=
  ⟨Nat.le_trans x.size y.size, fun i hi he => (y.same i (Nat.lt_of_lt_of_le hi x.size) he).trans (x.same i hi he), fun h => y.bare (x.bare h)⟩
theorem GXs.mono {ex ex' : List Nat} {a b : Array GenState} (x : GXs ex a b) (h : ∀ i ∈ ex, i ∈ ex') : GXs ex' a b := ⟨x.size, fun i hi he => x.same i hi fun q => he (h i q), x.bare⟩
theorem GXs.get {ex : List Nat} {a b : Array GenState} (x : GXs ex a b) {i : Nat} {g : GenState} (h : a[i]? = some g) (he : i ∉ ex) : b[i]? = some g := by
  rw [x.same i ?_ he, h]
  rcases Nat.lt_or_ge i a.size with q | q
  · exact q
  · rw [Array.getElem?_eq_none q] at h; cases h
theorem gxs_set {ex : List Nat} {a : Array GenState} {g : Nat} {gs : GenState} (hg : g ∈ ex) (hb : gs.bare = true) : GXs ex a (a.setIfInBounds g gs) :=
  ⟨by simp, fun i hi he => by
    have : g ≠ i := fun q => he (q ▸ hg)
    simp [Array.getElem?_setIfInBounds, this], fun h x hx => by
    rcases Array.mem_or_eq_of_mem_setIfInBounds hx with h1 | h1
    · exact h x h1
    · rw [h1]; exact hb⟩

/-- as Near; and the generators of ex have gone on. -/
structure NearB (ex : List Nat) (s s' : Shared) : Prop where
  heap : ∀ b o, b ≠ 140 → s.heap.get? b = some o → s'.heap.get? b = some o
  tab : ∀ pl, TriplesOk pl.toList → s.heap.get? 140 = some (tabO pl) → ∃ pl', TabMore pl pl' ∧ s'.heap.get? 140 = some (tabO pl')
  gens : GXs ex s.gens s'.gens
  drawn : s'.drawn = s.drawn
  os : s'.os = s.os
theorem setGen_gens (s : Shared) (g : Nat) (gs : GenState) : (s.setGen g gs).gens = s.gens.setIfInBounds g gs := by first | rfl | (simp [Shared.setGen])

section
variable {w : World} {A : Around} {E : Value → Shared → Prop} {s : Shared}

/-- a walk (a generator of line lengths) that has k values left to tell. -/
def Wk (w : World) (A : Around) (N : Nat) (f r : Int) (gb : Heap) (C ln dl : Addr) (wa : Addr) (nw : Nat) (keep : List Addr) (k : Nat) (s : Shared) : Prop :=
  s.heap.IsGen wa nw ∧ ∃ gs, s.gens[nw]? = some gs ∧ ∀ s'' : Shared, gb.StaysIn s''.heap → (∀ b ∈ keep, ∀ o, s.heap.get? b = some o → s''.heap.get? b = some o) →
    gs.Goes (model pw w) A.in1 maxR (maxY N f r gb C ln dl) k (.send .none) s''

theorem wk_next {N : Nat} {f r : Int} {gb : Heap} {C ln dl wa : Addr} {nw k : Nat} {keep : List Addr} {Q : Option Value → Shared → Prop} (hh : A.handled = none) (hl : gb.NoLimit) (hroom : A.depth < recursionLimit) (hgb : gb.StaysIn s.heap) (h140 : gb.get? 140 = none) (hwa : wa ≠ 140)
    (W : Wk w A N f r gb C ln dl wa nw keep (k + 1) s)
    (h : ∀ v t s', v = .int (if k = N then f else r) t → NearB [nw] s s' → (0 < k → Wk w A N f r gb C ln dl wa nw [C, ln, dl] k s') → Q (some v) s') :
    wpAny (model pw w) A (pyNext (.ref wa)) Q E s := by
  obtain ⟨hg, gs, hgs, hgo⟩ := W
  refine next_gen hh (hl.keeps hgb) hroom hg hgs (hgo (s.setGen nw .running) hgb fun _ _ _ e => e) (fun v s₁ gs' hb hv => ?_) fun r s₁ hr => hr.2.elim
  obtain ⟨⟨t, rfl⟩, near, hkap⟩ := hv
  have hself : (s₁.setGen nw gs').gens[nw]? = some gs' := by
    have h1 : (s.setGen nw .running).gens[nw]? = some .running := setGen_self hgs
    exact setGen_self (near.gens.get h1)
  refine h _ t _ rfl ⟨near.heap, near.tab, ?_, near.drawn, near.os⟩ fun hk => ⟨?_, gs', hself, fun s'' hg' hal => ?_⟩
  · have g1 : GXs [nw] s.gens (s.setGen nw .running).gens := by rw [setGen_gens]; exact gxs_set (by simp) rfl
    have g3 : GXs [nw] s₁.gens (s₁.setGen nw gs').gens := by rw [setGen_gens]; exact gxs_set (by simp) hb
    exact (g1.trans near.gens.s).trans g3
  · obtain ⟨o, nm, qn, ho, r⟩ := hg
    exact ⟨o, nm, qn, near.heap _ _ hwa ho, r⟩
  · exact hkap hk s'' hg' hal
end
end Mine
namespace Mine
open PySem PySem.W PySem.Calls PyProof.Rows

theorem for_ind {A : Around} {R : GenEnd} {Y : Protocol} {c : Code} {fs : List Frame} {w : World} (W : Around → Nat → Shared → Prop) (P : Nat → Shared → Shared → Prop)
    (hstep : ∀ k s₀ s, W (A.over c fs) (k + 1) s → P (k + 1) s₀ s → (0 < k → ∀ s₀ s, W (A.over c fs) k s → P k s₀ s → Seg (model pw w) A R Y k s₀ c ((model pw w).den c) fs s) → Seg (model pw w) A R Y (k + 1) s₀ c ((model pw w).den c) fs s) :
    ∀ k s₀ s, W (A.over c fs) (k + 1) s → P (k + 1) s₀ s → Seg (model pw w) A R Y (k + 1) s₀ c ((model pw w).den c) fs s := by
  intro k
  induction k with
  | zero => exact fun s₀ s h1 h2 => hstep 0 s₀ s h1 h2 fun h => absurd h (Nat.lt_irrefl _)
  | succ k ih => exact fun s₀ s h1 h2 => hstep (k + 1) s₀ s h1 h2 fun _ => ih

theorem Fr.store {gb h h' : Heap} {C : Addr} {m m' : Str → Option Value} (F : Fr gb C h m) (hs : Heap.SameBut C h h') (hn : h'.Ns C m') : Fr gb C h' m' :=
  ⟨hn, fun b o e => (hs.2 b (fun q => by subst q; exact Nat.lt_irrefl _ (Nat.lt_of_lt_of_le (Heap.lt_size e) F.above))).trans (F.keep b o e), F.above⟩

/-- what asking the ruler changes: its own names, the code table, its walk. -/
structure NearG (Cg nw : Nat) (s s' : Shared) : Prop where
  heap : ∀ b o, b ≠ 140 → b ≠ Cg → s.heap.get? b = some o → s'.heap.get? b = some o
  tab : ∀ pl, TriplesOk pl.toList → s.heap.get? 140 = some (tabO pl) → ∃ pl', TabMore pl pl' ∧ s'.heap.get? 140 = some (tabO pl')
  gens : GXs [nw] s.gens s'.gens
  drawn : s'.drawn = s.drawn
  os : s'.os = s.os

theorem NearG.refl {Cg nw : Nat} (s : Shared) : NearG Cg nw s s := ⟨fun _ _ _ _ e => e, fun pl h e => ⟨pl, .refl h, e⟩, .refl _, rfl, rfl⟩
theorem NearG.after {Cg nw : Nat} {s₀ s : Shared} {tk : Nat} (x : NearG Cg nw s₀ s) : NearG Cg nw s₀ { s with toks := tk } := ⟨x.heap, x.tab, x.gens, x.drawn, x.os⟩

def grpY (M : Nat) (f r : Int) (gb : Heap) (Cg wa C ln dl : Addr) (nw : Nat) : Protocol := fun n s₀ v s kap =>
  (∃ t, v = .int (if n = M then f else if r = 0 then f else r) t) ∧ ((n = M → f ≠ 127) ∧ (n + 1 = M → r ≠ 127) ∧ ∃ o, s.heap.get? Cg = some o) ∧ NearG Cg nw s₀ s ∧
    (0 < n → ∀ s'' : Shared, gb.StaysIn s''.heap → (∀ b ∈ [wa, Cg, C, ln, dl], ∀ o, s.heap.get? b = some o → s''.heap.get? b = some o) → s''.gens[nw]? = s.gens[nw]? → kap (.send .none) s'')
def grpR (M : Nat) (f r : Int) (Cg nw : Nat) : GenEnd := fun n s₀ x s =>
  x = .ok (.ret .none) ∧ ((n = M + 1 ∧ f = 127) ∨ (n = M ∧ r = 127)) ∧ NearG Cg nw s₀ s

section
variable {w : World} {dp un : Nat} {fr : Option (List Env)} {gd : Option (List Code)} {s : Shared} {m : Str → Option Value} {p : Program} {loose : List Str} {mg mb : Str → Option Value}

/-- the walk as the ruler finds it. -/
def WkK (w : World) (M : Nat) (f r : Int) (gb : Heap) (C ln dl wa : Addr) (nw : Nat) (B : Around) (k : Nat) (s : Shared) : Prop :=
  gb.StaysIn s.heap ∧ ∃ keep, Wk w B M f r gb C ln dl wa nw keep k s

theorem NearG.stored {Cg nw : Nat} {s : Shared} {h₁ : Heap} {tk : Nat} (hs : Heap.SameBut Cg s.heap h₁) (hCg : Cg ≠ 140) : NearG Cg nw s { s with heap := h₁, toks := tk } :=
  ⟨fun b o _ hb e => (hs.2 b hb).trans e, fun pl h e => ⟨pl, .refl h, (hs.2 140 (Ne.symm hCg)).trans e⟩, .refl _, rfl, rfl⟩

theorem grp_seg {gb : Heap} {Cg C ln dl wa : Addr} {nw M : Nat} {f r : Int} {gs : GenState} {keep : List Addr}
    (hf : FreshGen w 216 Cg gs) (F : Fr gb Cg s.heap (fun y => [((Str.ofString "grouping"), Value.ref wa)].reverse.lookup y)) (G : Gd w p loose mg mb gb) (h140 : gb.get? 140 = none) (hwa : wa ≠ 140) (hCg : Cg ≠ 140) (hdis : ∀ b ∈ wa :: C :: ln :: dl :: keep, b ≠ Cg)
    (hW : ∀ B : Around, B.handled = none → B.depth ≤ dp + 5 → Wk w B M f r gb C ln dl wa nw keep (M + 1) s) (hM : 2 ≤ M) (hf00 : f ≠ 0)
    (hdp : dp < 800) :
    gs.Goes (model pw w) (AR dp un fr gd) (grpR M f r Cg nw) (grpY M f r gb Cg wa C ln dl nw) (M + 1) (.send .none) s := by
  obtain ⟨oc, od, osl, name, qual, params, body, scope, dV, kV, doc, pm, an, cdv, ct, hK, rfl⟩ := hf
  refine ⟨rfl, ?_⟩
  have hc := hK.symm.trans (show (hed.heap_39 w.params).lookup 216 = some _ from by k_is)
  cases hc
  clear hK
  have X := G.X
  have T := G.T
  refine seg_func ?_
  refine seg_execs_cons ?_
  refine seg_wrap (wpAny_Assign_Name ?_)
  refine ar_gen (d := dp + 1) rfl (Nat.le_refl _) fun dp' un' fr' gd' hd' => ?_
  refine wpAny_of_eq (a := Value.none) rfl ?_
  refine wpAny_storeName_local rfl F.ns (fun h₁ hn₁ hs₁ => ?_) rfl
  dsimp only
  have hs₁ : Heap.SameBut Cg s.heap h₁ := hs₁
  have F₁ := Fr.store F hs₁ hn₁
  have hst : ∀ b ∈ wa :: C :: ln :: dl :: keep, ∀ o, s.heap.get? b = some o → h₁.get? b = some o := fun b hb o e => (hs₁.2 b (hdis b hb)).trans e
  have near₁ : NearG Cg nw s { s with heap := h₁, toks := s.toks + 1 } := NearG.stored hs₁ hCg
  refine seg_execs_cons (seg_For ?_)
  refine ar_gen (d := dp + 1) rfl (Nat.le_refl _) fun dp' un' fr' gd' hd' => ?_
  k_with_none
  k_steps
  have hig : h₁.IsGen wa nw := by
    obtain ⟨o, nm, qn, ho, r⟩ := (hW (AR 0 0 none none) rfl (Nat.zero_le _)).1
    exact ⟨o, nm, qn, hst wa (by simp) o ho, r⟩
  refine wpAny_pyIter_gen hig ?_
  intro pp
  have key : ∀ B : Around, B.handled = none → B.depth ≤ dp + 5 → Wk w B M f r gb C ln dl wa nw keep (M + 1) { s with heap := h₁, toks := s.toks + 1 } := fun B hB hd => by
    obtain ⟨_, gs, hgs, hgo⟩ := hW B hB hd
    exact ⟨hig, gs, hgs, fun s'' hg hal => hgo s'' hg fun b hb o e => hal b hb o (hst b (by simp [hb]) o e)⟩
  refine for_ind (WkK w M f r gb C ln dl wa nw) (fun k s₀ s => k ≤ M + 1 ∧ (k < M → r ≠ 127 ∧ r ≠ 0) ∧ (k ≤ M → f ≠ 0 ∧ f ≠ 127) ∧ ∃ m last, Fr gb Cg s.heap m ∧ m "last_interval" = some last ∧ (k = M + 1 → last = .none) ∧ (k ≤ M → ∃ t, last = .int (if k = M then f else r) t) ∧ NearG Cg nw s₀ s)
    ?_ M _ _ ⟨F₁.keep, keep, ?_⟩ ⟨Nat.le_refl _, fun h => absurd h (by omega), fun h => absurd h (by omega), _, _, F₁, by simp, fun _ => rfl, fun h => absurd h (by omega), near₁⟩
  · intro k s₀ s hw hp ih
    obtain ⟨hgs, keep', W⟩ := hw
    obtain ⟨hk, hr, hf, m, last, F, hm, hl1, hl2, near⟩ := hp
    refine seg_forLoop ?_
    refine wk_next ?_ G.T.nolimit ?_ hgs h140 hwa W fun v t s' hv nb hW' => ?_
    · exact rfl
    · exact Nat.lt_of_le_of_lt (show dp + 1 + 0 ≤ 801 by omega) (by decide)
    have hgs' : gb.StaysIn s'.heap := fun b o e => nb.heap b o (fun q => by rw [q, h140] at e; cases e) (hgs b o e)
    have F' : Fr gb Cg s'.heap m := Fr.pass F (fun o e => nb.heap Cg o hCg e) hgs'
    refine wpAny_assign_Name (wpAny_storeName_local rfl F'.ns (fun h₂ hn₂ hs₂ => ?_) rfl)
    have hs₂ : Heap.SameBut Cg s'.heap h₂ := hs₂
    have F₂ := Fr.store F' hs₂ hn₂
    have near₂ : NearG Cg nw s₀ { s' with heap := h₂, toks := s'.toks + 1 } := by
      refine ⟨fun b o h1 h2 e => (hs₂.2 b h2).trans (nb.heap b o h1 (near.heap b o h1 h2 e)), fun pl hp e => ?_, near.gens.trans nb.gens, nb.drawn.trans near.drawn, nb.os.trans near.os⟩
      obtain ⟨pl1, t1, e1⟩ := near.tab pl hp e
      obtain ⟨pl2, t2, e2⟩ := nb.tab pl1 t1.ok e1
      exact ⟨pl2, t1.trans t2, (hs₂.2 140 (Ne.symm hCg)).trans e2⟩
    generalize hvv : (if k = M then f else r) = vv at hv
    subst hv
    refine seg_execs_cons (seg_If ?_)
    refine ar_gen (d := dp + 2) rfl (show dp + 1 + 0 ≤ dp + 2 by omega) fun dp' un' fr' gd' hd' => ?_
    clear F F' F₁
    have em : m = fun x => if x = Str.ofString "last_interval" then some last else m x := funext fun x => by
      by_cases q : x = Str.ofString "last_interval"
      · rw [if_pos q, q]; exact hm
      · rw [if_neg q]
    rw [em] at F₂
    have F := F₂
    clear F₂
    k_with_none
    rcases Nat.lt_or_ge k M with hkM | hkM
    · obtain ⟨tl, el⟩ := hl2 (by omega)
      subst el
      rw [if_neg (by omega)] at hvv
      subst hvv
      obtain ⟨hf0, hf1⟩ := hf (by omega)
      k_steps
      · rename r = 127 => h127
        refine seg_execs_cons ?_
        rw [exec_Return_none]
        refine seg_bind_wrap (wpAny_standAt ?_)
        refine seg_leaf (.ok (.ret .none)) ?_
        refine seg_end (.ok (.ret .none)) ⟨rfl, .inr ⟨?_, h127⟩, near₂⟩
        by_cases q : k + 1 < M
        · exact absurd h127 (hr q).1
        · omega
      · rename ¬ r = 127 => h127
        refine seg_execs_nil ?_
        refine seg_execs_cons (seg_If ?_)
        refine ar_gen (d := dp + 2) rfl (show dp + 1 + 0 ≤ dp + 2 by omega) fun dp' un' fr' gd' hd' => ?_
        k_steps
        · rename r = 0 => hr0
          refine seg_execs_cons (seg_If ?_)
          refine ar_gen (d := dp + 2) rfl (show dp + 1 + 0 ≤ dp + 2 by omega) fun dp' un' fr' gd' hd' => ?_
          k_steps
          refine seg_execs_nil ?_
          have hkM1 : k + 1 = M := by
            by_cases q : k + 1 < M
            · exact absurd hr0 (hr q).2
            · omega
          refine seg_execs_cons (seg_While fun p2 => ?_)
          rw [if_pos hkM1] at F
          refine while_seg (Rel := NearG Cg nw) (fun s => NearG.refl s) (fun _ _ _ x => x.after) (P0 := fun v => ∃ t, v = .int f t) (Pre := fun s => ∃ m, Fr gb Cg s.heap m ∧ m "last_interval" = some (.int f tl))
            (Pass := fun s s'' => gb.StaysIn s''.heap ∧ (∀ b ∈ [wa, Cg, C, ln, dl], ∀ o, s.heap.get? b = some o → s''.heap.get? b = some o)) (M := k) ?_ ?_ (fun s tk h => h) ?_ rfl rfl rfl rfl k (Nat.le_refl _) _ _ ⟨_, F, rfl⟩ near₂.after
          · rintro n s₀ v s kap ⟨t, rfl⟩ hn hs hp hk
            exact ⟨⟨t, by rw [if_neg (by omega), if_pos hr0]⟩, ⟨fun q => absurd q (by omega), fun _ => by omega, let ⟨m, h1, _⟩ := hp; let ⟨o, _, _, ho, _⟩ := h1.ns; ⟨o, ho⟩⟩, hs, fun h s'' hg hal _ => hk h s'' ⟨hg, hal⟩⟩
          · rintro s s'' ⟨m, h1, h2⟩ ⟨hg, hal⟩
            exact ⟨m, Fr.pass h1 (fun o e => hal Cg (by simp) o e) hg, h2⟩
          · rintro s Q E ⟨m, h1, h2⟩ hq
            refine ar_gen (d := dp + 5) rfl ?_ fun dp' un' fr' gd' hd' => ?_
            · show dp + 1 + 0 + 0 ≤ dp + 5
              omega
            exact nameX_L h1 h2 (hq _ _ ⟨_, rfl⟩) rfl rfl
        · rename ¬ r = 0 => hr0
          refine seg_execs_nil ?_
          refine seg_execs_cons (seg_Expr_Yield rfl rfl rfl ?_)
          refine ar_gen (d := dp + 2) rfl (show dp + 1 + 0 ≤ dp + 2 by omega) fun dp' un' fr' gd' hd' => ?_
          refine nameX_L F rfl ?_ rfl rfl
          intro kap hkap
          refine ⟨⟨t, by rw [if_neg (by omega), if_neg hr0]⟩, ⟨fun q => absurd q (by omega), fun _ => h127, let ⟨o, _, _, ho, _⟩ := F.ns; ⟨o, ho⟩⟩, near₂.after, fun hk0 s'' hg hal hgn => hkap .none s'' ?_⟩
          dsimp only
          refine seg_execs_cons (seg_wrap (wpAny_Assign_Name ?_))
          have F3 : Fr gb Cg s''.heap _ := Fr.pass F (fun o e => hal Cg (by simp) o e) hg
          refine nameX_L F3 rfl ?_ rfl rfl
          refine wpAny_storeName_local rfl F3.ns (fun h₃ hn₃ hs₃ => ?_) rfl
          dsimp only
          have hs₃ : Heap.SameBut Cg s''.heap h₃ := hs₃
          have F4 := Fr.store F3 hs₃ hn₃
          refine seg_execs_nil (seg_again rfl ?_)
          obtain ⟨hig', gs2, hgs2, hgo2⟩ := hW' hk0
          have thr : ∀ b ∈ [wa, C, ln, dl], ∀ o, s'.heap.get? b = some o → h₃.get? b = some o := fun b hb o e => by
            have hbne : b ≠ Cg := hdis b (by simp only [List.mem_cons, List.not_mem_nil, or_false] at hb ⊢; rcases hb with q | q | q | q <;> simp [q])
            exact (hs₃.2 b hbne).trans (hal b (by simp only [List.mem_cons, List.not_mem_nil, or_false] at hb ⊢; rcases hb with q | q | q | q <;> simp [q]) o ((hs₂.2 b hbne).trans e))
          refine ih hk0 _ _ ⟨F4.keep, [C, ln, dl], ?_, gs2, hgn.trans hgs2, fun s4 hg4 hal4 => hgo2 s4 hg4 fun b hb o e => hal4 b hb o (thr b (List.mem_cons_of_mem _ hb) o e)⟩ ⟨by omega, fun _ => ⟨h127, hr0⟩, fun _ => ⟨hf0, hf1⟩, _, (.int r t), F4, by simp, fun q => absurd q (by omega), fun _ => ⟨t, by rw [if_neg (by omega)]⟩, NearG.stored hs₃ hCg⟩
          obtain ⟨o, nm, qn, ho, rr⟩ := hig'
          exact ⟨o, nm, qn, thr wa (by simp) o ho, rr⟩
    · have hkM : k = M := by omega
      obtain rfl := hl1 (by omega)
      rw [if_pos hkM] at hvv
      subst hvv
      k_steps
      · rename f = 127 => h127
        refine seg_execs_cons ?_
        rw [exec_Return_none]
        refine seg_bind_wrap (wpAny_standAt ?_)
        refine seg_leaf (.ok (.ret .none)) ?_
        refine seg_end (.ok (.ret .none)) ⟨rfl, .inl ⟨by omega, h127⟩, near₂⟩
      · rename ¬ f = 127 => h127
        refine seg_execs_nil ?_
        refine seg_execs_cons (seg_If ?_)
        refine ar_gen (d := dp + 2) rfl (show dp + 1 + 0 ≤ dp + 2 by omega) fun dp' un' fr' gd' hd' => ?_
        k_steps
        · rename f = 0 => hr0
          exact absurd hr0 hf00
        · rename ¬ f = 0 => hr0
          refine seg_execs_nil ?_
          refine seg_execs_cons (seg_Expr_Yield rfl rfl rfl ?_)
          refine ar_gen (d := dp + 2) rfl (show dp + 1 + 0 ≤ dp + 2 by omega) fun dp' un' fr' gd' hd' => ?_
          refine nameX_L F rfl ?_ rfl rfl
          intro kap hkap
          refine ⟨⟨t, by rw [if_pos hkM]⟩, ⟨fun _ => h127, fun q => absurd q (by omega), let ⟨o, _, _, ho, _⟩ := F.ns; ⟨o, ho⟩⟩, near₂.after, fun hk0 s'' hg hal hgn => hkap .none s'' ?_⟩
          dsimp only
          refine seg_execs_cons (seg_wrap (wpAny_Assign_Name ?_))
          have F3 : Fr gb Cg s''.heap _ := Fr.pass F (fun o e => hal Cg (by simp) o e) hg
          refine nameX_L F3 rfl ?_ rfl rfl
          refine wpAny_storeName_local rfl F3.ns (fun h₃ hn₃ hs₃ => ?_) rfl
          dsimp only
          have hs₃ : Heap.SameBut Cg s''.heap h₃ := hs₃
          have F4 := Fr.store F3 hs₃ hn₃
          refine seg_execs_nil (seg_again rfl ?_)
          obtain ⟨hig', gs2, hgs2, hgo2⟩ := hW' hk0
          have thr : ∀ b ∈ [wa, C, ln, dl], ∀ o, s'.heap.get? b = some o → h₃.get? b = some o := fun b hb o e => by
            have hbne : b ≠ Cg := hdis b (by simp only [List.mem_cons, List.not_mem_nil, or_false] at hb ⊢; rcases hb with q | q | q | q <;> simp [q])
            exact (hs₃.2 b hbne).trans (hal b (by simp only [List.mem_cons, List.not_mem_nil, or_false] at hb ⊢; rcases hb with q | q | q | q <;> simp [q]) o ((hs₂.2 b hbne).trans e))
          refine ih hk0 _ _ ⟨F4.keep, [C, ln, dl], ?_, gs2, hgn.trans hgs2, fun s4 hg4 hal4 => hgo2 s4 hg4 fun b hb o e => hal4 b hb o (thr b (List.mem_cons_of_mem _ hb) o e)⟩ ⟨by omega, fun q => absurd q (by omega), fun _ => ⟨hr0, h127⟩, _, (.int f t), F4, by simp, fun q => absurd q (by omega), fun _ => ⟨t, by rw [if_pos hkM]⟩, NearG.stored hs₃ hCg⟩
          obtain ⟨o, nm, qn, ho, rr⟩ := hig'
          exact ⟨o, nm, qn, thr wa (by simp) o ho, rr⟩
  · refine key _ ?_ ?_
    · exact rfl
    · show dp + 1 + 0 ≤ dp + 5
      omega
end
end Mine
namespace Mine
open PySem PySem.W PySem.Calls PyProof.Rows

/-- between asking: the table, the ruler's own names, and both generators. -/
structure NearR (Cg ng nw : Nat) (s s' : Shared) : Prop where
  heap : ∀ b o, b ≠ 140 → b ≠ Cg → s.heap.get? b = some o → s'.heap.get? b = some o
  tab : ∀ pl, TriplesOk pl.toList → s.heap.get? 140 = some (tabO pl) → ∃ pl', TabMore pl pl' ∧ s'.heap.get? 140 = some (tabO pl')
  gens : GXs [ng, nw] s.gens s'.gens
  drawn : s'.drawn = s.drawn
  os : s'.os = s.os

section
variable {w : World} {A : Around} {E : Value → Shared → Prop} {s : Shared} {p : Program} {loose : List Str} {mg mb : Str → Option Value}

/-- a ruler that has k sizes left to tell. -/
def Ru (w : World) (A : Around) (M : Nat) (f r : Int) (gb : Heap) (Cg wa C ln dl ga : Addr) (ng nw : Nat) (keep : List Addr) (k : Nat) (s : Shared) : Prop :=
  s.heap.IsGen ga ng ∧ ∃ gs, s.gens[ng]? = some gs ∧ ∀ s'' : Shared, gb.StaysIn s''.heap → (∀ b ∈ keep, ∀ o, s.heap.get? b = some o → s''.heap.get? b = some o) → s''.gens[nw]? = s.gens[nw]? →
    gs.Goes (model pw w) A.in1 (grpR M f r Cg nw) (grpY M f r gb Cg wa C ln dl nw) k (.send .none) s''

theorem ru_next {M : Nat} {f r : Int} {gb : Heap} {Cg wa C ln dl ga : Addr} {ng nw k : Nat} {keep : List Addr} {Q : Option Value → Shared → Prop} (hh : A.handled = none) (hl : gb.NoLimit) (hroom : A.depth < recursionLimit) (hgb : gb.StaysIn s.heap) (hga : ga ≠ 140) (hgC : ga ≠ Cg) (hgw : ng ≠ nw)
    (W : Ru w A M f r gb Cg wa C ln dl ga ng nw keep (k + 1) s)
    (hv : ∀ v t s', v = .int (if k = M then f else if r = 0 then f else r) t → (k = M → f ≠ 127) → (k + 1 = M → r ≠ 127) → (∃ o, s'.heap.get? Cg = some o) → NearR Cg ng nw s s' → (0 < k → Ru w A M f r gb Cg wa C ln dl ga ng nw [wa, Cg, C, ln, dl] k s') → Q (some v) s')
    (hs : ∀ s', ((k = M ∧ f = 127) ∨ (k + 1 = M ∧ r = 127)) → NearR Cg ng nw s s' → Q none s') :
    wpAny (model pw w) A (pyNext (.ref ga)) Q E s := by
  obtain ⟨hg, gs, hgs, hgo⟩ := W
  have hgn : (s.setGen ng .running).gens[nw]? = s.gens[nw]? := by
    rw [setGen_gens, Array.getElem?_setIfInBounds, if_neg hgw]
  have g1 : GXs [ng, nw] s.gens (s.setGen ng .running).gens := by rw [setGen_gens]; exact gxs_set (by simp) rfl
  have hself₀ : (s.setGen ng .running).gens[ng]? = some .running := setGen_self hgs
  refine next_gen hh (hl.keeps hgb) hroom hg hgs (hgo (s.setGen ng .running) hgb (fun _ _ _ e => e) hgn) (fun v s₁ gs' hb hy => ?_) fun x s₁ hr => .inl ?_
  · obtain ⟨⟨t, rfl⟩, ⟨c1, c2, hoC⟩, near, hkap⟩ := hy
    have hself : (s₁.setGen ng gs').gens[ng]? = some gs' := setGen_self (near.gens.get hself₀ (by simp [hgw]))
    have g3 : GXs [ng, nw] s₁.gens (s₁.setGen ng gs').gens := by rw [setGen_gens]; exact gxs_set (by simp) hb
    refine hv _ t _ rfl c1 c2 hoC ⟨near.heap, near.tab, (g1.trans (near.gens.mono (by simp))).trans g3, near.drawn, near.os⟩ fun hk => ⟨?_, gs', hself, fun s'' hg' hal hgn' => ?_⟩
    · obtain ⟨o, nm, qn, ho, r⟩ := hg
      exact ⟨o, nm, qn, near.heap _ _ hga hgC ho, r⟩
    · refine hkap hk s'' hg' hal (hgn'.trans ?_)
      rw [setGen_gens, Array.getElem?_setIfInBounds, if_neg hgw]
  · obtain ⟨rfl, hc, near⟩ := hr
    refine ⟨rfl, fun h' hk => hs _ ?_ ⟨fun b o h1 h2 e => hk _ _ (near.heap b o h1 h2 e), fun pl hp e => ?_, ?_, near.drawn, near.os⟩⟩
    · rcases hc with ⟨q, z⟩ | ⟨q, z⟩
      · exact .inl ⟨by omega, z⟩
      · exact .inr ⟨q, z⟩
    · obtain ⟨pl', t, e'⟩ := near.tab pl hp e
      exact ⟨pl', t, hk _ _ e'⟩
    · have g3 : GXs [ng, nw] s₁.gens (s₁.setGen ng .finished).gens := by rw [setGen_gens]; exact gxs_set (by simp) rfl
      exact (g1.trans (near.gens.mono (by simp))).trans g3

/-- a fresh walk upon a line as it stands. -/
theorem wk_fresh {B0 : Heap} {a dx ln dl lines wa C : Addr} {oC : Obj} {mx cl hd : Int} {sp sl sw : Str} {tl tw k th : Tok} {ts : List Addr} {n dn : Nat} {es : List DictEntry} {pl : Array Value} {gs : GenState} {N nw D : Nat} {h₀ : Heap} {L : Addr} {m : Str → Option Value} {rest : List (Addr × Obj)} {nm qn : Value}
    (N' : News h₀ L s.heap rest) (h1 : (140, tabO pl) ∈ rest) (hne : ∀ q ∈ [a, dx, ln, dl] ++ ts, q ≠ 140) (G : Gd w p loose mg mb B0) (hB : B0.StaysIn h₀) (hBs : B0.StaysIn s.heap) (hBC : B0.objs.size ≤ C)
    (hf : FreshGen w 77 C gs) (hgs : s.gens[nw]? = some gs) (hwa : (wa, genO nw nm qn) ∈ rest) (hoC : (C, oC) ∈ rest) (hN : NsO oC (fun y => [((Str.ofString "self"), Value.ref ln)].reverse.lookup y)) (hCn : ∀ q ∈ [140, a, dx, ln, dl] ++ ts, q ≠ C)
    (hD : FmtD es mx cl sp lines a) (hi : (ln, instObj 94 dl) ∈ rest) (hdl : (dl, dictOf es dn) ∈ rest) (hacc : (a, accObj dx (ts.map .ref) n) ∈ rest) (hdx : (dx, dictOf (accD w k (.int hd th)) 1) ∈ rest) (hts : ∀ t ∈ ts, (t, tupO [.str sl tl, .str sw tw]) ∈ rest) (htr : TriplesOk pl.toList)
    (hsl : ¬ (sl.length : Int) ≥ 2 ^ 63) (hsw : ¬ (sw.length : Int) ≥ 2 ^ 63) (h0 : 0 ≤ hd + ts.length * (sl.length + sw.length)) (h63 : hd + ts.length * (sl.length + sw.length) < 2 ^ 63)
    (B : Around) (hh : B.handled = none) (hd' : B.depth < 800) :
    Wk w B N (mx - (hd + ts.length * (sl.length + sw.length))) (mx - cl) B0 C ln dl wa nw ([C, 140, a, dx, ln, dl] ++ ts) (N + 1) s := by
  refine ⟨genO_is (N' _ hwa).1, gs, hgs, fun s'' hg hal => ?_⟩
  obtain ⟨hd0, dp, fr, gd, un⟩ := B
  dsimp only at hh hd'
  subst hh
  have get : ∀ {b o}, (b, o) ∈ rest → b ∈ [C, 140, a, dx, ln, dl] ++ ts → s''.heap.get? b = some o := fun hb hm => hal _ hm _ (N' _ hb).1
  have none0 : ∀ {b o}, (b, o) ∈ rest → B0.get? b = none := fun {b o} hb => by
    cases z : B0.get? b with
    | none => rfl
    | some o => have := (N' _ hb).2.2; rw [hB _ _ z] at this; cases this
  have F : Fr B0 C s''.heap (fun y => [((Str.ofString "self"), Value.ref ln)].reverse.lookup y) := ⟨hN _ _ (get hoC (by simp)), hg, hBC⟩
  have Nw : News B0 C s''.heap ((140, tabO pl) :: (a, accObj dx (ts.map .ref) n) :: (dx, dictOf (accD w k (.int hd th)) 1) :: (ln, instObj 94 dl) :: (dl, dictOf es dn) :: ts.map fun t => (t, tupO [.str sl tl, .str sw tw])) := fun q hq => by
    simp only [List.mem_cons, List.mem_map] at hq
    rcases hq with rfl | rfl | rfl | rfl | rfl | ⟨t, ht, rfl⟩
    · exact ⟨get h1 (by simp), hCn _ (by simp), none0 h1⟩
    · exact ⟨get hacc (by simp), hCn _ (by simp), none0 hacc⟩
    · exact ⟨get hdx (by simp), hCn _ (by simp), none0 hdx⟩
    · exact ⟨get hi (by simp), hCn _ (by simp), none0 hi⟩
    · exact ⟨get hdl (by simp), hCn _ (by simp), none0 hdl⟩
    · exact ⟨get (hts t ht) (by simp [ht]), hCn _ (by simp [ht]), none0 (hts t ht)⟩
  refine max_seg (lines := lines) (sp := sp) hf F Nw (fun q hq => ?_) G hD (.tail _ (.tail _ (.head _))) (.tail _ (.tail _ (.tail _ (.head _)))) (.head _) (.tail _ (.head _)) (fun t ht => .tail _ (.tail _ (.tail _ (.tail _ (List.mem_map.mpr ⟨t, ht, rfl⟩))))) htr hd' hsl hsw h0 h63
  simp only [List.mem_cons, List.mem_map] at hq
  rcases hq with rfl | rfl | rfl | rfl | ⟨t, ht, rfl⟩
  · exact hne _ (by simp)
  · exact hne _ (by simp)
  · exact hne _ (by simp)
  · exact hne _ (by simp)
  · exact hne _ (by simp [ht])
end
end Mine
namespace Mine
open PySem PySem.W PySem.Calls PyProof.Rows

section
variable {w : World} {A : Around} {E : Value → Shared → Prop} {s : Shared} {p : Program} {loose : List Str} {mg mb : Str → Option Value}

theorem Wk.move {B : Around} {N : Nat} {f r : Int} {gb : Heap} {C ln dl wa : Addr} {nw k : Nat} {keep : List Addr} {s'' : Shared} (W : Wk w B N f r gb C ln dl wa nw keep k s)
    (hal : ∀ b ∈ wa :: keep, ∀ o, s.heap.get? b = some o → s''.heap.get? b = some o) (hg : s''.gens[nw]? = s.gens[nw]?) : Wk w B N f r gb C ln dl wa nw keep k s'' := by
  obtain ⟨⟨o, nm, qn, ho, rr⟩, gs, hgs, hgo⟩ := W
  exact ⟨⟨o, nm, qn, hal wa (by simp) o ho, rr⟩, gs, hg.trans hgs, fun s3 h1 h2 => hgo s3 h1 fun b hb o e => h2 b hb o (hal b (by simp [hb]) o e)⟩

/-- a fresh ruler upon a fresh walk. -/
theorem ru_fresh {B0 : Heap} {ga Cg wa C ln dl : Addr} {oG : Obj} {gs : GenState} {M ng nw : Nat} {f r : Int} {keep : List Addr} {nm qn : Value}
    (G : Gd w p loose mg mb B0) (h140 : B0.get? 140 = none) (hBC : B0.objs.size ≤ Cg) (hwa : wa ≠ 140) (hCg : Cg ≠ 140) (hdis : ∀ b ∈ wa :: C :: ln :: dl :: keep, b ≠ Cg)
    (hf : FreshGen w 216 Cg gs) (hgs : s.gens[ng]? = some gs) (hga : s.heap.get? ga = some (genO ng nm qn)) (hoG : s.heap.get? Cg = some oG) (hN : NsO oG (fun y => [((Str.ofString "grouping"), Value.ref wa)].reverse.lookup y))
    (hW : ∀ B : Around, B.handled = none → B.depth < 800 → Wk w B M f r B0 C ln dl wa nw keep (M + 1) s) (hM : 2 ≤ M) (hf0 : f ≠ 0) (hA : A.handled = none) (hd : A.depth < 700) :
    Ru w A M f r B0 Cg wa C ln dl ga ng nw (Cg :: wa :: keep) (M + 1) s := by
  refine ⟨genO_is hga, gs, hgs, fun s'' hg hal hgn => ?_⟩
  obtain ⟨hd0, dp, fr, gd, un⟩ := A
  dsimp only at hA hd
  subst hA
  have F : Fr B0 Cg s''.heap (fun y => [((Str.ofString "grouping"), Value.ref wa)].reverse.lookup y) := ⟨hN _ _ (hal Cg (by simp) _ hoG), hg, hBC⟩
  exact grp_seg hf F G h140 hwa hCg hdis (fun B hB hd' => (hW B hB (show B.depth < 800 from Nat.lt_of_le_of_lt hd' (show dp + 5 < 800 by omega))).move (fun b hb o e => hal b (by simp only [List.mem_cons] at hb ⊢; exact .inr hb) o e) hgn) hM hf0 (show dp < 800 by omega)
end
end Mine
namespace Mine
open PySem PySem.W PySem.Calls PyProof.Rows

/-- asking the ruler ends in a ValueError. -/
def grpR0 (Cg nw : Nat) (outer : List Env) : GenEnd := fun _ s₀ x s =>
  ∃ e hr, x = .error (.ref e) ∧ hr.get? e = none ∧ Fly (TI.gone hr (Cg :: outer.filterMap (·.frame))) outer e "ValueError" .none s.heap ∧ hr.UpToSlots s.heap ∧ NearG Cg nw s₀ { s with heap := hr }
abbrev noY : Protocol := fun _ _ _ _ _ => False

section
variable {w : World} {dp un : Nat} {fr : Option (List Env)} {gd : Option (List Code)} {s : Shared} {m : Str → Option Value} {p : Program} {loose : List Str} {mg mb : Str → Option Value}

theorem any_pass {α : Type} {A : Around} {E : Value → Shared → Prop} {t : Sem α} {P Q : α → Shared → Prop} (h1 : ∀ Q' : α → Shared → Prop, (∀ a s', P a s' → Q' a s') → wpAny (model pw w) A t Q' E s) (h2 : ∀ a s', P a s' → Q a s') :
    wpAny (model pw w) A t Q E s := h1 Q h2
theorem Heap.UpToSlots.after {h₁ h₂ h₃ : Heap} (x : h₁.UpToSlots h₂) (y : h₂.UpToSlots h₃) : h₁.UpToSlots h₃ := x.trans y

theorem grp0_seg {gb : Heap} {Cg C ln dl wa : Addr} {nw M n : Nat} {r : Int} {gs : GenState} {keep : List Addr} {outer : List Env}
    (hf : FreshGen w 216 Cg gs) (F : Fr gb Cg s.heap (fun y => [((Str.ofString "grouping"), Value.ref wa)].reverse.lookup y)) (G : Gd w p loose mg mb gb) (h140 : gb.get? 140 = none) (hwa : wa ≠ 140) (hCg : Cg ≠ 140) (hdis : ∀ b ∈ wa :: C :: ln :: dl :: keep, b ≠ Cg)
    (hW : ∀ B : Around, B.handled = none → B.depth ≤ dp + 5 → Wk w B M 0 r gb C ln dl wa nw keep (M + 1) s)
    (hout : FrsAt s.heap [140, Cg] outer) (hdp : dp < 800) :
    gs.Goes (model pw w) (AR dp un (some outer) gd) (grpR0 Cg nw outer) noY n (.send .none) s := by
  obtain ⟨oc, od, osl, name, qual, params, body, scope, dV, kV, doc, pm, an, cdv, ct, hK, rfl⟩ := hf
  refine ⟨rfl, ?_⟩
  have hc := hK.symm.trans (show (hed.heap_39 w.params).lookup 216 = some _ from by k_is)
  cases hc
  clear hK
  have X := G.X
  have T := G.T
  refine seg_func ?_
  refine seg_execs_cons ?_
  refine seg_wrap (wpAny_Assign_Name ?_)
  refine wpAny_of_eq (a := Value.none) rfl ?_
  refine wpAny_storeName_local rfl F.ns (fun h₁ hn₁ hs₁ => ?_) rfl
  dsimp only
  have hs₁ : Heap.SameBut Cg s.heap h₁ := hs₁
  have F₁ := Fr.store F hs₁ hn₁
  have hst : ∀ b ∈ wa :: C :: ln :: dl :: keep, ∀ o, s.heap.get? b = some o → h₁.get? b = some o := fun b hb o e => (hs₁.2 b (hdis b hb)).trans e
  have near₁ : NearG Cg nw s { s with heap := h₁, toks := s.toks + 1 } := NearG.stored hs₁ hCg
  refine seg_execs_cons (seg_For ?_)
  refine ar_gen (d := dp + 1) rfl (Nat.le_refl _) fun dp' un' fr' gd' hd' => ?_
  k_with_none
  k_steps
  have hig : h₁.IsGen wa nw := by
    obtain ⟨o, nm, qn, ho, r⟩ := (hW (AR 0 0 none none) rfl (Nat.zero_le _)).1
    exact ⟨o, nm, qn, hst wa (by simp) o ho, r⟩
  refine wpAny_pyIter_gen hig ?_
  intro pp
  have key : ∀ B : Around, B.handled = none → B.depth ≤ dp + 5 → Wk w B M 0 r gb C ln dl wa nw keep (M + 1) { s with heap := h₁, toks := s.toks + 1 } := fun B hB hd => by
    obtain ⟨_, gs, hgs, hgo⟩ := hW B hB hd
    exact ⟨hig, gs, hgs, fun s'' hg hal => hgo s'' hg fun b hb o e => hal b hb o (hst b (by simp [hb]) o e)⟩
  refine seg_forLoop ?_
  refine wk_next ?_ G.T.nolimit ?_ F₁.keep h140 hwa (key _ ?_ ?_) fun v t s' hv nb hW' => ?_
  · exact rfl
  · exact Nat.lt_of_le_of_lt (show dp + 1 + 0 ≤ 801 by omega) (by decide)
  · exact rfl
  · show dp + 1 + 0 ≤ dp + 5
    omega
  rw [if_pos rfl] at hv
  subst hv
  have hgs' : gb.StaysIn s'.heap := fun b o e => nb.heap b o (fun q => by rw [q, h140] at e; cases e) (F₁.keep b o e)
  have F' : Fr gb Cg s'.heap _ := Fr.pass F₁ (fun o e => nb.heap Cg o hCg e) hgs'
  refine wpAny_assign_Name (wpAny_storeName_local rfl F'.ns (fun h₂ hn₂ hs₂ => ?_) rfl)
  have hs₂ : Heap.SameBut Cg s'.heap h₂ := hs₂
  have F₂ := Fr.store F' hs₂ hn₂
  have near₂ : NearG Cg nw s { s' with heap := h₂, toks := s'.toks + 1 } := by
    refine ⟨fun b o h1 h2 e => (hs₂.2 b h2).trans (nb.heap b o h1 (near₁.heap b o h1 h2 e)), fun pl hp e => ?_, near₁.gens.trans nb.gens, nb.drawn.trans near₁.drawn, nb.os.trans near₁.os⟩
    obtain ⟨pl1, t1, e1⟩ := near₁.tab pl hp e
    obtain ⟨pl2, t2, e2⟩ := nb.tab pl1 t1.ok e1
    exact ⟨pl2, t1.trans t2, (hs₂.2 140 (Ne.symm hCg)).trans e2⟩
  refine seg_execs_cons (seg_If ?_)
  refine ar_gen (d := dp + 2) rfl (show dp + 1 + 0 ≤ dp + 2 by omega) fun dp' un' fr' gd' hd' => ?_
  clear F F' F₁
  have F := F₂
  clear F₂
  k_with_none
  k_steps
  refine seg_execs_nil ?_
  refine seg_execs_cons (seg_If ?_)
  refine ar_gen (d := dp + 2) rfl (show dp + 1 + 0 ≤ dp + 2 by omega) fun dp' un' fr' gd' hd' => ?_
  k_steps
  refine seg_execs_cons (seg_If ?_)
  refine ar_gen (d := dp + 2) rfl (show dp + 1 + 0 ≤ dp + 2 by omega) fun dp' un' fr' gd' hd' => ?_
  k_steps
  refine seg_execs_cons (seg_wrap ?_)
  refine Raise_madeB PySem.F.excCall_ValueError PySem.F.excRaise_ValueError rfl (name_B F X T (by k_is) (by boot_fast) (by decide) ⟨rfl, ?_⟩)
  refine any_pass (P := fun vs s₂ => ∃ v tk, vs = [v] ∧ s₂ = { s' with heap := h₂, toks := tk }) ?_ ?_
  · intro Q' hq
    refine ar_gen (d := dp + 2) rfl (show dp + 1 + 0 ≤ dp + 2 by omega) fun dp' un' fr' gd' hd' => ?_
    k_steps
    exact hq _ _ ⟨_, _, rfl, rfl⟩
  rintro vs s₂ ⟨v, tk, rfl, rfl⟩
  refine ⟨by show 1 ≤ sizeLine; decide, fun h' e hx => ?_⟩
  have hx := hx.newExc
  dsimp only at hx ⊢
  obtain ⟨oC, esC, epC, hoC, hdC, _⟩ := F.ns
  have hfrs : FrsAt h₂ [140, Cg] outer := hout.moved fun b o hb e => near₂.heap b o (fun q => hb (by simp [q])) (fun q => hb (by simp [q])) e
  have hgone : ∀ b ∈ outer.filterMap (·.frame), (TI.gone h₂ (Cg :: outer.filterMap (·.frame))).get? b = none := fun b hb => TI.gone_none (List.mem_cons_of_mem _ hb)
  refine seg_wrap (wpAny_bind (fly_first (base := TI.gone h₂ (Cg :: outer.filterMap (·.frame))) (L := Cg) (outer := outer) ?hfr rfl hx (fun b o e => (TI.gone_some e).2) ⟨?hk, ⟨Cg, oC, rfl, TI.gone_none List.mem_cons_self, hoC, fun vs q => by rw [hdC] at q; cases q⟩, hfrs.funFrames hgone⟩ fun h3 fl3 up3 => wpAny_theTreesLotGoes ?_))
  case hfr => exact rfl
  case hk => show ScopeKind.function ≠ ScopeKind.module; decide
  refine seg_leaf (.error (.ref e)) ?_
  refine seg_bind_wrap (fly_back (L := Cg) rfl fl3 fun h4 fl4 up4 => ?_)
  refine seg_wrap (m := leaving _ (.ref e)) (fly_leave (L := Cg) rfl fl4 fun h5 fl5 up5 => ?_)
  exact seg_end (.error (.ref e)) ⟨e, h₂, rfl, hx.new, fl5, (((Heap.UpToSlots.of_keeps hx.keeps).trans up3).trans up4).trans up5, near₂.heap, near₂.tab, near₂.gens, near₂.drawn, near₂.os⟩
end
end Mine
namespace Mine
open PySem PySem.W PySem.Calls PyProof.Rows

/-- marks laid in the row by sizes n, g, g, ..: the answer and the row. -/
def laidL : Nat → Int → Int → Int → Int → List Int → Bool × List Int
  | 0, _, _, _, _, ns => (false, ns)
  | k + 1, mark, n, g, top, ns => if mark + n > top then (true, ns) else
    if bisL ns (mark + n) ns.length 0 ns.length ≠ bisR ns (mark + n) ns.length 0 ns.length then (false, ns) else laidL k (mark + n) g g top (insR ns (mark + n))

theorem laidL_succ (k : Nat) (mark n g top : Int) (ns : List Int) : laidL (k + 1) mark n g top ns = if mark + n > top then (true, ns) else
    if bisL ns (mark + n) ns.length 0 ns.length ≠ bisR ns (mark + n) ns.length 0 ns.length then (false, ns) else laidL k (mark + n) g g top (insR ns (mark + n)) := rfl
theorem Ru.move {w : World} {A : Around} {M : Nat} {f r : Int} {gb : Heap} {Cg wa C ln dl ga : Addr} {ng nw : Nat} {keep : List Addr} {k : Nat} {s s'' : Shared} (W : Ru w A M f r gb Cg wa C ln dl ga ng nw keep k s)
    (hal : ∀ b ∈ ga :: keep, ∀ o, s.heap.get? b = some o → s''.heap.get? b = some o) (hg : s''.gens[ng]? = s.gens[ng]?) (hw : s''.gens[nw]? = s.gens[nw]?) : Ru w A M f r gb Cg wa C ln dl ga ng nw keep k s'' := by
  obtain ⟨⟨o, nm, qn, ho, rr⟩, gs, hgs, hgo⟩ := W
  exact ⟨⟨o, nm, qn, hal ga (by simp) o ho, rr⟩, gs, hg.trans hgs, fun s3 h1 h2 h3 => hgo s3 h1 (fun b hb o e => h2 b hb o (hal b (by simp [hb]) o e)) (h3.trans hw)⟩

theorem map3 {mp : Str → Option Value} {x1 x2 x3 : Str} {a b c : Value} (h1 : mp x1 = some a) (h2 : mp x2 = some b) (h3 : mp x3 = some c) : mp = fun x => if x = x1 then some a else if x = x2 then some b else if x = x3 then some c else mp x := funext fun x => by
  by_cases q1 : x = x1
  · rw [if_pos q1, q1, h1]
  rw [if_neg q1]
  by_cases q2 : x = x2
  · rw [if_pos q2, q2, h2]
  rw [if_neg q2]
  by_cases q3 : x = x3
  · rw [if_pos q3, q3, h3]
  · rw [if_neg q3]

theorem Fr.writes2 {h₀ h h' : Heap} {L : Addr} {m : Str → Option Value} (F : Fr h₀ L h m) (wr : List Addr) (hk : ∀ b o, b ∉ wr → h.get? b = some o → h'.get? b = some o) (hL : L ∉ wr) (hg : ∀ b ∈ wr, h₀.get? b = none) : Fr h₀ L h' m :=
  ⟨F.ns.at' fun o e => hk _ o hL e, fun b o e => hk b o (fun q => by rw [hg b q] at e; cases e) (F.keep b o e), F.above⟩

theorem GXs.pushed {a b : Array GenState} {g0 : GenState} {nw : Nat} (x : GXs [a.size, nw] (a.push g0) b) (hb : g0.bare = true) : GXs [nw] a b :=
  ⟨Nat.le_trans (by simp) x.size, fun i hi he => by
    have h1 : i ∉ [a.size, nw] := by
      simp only [List.mem_cons, List.not_mem_nil, or_false, not_or] at he ⊢
      exact ⟨Nat.ne_of_lt hi, he⟩
    rw [x.same i (by simp; omega) h1, Array.getElem?_push, if_neg (Nat.ne_of_lt hi)], fun h => x.bare (AllBare.push h hb)⟩

/-- between two turns of the loop that lays marks. -/
def LaidI (w : World) (B : Around) (M : Nat) (f r top : Int) (tt : Tok) (B0 g : Heap) (L' Cg wa C ln dl ga row : Addr) (ng nw : Nat) (keep : List Addr) (nm qn : Value) (rest : List (Addr × Obj)) (s : Shared) (pl : Array Value) (ns : List Int) (gs0 : Array GenState) (n : Nat) (s' : Shared) : Prop :=
  ∃ (mark nxt : Int) (tm : Tok) (h' : Heap) (tk' : Nat) (gs' : Array GenState) (pl' : Array Value) (vs' : List Value) (ns' : List Int) (ep' : Nat) (oG' : Obj) (mp : Str → Option Value),
    s' = { s with heap := h', toks := tk', gens := gs' } ∧ TabMore pl pl' ∧ IntsAre vs' ns' ∧ ns'.length + n ≤ ns.length + M ∧ n ≤ M ∧
    (Fr g L' h' mp ∧ mp "mark" = some (.int mark tm) ∧ mp "row" = some (.ref row) ∧ mp "top" = some (.int top tt)) ∧
    News g L' h' ((row, listOf vs'.toArray ep') :: (140, tabO pl') :: (Cg, oG') :: (ga, genO ng nm qn) :: rest) ∧ GXs [ng, nw] gs0 gs' ∧
    laidL n mark nxt (if r = 0 then f else r) top ns' = laidL M 0 f (if r = 0 then f else r) top ns ∧ 0 ≤ mark ∧ mark ≤ top ∧ top - mark < n ∧ (n = M → nxt = f) ∧ (n < M → nxt = if r = 0 then f else r) ∧
    ∃ keep', (∀ b ∈ keep', ∃ o, (b, o) ∈ (140, tabO pl') :: (Cg, oG') :: rest) ∧ Ru w B M f r B0 Cg wa C ln dl ga ng nw keep' (n + 1) s'

section
variable {w : World} {dp un : Nat} {fr : Option (List Env)} {gd : Option (List Code)} {s : Shared} {h₀ : Heap} {L : Addr} {m : Str → Option Value} {p : Program} {loose : List Str} {mg mb : Str → Option Value} {rest : List (Addr × Obj)} {E : Value → Shared → Prop}

theorem laid_K {B0 : Heap} {row wa C ln dl : Addr} {nw M : Nat} {f r top : Int} {tt : Tok} {vs : List Value} {ep : Nat} {ns : List Int} {pl : Array Value} {keep : List Addr} {nm qn : Value} {oC : Obj} {Q : Value → Shared → Prop}
    (F : Fr h₀ L s.heap m) (N : News h₀ L s.heap ((row, listOf vs.toArray ep) :: (140, tabO pl) :: rest)) (hr : ∀ p ∈ rest, p.1 ≠ 140) (hr2 : ∀ p ∈ (140, tabO pl) :: rest, p.1 ≠ row) (htr : TriplesOk pl.toList) (G : Gd w p loose mg mb h₀)
    (G0 : Gd w p loose mg mb B0) (hB : B0.StaysIn h₀) (hBC : B0.objs.size ≤ C) (hwa : (wa, genO nw nm qn) ∈ rest) (hoC : (C, oC) ∈ rest) (hkeep : ∀ b ∈ ln :: dl :: keep, ∃ o, (b, o) ∈ (140, tabO pl) :: rest)
    (hW : ∀ B : Around, B.handled = none → B.depth < 800 → Wk w B M f r B0 C ln dl wa nw keep (M + 1) s)
    (hi : IntsAre vs ns) (hlen : ns.length < 2 ^ 19) (hdp : dp < 650) (hf0 : 0 < f) (hr0 : 0 ≤ r) (hf1 : f ≠ 127) (hr1 : r ≠ 127) (htop : top < M) (htop0 : 0 ≤ top) (hM : M < 1000) (hM2 : 2 ≤ M)
    (h : ∀ h' tk' gs' pl' vs' ep', TabMore pl pl' → Fr h₀ L h' m → News h₀ L h' ((row, listOf vs'.toArray ep') :: (140, tabO pl') :: rest) → IntsAre vs' (laidL M 0 f (if r = 0 then f else r) top ns).2 → GXs [nw] s.gens gs' → Q (.bool (laidL M 0 f (if r = 0 then f else r) top ns).1) { s with heap := h', toks := tk', gens := gs' }) :
    wpAny (model pw w) (AR dp un fr gd) (call (.ref 251) [.ref row, .ref wa, .int top tt]) Q E s := by
  have got0 : ∀ q ∈ (row, listOf vs.toArray ep) :: (140, tabO pl) :: rest, s.heap.get? q.1 = some q.2 := fun q hq => (N q hq).1
  refine wpAny_call ?_
  refine' code_K (binds := [("row", .ref row), ("walk", .ref wa), ("top", .int top tt)]) F N G.X G.T ?k6 ?k7 ?k8 ?k9 ?kB ?_ ?c1 ?c2 ?c3 ?c4
  case k6 => k_is
  case k7 => k_is
  case k8 => exact Nat.lt_trans hdp (by decide)
  case k9 => exact BindsTo.of_eq rfl
  case kB => exact locs rfl
  case c1 => exact rfl
  case c2 => exact rfl
  case c3 => exact rfl
  case c4 => decide
  intro g L' h₁ st FG F N X T hlt
  dsimp only
  k_fold
  have G' := G.keeps st
  k_with_none
  k_with "steps" => repeat' (fail_if_success (with_reducible show wpAny _ _ (exec (PySem.Stmt.For _ _ _ _ _) _) _ _ _)); (first | (k_unfold; (try dsimp only)) | (k_end; kc_close) | walk1 | (dsimp only; walk1) | (leave1; (try dsimp only)) | fail "no step")
  k_extra "steps"
  refine wpAny_For ?_
  k_steps
  rename Fr g _ _ _ => lF
  rename News g _ _ _ => lN
  refine grp_make_K lF lN G' (Nat.lt_of_lt_of_le (Nat.succ_lt_succ hdp) (by decide)) fun ga Cg oG nm' qn' h₂ tk₂ gsg F₂ N₂ hNG hCga hlt2 hfg => ?_
  refine wpAny_pyIter_gen (genO_is (N₂ _ List.mem_cons_self).1) ?_
  clear lF lN
  generalize hBd : Around.deeper (AR dp un fr gd) _ = B
  have hBh : B.handled = none := by rw [← hBd]; rfl
  have hBp : B.depth = dp + 1 := by rw [← hBd]; rfl
  obtain ⟨hd1, dp1, fr1, gd1, un1⟩ := B
  dsimp only at hBh hBp
  subst hBh hBp
  have hne : ∀ q ∈ (row, listOf vs.toArray ep) :: (140, tabO pl) :: rest, q.1 < Cg := hlt2
  have lt140 : (140 : Nat) < Cg := hne (140, tabO pl) (.tail _ (.head _))
  have hnwlt : nw < s.gens.size := by
    obtain ⟨_, gs, hgs, _⟩ := hW (AR 0 0 none none) rfl (by decide)
    exact (Array.getElem?_eq_some_iff.mp hgs).1
  have hgw : s.gens.size ≠ nw := Nat.ne_of_gt hnwlt
  have hB140 : B0.get? 140 = none := by
    cases z : B0.get? 140 with
    | none => rfl
    | some o => have := (N₂ (140, tabO pl) (.tail _ (.tail _ (.tail _ (.head _))))).2.2; rw [st _ _ (hB _ _ z)] at this; cases this
  refine codeAny_forLoop (LaidI w (AR (dp + 1) un1 fr1 gd1) M f r top tt B0 g L' Cg wa C ln dl ga row s.gens.size nw keep nm' qn' rest s pl ns (s.gens.push gsg)) ?_ M ?_
  · intro n s' hI
    show wpAny _ _ _ _ _ _
    k_fold
    obtain ⟨mark, nxt, tm, h', tk', gs', pl', vs', ns', ep', oG', mp, rfl, htm, hi', hlen', hnM, ⟨F, hm1, hm2, hm3⟩, N, gx, hlaid, hk0, hk1, hk2, hn1, hn2, keep', hkp, RU⟩ := hI
    have hBs : B0.StaysIn h' := fun b o e => F.keep b o (st b o (hB b o e))
    refine ru_next rfl G0.T.nolimit ?_ hBs ?_ ?_ ?_ RU (fun v t s2 hv hc1 hc2 hoC nr hRu => ?_) (fun s2 hstop nr => ?_)
    · exact Nat.lt_of_le_of_lt (show dp + 1 ≤ 651 by omega) (by decide)
    · exact Nat.ne_of_gt (Nat.lt_trans lt140 hCga)
    · exact Nat.ne_of_gt hCga
    · exact hgw
    · k_unfold
      dsimp only
      obtain ⟨h2, g2, d2, t2, o2⟩ := s2
      obtain ⟨nh, nt, ng', nd, no⟩ := nr
      dsimp only at nh nt ng' nd no hoC hRu
      subst nd no
      obtain ⟨oG2, hoG2⟩ := hoC
      obtain ⟨pl2, tm2, e140⟩ := nt pl' htm.ok (N _ (.tail _ (.head _))).1
      have ne1 : ∀ {q : Addr × Obj}, q ∈ (row, listOf vs'.toArray ep') :: (ga, genO s.gens.size nm' qn') :: rest → q.1 ≠ 140 ∧ q.1 ≠ Cg := fun {q} hq => by
        rcases List.mem_cons.mp hq with rfl | hq
        · exact ⟨Ne.symm (hr2 (140, tabO pl) (.head _)), Nat.ne_of_lt (hne (row, listOf vs.toArray ep) (.head _))⟩
        rcases List.mem_cons.mp hq with rfl | hq
        · exact ⟨Nat.ne_of_gt (Nat.lt_trans lt140 hCga), Nat.ne_of_gt hCga⟩
        · exact ⟨hr _ hq, Nat.ne_of_lt (hne _ (.tail _ (.tail _ hq)))⟩
      have i140 := N _ (.tail _ (.head _))
      have iCg := N _ (.tail _ (.tail _ (.head _)))
      have F2 : Fr g L' h2 mp := Fr.writes2 F [140, Cg] (fun b o hb e => nh b o (by simp at hb; exact hb.1) (by simp at hb; exact hb.2) e) (by
          simp only [List.mem_cons, List.not_mem_nil, or_false, not_or]
          exact ⟨Ne.symm i140.2.1, Ne.symm iCg.2.1⟩) (fun b hb => by
          simp only [List.mem_cons, List.not_mem_nil, or_false] at hb
          rcases hb with rfl | rfl
          · exact i140.2.2
          · exact iCg.2.2)
      have N2 : News g L' h2 ((row, listOf vs'.toArray ep') :: (140, tabO pl2) :: (Cg, oG2) :: (ga, genO s.gens.size nm' qn') :: rest) := fun q hq => by
        have old : ∀ {q : Addr × Obj}, q ∈ (row, listOf vs'.toArray ep') :: (ga, genO s.gens.size nm' qn') :: rest → q ∈ (row, listOf vs'.toArray ep') :: (140, tabO pl') :: (Cg, oG') :: (ga, genO s.gens.size nm' qn') :: rest → h2.get? q.1 = some q.2 ∧ q.1 ≠ L' ∧ g.get? q.1 = none := fun hq hq' => ⟨nh _ _ (ne1 hq).1 (ne1 hq).2 (N _ hq').1, (N _ hq').2⟩
        rcases List.mem_cons.mp hq with rfl | hq
        · exact old (.head _) (.head _)
        rcases List.mem_cons.mp hq with rfl | hq
        · exact ⟨e140, i140.2⟩
        rcases List.mem_cons.mp hq with rfl | hq
        · exact ⟨hoG2, iCg.2⟩
        · exact old (.tail _ hq) (.tail _ (.tail _ (.tail _ hq)))
      have esz : (if n = M then f else if r = 0 then f else r) = nxt := by
        by_cases q : n = M
        · rw [if_pos q, hn1 q]
        · rw [if_neg q, hn2 (by omega)]
      rw [esz] at hv
      subst hv
      have got : ∀ q ∈ (row, listOf vs'.toArray ep') :: (140, tabO pl2) :: (Cg, oG2) :: (ga, genO s.gens.size nm' qn') :: rest, h2.get? q.1 = some q.2 := fun q hq => (N2 q hq).1
      rw [map3 hm1 hm2 hm3] at F2
      try dsimp only
      clear F N
      obtain ⟨n1, rfl⟩ : ∃ n1, n = n1 + 1 := ⟨n - 1, by omega⟩
      have hbg : gsg.bare = true := by
        obtain ⟨_, _, _, _, _, _, _, _, _, _, _, _, _, _, _, _, rfl⟩ := hfg
        rfl
      have gx2 : GXs [s.gens.size, nw] (s.gens.push gsg) g2 := gx.trans ng'
      k_steps
      · rename top < mark + nxt => hgt
        have hl1 : laidL M 0 f (if r = 0 then f else r) top ns = (true, ns') := by
          rw [← hlaid]
          unfold laidL
          rw [if_pos hgt]
        rw [hl1] at h
        rename Fr g _ _ _ => lF
        rename News g _ _ _ => lN
        exact ⟨L', _, _, lF, lN, fun F' N' => h _ _ _ _ _ _ (htm.trans tm2) F' (News.sub N' fun q hq => by
          rcases List.mem_cons.mp hq with rfl | hq
          · exact .head _
          rcases List.mem_cons.mp hq with rfl | hq
          · exact .tail _ (.head _)
          · exact .tail _ (.tail _ (.tail _ (.tail _ hq)))) hi' (gx2.pushed hbg)⟩
      · rename ¬ top < mark + nxt => hle
        rename Fr g _ _ _ => lF
        rename News g _ _ _ => lN
        have hl20 : ns'.length < 2 ^ 20 := by omega
        refine bl_K (lo := 0) (tl := 433) lF lN X T (.head _) hi' hl20 (Nat.lt_of_lt_of_le (Nat.succ_lt_succ hdp) (by decide)) (Int.le_refl 0) (Int.natCast_nonneg _) (.inl ⟨rfl, rfl, rfl⟩) fun t1 h3 tk3 F3 N3 => ?_
        clear lF lN
        k_steps
        rename Fr g _ _ _ => lF
        rename News g _ _ _ => lN
        refine br_K (lo := 0) (tl := 419) lF lN X T (.head _) hi' hl20 (Nat.lt_of_lt_of_le (Nat.succ_lt_succ hdp) (by decide)) (Int.le_refl 0) (Int.natCast_nonneg _) (.inl ⟨rfl, rfl, rfl⟩) fun t1 h3 tk3 F3 N3 => ?_
        clear lF lN
        k_steps
        · rename ¬ bisL _ _ _ _ _ = bisR _ _ _ _ _ => hneq
          have hl1 : laidL M 0 f (if r = 0 then f else r) top ns = (false, ns') := by
            rw [← hlaid]
            unfold laidL
            rw [if_neg hle, if_pos hneq]
          rw [hl1] at h
          rename Fr g _ _ _ => lF
          rename News g _ _ _ => lN
          show LeaveK h₀ L m g _ _ _
          exact ⟨L', _, _, lF, lN, fun F' N' => h _ _ _ _ _ _ (htm.trans tm2) F' (News.sub N' fun q hq => by
            rcases List.mem_cons.mp hq with rfl | hq
            · exact .head _
            rcases List.mem_cons.mp hq with rfl | hq
            · exact .tail _ (.head _)
            · exact .tail _ (.tail _ (.tail _ (.tail _ hq)))) hi' (gx2.pushed hbg)⟩
        · rename bisL _ _ _ _ _ = bisR _ _ _ _ _ => heq
          rename Fr g _ _ _ => lF
          rename News g _ _ _ => lN
          have hrow : ∀ q ∈ (140, tabO pl2) :: (Cg, oG2) :: (ga, genO s.gens.size nm' qn') :: rest, q.1 ≠ row := by
            have hrc : row < Cg := hne (row, listOf vs.toArray ep) (.head _)
            exact ne_cons (hr2 (140, tabO pl) (.head _)) (ne_cons (Nat.ne_of_gt hrc) (ne_cons (Nat.ne_of_gt (Nat.lt_trans hrc hCga)) (ne_tail hr2)))
          refine ins_K lF lN hrow X T hi' hl20 (Nat.lt_of_lt_of_le (Nat.succ_lt_succ hdp) (by decide)) fun vs3 ep3 h3 tk3 hi3 F3 N3 => ?_
          clear lF lN
          k_steps
          any_goals exact n1
          any_goals exact Nat.lt_succ_self _
          have hlaid' : laidL n1 (mark + nxt) (if r = 0 then f else r) (if r = 0 then f else r) top (insR ns' (mark + nxt)) = laidL M 0 f (if r = 0 then f else r) top ns := by
            rw [← hlaid]
            rw [laidL_succ, if_neg hle, if_neg (not_not_intro heq)]
          have hmem : ∀ b ∈ [wa, Cg, C, ln, dl], ∃ o, (b, o) ∈ (140, tabO pl2) :: (Cg, oG2) :: rest := fun b hb => by
            have old : ∀ {b}, (∃ o, (b, o) ∈ (140, tabO pl) :: rest) → ∃ o, (b, o) ∈ (140, tabO pl2) :: (Cg, oG2) :: rest := fun {b} ⟨o, h⟩ => by
              rcases List.mem_cons.mp h with q | h
              · exact ⟨tabO pl2, by rw [show b = 140 from congrArg Prod.fst q]; exact .head _⟩
              · exact ⟨o, .tail _ (.tail _ h)⟩
            simp only [List.mem_cons, List.not_mem_nil, or_false] at hb
            rcases hb with rfl | rfl | rfl | rfl | rfl
            · exact ⟨_, .tail _ (.tail _ hwa)⟩
            · exact ⟨oG2, .tail _ (.head _)⟩
            · exact ⟨_, .tail _ (.tail _ hoC)⟩
            · exact old (hkeep _ (by simp))
            · exact old (hkeep _ (by simp))
          have hpos : 0 < nxt := by
            by_cases q : n1 + 1 = M
            · rw [hn1 q]; exact hf0
            · rw [hn2 (by omega)]
              by_cases q0 : r = 0
              · rw [if_pos q0]; exact hf0
              · rw [if_neg q0]; omega
          refine ⟨mark + nxt, _, _, _, _, _, pl2, vs3, _, ep3, oG2, _, rfl, htm.trans tm2, hi3, by rw [insR_length]; omega, by omega, ⟨F3, rfl, rfl, rfl⟩, N3, gx2, hlaid', by omega, by omega, by omega, fun q => absurd q (by omega), fun _ => rfl, [wa, Cg, C, ln, dl], ?_, ?_⟩
          · intro b hb
            exact hmem b hb
          · refine (hRu (by omega)).move ?_ rfl rfl
            intro b hb o e
            have hmb : ∃ o', (b, o') ∈ (140, tabO pl2) :: (Cg, oG2) :: (ga, genO s.gens.size nm' qn') :: rest := by
              rcases List.mem_cons.mp hb with rfl | hb
              · exact ⟨_, .tail _ (.tail _ (.head _))⟩
              · obtain ⟨o', h'⟩ := hmem b hb
                rcases List.mem_cons.mp h' with q | h'
                · exact ⟨o', q ▸ .head _⟩
                rcases List.mem_cons.mp h' with q | h'
                · exact ⟨o', q ▸ .tail _ (.head _)⟩
                · exact ⟨o', .tail _ (.tail _ (.tail _ h'))⟩
            obtain ⟨o', h'⟩ := hmb
            have e1 := got _ (.tail _ h')
            dsimp only at e e1
            rw [e] at e1
            cases e1
            exact (N3 _ (.tail _ h')).1
    · rcases hstop with ⟨_, q⟩ | ⟨_, q⟩
      · exact absurd q hf1
      · exact absurd q hr1
  · have N3 : News g L' h₂ ((row, listOf vs.toArray ep) :: (140, tabO pl) :: (Cg, oG) :: (ga, genO s.gens.size nm' qn') :: rest) := News.sub N₂ fun q hq => by
      simp only [List.mem_cons] at hq ⊢
      rcases hq with h | h | h | h | h <;> simp [h]
    have mem1 : ∀ b ∈ wa :: C :: ln :: dl :: keep, ∃ o, (b, o) ∈ (140, tabO pl) :: rest := fun b hb => by
      rcases List.mem_cons.mp hb with rfl | hb
      · exact ⟨_, .tail _ hwa⟩
      rcases List.mem_cons.mp hb with rfl | hb
      · exact ⟨_, .tail _ hoC⟩
      · exact hkeep b hb
    refine ⟨0, f, _, h₂, tk₂, _, pl, vs, ns, ep, oG, _, rfl, .refl htr, hi, Nat.le_refl _, Nat.le_refl _, ⟨F₂, rfl, rfl, rfl⟩, N3, .refl _, rfl, Int.le_refl _, htop0, by omega, fun _ => rfl, fun q => absurd q (Nat.lt_irrefl _), Cg :: wa :: keep, ?_, ?_⟩
    · intro b hb
      rcases List.mem_cons.mp hb with rfl | hb
      · exact ⟨oG, .tail _ (.head _)⟩
      · obtain ⟨o, h⟩ := mem1 b (by
          rcases List.mem_cons.mp hb with rfl | hb
          · exact .head _
          · exact .tail _ (.tail _ (.tail _ (.tail _ hb))))
        rcases List.mem_cons.mp h with q | h
        · exact ⟨o, q ▸ .head _⟩
        · exact ⟨o, .tail _ (.tail _ h)⟩
    · refine ru_fresh G0 hB140 ?_ ?_ ?_ ?_ hfg ?_ (N₂ _ (.head _)).1 (N₂ _ (.tail _ (.head _))).1 hNG ?_ hM2 (by omega) rfl ?_
      · exact Nat.le_trans hBC (Nat.le_of_lt (hne (C, oC) (.tail _ (.tail _ hoC))))
      · exact hr (wa, genO nw nm qn) hwa
      · exact Nat.ne_of_gt lt140
      · intro b hb
        obtain ⟨o, h⟩ := mem1 b hb
        exact Nat.ne_of_lt (hne (b, o) (.tail _ h))
      · exact Array.getElem?_push_size ..
      · intro B hB hd
        refine (hW B hB hd).move ?_ ?_
        · intro b hb o e
          obtain ⟨o', h⟩ := mem1 b (by
            rcases List.mem_cons.mp hb with rfl | hb
            · exact .head _
            · exact .tail _ (.tail _ (.tail _ (.tail _ hb))))
          have e1 := got0 _ (.tail _ h)
          rw [e] at e1
          cases e1
          exact (N₂ _ (.tail _ (.tail _ (.tail _ h)))).1
        · show (s.gens.push gsg)[nw]? = _
          rw [Array.getElem?_push, if_neg (Nat.ne_of_lt hnwlt)]
      · show dp + 1 < 700
        omega
end
end Mine
namespace Mine
open PySem PySem.W PySem.Calls PyProof.Rows

/-- what a ruler of sizes f, r, r, .. tells when it is asked at most so often. -/
def frontL (f r : Int) : Nat → List Int
  | 0 => []
  | k + 1 => if f = 127 then [] else f :: (if r = 127 then [] else List.replicate k (if r = 0 then f else r))

/-- what has been told when j sizes came. -/
def toldL (f r : Int) : Nat → List Int
  | 0 => []
  | j + 1 => f :: List.replicate j (if r = 0 then f else r)
theorem toldL_snoc (f r : Int) (j : Nat) : toldL f r j ++ [if j = 0 then f else if r = 0 then f else r] = toldL f r (j + 1) := by
  cases j with
  | zero => rfl
  | succ j => simp [toldL, List.replicate_succ']
theorem toldL_length (f r : Int) (j : Nat) : (toldL f r j).length = j := by
  cases j <;> simp [toldL]

/-- between two turns of the loop that listens. -/
def FrontI (w : World) (B : Around) (M : Nat) (f r : Int) (cnt : Nat) (tc : Tok) (B0 g : Heap) (L' Cg wa C ln dl ga tl : Addr) (ng nw : Nat) (nm qn : Value) (rest : List (Addr × Obj)) (s : Shared) (pl : Array Value) (gs0 : Array GenState) (n : Nat) (s' : Shared) : Prop :=
  ∃ (j : Nat) (h' : Heap) (tk' : Nat) (gs' : Array GenState) (pl' : Array Value) (vs' : List Value) (ep' : Nat) (oG' : Obj) (mp : Str → Option Value),
    s' = { s with heap := h', toks := tk', gens := gs' } ∧ TabMore pl pl' ∧ IntsAre vs' (toldL f r j) ∧ j + n = M ∧ j < cnt ∧ (0 < j → f ≠ 127) ∧ (1 < j → r ≠ 127) ∧
    (Fr g L' h' mp ∧ mp "told" = some (.ref tl) ∧ mp "count" = some (.int cnt tc)) ∧
    News g L' h' ((tl, listOf vs'.toArray ep') :: (140, tabO pl') :: (Cg, oG') :: (ga, genO ng nm qn) :: rest) ∧ GXs [ng, nw] gs0 gs' ∧
    ∃ keep', (∀ b ∈ keep', ∃ o, (b, o) ∈ (140, tabO pl') :: (Cg, oG') :: rest) ∧ Ru w B M f r B0 Cg wa C ln dl ga ng nw keep' (n + 1) s'

theorem map2 {mp : Str → Option Value} {x1 x2 : Str} {a b : Value} (h1 : mp x1 = some a) (h2 : mp x2 = some b) : mp = fun x => if x = x1 then some a else if x = x2 then some b else mp x := funext fun x => by
  by_cases q1 : x = x1
  · rw [if_pos q1, q1, h1]
  rw [if_neg q1]
  by_cases q2 : x = x2
  · rw [if_pos q2, q2, h2]
  rw [if_neg q2]

section
variable {w : World} {dp un : Nat} {fr : Option (List Env)} {gd : Option (List Code)} {s : Shared} {h₀ : Heap} {L : Addr} {m : Str → Option Value} {p : Program} {loose : List Str} {mg mb : Str → Option Value} {rest : List (Addr × Obj)} {E : Value → Shared → Prop}

theorem front_K {B0 : Heap} {wa C ln dl : Addr} {nw M cnt : Nat} {f r : Int} {tc : Tok} {pl : Array Value} {keep : List Addr} {nm qn : Value} {oC : Obj} {Q : Value → Shared → Prop}
    (F : Fr h₀ L s.heap m) (N : News h₀ L s.heap ((140, tabO pl) :: rest)) (hr : ∀ p ∈ rest, p.1 ≠ 140) (htr : TriplesOk pl.toList) (G : Gd w p loose mg mb h₀)
    (G0 : Gd w p loose mg mb B0) (hB : B0.StaysIn h₀) (hBC : B0.objs.size ≤ C) (hwa : (wa, genO nw nm qn) ∈ rest) (hoC : (C, oC) ∈ rest) (hkeep : ∀ b ∈ ln :: dl :: keep, ∃ o, (b, o) ∈ (140, tabO pl) :: rest)
    (hW : ∀ B : Around, B.handled = none → B.depth < 800 → Wk w B M f r B0 C ln dl wa nw keep (M + 1) s)
    (hdp : dp < 650) (hf0 : f ≠ 0) (hM : M < 1000) (hM2 : 2 ≤ M) (hcnt : 1 < cnt) (hcM : cnt ≤ M)
    (h : ∀ l h' tk' gs' pl' vs' ep', TabMore pl pl' → Fr h₀ L h' m → News h₀ L h' ((l, listOf vs'.toArray ep') :: (140, tabO pl') :: rest) → (∀ q ∈ (140, tabO pl) :: rest, q.1 < l) → IntsAre vs' (frontL f r cnt) → GXs [nw] s.gens gs' → Q (.ref l) { s with heap := h', toks := tk', gens := gs' }) :
    wpAny (model pw w) (AR dp un fr gd) (call (.ref 237) [.ref wa, .int cnt tc]) Q E s := by
  have got0 : ∀ q ∈ (140, tabO pl) :: rest, s.heap.get? q.1 = some q.2 := fun q hq => (N q hq).1
  refine wpAny_call ?_
  refine' code_K (binds := [("walk", .ref wa), ("count", .int cnt tc)]) F N G.X G.T ?k6 ?k7 ?k8 ?k9 ?kB ?_ ?c1 ?c2 ?c3 ?c4
  case k6 => k_is
  case k7 => k_is
  case k8 => exact Nat.lt_trans hdp (by decide)
  case k9 => exact BindsTo.of_eq rfl
  case kB => exact locs rfl
  case c1 => exact rfl
  case c2 => exact rfl
  case c3 => exact rfl
  case c4 => decide
  intro g L' h₁ st FG F N X T hlt
  dsimp only
  k_fold
  have G' := G.keeps st
  k_with_none
  k_with "steps" => repeat' (fail_if_success (with_reducible show wpAny _ _ (exec (PySem.Stmt.For _ _ _ _ _) _) _ _ _)); (first | (k_unfold; (try dsimp only)) | (k_end; kc_close) | walk1 | (dsimp only; walk1) | (leave1; (try dsimp only)) | fail "no step")
  k_extra "steps"
  refine wpAny_For ?_
  k_steps
  rename Fr g _ _ _ => lF
  rename News g _ _ _ => lN
  rename_i tl hh hl tkk
  have hltl : ∀ q ∈ (140, tabO pl) :: rest, q.1 < tl := fun q hq => by
    rcases List.mem_cons.mp hq with rfl | hq
    · exact hl.1
    · exact allLt_mem hl.2 q hq
  refine grp_make_K lF lN G' (Nat.lt_of_lt_of_le (Nat.succ_lt_succ hdp) (by decide)) fun ga Cg oG nm' qn' h₂ tk₂ gsg F₂ N₂ hNG hCga hlt2 hfg => ?_
  refine wpAny_pyIter_gen (genO_is (N₂ _ List.mem_cons_self).1) ?_
  clear lF lN
  generalize hBd : Around.deeper (AR dp un fr gd) _ = B
  have hBh : B.handled = none := by rw [← hBd]; rfl
  have hBp : B.depth = dp + 1 := by rw [← hBd]; rfl
  obtain ⟨hd1, dp1, fr1, gd1, un1⟩ := B
  dsimp only at hBh hBp
  subst hBh hBp
  have hne : ∀ q ∈ (140, tabO pl) :: rest, q.1 < Cg := fun q hq => hlt2 q (.tail _ hq)
  have htlC : tl < Cg := hlt2 (tl, listOf #[] 0) (.head _)
  have lt140 : (140 : Nat) < Cg := hne (140, tabO pl) (.head _)
  have hnwlt : nw < s.gens.size := by
    obtain ⟨_, gs, hgs, _⟩ := hW (AR 0 0 none none) rfl (by decide)
    exact (Array.getElem?_eq_some_iff.mp hgs).1
  have hgw : s.gens.size ≠ nw := Nat.ne_of_gt hnwlt
  have hB140 : B0.get? 140 = none := by
    cases z : B0.get? 140 with
    | none => rfl
    | some o => have := (N₂ (140, tabO pl) (.tail _ (.tail _ (.tail _ (.head _))))).2.2; rw [st _ _ (hB _ _ z)] at this; cases this
  refine codeAny_forLoop (FrontI w (AR (dp + 1) un1 fr1 gd1) M f r cnt tc B0 g L' Cg wa C ln dl ga tl s.gens.size nw nm' qn' rest s pl (s.gens.push gsg)) ?_ M ?_
  · intro n s' hI
    show wpAny _ _ _ _ _ _
    k_fold
    obtain ⟨j, h', tk', gs', pl', vs', ep', oG', mp, rfl, htm, hi', hjn, hjc, hj1, hj2, ⟨F, hm1, hm2⟩, N, gx, keep', hkp, RU⟩ := hI
    have hBs : B0.StaysIn h' := fun b o e => F.keep b o (st b o (hB b o e))
    refine ru_next rfl G0.T.nolimit ?_ hBs ?_ ?_ ?_ RU (fun v t s2 hv hc1 hc2 hoC nr hRu => ?_) (fun s2 hstop nr => ?_)
    · exact Nat.lt_of_le_of_lt (show dp + 1 ≤ 651 by omega) (by decide)
    · exact Nat.ne_of_gt (Nat.lt_trans lt140 hCga)
    · exact Nat.ne_of_gt hCga
    · exact hgw
    · k_unfold
      dsimp only
      obtain ⟨h2, g2, d2, t2, o2⟩ := s2
      obtain ⟨nh, nt, ng', nd, no⟩ := nr
      dsimp only at nh nt ng' nd no hoC hRu
      subst nd no
      obtain ⟨oG2, hoG2⟩ := hoC
      obtain ⟨pl2, tm2, e140⟩ := nt pl' htm.ok (N _ (.tail _ (.head _))).1
      have ne1 : ∀ {q : Addr × Obj}, q ∈ (tl, listOf vs'.toArray ep') :: (ga, genO s.gens.size nm' qn') :: rest → q.1 ≠ 140 ∧ q.1 ≠ Cg := fun {q} hq => by
        rcases List.mem_cons.mp hq with rfl | hq
        · exact ⟨Nat.ne_of_gt (hltl (140, tabO pl) (.head _)), Nat.ne_of_lt htlC⟩
        rcases List.mem_cons.mp hq with rfl | hq
        · exact ⟨Nat.ne_of_gt (Nat.lt_trans lt140 hCga), Nat.ne_of_gt hCga⟩
        · exact ⟨hr _ hq, Nat.ne_of_lt (hne _ (.tail _ hq))⟩
      have i140 := N _ (.tail _ (.head _))
      have iCg := N _ (.tail _ (.tail _ (.head _)))
      have F2 : Fr g L' h2 mp := Fr.writes2 F [140, Cg] (fun b o hb e => nh b o (by simp at hb; exact hb.1) (by simp at hb; exact hb.2) e) (by
          simp only [List.mem_cons, List.not_mem_nil, or_false, not_or]
          exact ⟨Ne.symm i140.2.1, Ne.symm iCg.2.1⟩) (fun b hb => by
          simp only [List.mem_cons, List.not_mem_nil, or_false] at hb
          rcases hb with rfl | rfl
          · exact i140.2.2
          · exact iCg.2.2)
      have N2 : News g L' h2 ((tl, listOf vs'.toArray ep') :: (140, tabO pl2) :: (Cg, oG2) :: (ga, genO s.gens.size nm' qn') :: rest) := fun q hq => by
        have old : ∀ {q : Addr × Obj}, q ∈ (tl, listOf vs'.toArray ep') :: (ga, genO s.gens.size nm' qn') :: rest → q ∈ (tl, listOf vs'.toArray ep') :: (140, tabO pl') :: (Cg, oG') :: (ga, genO s.gens.size nm' qn') :: rest → h2.get? q.1 = some q.2 ∧ q.1 ≠ L' ∧ g.get? q.1 = none := fun hq hq' => ⟨nh _ _ (ne1 hq).1 (ne1 hq).2 (N _ hq').1, (N _ hq').2⟩
        rcases List.mem_cons.mp hq with rfl | hq
        · exact old (.head _) (.head _)
        rcases List.mem_cons.mp hq with rfl | hq
        · exact ⟨e140, i140.2⟩
        rcases List.mem_cons.mp hq with rfl | hq
        · exact ⟨hoG2, iCg.2⟩
        · exact old (.tail _ hq) (.tail _ (.tail _ (.tail _ hq)))
      have esz : (if n = M then f else if r = 0 then f else r) = (if j = 0 then f else if r = 0 then f else r) := by
        by_cases q : j = 0
        · rw [if_pos q, if_pos (by omega)]
        · rw [if_neg q, if_neg (by omega)]
      rw [esz] at hv
      have hsn := toldL_snoc f r j
      generalize (if j = 0 then f else if r = 0 then f else r) = nxt at hv hsn
      subst hv
      have got : ∀ q ∈ (tl, listOf vs'.toArray ep') :: (140, tabO pl2) :: (Cg, oG2) :: (ga, genO s.gens.size nm' qn') :: rest, h2.get? q.1 = some q.2 := fun q hq => (N2 q hq).1
      rw [map2 hm1 hm2] at F2
      try dsimp only
      clear F N
      obtain ⟨n1, rfl⟩ : ∃ n1, n = n1 + 1 := ⟨n - 1, by omega⟩
      have hbg : gsg.bare = true := by
        obtain ⟨_, _, _, _, _, _, _, _, _, _, _, _, _, _, _, _, rfl⟩ := hfg
        rfl
      have gx2 : GXs [s.gens.size, nw] (s.gens.push gsg) g2 := gx.trans ng'
      have hvl := hi'.length
      have htl := toldL_length f r j
      have tlne : ∀ q ∈ (140, tabO pl2) :: (Cg, oG2) :: (ga, genO s.gens.size nm' qn') :: rest, q.1 ≠ tl :=
        ne_cons (Nat.ne_of_lt (hltl (140, tabO pl) (.head _))) (ne_cons (Nat.ne_of_gt htlC) (ne_cons (Nat.ne_of_gt (Nat.lt_trans htlC hCga)) fun q hq => Nat.ne_of_lt (hltl q (.tail _ hq))))
      k_steps
      rename Fr g _ _ _ => lF
      rename News g _ _ _ => lN
      refine' append_K lF lN (Upd.head tlne) ?_ ?z
      case z => show vs'.length ≤ sizeLine; exact Nat.le_trans (show vs'.length ≤ 1000 by omega) (by decide)
      intro h3 F3 N3
      clear lF lN
      k_steps
      · have hi3 : IntsAre (vs' ++ [Value.int nxt t]) (toldL f r (j + 1)) := by rw [← hsn]; exact hi'.append (.cons _ _ .nil)
        rename ((((toldL f r j).length + 1 : Nat) : Int) = (cnt : Int)) => hcn
        rw [htl] at hcn
        have hcn : j + 1 = cnt := by exact_mod_cast hcn
        have hf127 : f ≠ 127 := by
          by_cases q : j = 0
          · exact hc1 (by omega)
          · exact hj1 (by omega)
        have hr127 : r ≠ 127 := by
          by_cases q : j = 1
          · exact hc2 (by omega)
          · exact hj2 (by omega)
        have efr : toldL f r (j + 1) = frontL f r cnt := by
          rw [← hcn]
          simp only [toldL, frontL, if_neg hf127, if_neg hr127]
        rw [efr] at hi3
        rename Fr g _ _ _ => lF
        rename News g _ _ _ => lN
        exact ⟨L', _, _, lF, lN, fun F' N' => h _ _ _ _ _ _ _ (htm.trans tm2) F' (News.sub N' fun q hq => by
          rcases List.mem_cons.mp hq with rfl | hq
          · exact .head _
          rcases List.mem_cons.mp hq with rfl | hq
          · exact .tail _ (.head _)
          · exact .tail _ (.tail _ (.tail _ (.tail _ hq)))) hltl hi3 (gx2.pushed hbg)⟩
      any_goals exact n1
      any_goals exact Nat.lt_succ_self _
      have hi3 : IntsAre (vs' ++ [Value.int nxt t]) (toldL f r (j + 1)) := by rw [← hsn]; exact hi'.append (.cons _ _ .nil)
      rename ¬ ((((toldL f r j).length + 1 : Nat) : Int) = (cnt : Int)) => hcn
      rw [htl] at hcn
      have hcn : j + 1 ≠ cnt := fun q => hcn (by exact_mod_cast q)
      rename Fr g _ _ _ => lF
      rename News g _ _ _ => lN
      have hmem : ∀ b ∈ [wa, Cg, C, ln, dl], ∃ o, (b, o) ∈ (140, tabO pl2) :: (Cg, oG2) :: rest := fun b hb => by
        have old : ∀ {b}, (∃ o, (b, o) ∈ (140, tabO pl) :: rest) → ∃ o, (b, o) ∈ (140, tabO pl2) :: (Cg, oG2) :: rest := fun {b} ⟨o, h⟩ => by
          rcases List.mem_cons.mp h with q | h
          · exact ⟨tabO pl2, by rw [show b = 140 from congrArg Prod.fst q]; exact .head _⟩
          · exact ⟨o, .tail _ (.tail _ h)⟩
        simp only [List.mem_cons, List.not_mem_nil, or_false] at hb
        rcases hb with rfl | rfl | rfl | rfl | rfl
        · exact ⟨_, .tail _ (.tail _ hwa)⟩
        · exact ⟨oG2, .tail _ (.head _)⟩
        · exact ⟨_, .tail _ (.tail _ hoC)⟩
        · exact old (hkeep _ (by simp))
        · exact old (hkeep _ (by simp))
      have hf127 : f ≠ 127 := by
        by_cases q : j = 0
        · exact hc1 (by omega)
        · exact hj1 (by omega)
      refine ⟨j + 1, _, _, _, pl2, _, _, oG2, _, rfl, htm.trans tm2, hi3, by omega, by omega, fun _ => hf127, fun q => ?_, ⟨lF, rfl, rfl⟩, lN, gx2, [wa, Cg, C, ln, dl], ?_, ?_⟩
      · by_cases q' : j = 1
        · exact hc2 (by omega)
        · exact hj2 (by omega)
      · intro b hb
        exact hmem b hb
      · refine (hRu (by omega)).move ?_ rfl rfl
        intro b hb o e
        have hmb : ∃ o', (b, o') ∈ (140, tabO pl2) :: (Cg, oG2) :: (ga, genO s.gens.size nm' qn') :: rest := by
          rcases List.mem_cons.mp hb with rfl | hb
          · exact ⟨_, .tail _ (.tail _ (.head _))⟩
          · obtain ⟨o', h'⟩ := hmem b hb
            rcases List.mem_cons.mp h' with q | h'
            · exact ⟨o', q ▸ .head _⟩
            rcases List.mem_cons.mp h' with q | h'
            · exact ⟨o', q ▸ .tail _ (.head _)⟩
            · exact ⟨o', .tail _ (.tail _ (.tail _ h'))⟩
        obtain ⟨o', h'⟩ := hmb
        have e1 := got _ (.tail _ h')
        dsimp only at e e1
        rw [e] at e1
        cases e1
        exact (lN _ (.tail _ h')).1
    · k_unfold
      try dsimp only
      obtain ⟨h2, g2, d2, t2, o2⟩ := s2
      obtain ⟨nh, nt, ng', nd, no⟩ := nr
      dsimp only at nh nt ng' nd no
      subst nd no
      obtain ⟨pl2, tm2, e140⟩ := nt pl' htm.ok (N _ (.tail _ (.head _))).1
      have i140 := N _ (.tail _ (.head _))
      have iCg := N _ (.tail _ (.tail _ (.head _)))
      have F2 : Fr g L' h2 mp := Fr.writes2 F [140, Cg] (fun b o hb e => nh b o (by simp at hb; exact hb.1) (by simp at hb; exact hb.2) e) (by
          simp only [List.mem_cons, List.not_mem_nil, or_false, not_or]
          exact ⟨Ne.symm i140.2.1, Ne.symm iCg.2.1⟩) (fun b hb => by
          simp only [List.mem_cons, List.not_mem_nil, or_false] at hb
          rcases hb with rfl | rfl
          · exact i140.2.2
          · exact iCg.2.2)
      have N2 : News g L' h2 ((tl, listOf vs'.toArray ep') :: (140, tabO pl2) :: rest) := fun q hq => by
        rcases List.mem_cons.mp hq with rfl | hq
        · have iq := N _ (.head _)
          exact ⟨nh _ _ (Nat.ne_of_gt (hltl (140, tabO pl) (.head _))) (Nat.ne_of_lt htlC) iq.1, iq.2⟩
        rcases List.mem_cons.mp hq with rfl | hq
        · exact ⟨e140, i140.2⟩
        · have iq := N q (.tail _ (.tail _ (.tail _ (.tail _ hq))))
          exact ⟨nh _ _ (hr q hq) (Nat.ne_of_lt (hne q (.tail _ hq))) iq.1, iq.2⟩
      rw [map2 hm1 hm2] at F2
      have hbg : gsg.bare = true := by
        obtain ⟨_, _, _, _, _, _, _, _, _, _, _, _, _, _, _, _, rfl⟩ := hfg
        rfl
      have gx2 : GXs [s.gens.size, nw] (s.gens.push gsg) g2 := gx.trans ng'
      obtain ⟨c1, rfl⟩ : ∃ c1, cnt = c1 + 1 := ⟨cnt - 1, by omega⟩
      have efr : toldL f r j = frontL f r (c1 + 1) := by
        rcases hstop with ⟨q, z⟩ | ⟨q, z⟩
        · obtain rfl : j = 0 := by omega
          simp only [toldL, frontL, if_pos z]
        · obtain rfl : j = 1 := by omega
          simp only [toldL, frontL, if_neg (hj1 (by omega)), if_pos z, List.replicate_zero]
      rw [efr] at hi'
      clear F N
      try dsimp only
      k_steps
      rename Fr g _ _ _ => lF
      rename News g _ _ _ => lN
      exact ⟨L', _, _, lF, lN, fun F' N' => h _ _ _ _ _ _ _ (htm.trans tm2) F' N' hltl hi' (gx2.pushed hbg)⟩
  · have mem1 : ∀ b ∈ wa :: C :: ln :: dl :: keep, ∃ o, (b, o) ∈ (140, tabO pl) :: rest := fun b hb => by
      rcases List.mem_cons.mp hb with rfl | hb
      · exact ⟨_, .tail _ hwa⟩
      rcases List.mem_cons.mp hb with rfl | hb
      · exact ⟨_, .tail _ hoC⟩
      · exact hkeep b hb
    have N3 : News g L' h₂ ((tl, listOf #[] 0) :: (140, tabO pl) :: (Cg, oG) :: (ga, genO s.gens.size nm' qn') :: rest) := News.sub N₂ fun q hq => by
      simp only [List.mem_cons] at hq ⊢
      rcases hq with h | h | h | h | h <;> simp [h]
    refine ⟨0, h₂, tk₂, _, pl, [], 0, oG, _, rfl, .refl htr, .nil, by omega, by omega, fun q => absurd q (Nat.lt_irrefl _), fun q => absurd q (by omega), ⟨F₂, rfl, rfl⟩, N3, .refl _, Cg :: wa :: keep, ?_, ?_⟩
    · intro b hb
      rcases List.mem_cons.mp hb with rfl | hb
      · exact ⟨oG, .tail _ (.head _)⟩
      · obtain ⟨o, h⟩ := mem1 b (by
          rcases List.mem_cons.mp hb with rfl | hb
          · exact .head _
          · exact .tail _ (.tail _ (.tail _ (.tail _ hb))))
        rcases List.mem_cons.mp h with q | h
        · exact ⟨o, q ▸ .head _⟩
        · exact ⟨o, .tail _ (.tail _ h)⟩
    · refine ru_fresh G0 hB140 ?_ ?_ ?_ ?_ hfg ?_ (N₂ _ (.head _)).1 (N₂ _ (.tail _ (.head _))).1 hNG ?_ hM2 hf0 rfl ?_
      · exact Nat.le_trans hBC (Nat.le_of_lt (hne (C, oC) (.tail _ hoC)))
      · exact hr (wa, genO nw nm qn) hwa
      · exact Nat.ne_of_gt lt140
      · intro b hb
        obtain ⟨o, h⟩ := mem1 b hb
        exact Nat.ne_of_lt (hne (b, o) h)
      · exact Array.getElem?_push_size ..
      · intro B hB hd
        refine (hW B hB hd).move ?_ ?_
        · intro b hb o e
          obtain ⟨o', h⟩ := mem1 b (by
            rcases List.mem_cons.mp hb with rfl | hb
            · exact .head _
            · exact .tail _ (.tail _ (.tail _ (.tail _ hb))))
          have e1 := got0 _ h
          rw [e] at e1
          cases e1
          exact (N₂ _ (.tail _ (.tail _ (.tail _ h)))).1
        · show (s.gens.push gsg)[nw]? = _
          rw [Array.getElem?_push, if_neg (Nat.ne_of_lt hnwlt)]
      · show dp + 1 < 700
        omega
end
end Mine
namespace Mine
open PySem PySem.W PySem.Calls PyProof.Rows

section
variable {w : World} {dp un : Nat} {fr : Option (List Env)} {gd : Option (List Code)} {s : Shared} {h₀ : Heap} {L : Addr} {m : Str → Option Value} {p : Program} {loose : List Str} {mg mb : Str → Option Value} {rest : List (Addr × Obj)} {E : Value → Shared → Prop}

theorem sub_ve_ve : isSubtype (.type "ValueError") (.type "ValueError") = pure true := by rw [isSubtype_type]; kernel_rfl

theorem refused_K {B0 : Heap} {wa C ln dl Ll : Addr} {oLl : Obj} {envP envL : Env} {nw M : Nat} {r : Int} {pl : Array Value} {keep : List Addr} {nm qn : Value} {oC : Obj} {Q : Value → Shared → Prop}
    (F : Fr h₀ L s.heap m) (N : News h₀ L s.heap ((Ll, oLl) :: (140, tabO pl) :: rest)) (hr : ∀ p ∈ rest, p.1 ≠ 140) (hrl : ∀ p ∈ (140, tabO pl) :: rest, p.1 ≠ Ll) (htr : TriplesOk pl.toList) (G : Gd w p loose mg mb h₀)
    (G0 : Gd w p loose mg mb B0) (hB : B0.StaysIn h₀) (hBC : B0.objs.size ≤ C) (hwa : (wa, genO nw nm qn) ∈ rest) (hoC : (C, oC) ∈ rest) (hkeep : ∀ b ∈ ln :: dl :: keep, ∃ o, (b, o) ∈ (140, tabO pl) :: rest)
    (hW : ∀ B : Around, B.handled = none → B.depth < 800 → Wk w B M 0 r B0 C ln dl wa nw keep (M + 1) s)
    (hdp : dp < 650) (hP : envP.frame = some L) (kP : envP.scope.kind ≠ .module) (hL : envL.frame = some Ll) (kL : envL.scope.kind ≠ .module) (dL : ∃ es ep, oLl.data = .dict es ep)
    (h : ∀ h' tk' gs' pl' sl, TabMore pl pl' → Fr h₀ L h' m → News h₀ L h' ((Ll, { oLl with slots := sl }) :: (140, tabO pl') :: rest) → GXs [nw] s.gens gs' → Q (.bool true) { s with heap := h', toks := tk', gens := gs' }) :
    wpAny (model pw w) (AR dp un (some [envP, envL]) gd) (call (.ref 244) [.ref wa]) Q E s := by
  have got0 : ∀ q ∈ (Ll, oLl) :: (140, tabO pl) :: rest, s.heap.get? q.1 = some q.2 := fun q hq => (N q hq).1
  refine wpAny_call ?_
  refine' code_KF (binds := [("walk", .ref wa)]) F N G.X G.T ?k6 ?k7 ?k8 ?k9 ?kB ?_ ?c1 ?c2 ?c3 ?c4
  case k6 => k_is
  case k7 => k_is
  case k8 => exact Nat.lt_trans hdp (by decide)
  case k9 => exact BindsTo.of_eq rfl
  case kB => exact locs rfl
  case c1 => exact rfl
  case c2 => exact rfl
  case c3 => exact rfl
  case c4 => decide
  intro g L' h₁ oL st hgL FO F N X T hlt hne
  dsimp only
  k_fold
  have G' := G.keeps st
  k_with_none
  refine wpAny_execs_cons (wpAny_Try_except (wpAny_execs_cons (wpAny_For ?_)))
  k_steps
  rename Fr g _ _ _ => lF
  rename News g _ _ _ => lN
  refine grp_make_K lF lN G' (Nat.lt_of_lt_of_le (Nat.succ_lt_succ hdp) (by decide)) fun ga Cg oG nm' qn' h₂ tk₂ gsg F₂ N₂ hNG hCga hlt2 hfg => ?_
  refine wpAny_pyIter_gen (genO_is (N₂ _ List.mem_cons_self).1) ?_
  clear lF lN
  generalize hBd : Around.deeper (AR dp un (some [envP, envL]) gd) _ = B
  have hBh : B.handled = none := by rw [← hBd]; rfl
  have hBp : B.depth = dp + 1 := by rw [← hBd]; rfl
  have hBf := congrArg Around.frames hBd
  change some (_ :: [envP, envL]) = B.frames at hBf
  obtain ⟨hd1, dp1, fr1, gd1, un1⟩ := B
  dsimp only at hBh hBp hBf
  obtain ⟨ou, rfl⟩ : ∃ ou, fr1 = some ou := ⟨_, hBf.symm⟩
  have hou := Option.some.inj hBf
  clear hBf
  subst hBh hBp
  have lt140 : (140 : Nat) < Cg := hlt2 (140, tabO pl) (.tail _ (.tail _ (.head _)))
  have hnwlt : nw < s.gens.size := by
    obtain ⟨_, gs, hgs, _⟩ := hW (AR 0 0 none none) rfl (by decide)
    exact (Array.getElem?_eq_some_iff.mp hgs).1
  have hgw : s.gens.size ≠ nw := Nat.ne_of_gt hnwlt
  have n140 := (N₂ (140, tabO pl) (.tail _ (.tail _ (.tail _ (.tail _ (.head _)))))).2
  have hB140 : B0.get? 140 = none := by
    cases z : B0.get? 140 with
    | none => rfl
    | some o => have := n140.2; rw [st _ _ (hB _ _ z)] at this; cases this
  have mem1 : ∀ b ∈ wa :: C :: ln :: dl :: keep, ∃ o, (b, o) ∈ (140, tabO pl) :: rest := fun b hb => by
    rcases List.mem_cons.mp hb with rfl | hb
    · exact ⟨_, .tail _ hwa⟩
    rcases List.mem_cons.mp hb with rfl | hb
    · exact ⟨_, .tail _ hoC⟩
    · exact hkeep b hb
  have iP := N₂ (L, oL) (.tail _ (.tail _ (.head _)))
  have iL := N₂ (Ll, oLl) (.tail _ (.tail _ (.tail _ (.head _))))
  have iC := N₂ (Cg, oG) (.tail _ (.head _))
  have ltL : L < Cg := hlt2 (L, oL) (.head _)
  have ltLl : Ll < Cg := hlt2 (Ll, oLl) (.tail _ (.head _))
  have neP : L ≠ 140 := Ne.symm (hne (140, tabO pl) (.tail _ (.head _)))
  have neL : Ll ≠ 140 := Ne.symm (hrl (140, tabO pl) (.head _))
  have nfL : ∀ vs, oLl.data ≠ .fields vs := fun vs q => by
    obtain ⟨es, ep, e⟩ := dL
    rw [e] at q; cases q
  have hLCg : L' ≠ Cg := Ne.symm iC.2.1
  have hL140 : L' ≠ 140 := Ne.symm n140.1
  refine codeAny_forLoop (fun n s' => n = 0 ∧ s' = { s with heap := h₂, toks := tk₂, gens := s.gens.push gsg }) ?_ 0 ⟨rfl, rfl⟩
  rintro n s' ⟨rfl, rfl⟩
  refine next_gen (n := 0) (gs := gsg) (R := grpR0 Cg nw ou) (Y := noY) rfl (G.T.nolimit.keeps fun b o e => F₂.keep b o (st b o e)) (Nat.lt_of_le_of_lt (show dp + 1 ≤ 651 by omega) (by decide)) (genO_is (N₂ _ (.head _)).1) (Array.getElem?_push_size ..) ?hgo (fun v s₁ gs' _ hy => hy.elim) (fun x s₁ hr0 => .inr ?_)
  case hgo =>
    subst hou
    refine grp0_seg (dp := dp + 1) (M := M) (r := r) (C := C) (ln := ln) (dl := dl) (keep := keep) hfg ⟨hNG _ _ iC.1, fun b o e => F₂.keep b o (st b o (hB b o e)), ?_⟩ G0 hB140 (hr (wa, genO nw nm qn) hwa) (Nat.ne_of_gt lt140) ?_ ?_ ?_ (by omega)
    · exact Nat.le_trans hBC (Nat.le_of_lt (hlt2 (C, oC) (.tail _ (.tail _ (.tail _ hoC)))))
    · intro b hb
      obtain ⟨o, h⟩ := mem1 b hb
      exact Nat.ne_of_lt (hlt2 (b, o) (.tail _ (.tail _ h)))
    · intro B hB hd
      refine (hW B hB (by omega)).move ?_ ?_
      · intro b hb o e
        obtain ⟨o', h⟩ := mem1 b (by
          rcases List.mem_cons.mp hb with rfl | hb
          · exact .head _
          · exact .tail _ (.tail _ (.tail _ (.tail _ hb))))
        have e1 := got0 _ (.tail _ h)
        rw [e] at e1
        cases e1
        exact (N₂ _ (.tail _ (.tail _ (.tail _ (.tail _ h))))).1
      · rw [setGen_gens, Array.getElem?_setIfInBounds, if_neg hgw]
        show (s.gens.push gsg)[nw]? = _
        rw [Array.getElem?_push, if_neg (Nat.ne_of_lt hnwlt)]
    · intro env he
      simp only [List.mem_cons, List.not_mem_nil, or_false] at he
      rcases he with rfl | rfl | rfl
      · obtain ⟨o, es, ep, ho, hd, _⟩ := F₂.ns
        exact ⟨by show ScopeKind.function ≠ ScopeKind.module; decide, L', o, rfl, by simp [hL140, hLCg], ho, fun vs q => by rw [hd] at q; cases q⟩
      · exact ⟨kP, L, oL, hP, by simp [neP, Nat.ne_of_lt ltL], iP.1, FO.nf⟩
      · exact ⟨kL, Ll, oLl, hL, by simp [neL, Nat.ne_of_lt ltLl], iL.1, nfL⟩
  obtain ⟨e, hr', rfl, hnew, fly, up, near⟩ := hr0
  obtain ⟨h1, g1, d1, t1, o1⟩ := s₁
  obtain ⟨nh, nt, ng', nd, no⟩ := near
  dsimp only [Shared.setGen] at nh nt ng' nd no fly up
  subst nd no
  obtain ⟨pl2, tm2, e140⟩ := nt pl htr (N₂ (140, tabO pl) (.tail _ (.tail _ (.tail _ (.tail _ (.head _)))))).1
  subst hou
  have hfm : List.filterMap (fun x : Env => x.frame) [envP, envL] = [L, Ll] := by simp [List.filterMap, hP, hL]
  have keep1 : ∀ {h : Heap} {l : List Env} {fl : Value}, Fly _ l e "ValueError" fl h → ∀ b o, b ≠ Cg → b ≠ L' → b ≠ L → b ≠ Ll → hr'.get? b = some o → h.get? b = some o := fun {h l fl} y b o n1 n2 n3 n4 q =>
    y.stays b o ((TI.gone_get (by
      show b ∉ Cg :: L' :: List.filterMap (fun x : Env => x.frame) [envP, envL]
      rw [hfm]
      simp only [List.mem_cons, List.not_mem_nil, or_false, not_or]
      exact ⟨n1, n2, n3, n4⟩)).trans q)
  have fin : ∀ {h : Heap} {l : List Env} {fl : Value}, Fly _ l e "ValueError" fl h → hr'.UpToSlots h → Fr g L' h _ ∧ ∃ slP slL, News g L' h ((L, { oL with slots := slP }) :: (Ll, { oLl with slots := slL }) :: (140, tabO pl2) :: rest) := fun {h l fl} y u => by
    have old : ∀ b o, b ≠ 140 → b ≠ Cg → h₂.get? b = some o → hr'.get? b = some o := fun b o n1 n2 q => nh b o n1 n2 q
    obtain ⟨slP, eP⟩ := u L oL (old _ _ neP (Nat.ne_of_lt ltL) iP.1) FO.nf
    obtain ⟨slL, eL⟩ := u Ll oLl (old _ _ neL (Nat.ne_of_lt ltLl) iL.1) nfL
    refine ⟨⟨u.ns (F₂.ns.at' fun o q => old _ _ hL140 hLCg q), fun b o q => ?_, F₂.above⟩, slP, slL, fun q hq => ?_⟩
    · have q1 : b ≠ 140 := fun z => by rw [z, n140.2] at q; cases q
      have q2 : b ≠ Cg := fun z => by rw [z, iC.2.2] at q; cases q
      have q3 : b ≠ L' := fun z => Nat.lt_irrefl _ (Nat.lt_of_lt_of_le (z ▸ Heap.lt_size q : L' < g.objs.size) F₂.above)
      have q4 : b ≠ L := fun z => by rw [z, hgL] at q; cases q
      have q5 : b ≠ Ll := fun z => by rw [z, iL.2.2] at q; cases q
      exact keep1 y b o q2 q3 q4 q5 (old b o q1 q2 (F₂.keep b o q))
    · rcases List.mem_cons.mp hq with rfl | hq
      · exact ⟨eP, iP.2⟩
      rcases List.mem_cons.mp hq with rfl | hq
      · exact ⟨eL, iL.2⟩
      rcases List.mem_cons.mp hq with rfl | hq
      · exact ⟨keep1 y _ _ (Nat.ne_of_lt lt140) (Ne.symm hL140) (Ne.symm neP) (Ne.symm neL) e140, n140⟩
      · have iq := N₂ q (.tail _ (.tail _ (.tail _ (.tail _ (.tail _ hq)))))
        have q2 : q.1 ≠ Cg := Nat.ne_of_lt (hlt2 q (.tail _ (.tail _ (.tail _ hq))))
        exact ⟨keep1 y _ _ q2 iq.2.1 (hne q (.tail _ (.tail _ hq))) (hrl q (.tail _ hq)) (old _ _ (hr q hq) q2 iq.1), iq.2⟩
  have hgaCg : ga ≠ Cg := Nat.ne_of_gt hCga
  have iga := N₂ _ (.head _)
  refine ⟨.ref e, rfl, genO_is (keep1 fly ga _ hgaCg iga.2.1 (Nat.ne_of_gt (Nat.lt_trans ltL hCga)) (Nat.ne_of_gt (Nat.lt_trans ltLl hCga)) (nh _ _ (Nat.ne_of_gt (Nat.lt_trans lt140 hCga)) hgaCg iga.1)), fly.typeIs, ?_⟩
  refine fly_on rfl rfl fly fun h3 fly3 up3 => ?_
  refine fly_back rfl fly3 fun h4 fly4 up4 => ?_
  refine fly_again rfl fly4 ?_
  refine fly_set (fr := none) fly4 fun h5 fly5 up5 => ?_
  refine wpAny_handleBy_builtin (X := "ValueError") (T := "ValueError") (b := true) PySem.F.isExc_ValueError PySem.F.notTuple_ValueError sub_ve_ve ?_
  have u5 := ((up.trans up3).trans up4).trans up5
  refine name_B (fin fly5 u5).1 X T (by k_is) (by boot_fast) (by decide) ⟨rfl, fly5.typeIs, ?_⟩
  rw [if_pos rfl]
  refine fly_set (fr := none) fly5 fun h6 fly6 up6 => ?_
  obtain ⟨F6, slP, slL, N6⟩ := fin fly6 (u5.trans up6)
  clear fin keep1
  refine wpAny_execs_cons (wpAny_Return_some ?_)
  k_steps
  have hbg : gsg.bare = true := by
    obtain ⟨_, _, _, _, _, _, _, _, _, _, _, _, _, _, _, _, rfl⟩ := hfg
    rfl
  have x1 : GXs [s.gens.size, nw] (s.gens.push gsg) ((s.gens.push gsg).setIfInBounds s.gens.size .running) := gxs_set (by simp) rfl
  have x3 : GXs [s.gens.size, nw] g1 (g1.setIfInBounds s.gens.size .finished) := gxs_set (by simp) rfl
  have gx : GXs [nw] s.gens (g1.setIfInBounds s.gens.size .finished) := ((x1.trans (ng'.mono (by simp))).trans x3).pushed hbg
  refine ⟨L', _, slP, _, F6, N6, fun q hq => ?_, fun F' N' => h _ _ _ _ _ tm2 F' N' gx⟩
  rcases List.mem_cons.mp hq with rfl | hq
  · exact hne (Ll, oLl) (.head _)
  rcases List.mem_cons.mp hq with rfl | hq
  · exact hne (140, tabO pl) (.tail _ (.head _))
  · exact hne q (.tail _ (.tail _ hq))
end
end Mine
namespace Mine
open PySem PySem.W PySem.Calls PyProof.Rows

/-- no divisor but 1 in common (Euclid's way). -/
def apartL : Nat → Int → Int → Bool
  | 0, one, _ => decide (one = 1)
  | n + 1, one, other => if 0 < other then apartL n other (one.fmod other) else decide (one = 1)
theorem apartL_end {n : Nat} {one other : Int} (h : ¬ 0 < other) : apartL n one other = decide (one = 1) := by
  cases n <;> simp [apartL, h]
theorem apartL_step {n : Nat} {one other : Int} {b : Bool} (hn : other ≤ n) (h0 : 0 ≤ one) (h : 0 < other) (e : apartL n one other = b) : 0 ≤ one.fmod other ∧ one.fmod other ≤ (n - 1 : Nat) ∧ apartL (n - 1) other (one.fmod other) = b ∧ n - 1 < n := by
  have h1 := Int.fmod_nonneg_of_pos one h
  have h2 := Int.fmod_lt_of_pos one h
  cases n with
  | zero => omega
  | succ n => simp only [apartL, if_pos h] at e; simp only [Nat.add_sub_cancel]; exact ⟨h1, by omega, e, by omega⟩

structure ApS where
  n : Nat
  one : Int
  t1 : Tok
  other : Int
  t2 : Tok

section
variable {w : World} {dp un : Nat} {fr : Option (List Env)} {gd : Option (List Code)} {s : Shared} {h₀ : Heap} {L : Addr} {m : Str → Option Value} {news : List (Addr × Obj)} {p : Program} {loose : List Str} {mg mb : Str → Option Value}

theorem apart_K {one other : Int} {t1 t2 : Tok} {Q E : Value → Shared → Prop}
    (F : Fr h₀ L s.heap m) (N : News h₀ L s.heap news) (X : (hed.heap_39 w.params).In h₀) (T : TopRead p loose mg mb h₀)
    (hdp : dp < 900) (h0 : 0 ≤ one) (h1 : 0 ≤ other) (h2 : other ≤ 20)
    (h : ∀ h' tk', Fr h₀ L h' m → News h₀ L h' news → Q (.bool (apartL 20 one other)) { s with heap := h', toks := tk' }) :
    wpAny (model pw w) (AR dp un fr gd) (call (.ref 223) [.int one t1, .int other t2]) Q E s := by
  refine wpAny_call ?_
  refine' code_K (binds := [("one", .int one t1), ("other", .int other t2)]) F N X T ?k6 ?k7 ?k8 ?k9 ?kB ?_ ?c1 ?c2 ?c3 ?c4
  case k6 => k_is
  case k7 => k_is
  case k8 => exact Nat.lt_trans hdp (by decide)
  case k9 => exact BindsTo.of_eq rfl
  case kB => exact locs rfl
  case c1 => exact rfl
  case c2 => exact rfl
  case c3 => exact rfl
  case c4 => decide
  intro g L' h₁ st FG F N X T hlt
  dsimp only
  k_fold
  k_with_none
  k_with "same" =>
    intro z h2 h3
    simp only [List.forall_mem_cons, List.not_mem_nil, false_implies, implies_true, and_true, ne_eq] at h2
    simp only [List.contains_cons, List.contains_nil, Bool.or_false, beq_eq_false_iff_ne, ne_eq] at h3
    simp [kstB, h2, h3]
  k_with "steps" => repeat' (fail_if_success (with_reducible show wpAny _ _ (exec (PySem.Stmt.While _ _ _ _) _) _ _ _)); (first | (k_unfold; (try dsimp only)) | (k_end; kc_close) | walk1 | (dsimp only; walk1) | (leave1; (try dsimp only)) | fail "no step")
  k_extra "steps"
  rename Fr _ _ _ _ => lF
  rename News _ _ _ _ => lN
  refine ksw_while (σ := ApS) (fun _ => news) (fun c => [("one", .int c.one c.t1), ("other", .int c.other c.t2)]) (fun _ => True) []
      (fun c => 0 ≤ c.one ∧ 0 ≤ c.other ∧ c.other ≤ c.n ∧ apartL c.n c.one c.other = apartL 20 one other) (fun c => c.n) ⟨20, one, t1, other, t2⟩ lF lN trivial (List.forall_mem_cons.mpr ⟨rfl, List.forall_mem_cons.mpr ⟨rfl, fun _ h => nomatch h⟩⟩) ?kp ?kt
  case kp => exact ⟨h0, h1, h2, rfl⟩
  case kt =>
    rintro ⟨n, one', t1', other', t2'⟩ u h₂ tk₂ - ⟨i1, i2, i3, i4⟩ F N
    dsimp only at i1 i2 i3 i4 F N ⊢
    k_steps
    · rename Fr _ _ _ _ => lF
      rename News _ _ _ _ => lN
      have hb := apartL_step i3 i1 (by assumption) i4
      refine ksw_end ⟨n - 1, other', _, one'.fmod other', _⟩ lF lN (fun p hp => List.mem_cons_of_mem _ hp) trivial (List.forall_mem_cons.mpr ⟨rfl, List.forall_mem_cons.mpr ⟨rfl, fun _ h => nomatch h⟩⟩) ?hr ?hp ?hm
      case hr => k_extra "same"
      case hp => exact ⟨i2, hb.1, hb.2.1, hb.2.2.1⟩
      case hm => exact hb.2.2.2
    · rw [apartL_end (by assumption)] at i4
      have e : (one' == 1) = decide (one' = 1) := by by_cases q : one' = 1 <;> simp [q]
      rw [e, i4]
      exact h _ _ (by assumption) (by assumption)

/-- the next number that has no divisor but 1 in common with one. -/
def coinsL : Nat → Int → Int → Int
  | 0, _, o => o
  | k + 1, one, o => if apartL 20 one o = true then o else coinsL k one (o + 1)
theorem coinsL_end {k : Nat} {one o : Int} (h : apartL 20 one o = true) : coinsL k one o = o := by
  cases k <;> simp [coinsL, h]
theorem apart13 : ∀ one ∈ [(2 : Int), 3, 4, 5, 6, 7], apartL 20 one 13 = true := by decide +kernel
theorem coinsL_step {k : Nat} {one o z : Int} (h2 : 2 ≤ one) (h7 : one ≤ 7) (hk : 13 - o ≤ k) (ho : o ≤ 13) (h : apartL 20 one o = false) (e : coinsL k one o = z) : o + 1 ≤ 13 ∧ 13 - (o + 1) ≤ (k - 1 : Nat) ∧ coinsL (k - 1) one (o + 1) = z ∧ k - 1 < k := by
  have hne : o ≠ 13 := fun q => by
    rw [q] at h
    have := apart13 one (by simp only [List.mem_cons, List.not_mem_nil, or_false]; omega)
    rw [this] at h; cases h
  cases k with
  | zero => omega
  | succ k => simp only [coinsL, h, Bool.false_eq_true, if_false] at e; simp only [Nat.add_sub_cancel]; exact ⟨by omega, by omega, e, by omega⟩

structure CoS where
  n : Nat
  other : Int
  t2 : Tok

theorem coins_K {x y : Int} {tx ty : Tok} {Q E : Value → Shared → Prop}
    (F : Fr h₀ L s.heap m) (N : News h₀ L s.heap news) (X : (hed.heap_39 w.params).In h₀) (T : TopRead p loose mg mb h₀) (hdp : dp < 890)
    (h : ∀ l t1 t2 h' tk', Fr h₀ L h' m → News h₀ L h' ((l, listOf #[.int (2 + x.fmod 6) t1, .int (coinsL 12 (2 + x.fmod 6) (2 + x.fmod 6 + 1 + y.fmod 6)) t2] 0) :: news) → (∀ q ∈ news, q.1 < l) → Q (.ref l) { s with heap := h', toks := tk' }) :
    wpAny (model pw w) (AR dp un fr gd) (call (.ref 230) [.int x tx, .int y ty]) Q E s := by
  refine wpAny_call ?_
  refine' code_K (binds := [("first", .int x tx), ("second", .int y ty)]) F N X T ?k6 ?k7 ?k8 ?k9 ?kB ?_ ?c1 ?c2 ?c3 ?c4
  case k6 => k_is
  case k7 => k_is
  case k8 => exact Nat.lt_trans hdp (by decide)
  case k9 => exact BindsTo.of_eq rfl
  case kB => exact locs rfl
  case c1 => exact rfl
  case c2 => exact rfl
  case c3 => exact rfl
  case c4 => decide
  intro g L' h₁ st FG F N X T hlt
  dsimp only
  k_fold
  k_with_none
  k_with "same" =>
    intro z h2 h3
    simp only [List.forall_mem_cons, List.not_mem_nil, false_implies, implies_true, and_true, ne_eq] at h2
    simp only [List.contains_cons, List.contains_nil, Bool.or_false, beq_eq_false_iff_ne, ne_eq] at h3
    simp [kstB, h2, h3]
  k_with "steps" => repeat' (fail_if_success (with_reducible show wpAny _ _ (exec (PySem.Stmt.While _ _ _ _) _) _ _ _)); (first | (k_unfold; (try dsimp only)) | (k_end; kc_close) | walk1 | (dsimp only; walk1) | (leave1; (try dsimp only)) | fail "no step")
  have x1 := Int.fmod_nonneg_of_pos x (show (0 : Int) < 6 by decide)
  have x2 := Int.fmod_lt_of_pos x (show (0 : Int) < 6 by decide)
  have y1 := Int.fmod_nonneg_of_pos y (show (0 : Int) < 6 by decide)
  have y2 := Int.fmod_lt_of_pos y (show (0 : Int) < 6 by decide)
  k_extra "steps"
  rename Fr _ _ _ _ => lF
  rename News _ _ _ _ => lN
  refine ksw_while (σ := CoS) (fun _ => news) (fun c => [("other", .int c.other c.t2)]) (fun _ => True) []
      (fun c => 3 ≤ c.other ∧ c.other ≤ 13 ∧ 13 - c.other ≤ c.n ∧ coinsL c.n (2 + x.fmod 6) c.other = coinsL 12 (2 + x.fmod 6) (2 + x.fmod 6 + 1 + y.fmod 6)) (fun c => c.n) ⟨12, 2 + x.fmod 6 + 1 + y.fmod 6, _⟩ lF lN trivial (List.forall_mem_cons.mpr ⟨rfl, fun _ h => nomatch h⟩) ?kp ?kt
  case kp => exact ⟨by dsimp only; omega, by dsimp only; omega, by dsimp only; omega, rfl⟩
  case kt =>
    rintro ⟨n, other', t2'⟩ u h₂ tk₂ - ⟨i1, i2, i3, i4⟩ F N
    dsimp only at i1 i2 i3 i4 F N ⊢
    k_steps
    refine apart_K F N X T (Nat.lt_of_lt_of_le (Nat.succ_lt_succ hdp) (by decide)) (by omega) (by omega) (by omega) fun h' tk' F N => ?_
    generalize hb : apartL 20 (2 + x.fmod 6) other' = b
    cases b
    · k_steps
      rename Fr _ _ _ _ => lF
      rename News _ _ _ _ => lN
      have hb := coinsL_step (by omega) (by omega) i3 i2 hb i4
      refine ksw_end ⟨n - 1, other' + 1, _⟩ lF lN (fun p hp => hp) trivial (List.forall_mem_cons.mpr ⟨rfl, fun _ h => nomatch h⟩) ?hr ?hp ?hm
      case hr => k_extra "same"
      case hp => exact ⟨by dsimp only; omega, hb.1, hb.2.1, hb.2.2.1⟩
      case hm => exact hb.2.2.2
    · k_steps
      rw [coinsL_end hb] at i4
      rw [← i4] at h
      exact h _ _ _ _ _ (by assumption) (by assumption) (by assumption)
end
end Mine
namespace Mine
open PySem PySem.W PySem.Calls PyProof.Rows

/-- the iterator over a range. -/
abbrev riO (x left step : Int) : Obj := { cls := .type "range_iterator", data := .fields #[rawInt x, rawInt left, rawInt step] }
section
variable {w : World} {A : Around} {E : Value → Shared → Prop} {s : Shared} {h₀ : Heap} {L it : Addr} {m : Str → Option Value} {news : List (Addr × Obj)} {x left step : Int}

theorem rit_new {r : Addr} {a b c : Int} {t u v : Tok} {Q : Value → Shared → Prop} (F : Fr h₀ L s.heap m) (N : News h₀ L s.heap news) (hr : IsRange s.heap r a b c t u v) (hsmall : Builtin.Range.small a b c = true)
    (h : ∀ it h', Fr h₀ L h' m → News h₀ L h' ((it, riO a (Builtin.Range.rangeSize a b c) c) :: news) → (∀ q ∈ news, q.1 < it) → Q (.ref it) { s with heap := h' }) :
    wpAny (model pw w) A (pyIter (.ref r)) Q E s :=
  wpAny_pyIter_range hr hsmall (h _ _ (F.push _) (News.push F N _) fun q hq => Heap.lt_size (N q hq).1)

theorem rit_item {Q : Option Value → Shared → Prop} (F : Fr h₀ L s.heap m) (N : News h₀ L s.heap ((it, riO x left step) :: news)) (hne : ∀ q ∈ news, q.1 ≠ it) (hl : 0 < left)
    (h : ∀ h', Fr h₀ L h' m → News h₀ L h' ((it, riO (x + step) (left - 1) step) :: news) → Q (some (.int x s.toks)) { s with heap := h', toks := s.toks + 1 }) :
    wpAny (model pw w) A (pyNext (.ref it)) Q E s := by
  have i := N _ List.mem_cons_self
  refine wpAny_pyNext_range_item i.1 hl fun h' hit hs => ?_
  have e0 : ∀ b o, b ≠ it → s.heap.get? b = some o → h'.get? b = some o := fun b o hb e => (hs.2 b hb).trans e
  refine h h' ⟨F.ns.at' fun o e => e0 _ o (Ne.symm i.2.1) e, fun b o e => e0 b o (fun q => by rw [q, i.2.2] at e; cases e) (F.keep b o e), F.above⟩ fun q hq => ?_
  rcases List.mem_cons.mp hq with rfl | hq
  · exact ⟨hit, i.2⟩
  · have iq := N q (List.mem_cons_of_mem _ hq)
    exact ⟨e0 _ _ (hne q hq) iq.1, iq.2⟩

theorem rit_end {Q : Option Value → Shared → Prop} (hh : A.handled = none) (F : Fr h₀ L s.heap m) (N : News h₀ L s.heap ((it, riO x left step) :: news)) (hne : ∀ q ∈ news, q.1 ≠ it) (hl : left ≤ 0)
    (h : ∀ h', Fr h₀ L h' m → News h₀ L h' news → Q none { s with heap := h' }) :
    wpAny (model pw w) A (pyNext (.ref it)) Q E s := by
  have i := N _ List.mem_cons_self
  refine wpAny_pyNext_range_end hh i.1 hl fun h' hx => ?_
  refine h h' ⟨F.ns.at' fun o e => hx _ o (Ne.symm i.2.1) e, fun b o e => hx b o (fun q => by rw [q, i.2.2] at e; cases e) (F.keep b o e), F.above⟩ fun q hq => ?_
  have iq := N q (List.mem_cons_of_mem _ hq)
  exact ⟨hx _ _ (hne q hq) iq.1, iq.2⟩

/-- the signs of a text, one by one. -/
def Sit (w : World) (h₀ : Heap) (L it : Addr) (news : List (Addr × Obj)) (x : Str) (St : Nat → Heap → Prop) : Prop :=
  it ≠ L ∧ h₀.get? it = none ∧ (∀ q ∈ news, q.1 < it) ∧ ∀ A' : Around, A'.handled = none → Walks pw w A' it [it] [it] x.cps.size (SignAt x) St
theorem sit_new {x : Str} {t : Tok} {Q : Value → Shared → Prop} (F : Fr h₀ L s.heap m) (N : News h₀ L s.heap news)
    (h : ∀ it h' St, Fr h₀ L h' m → News h₀ L h' news → Sit w h₀ L it news x St → St 0 h' → Q (.ref it) { s with heap := h' }) :
    wpAny (model pw w) A (pyIter (.str x t)) Q E s :=
  wpAny_pyIter_str fun o St hW hSt => h _ _ St (F.push o) (N.pushKeep o) ⟨Nat.ne_of_gt F.ns.lt, Heap.get?_none_of_le (Nat.le_of_lt (Nat.lt_of_le_of_lt F.above F.ns.lt)), fun q hq => Heap.lt_size (N q hq).1, hW⟩ hSt
theorem sit_item {x : Str} {St : Nat → Heap → Prop} {i : Nat} {Q : Option Value → Shared → Prop} (hh : A.handled = none) (F : Fr h₀ L s.heap m) (N : News h₀ L s.heap news) (W : Sit w h₀ L it news x St) (hi : i < x.cps.size) (hs : St i s.heap)
    (h : ∀ v h' tk', SignAt x i v → St (i + 1) h' → Fr h₀ L h' m → News h₀ L h' news → Q (some v) { s with heap := h', toks := tk' }) : wpAny (model pw w) A (pyNext (.ref it)) Q E s := by
  obtain ⟨n1, n2, n3, W⟩ := W
  refine (W A hh).item i s Q E hi hs fun v h' tk' hv hs' hk => h v h' tk' hv hs' ⟨F.ns.at' fun o e => hk _ o (by simpa using Ne.symm n1) e, fun b o e => hk b o (by simp only [List.mem_singleton]; intro q; rw [q, n2] at e; cases e) (F.keep b o e), F.above⟩ fun q hq => ?_
  exact ⟨hk _ _ (by simp only [List.mem_singleton]; exact Nat.ne_of_lt (n3 q hq)) (N q hq).1, (N q hq).2⟩
end
end Mine
namespace Mine
open PySem PySem.W PySem.Calls PyProof.Rows

/-- the last gap. -/
abbrev lastL (one other : Int) : Int := one * other - one - other
structure MirOk (ns : List Int) (one other below : Int) : Prop where
  z : bisR ns (one * other - one - other) ns.length 0 ns.length = below
  a : bisL ns (one * other - one - other) ns.length 0 ns.length = below
  b : ns.drop below.toNat = rangeKs (one * other - one - other + 1) (one * other + 1 - (one * other - one - other + 1)).toNat
  c1 : bisL ns 0 ns.length below ns.length = below
  c2 : bisR ns 0 ns.length below ns.length = below
  d1 : bisL ns (one * other) ns.length 0 below = below
  d2 : bisR ns (one * other) ns.length 0 below = below
  e : ∀ k : Int, 0 ≤ k → k < one * other - one - other → bisR ns k ns.length 0 ns.length + below - bisL ns (one * other - one - other - k) ns.length 0 ns.length = k
  f : 12 * (((one * other - one - other) * (one * other - one - other + 1)).fdiv 2 - (ns.take below.toNat).sum) = (one - 1) * (other - 1) * (2 * one * other - one - other - 1)
  q1 : one * other ≤ 91
  q2 : 1 ≤ one * other - one - other

theorem map5 {mp : Str → Option Value} {x1 x2 x3 x4 x5 : Str} {a b c d e : Value} (h1 : mp x1 = some a) (h2 : mp x2 = some b) (h3 : mp x3 = some c) (h4 : mp x4 = some d) (h5 : mp x5 = some e) :
    mp = fun x => if x = x1 then some a else if x = x2 then some b else if x = x3 then some c else if x = x4 then some d else if x = x5 then some e else mp x := funext fun x => by
  by_cases q1 : x = x1
  · rw [if_pos q1, q1, h1]
  rw [if_neg q1]
  by_cases q2 : x = x2
  · rw [if_pos q2, q2, h2]
  rw [if_neg q2]
  by_cases q3 : x = x3
  · rw [if_pos q3, q3, h3]
  rw [if_neg q3]
  by_cases q4 : x = x4
  · rw [if_pos q4, q4, h4]
  rw [if_neg q4]
  by_cases q5 : x = x5
  · rw [if_pos q5, q5, h5]
  rw [if_neg q5]

theorem mir_ar {p a b : Int} (q1 : p ≤ 91) (q2 : 1 ≤ p - a - b) (o1 : 2 ≤ a) (o3 : a < b) : -(2 ^ 62) ≤ p - a - b + 1 ∧ p - a - b + 1 < 2 ^ 62 ∧ -(2 ^ 62) ≤ p + 1 ∧ p + 1 < 2 ^ 62 ∧ -(2 ^ 62) ≤ p - a - b ∧ p - a - b < 2 ^ 62 := by omega
/-- between two turns of the loop over the numbers below the last gap. -/
def MirI (g : Heap) (L' row it : Addr) (vs : List Value) (ep : Nat) (rest : List (Addr × Obj)) (s : Shared) (one other below : Int) (ln : Nat) (n : Nat) (s' : Shared) : Prop :=
  ∃ h' tk' mp ta tb tc td, s' = { s with heap := h', toks := tk' } ∧ n ≤ ln ∧ (Fr g L' h' mp ∧ mp "row" = some (.ref row) ∧ mp "one" = some (.int one ta) ∧ mp "other" = some (.int other tb) ∧ mp "last" = some (.int (one * other - one - other) tc) ∧ mp "below" = some (.int below td)) ∧
    News g L' h' ((it, riO ((ln : Int) - n) n 1) :: (row, listOf vs.toArray ep) :: rest)

section
variable {w : World} {dp un : Nat} {fr : Option (List Env)} {gd : Option (List Code)} {s : Shared} {h₀ : Heap} {L : Addr} {m : Str → Option Value} {rest : List (Addr × Obj)} {p : Program} {loose : List Str} {mg mb : Str → Option Value}

theorem mirrored_K {row : Addr} {vs : List Value} {ep : Nat} {ns : List Int} {one other below : Int} {t1 t2 : Tok} {Q E : Value → Shared → Prop} (M : MirOk ns one other below)
    (F : Fr h₀ L s.heap m) (N : News h₀ L s.heap ((row, listOf vs.toArray ep) :: rest)) (hrest : ∀ p ∈ rest, p.1 ≠ row) (X : (hed.heap_39 w.params).In h₀) (T : TopRead p loose mg mb h₀)
    (hi : IntsAre vs ns) (hlen : ns.length < 200) (hdp : dp < 890) (hun : un < 9000) (o1 : 2 ≤ one) (o2 : one ≤ 7) (o3 : one < other) (o4 : other ≤ 13)
    (h : ∀ h' tk', Fr h₀ L h' m → News h₀ L h' ((row, listOf vs.toArray ep) :: rest) → Q (.bool true) { s with heap := h', toks := tk' }) :
    wpAny (model pw w) (AR dp un fr gd) (call (.ref 263) [.ref row, .int one t1, .int other t2]) Q E s := by
  have hl20 : ns.length < 2 ^ 20 := Nat.lt_trans hlen (by decide)
  have mb := mir_ar M.q1 M.q2 o1 o3
  refine wpAny_call ?_
  refine' code_K (binds := [("row", .ref row), ("one", .int one t1), ("other", .int other t2)]) F N X T ?k6 ?k7 ?k8 ?k9 ?kB ?_ ?c1 ?c2 ?c3 ?c4
  case k6 => k_is
  case k7 => k_is
  case k8 => exact Nat.lt_trans hdp (by decide)
  case k9 => exact BindsTo.of_eq rfl
  case kB => exact locs rfl
  case c1 => exact rfl
  case c2 => exact rfl
  case c3 => exact rfl
  case c4 => decide
  intro g L' h₁ st FG F N X T hlt
  dsimp only
  k_fold
  k_with_none
  k_with "call type:list" => (
    rename Fr g _ _ _ => lF
    rename News g _ _ _ => lN
    rename IsRange _ _ _ _ _ _ _ _ => rg
    refine kll_range rfl lF lN rg (small_one mb.1 mb.2.1 mb.2.2.1 mb.2.2.2.1) (rangeSize_nat _ _) (by omega) fun D us c h4 tk4 F4 N4 hD hI => ?_
    clear lF lN rg)
  k_with "compareOp NotEq ref ref" => (
    rename News g _ _ _ => lN
    rename IntsAre _ (rangeKs _ _) => hI1
    rename IntsAre _ (List.drop _ _) => hI2
    refine ke_ne_ints (isList_of (lN _ (.tail _ (.head _))).1) (isList_of (lN _ (.head _)).1) hI2 hI1 ?hun1 ?_
    case hun1 => show un + 3 + 64 < 9900; omega
    rw [decide_eq_true M.b])
  k_with "steps" => repeat' (fail_if_success (with_reducible show wpAny _ _ (exec (PySem.Stmt.For _ _ _ _ _) _) _ _ _)); (first | (k_unfold; (try dsimp only)) | (k_end; kc_close) | walk1 | (dsimp only; walk1) | (leave1; (try dsimp only)) | fail "no step")
  k_steps
  rename Fr g _ _ _ => lF
  rename News g _ _ _ => lN
  refine br_K (lo := 0) (tl := 419) lF lN X T (.head _) hi hl20 (Nat.lt_of_lt_of_le (Nat.succ_lt_succ hdp) (by decide)) (Int.le_refl 0) (Int.natCast_nonneg _) (.inl ⟨rfl, rfl, rfl⟩) fun t1 h3 tk3 F3 N3 => ?_
  clear lF lN
  have hbb := @bisR_bnd ns (one * other - one - other) ns.length 0 ns.length (Int.natCast_nonneg _)
  rw [M.z] at hbb ⊢
  obtain ⟨hb0, hb1⟩ := hbb
  k_steps
  rename Fr g _ _ _ => lF
  rename News g _ _ _ => lN
  refine bl_K (lo := 0) (tl := 433) lF lN X T (.head _) hi hl20 (Nat.lt_of_lt_of_le (Nat.succ_lt_succ hdp) (by decide)) (Int.le_refl 0) (Int.natCast_nonneg _) (.inl ⟨rfl, rfl, rfl⟩) fun t2 h3 tk3 F3 N3 => ?_
  clear lF lN
  rw [M.a]
  k_steps
  · exact absurd rfl (by assumption)
  rename Fr g _ _ _ => lF
  rename News g _ _ _ => lN
  refine bl_K (lo := below) lF lN X T (.tail _ (.tail _ (.head _))) hi hl20 (Nat.lt_of_lt_of_le (Nat.succ_lt_succ hdp) (by decide)) hb0 hb1 (.inr (.inl rfl)) fun t3 h3 tk3 F3 N3 => ?_
  clear lF lN
  rw [M.c1]
  k_steps
  · exact absurd rfl (by assumption)
  rename Fr g _ _ _ => lF
  rename News g _ _ _ => lN
  refine br_K (lo := below) lF lN X T (.tail _ (.tail _ (.head _))) hi hl20 (Nat.lt_of_lt_of_le (Nat.succ_lt_succ hdp) (by decide)) hb0 hb1 (.inr (.inl rfl)) fun t4 h3 tk3 F3 N3 => ?_
  clear lF lN
  rw [M.c2]
  k_steps
  · exact absurd rfl (by assumption)
  rename Fr g _ _ _ => lF
  rename News g _ _ _ => lN
  refine bl_Kh (lo := 0) (hiv := below) lF lN X T (.tail _ (.tail _ (.head _))) hi hl20 (Nat.lt_of_lt_of_le (Nat.succ_lt_succ hdp) (by decide)) (Int.le_refl 0) hb0 hb1 rfl fun t5 h3 tk3 F3 N3 => ?_
  clear lF lN
  rw [M.d1]
  k_steps
  · exact absurd rfl (by assumption)
  rename Fr g _ _ _ => lF
  rename News g _ _ _ => lN
  refine br_Kh (lo := 0) (hiv := below) lF lN X T (.tail _ (.tail _ (.head _))) hi hl20 (Nat.lt_of_lt_of_le (Nat.succ_lt_succ hdp) (by decide)) (Int.le_refl 0) hb0 hb1 rfl fun t6 h3 tk3 F3 N3 => ?_
  clear lF lN
  rw [M.d2]
  k_extra "steps"
  · exact absurd rfl (by assumption)
  rotate_left
  · exact absurd M.b (by assumption)
  refine wpAny_For ?_
  k_steps
  rename Fr g _ _ _ => lF
  rename News g _ _ _ => lN
  rename IsRange _ _ 0 _ 1 _ _ _ => rg
  have ho1 : ∀ q ∈ (row, listOf vs.toArray ep) :: rest, q.1 < L' := hlt
  refine rit_new lF (fun p hp => lN p (.tail _ (.tail _ hp)) : News g L' _ ((row, listOf vs.toArray ep) :: rest)) rg (small_one (by decide) (by decide) mb.2.2.2.2.1 mb.2.2.2.2.2) fun it h5 F5 N5 hit => ?_
  clear lF lN rg
  obtain ⟨ln, hln⟩ : ∃ n : Nat, one * other - one - other = n := ⟨(one * other - one - other).toNat, by have := M.q2; omega⟩
  generalize hBd : Around.deeper (AR dp un fr gd) _ = B
  have hBh : B.handled = none := by rw [← hBd]; rfl
  have hBp : B.depth = dp + 1 := by rw [← hBd]; rfl
  obtain ⟨hd1, dp1, fr1, gd1, un1⟩ := B
  dsimp only at hBh hBp
  subst hBh hBp
  have hitr : ∀ q ∈ (row, listOf vs.toArray ep) :: rest, q.1 ≠ it := fun q hq => Nat.ne_of_lt (hit q hq)
  refine codeAny_forLoop (MirI g L' row it vs ep rest s one other below ln) ?_ ln ?_
  · intro n s' hI
    show wpAny _ _ _ _ _ _
    k_fold
    obtain ⟨h', tk', mp, ta, tb, tc, td, rfl, hn, ⟨F, m1, m2, m3, m4, m5⟩, N⟩ := hI
    rw [map5 m1 m2 m3 m4 m5] at F
    cases n with
    | zero =>
      refine rit_end rfl F N hitr (by omega) fun h6 F6 N6 => ?_
      clear F N
      k_unfold
      dsimp only
      k_steps
      have e := beq_iff_eq.mpr M.f
      rw [e]
      rename Fr h₀ _ _ _ => lF
      rename News h₀ _ _ _ => lN
      exact h _ _ lF fun p hp => lN p (.tail _ hp)
    | succ n =>
      refine rit_item F N hitr (by omega) fun h6 F6 N6 => ?_
      clear F N
      k_unfold
      dsimp only
      have he := M.e ((ln : Int) - ((n + 1 : Nat) : Int)) (by omega) (by omega)
      generalize hnum : (ln : Int) - ((n + 1 : Nat) : Int) = num at he N6 ⊢
      k_steps
      rename Fr g _ _ _ => lF
      rename News g _ _ _ => lN
      refine br_K (lo := 0) (tl := 419) lF lN X T (.tail _ (.head _)) hi hl20 (Nat.lt_of_lt_of_le (Nat.succ_lt_succ hdp) (by decide)) (Int.le_refl 0) (Int.natCast_nonneg _) (.inl ⟨rfl, rfl, rfl⟩) fun t7 h3 tk3 F3 N3 => ?_
      clear lF lN
      k_steps
      rename Fr g _ _ _ => lF
      rename News g _ _ _ => lN
      refine bl_K (lo := 0) (tl := 433) lF lN X T (.tail _ (.head _)) hi hl20 (Nat.lt_of_lt_of_le (Nat.succ_lt_succ hdp) (by decide)) (Int.le_refl 0) (Int.natCast_nonneg _) (.inl ⟨rfl, rfl, rfl⟩) fun t8 h3 tk3 F3 N3 => ?_
      clear lF lN
      k_steps
      · exact absurd he (by assumption)
      any_goals exact n
      any_goals exact Nat.lt_succ_self _
      rename Fr g _ _ _ => lF
      rename News g _ _ _ => lN
      have e1 : (ln : Int) - ((n + 1 : Nat) : Int) + 1 = (ln : Int) - (n : Int) := by omega
      have e2 : (((n + 1 : Nat) : Int)) - 1 = (n : Int) := by omega
      rw [← hnum, e1, e2] at lN
      exact ⟨_, _, _, _, _, _, _, rfl, by omega, ⟨lF, rfl, rfl, rfl, rfl, rfl⟩, lN⟩
  · refine ⟨h5, _, _, _, _, _, _, rfl, Nat.le_refl _, ⟨F5, rfl, rfl, rfl, rfl, rfl⟩, ?_⟩
    have e : Builtin.Range.rangeSize 0 (one * other - one - other) 1 = ln := by rw [rangeSize_nat, hln]; simp
    rw [e] at N5
    rw [Int.sub_self]
    exact N5
end
end Mine
namespace Mine
open PySem PySem.W PySem.Calls PyProof.Rows

/-- the row after j rulers of the open line. -/
def rowL (one other : Int) : Nat → List Int
  | 0 => []
  | j + 1 => (laidL 100 0 ((other - 1 - j) * one) other (one * other) (rowL one other j)).2
def okL (one other : Int) : Nat → Bool
  | 0 => true
  | j + 1 => okL one other j && (laidL 100 0 ((other - 1 - j) * one) other (one * other) (rowL one other j)).1
/-- the whole row. -/
def allL (one other : Int) : List Int := (laidL 100 0 other other (one * other) (rowL one other (other - 1).toNat)).2
def okA (one other : Int) : Bool := okL one other (other - 1).toNat && (laidL 100 0 other other (one * other) (rowL one other (other - 1).toNat)).1

def mirB (ns : List Int) (one other : Int) : Bool :=
  let last := one * other - one - other
  let below := bisR ns last ns.length 0 ns.length
  (bisL ns last ns.length 0 ns.length == below) && (ns.drop below.toNat == rangeKs (last + 1) (one * other + 1 - (last + 1)).toNat) &&
  (bisL ns 0 ns.length below ns.length == below) && (bisR ns 0 ns.length below ns.length == below) && (bisL ns (one * other) ns.length 0 below == below) && (bisR ns (one * other) ns.length 0 below == below) &&
  ((List.range last.toNat).all fun k => bisR ns (k : Int) ns.length 0 ns.length + below - bisL ns (last - k) ns.length 0 ns.length == k) &&
  (12 * ((last * (last + 1)).fdiv 2 - (ns.take below.toNat).sum) == (one - 1) * (other - 1) * (2 * one * other - one - other - 1)) && decide (one * other ≤ 91) && decide (1 ≤ last)

def goodB (one other : Int) : Bool := let r := allL one other; okA one other && mirB r one other && decide (r.length < 200)
theorem good0 : ∀ b ∈ List.range 6, goodB (2 + ((0 : Nat) : Int)) (coinsL 12 (2 + ((0 : Nat) : Int)) (2 + ((0 : Nat) : Int) + 1 + (b : Int))) = true := by decide +kernel
theorem good1 : ∀ b ∈ List.range 6, goodB (2 + ((1 : Nat) : Int)) (coinsL 12 (2 + ((1 : Nat) : Int)) (2 + ((1 : Nat) : Int) + 1 + (b : Int))) = true := by decide +kernel
theorem good2 : ∀ b ∈ List.range 6, goodB (2 + ((2 : Nat) : Int)) (coinsL 12 (2 + ((2 : Nat) : Int)) (2 + ((2 : Nat) : Int) + 1 + (b : Int))) = true := by decide +kernel
theorem good3 : ∀ b ∈ List.range 6, goodB (2 + ((3 : Nat) : Int)) (coinsL 12 (2 + ((3 : Nat) : Int)) (2 + ((3 : Nat) : Int) + 1 + (b : Int))) = true := by decide +kernel
theorem good4 : ∀ b ∈ List.range 6, goodB (2 + ((4 : Nat) : Int)) (coinsL 12 (2 + ((4 : Nat) : Int)) (2 + ((4 : Nat) : Int) + 1 + (b : Int))) = true := by decide +kernel
theorem good5 : ∀ b ∈ List.range 6, goodB (2 + ((5 : Nat) : Int)) (coinsL 12 (2 + ((5 : Nat) : Int)) (2 + ((5 : Nat) : Int) + 1 + (b : Int))) = true := by decide +kernel
theorem good_all : ∀ a ∈ List.range 6, ∀ b ∈ List.range 6, goodB (2 + (a : Int)) (coinsL 12 (2 + (a : Int)) (2 + (a : Int) + 1 + (b : Int))) = true := by
  intro a ha
  have h := List.mem_range.mp ha
  rcases a with _ | _ | _ | _ | _ | _ | a
  · exact good0
  · exact good1
  · exact good2
  · exact good3
  · exact good4
  · exact good5
  · omega
theorem coins_bnd : ∀ a ∈ List.range 6, ∀ b ∈ List.range 6, 2 + (a : Int) < coinsL 12 (2 + (a : Int)) (2 + (a : Int) + 1 + (b : Int)) ∧ coinsL 12 (2 + (a : Int)) (2 + (a : Int) + 1 + (b : Int)) ≤ 13 := by decide +kernel
end Mine
namespace Mine
open PySem PySem.W PySem.Calls PyProof.Rows
local macro_rules | `(tactic| k_all) => `(tactic| assumption)
theorem item_blank {x : Str} (h : x.cps[0]? = some 32) : (Txt.item x 0 == Str.ofString " ") = true := by
  have e : Txt.item x 0 = Str.ofString " " := by
    have h1 : 0 < x.length := (Array.getElem?_eq_some_iff.mp h).1
    have e0 : seqIndex? 0 x.length = some 0 := by
      simp [seqIndex?]
      omega
    have e1 : Txt.charAt x 0 = some 32 := by
      unfold Txt.charAt
      rw [e0]
      exact h
    unfold Txt.item
    rw [e1]
    decide +kernel
  rw [e]; exact beq_self_eq_true _

/-- a fact that the walk's own arithmetic is not to see. -/
def Hid (p : Prop) : Prop := p

section
variable {w : World} {A : Around} {dp un : Nat} {fr : Option (List Env)} {gd : Option (List Code)} {s : Shared} {h₀ : Heap} {L : Addr} {m : Str → Option Value} {p : Program} {loose : List Str} {mg mb : Str → Option Value} {a dx : Addr} {its : List Value} {n dn : Nat} {es : List DictEntry} {rest : List (Addr × Obj)} {E : Value → Shared → Prop}

/-- a chunk that does not fit: it goes to a line of its own. -/
theorem chunk_over_K {ln dl lines : Addr} {mx cl hd : Int} {sl sw : Str} {tl tw k th : Tok} {ts : List Addr} {pl ps : Array Value} {Q : Value → Shared → Prop} (hun : un + 20 < 9000)
    (F : Fr h₀ L s.heap m) (N : News h₀ L s.heap ((140, tabO pl) :: (147, tabO ps) :: (lines, listOf #[] 0) :: (a, accObj dx (ts.map .ref) n) :: (dx, dictOf (accD w k (.int hd th)) 1) :: rest))
    (hr : ∀ p ∈ rest, p.1 ≠ 140 ∧ p.1 ≠ 147 ∧ p.1 ≠ lines ∧ p.1 ≠ a ∧ p.1 ≠ dx) (o1 : @LT.lt Nat _ 147 lines) (o2 : @LT.lt Nat _ lines dx) (o3 : @LT.lt Nat _ dx a) (G : Gd w p loose mg mb h₀) (hD : FmtD es mx cl " " lines a)
    (hi : (ln, instObj 94 dl) ∈ rest) (hdl : (dl, dictOf es dn) ∈ rest) (hts : ∀ t ∈ ts, (t, tupO [.str sl tl, .str sw tw]) ∈ rest) (htr : TriplesOk pl.toList) (htr2 : TriplesOk ps.toList)
    (hdp : dp < 860) (hn1 : 1 ≤ ts.length) (hn : ts.length ≤ 100) (hlw : sl.length + sw.length ≤ 100) (hw : ts.length * (sl.length + sw.length) ≤ 900) (h0 : 0 ≤ hd) (hm : hd + ts.length * (sl.length + sw.length) = mx) (hmx : mx < 100000) (hsl : sl.cps[0]? = some 32) 
    (h : ∀ t h' tk' n' n2 gs' pl' ps' t1 t2, TabMore pl pl' → TabMore ps ps' → Fr h₀ L h' m → News h₀ L h' ((140, tabO pl') :: (147, tabO ps') :: (lines, listOf #[.str (lineS ts.length (sl ++ sw)) t1] n2) :: (a, accObj dx [.ref t] n') :: (dx, dictOf (accD w k (.int 0 t2)) 1) :: (t, tupO [.str sl tl, .str sw tw]) :: rest) → (∀ q ∈ (a, accObj dx (ts.map .ref) n) :: rest, q.1 < t) → GX s.gens gs' → Q .none { s with heap := h', toks := tk', gens := gs' }) :
    wpAny (model pw w) (AR dp un fr gd) (call (.ref 91) [.ref ln, .str sl tl, .str sw tw]) Q E s := by
  have HW : Hid (ts.length * (sl.length + sw.length) ≤ 900) := hw
  have HM : Hid (hd + ts.length * (sl.length + sw.length) = mx) := hm
  clear hw hm
  refine wpAny_call ?_
  refine' code_K (binds := [("self", .ref ln), ("fws", .str sl tl), ("string", .str sw tw)]) F N G.X G.T ?k6 ?k7 ?k8 ?k9 ?kB ?_ ?c1 ?c2 ?c3 ?c4
  case k6 => k_is
  case k7 => k_is
  case k8 => exact Nat.lt_trans hdp (by decide)
  case k9 => exact BindsTo.of_eq rfl
  case kB => exact locs rfl
  case c1 => exact rfl
  case c2 => exact rfl
  case c3 => exact rfl
  case c4 => decide
  intro g L' h₁ st FG F N X T hlt
  dsimp only
  k_fold
  have G' := G.keeps st
  k_with_none
  have ch : Chain [140, 147, lines, dx, a] := ⟨by decide, o1, o2, o3, trivial⟩
  obtain ⟨tm, em⟩ := hD.ml
  obtain ⟨tsp, esp⟩ := hD.sp
  k_with "getAttr ref" => (
    rename Fr g _ _ _ => F
    rename News g _ _ _ => N
    first
    | (with_reducible show wpAny _ _ (getAttr _ (Str.ofString "_current_line") _) _ _ _); refine fmt_get (name := "_current_line") F X (N (ln, instObj 94 dl) (by repeat (first | exact hi | apply List.mem_cons_of_mem))).1 (N (dl, dictOf es dn) (by repeat (first | exact hdl | apply List.mem_cons_of_mem))).1 (by k_is) (by k_is) hD.cu rfl ?_
    | (with_reducible show wpAny _ _ (getAttr _ (Str.ofString "_maxlen") _) _ _ _); refine fmt_get (name := "_maxlen") F X (N (ln, instObj 94 dl) (by repeat (first | exact hi | apply List.mem_cons_of_mem))).1 (N (dl, dictOf es dn) (by repeat (first | exact hdl | apply List.mem_cons_of_mem))).1 (by k_is) (by k_is) em rfl ?_
    | (with_reducible show wpAny _ _ (getAttr _ (Str.ofString "_splitchars") _) _ _ _); refine fmt_get (name := "_splitchars") F X (N (ln, instObj 94 dl) (by repeat (first | exact hi | apply List.mem_cons_of_mem))).1 (N (dl, dictOf es dn) (by repeat (first | exact hdl | apply List.mem_cons_of_mem))).1 (by k_is) (by k_is) esp rfl ?_
    | (with_reducible show wpAny _ _ (getAttr _ (Str.ofString "_lines") _) _ _ _); refine fmt_get (name := "_lines") F X (N (ln, instObj 94 dl) (by repeat (first | exact hi | apply List.mem_cons_of_mem))).1 (N (dl, dictOf es dn) (by repeat (first | exact hdl | apply List.mem_cons_of_mem))).1 (by k_is) (by k_is) hD.ln rfl ?_)
  k_with "fn" => (
    rename Fr g _ _ _ => F
    rename News g _ _ _ => N)
  k_with "steps" => repeat' (fail_if_success (with_reducible show wpAny _ _ (exec (PySem.Stmt.For _ _ _ _ _) _) _ _ _)); (first | (with_reducible show wpAny _ _ (getMethod _ (Str.ofString "append") _) _ _ _) | (fail_if_success (with_reducible show wpAny _ _ (getMethod (Value.ref _) _ _) _ _ _))); (fail_if_success (with_reducible show wpAny _ _ (call (Value.ref _) _) _ _ _)); (first | (k_unfold; (try dsimp only)) | (k_end; kc_close) | walk1 | (dsimp only; walk1) | (leave1; (try dsimp only)) | fail "no step")
  k_extra "steps"
  refine acc_method (X.keeps F.keep) (N _ (.tail _ (.tail _ (.tail _ (.head _))))).1 (N _ (.tail _ (.tail _ (.tail _ (.tail _ (.head _)))))).1 (by k_is) (looks_typeIn (X.keeps F.keep) (by k_is)) rfl rfl ?_
  dsimp only
  k_extra "steps"
  have N1 : News g L' h₁ ((a, accObj dx (ts.map .ref) n) :: (dx, dictOf (accD w k (.int hd th)) 1) :: (140, tabO pl) :: (147, tabO ps) :: (lines, listOf #[] 0) :: rest) := News.sub N fun q hq => by
    refine (?_ : ∀ q ∈ (_ : List (Addr × Obj)), q ∈ (_ : List (Addr × Obj))) q hq
    repeat' (first | (with_reducible exact fun _ h => h) | refine sub_cons ?_ ?_ | exact List.Mem.head _ | apply List.Mem.tail | exact sub_nil | (with_reducible exact fun _ h => List.mem_append_left _ h) | refine sub_tail ?_)
  have hne1 : ∀ p ∈ (dx, dictOf (accD w k (.int hd th)) 1) :: (140, tabO pl) :: (147, tabO ps) :: (lines, listOf #[] 0) :: rest, p.1 ≠ a := fun q hq => by
    revert q hq
    refine all_cons ?_ (all_cons ?_ (all_cons ?_ (all_cons ?_ (fun q hq => ?_))))
    · exact Nat.ne_of_lt o3
    · exact Nat.ne_of_lt (ch.lt 0 4 rfl rfl (by decide))
    · exact Nat.ne_of_lt (ch.lt 1 4 rfl rfl (by decide))
    · exact Nat.ne_of_lt (ch.lt 2 4 rfl rfl (by decide))
    · exact (hr q hq).2.2.2.1
  refine acc_push_K F N1 hne1 G' (.head _) rfl (by simp; omega) (Nat.lt_of_lt_of_le (Nat.succ_lt_succ hdp) (by decide)) fun t h' tk' n' F N lt => ?_
  clear N1
  have e1 : ts.map Value.ref ++ [.ref t] = (ts ++ [t]).map .ref := by simp
  have ta : @LT.lt Nat _ a t := lt _ (.head _)
  have ch : Chain [140, 147, lines, dx, a, t] := ⟨by decide, o1, o2, o3, ta, trivial⟩
  have hlen : (ts ++ [t]).length = ts.length + 1 := by simp
  rw [e1] at N
  k_extra "steps"
  have N1 : News g L' h' ((140, tabO pl) :: (a, accObj dx ((ts ++ [t]).map .ref) n') :: (dx, dictOf (accD w k (.int hd th)) 1) :: (t, tupO [.str sl tl, .str sw tw]) :: (147, tabO ps) :: (lines, listOf #[] 0) :: rest) := News.sub N fun q hq => by
    refine (?_ : ∀ q ∈ (_ : List (Addr × Obj)), q ∈ (_ : List (Addr × Obj))) q hq
    repeat' (first | (with_reducible exact fun _ h => h) | refine sub_cons ?_ ?_ | exact List.Mem.head _ | apply List.Mem.tail | exact sub_nil | (with_reducible exact fun _ h => List.mem_append_left _ h) | refine sub_tail ?_)
  have hne2 : ∀ p ∈ (a, accObj dx ((ts ++ [t]).map .ref) n') :: (dx, dictOf (accD w k (.int hd th)) 1) :: (t, tupO [.str sl tl, .str sw tw]) :: (147, tabO ps) :: (lines, listOf #[] 0) :: rest, p.1 ≠ 140 := fun q hq => by
    revert q hq
    refine all_cons ?_ (all_cons ?_ (all_cons ?_ (all_cons ?_ (all_cons ?_ (fun q hq => ?_)))))
    · exact Nat.ne_of_gt (ch.lt 0 4 rfl rfl (by decide))
    · exact Nat.ne_of_gt (ch.lt 0 3 rfl rfl (by decide))
    · exact Nat.ne_of_gt (ch.lt 0 5 rfl rfl (by decide))
    · exact (show (147 : Nat) ≠ 140 by decide)
    · exact Nat.ne_of_gt (ch.lt 0 2 rfl rfl (by decide))
    · exact (hr q hq).1
  have hts2 : ∀ t' ∈ ts ++ [t], (t', tupO [.str sl tl, .str sw tw]) ∈ (a, accObj dx ((ts ++ [t]).map .ref) n') :: (dx, dictOf (accD w k (.int hd th)) 1) :: (t, tupO [.str sl tl, .str sw tw]) :: (147, tabO ps) :: (lines, listOf #[] 0) :: rest := fun t' ht => by
    rcases List.mem_append.mp ht with ht | ht
    · exact .tail _ (.tail _ (.tail _ (.tail _ (.tail _ (hts _ ht)))))
    · rw [List.mem_singleton.mp ht]; exact .tail _ (.tail _ (.head _))
  have hs1 : 1 ≤ sl.length := by
    have := (Array.getElem?_eq_some_iff.mp hsl).1
    exact this
  obtain ⟨b1, b2, b3⟩ : 0 ≤ hd + (ts ++ [t]).length * (sl.length + sw.length) ∧ hd + (ts ++ [t]).length * (sl.length + sw.length) < 2 ^ 63 ∧ mx < hd + (ts ++ [t]).length * (sl.length + sw.length) := by
    have hm : hd + ts.length * (sl.length + sw.length) = mx := HM
    have hw : ts.length * (sl.length + sw.length) ≤ 900 := HW
    have hmi : ((ts.length * (sl.length + sw.length) : Nat) : Int) = ts.length * (sl.length + sw.length) := by simp
    have hmj : (((ts ++ [t]).length * (sl.length + sw.length) : Nat) : Int) = (ts ++ [t]).length * (sl.length + sw.length) := by simp
    have hmk : (ts ++ [t]).length * (sl.length + sw.length) = ts.length * (sl.length + sw.length) + (sl.length + sw.length) := by rw [hlen, Nat.succ_mul]
    rw [← hmj, hmk, ← hm, ← hmi]
    omega
  refine acc_blen_K F N1 hne2 G' (.head _) (.tail _ (.head _)) rfl hts2 htr (Nat.lt_of_lt_of_le (Nat.succ_lt_succ hdp) (by decide)) (by omega) (by omega) b1 b2 fun t' h' tk' gs' pl' tm1 F N gx => ?_
  clear N1
  generalize hd + ((ts ++ [t]).length : Int) * (sl.length + sw.length) = big at b1 b2 b3 ⊢
  k_extra "steps"
  refine wpAny_For ?_
  k_extra "steps"
  k_extra "fn"
  refine sit_new F N fun itS hS St FS NS WS hSt => ?_
  clear F N
  refine codeAny_forLoop (fun n s' => n = 0 ∧ s' = _) ?_ 0 ⟨rfl, rfl⟩
  rintro _ s' ⟨rfl, rfl⟩
  refine sit_item rfl FS NS WS (by decide) hSt fun v h2 tk2 hv hst2 F N => ?_
  clear FS NS
  obtain ⟨c, tc, hc, rfl⟩ := hv
  obtain rfl : c = 32 := by
    have : ((" " : Str).cps[0]? : Option Nat) = some 32 := by decide +kernel
    rw [this] at hc; exact (Option.some.inj hc).symm
  dsimp only
  k_extra "steps"
  refine wpAny_For ?_
  k_extra "steps"
  k_extra "fn"
  refine acc_method (X.keeps F.keep) (N _ (.tail _ (.head _))).1 (N _ (.tail _ (.tail _ (.head _)))).1 (by k_is) (looks_typeIn (X.keeps F.keep) (by k_is)) rfl rfl ?_
  dsimp only
  k_extra "steps"
  k_extra "fn"
  refine acc_part_K F N G' (.tail _ (.head _)) (.tail _ (.tail _ (.head _))) (Nat.lt_of_lt_of_le (Nat.succ_lt_succ hdp) (by decide)) fun t2 h3 tk3 F N => ?_
  have hk1 : (((ts ++ [t]).map Value.ref).length : Int) = (ts.length : Int) + 1 := by simp
  rw [hk1]
  k_extra "steps"
  k_extra "fn"
  rename IsRange _ _ _ _ _ _ _ _ => rg
  refine rit_new F N rg ?hsm fun it h4 F N hit => ?_
  case hsm => exact small_down (by omega) (by omega) (by omega) (by omega)
  clear rg
  have hitn : ∀ q ∈ (140, tabO pl') :: (a, accObj dx ((ts ++ [t]).map .ref) n') :: (dx, dictOf (accD w k (.int hd th)) 1) :: (t, tupO [.str sl tl, .str sw tw]) :: (147, tabO ps) :: (lines, listOf #[] 0) :: rest, q.1 ≠ it := fun q hq => Nat.ne_of_lt (hit q hq)
  have hsz : Builtin.Range.rangeSize ((ts.length : Int) + 1 - 1) 0 (-1) = (ts.length : Int) := by rw [rangeSize_downNat]; omega
  have hx : (ts.length : Int) + 1 - 1 = (ts.length : Int) := by omega
  rw [hsz, hx] at N
  refine codeAny_forLoop (fun n s' => n = 0 ∧ s' = _) ?_ 0 ⟨rfl, rfl⟩
  rintro _ s' ⟨rfl, rfl⟩
  refine rit_item F N hitn (by omega) fun h5 F N => ?_
  dsimp only
  k_extra "steps"
  k_extra "fn"
  refine acc_subInt (v := .ref t) (X.keeps F.keep) (N _ (.tail _ (.tail _ (.head _)))).1 (by omega) (by omega) (by simp) rfl ?_
  have hblank : (Txt.item sl 0 == Str.ofString " ") = true := item_blank hsl
  have Hr : Hid (∀ p ∈ rest, p.1 ≠ 140 ∧ p.1 ≠ 147 ∧ p.1 ≠ lines ∧ p.1 ≠ a ∧ p.1 ≠ dx) := hr
  have Hts : Hid (∀ t ∈ ts, (t, tupO [.str sl tl, .str sw tw]) ∈ rest) := hts
  have Hlt : Hid (∀ q ∈ (a, accObj dx (ts.map .ref) n) :: rest, q.1 < t) := fun q hq => lt q (by
    rcases List.mem_cons.mp hq with rfl | hq
    · exact .head _
    · exact .tail _ (.tail _ (.tail _ (.tail _ (.tail _ hq)))))
  clear hr hts hne1 hne2 hts2 hitn lt hit
  k_extra "steps"
  rotate_left
  · exfalso; omega
  have hr : ∀ p ∈ rest, p.1 ≠ 140 ∧ p.1 ≠ 147 ∧ p.1 ≠ lines ∧ p.1 ≠ a ∧ p.1 ≠ dx := Hr
  have hts : ∀ t ∈ ts, (t, tupO [.str sl tl, .str sw tw]) ∈ rest := Hts
  k_extra "fn"
  refine acc_method (X.keeps F.keep) (N _ (.tail _ (.tail _ (.head _)))).1 (N _ (.tail _ (.tail _ (.tail _ (.head _))))).1 (by k_is) (looks_typeIn (X.keeps F.keep) (by k_is)) rfl rfl ?_
  dsimp only
  k_extra "steps"
  k_extra "fn"
  have N2 : News g L' _ ((a, accObj dx ((ts ++ [t]).map .ref) n') :: (dx, dictOf (accD w k (.int hd th)) 1) :: (140, tabO pl') :: (147, tabO ps) :: (lines, listOf #[] 0) :: (t, tupO [.str sl tl, .str sw tw]) :: rest) := News.sub N fun q hq => by
    refine (?_ : ∀ q ∈ (_ : List (Addr × Obj)), q ∈ (_ : List (Addr × Obj))) q hq
    repeat' (first | (with_reducible exact fun _ h => h) | refine sub_cons ?_ ?_ | exact List.Mem.head _ | apply List.Mem.tail | exact sub_nil | (with_reducible exact fun _ h => List.mem_append_left _ h) | refine sub_tail ?_)
  have hne3 : ∀ p ∈ (dx, dictOf (accD w k (.int hd th)) 1) :: (140, tabO pl') :: (147, tabO ps) :: (lines, listOf #[] 0) :: (t, tupO [.str sl tl, .str sw tw]) :: rest, p.1 ≠ a := fun q hq => by
    revert q hq
    refine all_cons ?_ (all_cons ?_ (all_cons ?_ (all_cons ?_ (all_cons ?_ (fun q hq => ?_)))))
    · exact Nat.ne_of_lt o3
    · exact Nat.ne_of_lt (ch.lt 0 4 rfl rfl (by decide))
    · exact Nat.ne_of_lt (ch.lt 1 4 rfl rfl (by decide))
    · exact Nat.ne_of_lt (ch.lt 2 4 rfl rfl (by decide))
    · exact Nat.ne_of_gt ta
    · exact (hr q hq).2.2.2.1
  refine acc_popfrom_K (i := ts.length) F N2 hne3 G' (by simp) (by simp; omega) (Nat.lt_of_lt_of_le (Nat.succ_lt_succ hdp) (by decide)) fun l h6 tk6 n6 F N hl => ?_
  clear N2
  have et : ((ts ++ [t]).map Value.ref).take ts.length = ts.map .ref := by simp
  have ed : ((ts ++ [t]).map Value.ref).drop ts.length = [.ref t] := by simp
  rw [et, ed] at N
  k_extra "steps"
  k_extra "fn"
  have N3 : News g L' _ ((147, tabO ps) :: (a, accObj dx (ts.map .ref) n6) :: (l, listOf #[.ref t] 0) :: (dx, dictOf (accD w k (.int hd th)) 1) :: (140, tabO pl') :: (lines, listOf #[] 0) :: (t, tupO [.str sl tl, .str sw tw]) :: rest) := News.sub N fun q hq => by
    refine (?_ : ∀ q ∈ (_ : List (Addr × Obj)), q ∈ (_ : List (Addr × Obj))) q hq
    repeat' (first | (with_reducible exact fun _ h => h) | refine sub_cons ?_ ?_ | exact List.Mem.head _ | apply List.Mem.tail | exact sub_nil | (with_reducible exact fun _ h => List.mem_append_left _ h) | refine sub_tail ?_)
  have hll : ∀ q ∈ (dx, dictOf (accD w k (.int hd th)) 1) :: (140, tabO pl') :: (147, tabO ps) :: (lines, listOf #[] 0) :: (t, tupO [.str sl tl, .str sw tw]) :: rest, q.1 < l := fun q hq => hl q (.tail _ hq)
  have al : @LT.lt Nat _ a l := hl _ (.head _)
  have chl : Chain [140, 147, lines, dx, a, l] := ⟨by decide, o1, o2, o3, al, trivial⟩
  have lnl : @LT.lt Nat _ lines l := hll (lines, listOf #[] 0) (.tail _ (.tail _ (.tail _ (.head _))))
  have hne4 : ∀ p ∈ (a, accObj dx (ts.map .ref) n6) :: (l, listOf #[.ref t] 0) :: (dx, dictOf (accD w k (.int hd th)) 1) :: (140, tabO pl') :: (lines, listOf #[] 0) :: (t, tupO [.str sl tl, .str sw tw]) :: rest, p.1 ≠ 147 := fun q hq => by
    revert q hq
    refine all_cons ?_ (all_cons ?_ (all_cons ?_ (all_cons ?_ (all_cons ?_ (all_cons ?_ (fun q hq => ?_))))))
    · exact Nat.ne_of_gt (ch.lt 1 4 rfl rfl (by decide))
    · exact Nat.ne_of_gt (chl.lt 1 5 rfl rfl (by decide))
    · exact Nat.ne_of_gt (ch.lt 1 3 rfl rfl (by decide))
    · exact (show (140 : Nat) ≠ 147 by decide)
    · exact Nat.ne_of_gt o1
    · exact Nat.ne_of_gt (ch.lt 1 5 rfl rfl (by decide))
    · exact (hr q hq).2.1
  refine acc_strcall_K (show un + 3 + 2 < 9900 by omega) F N3 hne4 G' (.head _) (.tail _ (.tail _ (.head _))) (fun t' ht => .tail _ (.tail _ (.tail _ (.tail _ (.tail _ (.tail _ (hts _ ht))))))) htr2 (Nat.lt_of_lt_of_le (Nat.succ_lt_succ hdp) (by decide)) (show ts.length * (sl.length + sw.length) ≤ 1000 from Nat.le_trans HW (by decide)) (by omega) (by omega) fun t7 h7 tk7 gs7 ps7 tm7 F N gx7 => ?_
  clear N3
  k_extra "steps"
  k_extra "fn"
  have N4 : News g L' _ ((lines, listOf #[] 0) :: (147, tabO ps7) :: (a, accObj dx (ts.map .ref) n6) :: (l, listOf #[.ref t] 0) :: (dx, dictOf (accD w k (.int hd th)) 1) :: (140, tabO pl') :: (t, tupO [.str sl tl, .str sw tw]) :: rest) := News.sub N fun q hq => by
    refine (?_ : ∀ q ∈ (_ : List (Addr × Obj)), q ∈ (_ : List (Addr × Obj))) q hq
    repeat' (first | (with_reducible exact fun _ h => h) | refine sub_cons ?_ ?_ | exact List.Mem.head _ | apply List.Mem.tail | exact sub_nil | (with_reducible exact fun _ h => List.mem_append_left _ h) | refine sub_tail ?_)
  have hne5 : ∀ p ∈ (147, tabO ps7) :: (a, accObj dx (ts.map .ref) n6) :: (l, listOf #[.ref t] 0) :: (dx, dictOf (accD w k (.int hd th)) 1) :: (140, tabO pl') :: (t, tupO [.str sl tl, .str sw tw]) :: rest, p.1 ≠ lines := fun q hq => by
    revert q hq
    refine all_cons ?_ (all_cons ?_ (all_cons ?_ (all_cons ?_ (all_cons ?_ (all_cons ?_ (fun q hq => ?_))))))
    · exact Nat.ne_of_lt o1
    · exact Nat.ne_of_gt (ch.lt 2 4 rfl rfl (by decide))
    · exact Nat.ne_of_gt lnl
    · exact Nat.ne_of_gt o2
    · exact Nat.ne_of_lt (ch.lt 0 2 rfl rfl (by decide))
    · exact Nat.ne_of_gt (ch.lt 2 5 rfl rfl (by decide))
    · exact (hr q hq).2.2.1
  refine' append_K F N4 (Upd.head hne5) ?_ ?z
  case z => show 0 ≤ sizeLine; decide
  intro h8 F N
  clear N4
  k_extra "steps"
  k_extra "fn"
  refine acc_method (X.keeps F.keep) (N _ (.tail _ (.tail _ (.head _)))).1 (N _ (.tail _ (.tail _ (.tail _ (.tail _ (.head _)))))).1 (by k_is) (looks_typeIn (X.keeps F.keep) (by k_is)) rfl rfl ?_
  dsimp only
  k_extra "steps"
  k_extra "fn"
  have N5 : News g L' _ ((a, accObj dx (ts.map .ref) n6) :: (dx, dictOf (accD w k (.int hd th)) 1) :: (lines, listOf #[.str (lineS ts.length (sl ++ sw)) t7] 1) :: (147, tabO ps7) :: (l, listOf #[.ref t] 0) :: (140, tabO pl') :: (t, tupO [.str sl tl, .str sw tw]) :: rest) := News.sub N fun q hq => by
    refine (?_ : ∀ q ∈ (_ : List (Addr × Obj)), q ∈ (_ : List (Addr × Obj))) q hq
    repeat' (first | (with_reducible exact fun _ h => h) | refine sub_cons ?_ ?_ | exact List.Mem.head _ | apply List.Mem.tail | exact sub_nil | (with_reducible exact fun _ h => List.mem_append_left _ h) | refine sub_tail ?_)
  have hne6 : ∀ p ∈ (lines, listOf #[.str (lineS ts.length (sl ++ sw)) t7] 1) :: (147, tabO ps7) :: (l, listOf #[.ref t] 0) :: (140, tabO pl') :: (t, tupO [.str sl tl, .str sw tw]) :: rest, p.1 ≠ a ∧ p.1 ≠ dx := fun q hq => by
    revert q hq
    refine all_cons ?_ (all_cons ?_ (all_cons ?_ (all_cons ?_ (all_cons ?_ (fun q hq => ?_)))))
    · exact ⟨Nat.ne_of_lt (ch.lt 2 4 rfl rfl (by decide)), Nat.ne_of_lt o2⟩
    · exact ⟨Nat.ne_of_lt (ch.lt 1 4 rfl rfl (by decide)), Nat.ne_of_lt (ch.lt 1 3 rfl rfl (by decide))⟩
    · exact ⟨Nat.ne_of_gt al, Nat.ne_of_gt (chl.lt 3 5 rfl rfl (by decide))⟩
    · exact ⟨Nat.ne_of_lt (ch.lt 0 4 rfl rfl (by decide)), Nat.ne_of_lt (ch.lt 0 3 rfl rfl (by decide))⟩
    · exact ⟨Nat.ne_of_gt ta, Nat.ne_of_gt (ch.lt 3 5 rfl rfl (by decide))⟩
    · exact (hr q hq).2.2.2
  refine acc_reset_K (new := [.ref t]) F N5 (ne_cons (Nat.ne_of_lt o3) fun q hq => (hne6 q hq).1) (fun q hq => (hne6 q hq).2) G' (.tail _ (.tail _ (.head _))) (by simp; omega) (by simp) (Nat.lt_of_lt_of_le (Nat.succ_lt_succ hdp) (by decide)) fun h9 tk9 n9 t9 F N => ?_
  clear N5
  k_extra "steps"
  k_extra "fn"
  exact ⟨L', _, _, F, N, fun F' N' => h t _ _ n9 1 _ pl' ps7 t7 t9 tm1 tm7 F' (News.sub N' fun q hq => by
    refine (?_ : ∀ q ∈ (_ : List (Addr × Obj)), q ∈ (_ : List (Addr × Obj))) q hq
    repeat' (first | (with_reducible exact fun _ h => h) | refine sub_cons ?_ ?_ | exact List.Mem.head _ | apply List.Mem.tail | exact sub_nil | (with_reducible exact fun _ h => List.mem_append_left _ h) | refine sub_tail ?_)) Hlt (gx.trans gx7)⟩
end
end Mine
namespace Mine
open PySem PySem.W PySem.Calls PyProof.Rows Builtin Builtin.ObjectAttr
local macro_rules | `(tactic| k_all) => `(tactic| assumption)
theorem findObj_meth {K : Frag} {C : Addr} {od : Obj} {name : Str} {a g : Value} (hh : hasDictIn K C = true) (ha : findIn K (.ref C) name = some (some a)) (hg : specialIn K a "__get__" = some (some g)) (ht : takesIn K a = some false) (hc : copiedNames.contains name = false) (hl : lookIn name od = some none) :
    findObj K C (some od) name = some (.bind g a) := by
  obtain ⟨cd, hc', hd⟩ := any_some hh
  unfold findObj
  have ho : W.ownOf cd (some od) name = some none := by unfold W.ownOf; rw [if_pos hd]; exact hl
  rw [hc', Option.bind_some, ha, Option.bind_some]
  simp only [hg, Option.bind_some, ht, ho, hc, Bool.false_and, Bool.false_eq_true, if_false]

theorem shaped2 {x y : Str} (h1 : PyData.strOk x = true) (h2 : PyData.strOk y = true) : SeqAt.shaped (.tuple [.str x, .str y]) = true := by
  simp [SeqAt.shaped, PyData.canLay0, PyData.canLayAll0, PyData.depth, PyData.depthAll, h1, h2]

section
variable {w : World} {A : Around} {dp un : Nat} {fr : Option (List Env)} {gd : Option (List Code)} {s : Shared} {h₀ : Heap} {L : Addr} {m : Str → Option Value} {p : Program} {loose : List Str} {mg mb : Str → Option Value} {a dx : Addr} {its : List Value} {n dn : Nat} {es : List DictEntry} {rest : List (Addr × Obj)} {E : Value → Shared → Prop}

/-- the end of a line of one word. -/
theorem newline_K {ln dl lines t : Addr} {mx cl : Int} {sl sw l0 : Str} {tl tw k th tk0 : Tok} {n2 : Nat} {pl ps : Array Value} {Q : Value → Shared → Prop} (hun : un + 20 < 9000)
    (F : Fr h₀ L s.heap m) (N : News h₀ L s.heap ((140, tabO pl) :: (147, tabO ps) :: (lines, listOf #[.str l0 tk0] n2) :: (a, accObj dx [.ref t] n) :: (dx, dictOf (accD w k (.int 0 th)) 1) :: rest))
    (hr : ∀ p ∈ rest, p.1 ≠ 140 ∧ p.1 ≠ 147 ∧ p.1 ≠ lines ∧ p.1 ≠ a ∧ p.1 ≠ dx) (o1 : @LT.lt Nat _ 147 lines) (o2 : @LT.lt Nat _ lines dx) (o3 : @LT.lt Nat _ dx a) (G : Gd w p loose mg mb h₀) (hD : FmtD es mx cl " " lines a)
    (hi : (ln, instObj 94 dl) ∈ rest) (hdl : (dl, dictOf es dn) ∈ rest) (hts : (t, tupO [.str sl tl, .str sw tw]) ∈ rest) (htr : TriplesOk pl.toList) (htr2 : TriplesOk ps.toList)
    (hdp : dp < 850) (hlw : sl.length + sw.length ≤ 100) (hsw : 1 ≤ sw.length) (hok1 : PyData.strOk sl = true) (hok2 : PyData.strOk sw = true) (hsp : Txt.isspace (lineS 1 (sl ++ sw)) = false)
    (h : ∀ t' h' tk' n' n3 gs' pl' ps' t1 t2, TabMore pl pl' → TabMore ps ps' → Fr h₀ L h' m → News h₀ L h' ((140, tabO pl') :: (147, tabO ps') :: (lines, listOf #[.str l0 tk0, .str (lineS 1 (sl ++ sw)) t1] n3) :: (a, accObj dx [] n') :: (dx, dictOf (accD w k (.int 0 t2)) 1) :: (t', tupO [.str sl tl, .str sw tw]) :: rest) → GX s.gens gs' → Q .none { s with heap := h', toks := tk', gens := gs' }) :
    wpAny (model pw w) (AR dp un fr gd) (call (.ref 56) [.ref ln]) Q E s := by
  refine wpAny_call ?_
  refine' code_K (binds := [("self", .ref ln)]) F N G.X G.T ?k6 ?k7 ?k8 ?k9 ?kB ?_ ?c1 ?c2 ?c3 ?c4
  case k6 => k_is
  case k7 => k_is
  case k8 => exact Nat.lt_trans hdp (by decide)
  case k9 => exact BindsTo.of_eq rfl
  case kB => exact locs rfl
  case c1 => exact rfl
  case c2 => exact rfl
  case c3 => exact rfl
  case c4 => decide
  intro g L' h₁ st FG F N X T hlt
  dsimp only
  k_fold
  have G' := G.keeps st
  k_with_none
  have ch : Chain [140, 147, lines, dx, a] := ⟨by decide, o1, o2, o3, trivial⟩
  obtain ⟨tm, em⟩ := hD.ml
  obtain ⟨tsp, esp⟩ := hD.sp
  k_with "getAttr ref" => (
    rename Fr g _ _ _ => F
    rename News g _ _ _ => N
    first
    | (with_reducible show wpAny _ _ (getAttr _ (Str.ofString "_current_line") _) _ _ _); refine fmt_get (name := "_current_line") F X (N (ln, instObj 94 dl) (by repeat (first | exact hi | apply List.mem_cons_of_mem))).1 (N (dl, dictOf es dn) (by repeat (first | exact hdl | apply List.mem_cons_of_mem))).1 (by k_is) (by k_is) hD.cu rfl ?_
    | (with_reducible show wpAny _ _ (getAttr _ (Str.ofString "_lines") _) _ _ _); refine fmt_get (name := "_lines") F X (N (ln, instObj 94 dl) (by repeat (first | exact hi | apply List.mem_cons_of_mem))).1 (N (dl, dictOf es dn) (by repeat (first | exact hdl | apply List.mem_cons_of_mem))).1 (by k_is) (by k_is) hD.ln rfl ?_)
  k_with "fn" => (
    rename Fr g _ _ _ => F
    rename News g _ _ _ => N)
  have e4 : ([.ref t] : List Value) = [] ++ [.ref t] := rfl
  have N1 : News g L' h₁ ((a, accObj dx ([] ++ [.ref t]) n) :: (dx, dictOf (accD w k (.int 0 th)) 1) :: (t, tupO [.str sl tl, .str sw tw]) :: (140, tabO pl) :: (147, tabO ps) :: (lines, listOf #[.str l0 tk0] n2) :: rest) := News.sub N fun q hq => by
    simp only [List.mem_cons, List.nil_append] at hq ⊢
    rcases hq with h | h | h | h | h | h | h <;> simp [h, hts]
  have hta := hr _ hts
  have hne1 : ∀ p ∈ (dx, dictOf (accD w k (.int 0 th)) 1) :: (t, tupO [.str sl tl, .str sw tw]) :: (140, tabO pl) :: (147, tabO ps) :: (lines, listOf #[.str l0 tk0] n2) :: rest, p.1 ≠ a := fun q hq => by
    revert q hq
    refine all_cons ?_ (all_cons ?_ (all_cons ?_ (all_cons ?_ (all_cons ?_ (fun q hq => ?_)))))
    · exact Nat.ne_of_lt o3
    · exact hta.2.2.2.1
    · exact Nat.ne_of_lt (ch.lt 0 4 rfl rfl (by decide))
    · exact Nat.ne_of_lt (ch.lt 1 4 rfl rfl (by decide))
    · exact Nat.ne_of_lt (ch.lt 2 4 rfl rfl (by decide))
    · exact (hr q hq).2.2.2.1
  clear N
  k_with "steps" => repeat' (first | (with_reducible show wpAny _ _ (getMethod _ (Str.ofString "append") _) _ _ _) | (fail_if_success (with_reducible show wpAny _ _ (getMethod (Value.ref _) _ _) _ _ _))); (fail_if_success (with_reducible show wpAny _ _ (call (Value.ref _) _) _ _ _)); (first | (k_unfold; (try dsimp only)) | (k_end; kc_close) | walk1 | (dsimp only; walk1) | (leave1; (try dsimp only)) | fail "no step")
  k_extra "steps"
  k_extra "fn"
  refine acc_method (X.keeps F.keep) (N _ (.head _)).1 (N _ (.tail _ (.head _))).1 (by k_is) (looks_typeIn (X.keeps F.keep) (by k_is)) rfl rfl ?_
  dsimp only
  k_extra "steps"
  k_extra "fn"
  refine acc_pop_K F N hne1 G' (.head _) rfl (by simp) (Nat.lt_of_lt_of_le (Nat.succ_lt_succ hdp) (by decide)) fun h2 tk2 n2' F N => ?_
  have hneq : (!PyData.eqv (.tuple [.str sl, .str sw]) (.tuple [.str (Str.ofString " "), .str (Str.ofString "")])) = true := by
    have : (sw == Str.ofString "") = false := by
      rw [beq_eq_false_iff_ne]
      intro q
      rw [q] at hsw
      exact absurd hsw (by decide +kernel)
    simp [PyData.eqv, PyData.eqvAll, this]
  k_extra "steps"
  k_extra "fn"
  refine ne_dataH (da := .tuple [.str sl, .str sw]) (db := .tuple [.str (Str.ofString " "), .str (Str.ofString "")]) (reads_tuple_at (N (t, tupO [.str sl tl, .str sw tw]) (.tail _ (.tail _ (.tail _ (.head _))))).1 rfl rfl (.cons (.str _ _) (.cons (.str _ _) .nil))) (reads_tuple_at (N _ (.head _)).1 rfl rfl (.cons (.str _ _) (.cons (.str _ _) .nil))) ?sh1 ?sh2 ?hun1 ?_
  case hun1 => show un + 3 + 64 < 9900; omega
  case sh1 => exact shaped2 hok1 hok2
  case sh2 => exact shaped2 (by decide +kernel) (by decide +kernel)
  rw [hneq]
  k_extra "steps"
  refine starCall ?_
  k_extra "steps"
  k_extra "fn"
  refine acc_getm (f := 122) (X.keeps F.keep) (N _ (.tail _ (.head _))).1 (N _ (.tail _ (.tail _ (.head _)))).1 ?hff (by k_is) ?_
  case hff => exact findObj_meth (by k_is) (by k_is) (by k_is) (by k_is) (by decide) rfl
  have F1 := F.push (o := methodObj (.ref 122) (.ref a))
  have N1 := News.push F N (methodObj (.ref 122) (.ref a))
  refine callWith_bm (f := 122) (x := .ref a) (by k_is) ?_
  k_extra "steps"
  k_extra "fn"
  have N2 : News g L' _ ((a, accObj dx [] n2') :: (dx, dictOf (accD w k (.int 0 th)) 1) :: (t, tupO [.str sl tl, .str sw tw]) :: (140, tabO pl) :: (147, tabO ps) :: (lines, listOf #[.str l0 tk0] n2) :: rest) := News.sub N fun q hq => by
    refine (?_ : ∀ q ∈ (_ : List (Addr × Obj)), q ∈ (_ : List (Addr × Obj))) q hq
    repeat' (first | (with_reducible exact fun _ h => h) | refine sub_cons ?_ ?_ | exact List.Mem.head _ | apply List.Mem.tail | exact sub_nil | (with_reducible exact fun _ h => List.mem_append_left _ h) | refine sub_tail ?_)
  refine acc_push_C F N2 hne1 G' (.head _) rfl (by simp) (Nat.lt_of_lt_of_le (Nat.succ_lt_succ hdp) (by decide)) fun t2 h3 tk3 n3 F N lt => ?_
  clear N2
  have ta : @LT.lt Nat _ a t2 := lt _ (.head _)
  have ch : Chain [140, 147, lines, dx, a, t2] := ⟨by decide, o1, o2, o3, ta, trivial⟩
  dsimp only
  k_extra "steps"
  k_extra "fn"
  have hne2 : ∀ p ∈ (a, accObj dx ([t2].map .ref) n3) :: (dx, dictOf (accD w k (.int 0 th)) 1) :: (t2, tupO [.str sl tl, .str sw tw]) :: (lines, listOf #[.str l0 tk0] n2) :: rest, p.1 ≠ 140 ∧ p.1 ≠ 147 := fun q hq => by
    revert q hq
    refine all_cons ?_ (all_cons ?_ (all_cons ?_ (all_cons ?_ (fun q hq => ?_))))
    · exact ⟨Nat.ne_of_gt (ch.lt 0 4 rfl rfl (by decide)), Nat.ne_of_gt (ch.lt 1 4 rfl rfl (by decide))⟩
    · exact ⟨Nat.ne_of_gt (ch.lt 0 3 rfl rfl (by decide)), Nat.ne_of_gt (ch.lt 1 3 rfl rfl (by decide))⟩
    · exact ⟨Nat.ne_of_gt (ch.lt 0 5 rfl rfl (by decide)), Nat.ne_of_gt (ch.lt 1 5 rfl rfl (by decide))⟩
    · exact ⟨Nat.ne_of_gt (ch.lt 0 2 rfl rfl (by decide)), Nat.ne_of_gt o1⟩
    · exact ⟨(hr q hq).1, (hr q hq).2.1⟩
  have hts2 : ∀ t' ∈ [t2], (t', tupO [.str sl tl, .str sw tw]) ∈ (a, accObj dx ([t2].map .ref) n3) :: (dx, dictOf (accD w k (.int 0 th)) 1) :: (t2, tupO [.str sl tl, .str sw tw]) :: (lines, listOf #[.str l0 tk0] n2) :: rest := fun t' ht => by
    rw [List.mem_singleton.mp ht]
    exact .tail _ (.tail _ (.head _))
  have N3 : News g L' _ ((140, tabO pl) :: (147, tabO ps) :: (a, accObj dx ([t2].map .ref) n3) :: (dx, dictOf (accD w k (.int 0 th)) 1) :: (t2, tupO [.str sl tl, .str sw tw]) :: (lines, listOf #[.str l0 tk0] n2) :: rest) := News.sub N fun q hq => by
    refine (?_ : ∀ q ∈ (_ : List (Addr × Obj)), q ∈ (_ : List (Addr × Obj))) q hq
    repeat' (first | (with_reducible exact fun _ h => h) | refine sub_cons ?_ ?_ | exact List.Mem.head _ | apply List.Mem.tail | exact sub_nil | (with_reducible exact fun _ h => List.mem_append_left _ h) | refine sub_tail ?_)
  refine acc_blen_K F N3 (ne_cons (show (147 : Nat) ≠ 140 by decide) fun q hq => (hne2 q hq).1) G' (.tail _ (.head _)) (.tail _ (.tail _ (.head _))) rfl (fun t' ht => .tail _ (hts2 t' ht)) htr (Nat.lt_of_lt_of_le (Nat.succ_lt_succ hdp) (by decide)) (by omega) (by omega) (by simp; omega) (by simp; omega) fun t3 h4 tk4 gs4 pl4 tm4 F N gx4 => ?_
  clear N3
  have hz1 : (0 : Int) + ([t2].length : Int) * (sl.length + sw.length) = sl.length + sw.length := by simp
  rw [hz1]
  k_extra "steps"
  k_extra "fn"
  refine acc_method (X.keeps F.keep) (N _ (.tail _ (.tail _ (.head _)))).1 (N _ (.tail _ (.tail _ (.tail _ (.head _))))).1 (by k_is) (looks_typeIn (X.keeps F.keep) (by k_is)) rfl rfl ?_
  dsimp only
  k_extra "steps"
  k_extra "fn"
  refine acc_ws_K (show un + 3 + 10 < 9900 by omega) F N (fun q hq => (hne2 q hq).1) (fun q hq => (hne2 q hq).2) G' (.head _) (.tail _ (.head _)) rfl hts2 tm4.ok htr2 (Nat.lt_of_lt_of_le (Nat.succ_lt_succ hdp) (by decide)) (by simp; omega) (by simp) (by omega) (by simp) (by omega) hsp fun h5 tk5 gs5 pl5 ps5 tm5 tm5' F N gx5 => ?_
  k_extra "steps"
  k_extra "fn"
  have N4 : News g L' _ ((147, tabO ps5) :: (a, accObj dx ([t2].map .ref) n3) :: (dx, dictOf (accD w k (.int 0 th)) 1) :: (t2, tupO [.str sl tl, .str sw tw]) :: (140, tabO pl5) :: (lines, listOf #[.str l0 tk0] n2) :: rest) := News.sub N fun q hq => by
    refine (?_ : ∀ q ∈ (_ : List (Addr × Obj)), q ∈ (_ : List (Addr × Obj))) q hq
    repeat' (first | (with_reducible exact fun _ h => h) | refine sub_cons ?_ ?_ | exact List.Mem.head _ | apply List.Mem.tail | exact sub_nil | (with_reducible exact fun _ h => List.mem_append_left _ h) | refine sub_tail ?_)
  have hne4 : ∀ p ∈ (a, accObj dx ([t2].map .ref) n3) :: (dx, dictOf (accD w k (.int 0 th)) 1) :: (t2, tupO [.str sl tl, .str sw tw]) :: (140, tabO pl5) :: (lines, listOf #[.str l0 tk0] n2) :: rest, p.1 ≠ 147 := fun q hq => by
    revert q hq
    refine all_cons ?_ (all_cons ?_ (all_cons ?_ (all_cons ?_ (all_cons ?_ (fun q hq => ?_)))))
    · exact Nat.ne_of_gt (ch.lt 1 4 rfl rfl (by decide))
    · exact Nat.ne_of_gt (ch.lt 1 3 rfl rfl (by decide))
    · exact Nat.ne_of_gt (ch.lt 1 5 rfl rfl (by decide))
    · exact (show (140 : Nat) ≠ 147 by decide)
    · exact Nat.ne_of_gt o1
    · exact (hr q hq).2.1
  refine acc_strcall_K (ts := [t2]) (show un + 3 + 2 < 9900 by omega) F N4 hne4 G' (.head _) (.tail _ (.head _)) (fun t' ht => by rw [List.mem_singleton.mp ht]; exact .tail _ (.tail _ (.head _))) tm5'.ok (Nat.lt_of_lt_of_le (Nat.succ_lt_succ hdp) (by decide)) (by simp; omega) (by simp) (by omega) fun t7 h7 tk7 gs7 ps7 tm7 F N gx7 => ?_
  clear N4
  k_extra "steps"
  k_extra "fn"
  have N6 : News g L' _ ((lines, listOf #[.str l0 tk0] n2) :: (147, tabO ps7) :: (a, accObj dx ([t2].map .ref) n3) :: (dx, dictOf (accD w k (.int 0 th)) 1) :: (t2, tupO [.str sl tl, .str sw tw]) :: (140, tabO pl5) :: rest) := News.sub N fun q hq => by
    refine (?_ : ∀ q ∈ (_ : List (Addr × Obj)), q ∈ (_ : List (Addr × Obj))) q hq
    repeat' (first | (with_reducible exact fun _ h => h) | refine sub_cons ?_ ?_ | exact List.Mem.head _ | apply List.Mem.tail | exact sub_nil | (with_reducible exact fun _ h => List.mem_append_left _ h) | refine sub_tail ?_)
  have hne5 : ∀ p ∈ (147, tabO ps7) :: (a, accObj dx ([t2].map .ref) n3) :: (dx, dictOf (accD w k (.int 0 th)) 1) :: (t2, tupO [.str sl tl, .str sw tw]) :: (140, tabO pl5) :: rest, p.1 ≠ lines := fun q hq => by
    revert q hq
    refine all_cons ?_ (all_cons ?_ (all_cons ?_ (all_cons ?_ (all_cons ?_ (fun q hq => ?_)))))
    · exact Nat.ne_of_lt o1
    · exact Nat.ne_of_gt (ch.lt 2 4 rfl rfl (by decide))
    · exact Nat.ne_of_gt o2
    · exact Nat.ne_of_gt (ch.lt 2 5 rfl rfl (by decide))
    · exact Nat.ne_of_lt (ch.lt 0 2 rfl rfl (by decide))
    · exact (hr q hq).2.2.1
  refine' append_K F N6 (Upd.head hne5) ?_ ?z
  case z => show 1 ≤ sizeLine; decide
  intro h8 F N
  clear N6
  k_extra "steps"
  k_extra "fn"
  refine acc_method (X.keeps F.keep) (N _ (.tail _ (.tail _ (.head _)))).1 (N _ (.tail _ (.tail _ (.tail _ (.head _))))).1 (by k_is) (looks_typeIn (X.keeps F.keep) (by k_is)) rfl rfl ?_
  dsimp only
  k_extra "steps"
  k_extra "fn"
  have N7 : News g L' _ ((a, accObj dx ([t2].map .ref) n3) :: (dx, dictOf (accD w k (.int 0 th)) 1) :: (lines, listOf #[.str l0 tk0, .str (lineS 1 (sl ++ sw)) t7] (n2 + 1)) :: (147, tabO ps7) :: (t2, tupO [.str sl tl, .str sw tw]) :: (140, tabO pl5) :: rest) := News.sub N fun q hq => by
    refine (?_ : ∀ q ∈ (_ : List (Addr × Obj)), q ∈ (_ : List (Addr × Obj))) q hq
    repeat' (first | (with_reducible exact fun _ h => h) | refine sub_cons ?_ ?_ | exact List.Mem.head _ | apply List.Mem.tail | exact sub_nil | (with_reducible exact fun _ h => List.mem_append_left _ h) | refine sub_tail ?_)
  have hne6 : ∀ p ∈ (lines, listOf #[.str l0 tk0, .str (lineS 1 (sl ++ sw)) t7] (n2 + 1)) :: (147, tabO ps7) :: (t2, tupO [.str sl tl, .str sw tw]) :: (140, tabO pl5) :: rest, p.1 ≠ a ∧ p.1 ≠ dx := fun q hq => by
    revert q hq
    refine all_cons ?_ (all_cons ?_ (all_cons ?_ (all_cons ?_ (fun q hq => ?_))))
    · exact ⟨Nat.ne_of_lt (ch.lt 2 4 rfl rfl (by decide)), Nat.ne_of_lt o2⟩
    · exact ⟨Nat.ne_of_lt (ch.lt 1 4 rfl rfl (by decide)), Nat.ne_of_lt (ch.lt 1 3 rfl rfl (by decide))⟩
    · exact ⟨Nat.ne_of_gt ta, Nat.ne_of_gt (ch.lt 3 5 rfl rfl (by decide))⟩
    · exact ⟨Nat.ne_of_lt (ch.lt 0 4 rfl rfl (by decide)), Nat.ne_of_lt (ch.lt 0 3 rfl rfl (by decide))⟩
    · exact (hr q hq).2.2.2
  refine acc_reset0_K F N7 (ne_cons (Nat.ne_of_lt o3) fun q hq => (hne6 q hq).1) (fun q hq => (hne6 q hq).2) G' (by simp) (Nat.lt_of_lt_of_le (Nat.succ_lt_succ hdp) (by decide)) fun h9 tk9 n9 t9 F N => ?_
  clear N7
  k_extra "steps"
  k_extra "fn"
  exact ⟨L', _, _, F, N, fun F' N' => h t2 _ _ n9 (n2 + 1) _ pl5 ps7 t7 t9 (tm4.trans tm5) (tm5'.trans tm7) F' (News.sub N' fun q hq => by
    refine (?_ : ∀ q ∈ (_ : List (Addr × Obj)), q ∈ (_ : List (Addr × Obj))) q hq
    repeat' (first | (with_reducible exact fun _ h => h) | refine sub_cons ?_ ?_ | exact List.Mem.head _ | apply List.Mem.tail | exact sub_nil | (with_reducible exact fun _ h => List.mem_append_left _ h) | refine sub_tail ?_)) ((gx4.trans gx5).trans gx7)⟩
end
end Mine
namespace Mine
open PySem PySem.W PySem.Calls PyProof.Rows
local macro_rules | `(tactic| k_all) => `(tactic| assumption)
section
variable {w : World} {A : Around} {dp un : Nat} {fr : Option (List Env)} {gd : Option (List Code)} {s : Shared} {h₀ : Heap} {L : Addr} {m : Str → Option Value} {p : Program} {loose : List Str} {mg mb : Str → Option Value} {a dx : Addr} {its : List Value} {n dn : Nat} {es : List DictEntry} {rest : List (Addr × Obj)} {E : Value → Shared → Prop}

theorem str_K {ln dl lines t : Addr} {mx cl : Int} {sl sw l0 sep : Str} {tl tw k th tk0 tsep : Tok} {n2 : Nat} {pl ps : Array Value} {Q : Value → Shared → Prop} (hun : un + 30 < 9000)
    (F : Fr h₀ L s.heap m) (N : News h₀ L s.heap ((140, tabO pl) :: (147, tabO ps) :: (lines, listOf #[.str l0 tk0] n2) :: (a, accObj dx [.ref t] n) :: (dx, dictOf (accD w k (.int 0 th)) 1) :: rest))
    (hr : ∀ p ∈ rest, p.1 ≠ 140 ∧ p.1 ≠ 147 ∧ p.1 ≠ lines ∧ p.1 ≠ a ∧ p.1 ≠ dx) (o1 : @LT.lt Nat _ 147 lines) (o2 : @LT.lt Nat _ lines dx) (o3 : @LT.lt Nat _ dx a) (G : Gd w p loose mg mb h₀) (hD : FmtD es mx cl " " lines a)
    (hi : (ln, instObj 94 dl) ∈ rest) (hdl : (dl, dictOf es dn) ∈ rest) (hts : (t, tupO [.str sl tl, .str sw tw]) ∈ rest) (htr : TriplesOk pl.toList) (htr2 : TriplesOk ps.toList)
    (hdp : dp < 840) (hlw : sl.length + sw.length ≤ 100) (hsw : 1 ≤ sw.length) (hok1 : PyData.strOk sl = true) (hok2 : PyData.strOk sw = true) (hsp : Txt.isspace (lineS 1 (sl ++ sw)) = false) (hl0 : l0.length ≤ 1000) (hsep : sep.length ≤ 16)
    (h : ∀ t' h' tk' n' n3 gs' pl' ps' t1 t2 t3, TabMore pl pl' → TabMore ps ps' → Fr h₀ L h' m → News h₀ L h' ((140, tabO pl') :: (147, tabO ps') :: (lines, listOf #[.str l0 tk0, .str (lineS 1 (sl ++ sw)) t1] n3) :: (a, accObj dx [] n') :: (dx, dictOf (accD w k (.int 0 t2)) 1) :: (t', tupO [.str sl tl, .str sw tw]) :: rest) → GX s.gens gs' → Q (.str (Txt.join sep [l0, lineS 1 (sl ++ sw)]) t3) { s with heap := h', toks := tk', gens := gs' }) :
    wpAny (model pw w) (AR dp un fr gd) (call (.ref 42) [.ref ln, .str sep tsep]) Q E s := by
  refine wpAny_call ?_
  refine' code_K (binds := [("self", .ref ln), ("linesep", .str sep tsep)]) F N G.X G.T ?k6 ?k7 ?k8 ?k9 ?kB ?_ ?c1 ?c2 ?c3 ?c4
  case k6 => k_is
  case k7 => k_is
  case k8 => exact Nat.lt_trans hdp (by decide)
  case k9 => exact BindsTo.of_eq rfl
  case kB => exact locs rfl
  case c1 => exact rfl
  case c2 => exact rfl
  case c3 => exact rfl
  case c4 => decide
  intro g L' h₁ st FG F N X T hlt
  dsimp only
  k_fold
  have G' := G.keeps st
  k_with_none
  k_with "stepz" => repeat' (first | (with_reducible show wpAny _ _ (getMethod _ (Str.ofString "append") _) _ _ _) | (fail_if_success (with_reducible show wpAny _ _ (getMethod (Value.ref _) _ _) _ _ _))); (fail_if_success (with_reducible show wpAny _ _ (call (Value.ref _) _) _ _ _)); (first | (k_unfold; (try dsimp only)) | (k_end; kc_close) | walk1 | (dsimp only; walk1) | (leave1; (try dsimp only)) | fail "no step")
  k_with "getAttr ref" => (
    rename Fr g _ _ _ => F
    rename News g _ _ _ => N
    (with_reducible show wpAny _ _ (getAttr _ (Str.ofString "_lines") _) _ _ _)
    refine fmt_get (name := "_lines") F X (N (ln, instObj 94 dl) (by repeat (first | exact hi | apply List.mem_cons_of_mem))).1 (N (dl, dictOf es dn) (by repeat (first | exact hdl | apply List.mem_cons_of_mem))).1 (by k_is) (by k_is) hD.ln rfl ?_)
  k_with "fn" => (
    rename Fr g _ _ _ => F
    rename News g _ _ _ => N)
  k_extra "stepz"
  k_extra "fn"
  refine method_inst (f := 56) F X ⟨(N (ln, instObj 94 dl) (.tail _ (.tail _ (.tail _ (.tail _ (.tail _ hi)))))).1, rfl, rfl, (N (dl, dictOf es dn) (.tail _ (.tail _ (.tail _ (.tail _ (.tail _ hdl)))))).1⟩ (by k_is) (by k_is) (by k_is) hD.n2 ?_
  dsimp only
  k_extra "stepz"
  k_extra "fn"
  refine newline_K (show un + 3 + 20 < 9000 by omega) F N hr o1 o2 o3 G' hD hi hdl hts htr htr2 (Nat.lt_of_lt_of_le (Nat.succ_lt_succ hdp) (by decide)) hlw hsw hok1 hok2 hsp fun t' h2 tk2 n' n3 gs' pl' ps' t1 t2 tm1 tm2 F N gx => ?_
  k_extra "stepz"
  k_extra "fn"
  have e1 : (lineS 1 (sl ++ sw)).length = sl.length + sw.length := by
    show (sl ++ sw ++ Str.empty).length = _
    rw [Str.append_empty, Str.length_append]
  refine join_listW (ys := [l0, lineS 1 (sl ++ sw)]) (isList_of (N (lines, _) (.tail _ (.tail _ (.head _)))).1) (.cons _ _ (.cons _ _ .nil)) hsep (by simp [e1]; omega) fun t3 k3 => ?_
  k_extra "stepz"
  k_extra "fn"
  exact ⟨L', _, _, F, N, fun F' N' => h _ _ _ _ _ _ _ _ _ _ _ tm1 tm2 F' N' gx⟩
end
end Mine
namespace Mine
open PySem PySem.W PySem.Calls PyProof.Rows

theorem app_cps (x y : Str) : (x ++ y).cps = x.cps ++ y.cps := rfl
theorem foldl_reps (x : Array Nat) : ∀ (n : Nat) (acc : Array Nat), (List.replicate n x).foldl (· ++ ·) acc = acc ++ (List.replicate n x).foldl (· ++ ·) #[]
  | 0, acc => by simp
  | n + 1, acc => by
    simp only [List.replicate_succ, List.foldl_cons, Array.empty_append]
    rw [foldl_reps x n (acc ++ x), foldl_reps x n x, Array.append_assoc]
theorem lineS_cps (x : Str) : ∀ n, (lineS n x).cps = (List.replicate n x.cps).foldl (· ++ ·) #[]
  | 0 => rfl
  | n + 1 => by
    show (x ++ lineS n x).cps = _
    rw [app_cps, lineS_cps x n, List.replicate_succ, List.foldl_cons, foldl_reps x.cps n (#[] ++ x.cps), Array.empty_append]
theorem str_ext {x y : Str} (h : x.cps = y.cps) : x = y := by
  cases x; cases y; simp_all
theorem mul_line {x : Str} {J : Int} {n : Nat} (h : J = n) (hx : x.length ≠ 0) : Txt.mul x J = lineS n x := by
  subst h
  unfold Txt.mul
  by_cases h1 : (n : Int) < 1
  · rw [if_pos h1]
    obtain rfl : n = 0 := by omega
    rfl
  rw [if_neg h1]
  by_cases h2 : n = 1
  · subst h2
    rw [if_pos (by simp)]
    exact (Str.append_empty x).symm
  · rw [if_neg (by
      simp only [Bool.or_eq_true, beq_iff_eq, not_or]
      exact ⟨by omega, hx⟩)]
    refine str_ext ?_
    rw [lineS_cps]
    simp
/-- what _str puts together. -/
theorem told_text {sl sw sep : Str} {J : Int} {n : Nat} (h : J = n) (hx : (sl ++ sw).length ≠ 0) : Txt.join sep [lineS n (sl ++ sw), lineS 1 (sl ++ sw)] = Txt.mul (sl ++ sw) J ++ sep ++ sl ++ sw := by
  rw [mul_line h hx]
  show Builtin.Str.glued _ _ = _
  rw [StrLaws.glued_eq_join]
  show lineS n (sl ++ sw) ++ sep ++ (sl ++ sw ++ Str.empty) = _
  refine str_ext ?_
  simp only [app_cps, Array.append_assoc]
  show _ ++ (sep.cps ++ (sl.cps ++ (sw.cps ++ #[]))) = _
  rw [Array.append_empty]

structure WordOk (sl sw : Str) (one : Int) : Prop where
  len : ((sl.length : Nat) : Int) + (sw.length : Nat) = one
  head : sl.cps[0]? = some 32
  l1 : 1 ≤ sl.length
  w1 : 1 ≤ sw.length
  k1 : PyData.strOk sl = true
  k2 : PyData.strOk sw = true
  sp : Txt.isspace (lineS 1 (sl ++ sw)) = false
def wordB (b k : Int) : Bool := let sl := Txt.mul (Str.ofString " ") b; let sw := Txt.mul (Str.ofString "x") k
  decide ((sl.length : Int) = b) && decide ((sw.length : Int) = k) && (sl.cps[0]? == some 32) && PyData.strOk sl && PyData.strOk sw && !(Txt.isspace (lineS 1 (sl ++ sw)))
theorem word_all : ∀ b ∈ List.range 6, ∀ k ∈ List.range 6, wordB (1 + (b : Int)) (1 + (k : Int)) = true := by decide +kernel
theorem word_ok {one blanks : Int} (o2 : one ≤ 7) (b1 : 1 ≤ blanks) (b2 : blanks < one) : WordOk (Txt.mul (Str.ofString " ") blanks) (Txt.mul (Str.ofString "x") (one - blanks)) one := by
  have h := word_all (blanks - 1).toNat (List.mem_range.mpr (by omega)) (one - blanks - 1).toNat (List.mem_range.mpr (by omega))
  rw [show 1 + (((blanks - 1).toNat : Nat) : Int) = blanks by omega, show 1 + (((one - blanks - 1).toNat : Nat) : Int) = one - blanks by omega] at h
  simp only [wordB, Bool.and_eq_true, decide_eq_true_eq, beq_iff_eq, Bool.not_eq_true'] at h
  obtain ⟨⟨⟨⟨⟨h1, h2⟩, h3⟩, h4⟩, h5⟩, h6⟩ := h
  exact ⟨by omega, h3, by omega, by omega, h4, h5, h6⟩

theorem laidL_len : ∀ (k : Nat) (mark n g top : Int) (ns : List Int), (laidL k mark n g top ns).2.length ≤ ns.length + k
  | 0, _, _, _, _, _ => Nat.le_refl _
  | k + 1, mark, n, g, top, ns => by
    rw [laidL_succ]
    split
    · show ns.length ≤ _; omega
    split
    · show ns.length ≤ _; omega
    · have := laidL_len k (mark + n) g g top (insR ns (mark + n))
      rw [insR_length] at this
      omega
theorem rowL_len (one other : Int) : ∀ j, (rowL one other j).length ≤ 100 * j
  | 0 => Nat.le_refl _
  | j + 1 => by
    have h1 := rowL_len one other j
    have h2 := laidL_len 100 0 ((other - 1 - j) * one) other (one * other) (rowL one other j)
    show (laidL 100 0 ((other - 1 - j) * one) other (one * other) (rowL one other j)).2.length ≤ _
    omega
theorem okL_at (one other : Int) : ∀ J j, okL one other J = true → j < J → (laidL 100 0 ((other - 1 - j) * one) other (one * other) (rowL one other j)).1 = true
  | 0, _, _, h => absurd h (Nat.not_lt_zero _)
  | J + 1, j, h, hj => by
    simp only [okL, Bool.and_eq_true] at h
    rcases Nat.lt_succ_iff_lt_or_eq.mp hj with q | rfl
    · exact okL_at one other J j h.1 q
    · exact h.2
end Mine
namespace Mine
open PySem PySem.W PySem.Calls PyProof.Rows
local macro_rules | `(tactic| k_all) => `(tactic| assumption)
theorem map8 {mp : Str → Option Value} {x1 x2 x3 x4 x5 x6 x7 x8 : Str} {a1 a2 a3 a4 a5 a6 a7 a8 : Value} (h1 : mp x1 = some a1) (h2 : mp x2 = some a2) (h3 : mp x3 = some a3) (h4 : mp x4 = some a4) (h5 : mp x5 = some a5) (h6 : mp x6 = some a6) (h7 : mp x7 = some a7) (h8 : mp x8 = some a8) :
    mp = fun x => if x = x1 then some a1 else if x = x2 then some a2 else if x = x3 then some a3 else if x = x4 then some a4 else if x = x5 then some a5 else if x = x6 then some a6 else if x = x7 then some a7 else if x = x8 then some a8 else mp x := funext fun x => by
  by_cases q1 : x = x1
  · rw [if_pos q1, q1, h1]
  rw [if_neg q1]
  by_cases q2 : x = x2
  · rw [if_pos q2, q2, h2]
  rw [if_neg q2]
  by_cases q3 : x = x3
  · rw [if_pos q3, q3, h3]
  rw [if_neg q3]
  by_cases q4 : x = x4
  · rw [if_pos q4, q4, h4]
  rw [if_neg q4]
  by_cases q5 : x = x5
  · rw [if_pos q5, q5, h5]
  rw [if_neg q5]
  by_cases q6 : x = x6
  · rw [if_pos q6, q6, h6]
  rw [if_neg q6]
  by_cases q7 : x = x7
  · rw [if_pos q7, q7, h7]
  rw [if_neg q7]
  by_cases q8 : x = x8
  · rw [if_pos q8, q8, h8]
  rw [if_neg q8]

theorem ar1 (w o : Int) : w - (w - o) = o := by omega
theorem ar2 {w one a b : Int} (h : a + b = one) (n : Nat) (hn : n = 1) : w - (0 + (n : Int) * (a + b)) = w - one := by subst hn; omega
theorem ar3 {one a b : Int} (h : a + b = one) (n : Nat) (hn : n = 1) (o1 : 2 ≤ one) : 0 ≤ 0 + (n : Int) * (a + b) := by subst hn; omega
theorem ar4 {one a b : Int} (h : a + b = one) (n : Nat) (hn : n = 1) (o2 : one ≤ 7) : 0 + (n : Int) * (a + b) < 2 ^ 63 := by subst hn; omega
theorem ar5 {w one other : Int} (o3 : one < other) (w1 : other ≤ w) : w - one ≠ 0 := by omega
theorem ar6 {a b : Nat} {one : Int} (h : (a : Int) + (b : Int) = one) (o2 : one ≤ 7) : ¬ (a : Int) ≥ 2 ^ 63 ∧ ¬ (b : Int) ≥ 2 ^ 63 := by omega
theorem ar7 {w one : Int} (w2 : w ≤ 126) (o1 : 2 ≤ one) : w - one ≠ 127 := by omega
theorem ar8 {w one other : Int} (o1 : 2 ≤ one) (o3 : one < other) (w1 : other ≤ w) : w ≠ 0 := by omega
theorem ar9 {w one other : Int} (o1 : 2 ≤ one) (o3 : one < other) (w2 : w ≤ 126) : w - other < 2 ^ 63 := by omega
theorem ar10 {n : Nat} {w : Int} (h : (n : Int) = w) (h2 : w ≤ 126) : ¬ (n : Int) ≥ 2 ^ 63 := by omega
theorem ar11 {n : Nat} {w o : Int} (h : (n : Int) = w + o) (h2 : w ≤ 126) (h3 : o ≤ 13) : ¬ (n : Int) ≥ 2 ^ 63 := by omega
theorem ar12 {o : Int} (h3 : o ≤ 13) : o ≠ 127 := by omega
theorem ar13 {one other : Int} (o1 : 2 ≤ one) (o3 : one < other) : 0 < other ∧ other ≠ 0 := by omega
theorem ar14 {w : Int} (h : w ≤ 126) : w ≠ 127 := by omega
theorem ar15 (w o : Int) : w - (w + o) = -o := by omega
theorem ar16 {w one other : Int} (o1 : 2 ≤ one) (o2 : one ≤ 7) (o3 : one < other) (w1 : other ≤ w) (w2 : w ≤ 126) : 0 ≤ w + one ∧ w + one < 2 ^ 63 ∧ 0 ≤ w + other := by omega
theorem ar17 {one : Int} (o1 : 2 ≤ one) : -one ≠ 0 ∧ -one ≠ 127 := by omega
theorem ar20 {one other : Int} (o1 : 2 ≤ one) (o3 : one < other) : -other ≠ 127 ∧ -other ≠ 0 := by omega
theorem ar21 {a b J : Nat} {one other : Int} (h : (a : Int) + (b : Int) = one) (o2 : one ≤ 7) (hJ : other - 1 = J) (o4 : other ≤ 13) (h0 : 1 ≤ a) : a ≤ 7 ∧ b ≤ 7 ∧ J ≤ 12 ∧ a + b ≤ 14 ∧ a + b ≠ 0 ∧ a + b ≤ 100 := by omega
theorem ar22 {n : Nat} {w one other : Int} (h : (n : Int) = w - other) (o1 : 2 ≤ one) (o3 : one < other) (w2 : w ≤ 126) : ¬ (n : Int) ≥ 2 ^ 63 := by omega
theorem ar0f {mx hd f a b : Int} (n : Nat) (hn : n = 0) (h : mx - hd = f) : mx - (hd + (n : Int) * (a + b)) = f := by subst hn; omega
theorem ar0p {hd a b : Int} (n : Nat) (hn : n = 0) (h : 0 ≤ hd) : 0 ≤ hd + (n : Int) * (a + b) := by subst hn; omega
theorem ar0q {hd a b : Int} (n : Nat) (hn : n = 0) (h : hd < 2 ^ 63) : hd + (n : Int) * (a + b) < 2 ^ 63 := by subst hn; omega
theorem ar18 {w one other : Int} (o1 : 2 ≤ one) (o3 : one < other) (w1 : other ≤ w) : 0 ≤ w := by omega
theorem ar19 {top : Int} (h : top ≤ 91) : top < 100 := by omega
theorem front3 {f r : Int} (h1 : f ≠ 127) (h2 : r ≠ 127) (h3 : r ≠ 0) : frontL f r 3 = [f, r, r] := by
  simp only [frontL]
  rw [if_neg h1, if_neg h2, if_neg h3]
  rfl
theorem front2 {f r : Int} (h1 : f ≠ 127) (h2 : r ≠ 127) (h3 : r ≠ 0) : frontL f r 2 = [f, r] := by
  simp only [frontL]
  rw [if_neg h1, if_neg h2, if_neg h3]
  rfl
theorem blanks_len {n : Int} (h : 0 ≤ n) : ((Txt.mul (Str.ofString " ") n).length : Int) = n := by
  rw [len_mul_k1 (by decide), if_neg (by omega)]
  omega

theorem ar23 {a b j J : Nat} {one other : Int} (h : (a : Int) + (b : Int) = one) (o2 : one ≤ 7) (hJ : other - 1 = J) (hj : j < J) (o4 : other ≤ 13) : a + b ≤ 500 ∧ j ≤ 500 ∧ 100 * j < 2 ^ 19 := by omega
theorem ar25 {j J : Nat} {other : Int} (hJ : other - 1 = J) (hj : j < J) : (1 : Int) ≤ other - 1 - j := by omega
theorem ar26 {width head oo jo f : Int} (h : head + oo = width) (e : f = oo - jo) : width - (head + jo) = f := by omega
theorem ar27 {one f : Int} (p1 : 1 * one ≤ f) (o1 : 2 ≤ one) : 0 < f := by omega
theorem ar28 {other f : Int} {j : Nat} (p2 : f ≤ (other - 1 - j) * 7) (o4 : other ≤ 13) : f ≠ 127 := by omega
theorem ar29 {head jo : Int} {j : Nat} (a2 : head ≤ 42) (p3 : jo ≤ (j : Int) * 7) (h : j ≤ 500) : head + jo < 2 ^ 63 := by omega
theorem ar30 {width head oo jo f one : Int} (h : head + oo = width) (e : f = oo - jo) (p1 : 1 * one ≤ f) : head + (jo + 1 * one) ≤ width := by omega
theorem ar31 {a b j : Nat} {one other : Int} (h : (a : Int) + (b : Int) = one) (o2 : one ≤ 7) (hJ : other - 1 = j) (o4 : other ≤ 13) (o1 : 2 ≤ one) (o3 : one < other) : 1 ≤ j ∧ j ≤ 100 ∧ a + b ≤ 100 := by omega
theorem ar32 {n j : Nat} {jo : Int} (h : (n : Int) = jo) (p3 : jo ≤ (j : Int) * 7) (hj : j ≤ 100) : n ≤ 900 := by omega
/-- the numbers of one turn of the loop that lays the words. -/
structure LoopAr (one other head width : Int) (j a b : Nat) : Prop where
  hf : width - (head + (j : Int) * ((a : Int) + (b : Int))) = (other - 1 - j) * one
  f0 : 0 < (other - 1 - j) * one
  f1 : (other - 1 - j) * one ≠ 127
  s0 : 0 ≤ head + (j : Int) * ((a : Int) + (b : Int))
  s1 : head + (j : Int) * ((a : Int) + (b : Int)) < 2 ^ 63
  m : head + ((j : Int) + 1) * ((a : Int) + (b : Int)) ≤ width
  l1 : ¬ (a : Int) ≥ 2 ^ 63
  l2 : ¬ (b : Int) ≥ 2 ^ 63
  l3 : a + b ≤ 500
  l4 : j ≤ 500
  l5 : 100 * j < 2 ^ 19
  r0 : 0 ≤ other
  r1 : other ≠ 127
  r2 : other ≠ 0
theorem loop_ar {one other head width : Int} {j J a b : Nat} (o1 : 2 ≤ one) (o2 : one ≤ 7) (o3 : one < other) (o4 : other ≤ 13) (a1 : 0 ≤ head) (a2 : head ≤ 42) (HW : head + (other - 1) * one = width) (hlw : (a : Int) + (b : Int) = one) (hJ : other - 1 = J) (hj : j < J) : LoopAr one other head width j a b := by
  have p4 : 0 ≤ (j : Int) * one := Int.mul_nonneg (Int.natCast_nonneg _) (Int.le_trans (by decide) o1)
  have q1 := ar25 hJ hj
  have p3 := Int.mul_le_mul_of_nonneg_left o2 (Int.natCast_nonneg j)
  have e := Int.sub_mul (other - 1) (j : Int) one
  have p1 := Int.mul_le_mul_of_nonneg_right q1 (Int.le_trans (by decide) o1)
  have p2 := Int.mul_le_mul_of_nonneg_left o2 (Int.le_trans (by decide) q1)
  have k := ar23 hlw o2 hJ hj o4
  refine ⟨?_, ar27 p1 o1, ar28 p2 o4, ?_, ?_, ?_, (ar6 hlw o2).1, (ar6 hlw o2).2, k.1, k.2.1, k.2.2, Int.le_of_lt (ar13 o1 o3).1, ar12 o4, (ar13 o1 o3).2⟩
  · rw [hlw]; exact ar26 HW e
  · rw [hlw]; exact Int.add_nonneg a1 p4
  · rw [hlw]; exact ar29 a2 p3 k.2.1
  · rw [hlw, Int.add_mul]; exact ar30 HW e p1
/-- the numbers when the line is full. -/
structure FullAr (one other head width : Int) (j a b : Nat) : Prop where
  hf : width - (head + (j : Int) * ((a : Int) + (b : Int))) = 0
  s0 : 0 ≤ head + (j : Int) * ((a : Int) + (b : Int))
  s1 : head + (j : Int) * ((a : Int) + (b : Int)) < 2 ^ 63
  m : head + (j : Int) * ((a : Int) + (b : Int)) = width
  l1 : ¬ (a : Int) ≥ 2 ^ 63
  l2 : ¬ (b : Int) ≥ 2 ^ 63
  n1 : 1 ≤ j
  n2 : j ≤ 100
  n3 : a + b ≤ 100
  n4 : j * (a + b) ≤ 900
theorem full_ar {one other head width : Int} {j a b : Nat} (o1 : 2 ≤ one) (o2 : one ≤ 7) (o3 : one < other) (o4 : other ≤ 13) (a1 : 0 ≤ head) (a2 : head ≤ 42) (HW : head + (other - 1) * one = width) (hlw : (a : Int) + (b : Int) = one) (hJ : other - 1 = j) : FullAr one other head width j a b := by
  have p3 := Int.mul_le_mul_of_nonneg_left o2 (Int.natCast_nonneg j)
  have p4 : 0 ≤ (j : Int) * one := Int.mul_nonneg (Int.natCast_nonneg _) (Int.le_trans (by decide) o1)
  have hnl : ((j * (a + b) : Nat) : Int) = (j : Int) * one := by rw [← hlw]; simp
  rw [hJ] at HW
  have k := ar31 hlw o2 hJ o4 o1 o3
  refine ⟨?_, ?_, ?_, ?_, (ar6 hlw o2).1, (ar6 hlw o2).2, k.1, k.2.1, k.2.2, ar32 hnl p3 k.2.1⟩
  · rw [hlw, HW]; exact Int.sub_self _
  · rw [hlw]; exact Int.add_nonneg a1 p4
  · rw [hlw]; exact ar29 a2 p3 (Nat.le_trans k.2.1 (by decide))
  · rw [hlw]; exact HW
/-- bounds of the width and of the coins' product. -/
theorem wide_ar {one other head : Int} (o1 : 2 ≤ one) (o2 : one ≤ 7) (o3 : one < other) (o4 : other ≤ 13) (a1 : 0 ≤ head) (a2 : head ≤ 42) : one * other ≤ 91 ∧ 0 ≤ one * other ∧ other ≤ head + (other - 1) * one ∧ head + (other - 1) * one ≤ 126 := by
  have b1 := Int.mul_le_mul_of_nonneg_left o1 (show 0 ≤ other - 1 by omega)
  have b2 := Int.mul_le_mul_of_nonneg_left o2 (show 0 ≤ other - 1 by omega)
  have b3 := Int.mul_le_mul_of_nonneg_left o4 (show 0 ≤ one by omega)
  have b4 : 0 ≤ one * other := Int.mul_nonneg (by omega) (by omega)
  omega
/-- the names of _law_paid that stay. -/
structure PaidM (mp : Str → Option Value) (row wa x : Addr) (top width other : Int) (sl sw : Str) (td te : Tok) : Prop where
  m1 : mp "row" = some (.ref row)
  m2 : mp "walk" = some (.ref wa)
  m3 : mp "line" = some (.ref x)
  m4 : ∃ t, mp "top" = some (.int top t)
  m5 : ∃ t, mp "width" = some (.int width t)
  m6 : ∃ t, mp "other" = some (.int other t)
  m7 : mp "lead" = some (.str sl td)
  m8 : mp "word" = some (.str sw te)

/-- what else lies about. -/
structure PaidR (R R0 : List (Addr × Obj)) (row acc it : Addr) (ts : List Addr) (wa C : Addr) (oC : Obj) (nw : Nat) (nm qn : Value) (o : Obj) : Prop where
  a : ∀ q ∈ R, q.1 ≠ 140
  b : ∀ q ∈ R, @LT.lt Nat _ q.1 row ∨ @LT.lt Nat _ acc q.1
  c : ∀ q ∈ R, q.1 ≠ it
  d : (wa, genO nw nm qn) ∈ R
  e : (C, oC) ∈ R
  f : ∀ t ∈ ts, (t, o) ∈ R ∧ t ≠ C ∧ @LT.lt Nat _ acc t
  g : ∀ q ∈ R0, q ∈ R
  h : @LT.lt Nat _ acc C
  i : @LT.lt Nat _ acc wa

/-- between two turns of the loop that lays the words. -/
def PaidI (w : World) (g : Heap) (L' it row acc dx lines x dl : Addr) (th' t3 : Tok) (es : List DictEntry) (nd : Nat) (one other head width top : Int) (sl sw : Str) (td te : Tok) (s : Shared) (R0 : List (Addr × Obj)) (J : Nat) (n : Nat) (s' : Shared) : Prop :=
  ∃ (h' : Heap) (tk' : Nat) (gs' : Array GenState) (mp : Str → Option Value) (ts : List Addr) (wa C : Addr) (oC : Obj) (nm qn : Value) (nw : Nat) (gst : GenState) (vs' : List Value) (ep' : Nat) (pl' : Array Value) (na : Nat) (R : List (Addr × Obj)),
    s' = { s with heap := h', toks := tk', gens := gs' } ∧ ts.length + n = J ∧ TabMore #[] pl' ∧ IntsAre vs' (rowL one other ts.length) ∧ (Fr g L' h' mp ∧ PaidM mp row wa x top width other sl sw td te) ∧
    News g L' h' ((it, riO (ts.length : Int) n 1) :: (row, listOf vs'.toArray ep') :: (140, tabO pl') :: (acc, accObj dx (ts.map .ref) na) :: (dx, dictOf (accD w th' (.int head t3)) 1) :: (lines, listOf #[] 0) :: (x, instObj 94 dl) :: (dl, dictOf es nd) :: R) ∧
    GX s.gens gs' ∧ (s.gens.size ≤ nw ∧ gs'[nw]? = some gst ∧ FreshGen w 77 C gst ∧ NsO oC (fun y => [((Str.ofString "self"), Value.ref x)].reverse.lookup y)) ∧ PaidR R R0 row acc it ts wa C oC nw nm qn (tupO [.str sl td, .str sw te])

theorem GX.thenS {a b c : Array GenState} {nw : Nat} (x : GX a b) (y : GXs [nw] b c) (h : a.size ≤ nw) : GX a c :=
  ⟨Nat.le_trans x.size y.size, fun i hi => (y.same i (Nat.lt_of_lt_of_le hi x.size) (by
    simp only [List.mem_singleton]
    exact Nat.ne_of_lt (Nat.lt_of_lt_of_le hi h))).trans (x.same i hi), fun z => y.bare (x.bare z)⟩
theorem GX.pushed {a : Array GenState} {g : GenState} (hb : g.bare = true) : GX a (a.push g) :=
  ⟨by simp, fun i hi => by rw [Array.getElem?_push, if_neg (Nat.ne_of_lt hi)], fun h => AllBare.push h hb⟩
theorem FreshGen.bare {w : World} {f C : Addr} {gs : GenState} (h : FreshGen w f C gs) : gs.bare = true := by
  obtain ⟨_, _, _, _, _, _, _, _, _, _, _, _, _, _, _, _, rfl⟩ := h
  rfl
theorem mem_step {α : Type} {x : α} {l : List α} {y : α} (h : x ∈ l) : x ∈ y :: l := List.mem_cons_of_mem _ h
end Mine
namespace Mine
open PySem PySem.W PySem.Calls PyProof.Rows
local macro_rules | `(tactic| k_all) => `(tactic| assumption)
section
variable {w : World} {A : Around} {dp un : Nat} {fr : Option (List Env)} {gd : Option (List Code)} {s : Shared} {g : Heap} {L' : Addr} {p : Program} {loose : List Str} {mg mb : Str → Option Value} {E : Value → Shared → Prop}

theorem paid_loop {name qual : Str} {params : Arguments} {body : List Stmt} {scope : Scope} {dV kV doc pm cdv ct oc : Value} {an od : Option Addr} {osl : Array (Option Value)} {target iter : Expr} {fb orelse : List Stmt} {pos : Pos} {R : Result → Shared → Prop}
    {one other head width top : Int} {it row acc dx lines x dl : Addr} {th' t3 td te : Tok} {es : List DictEntry} {nd J : Nat} {sl sw : Str} {R0 : List (Addr × Obj)} {s' : Shared}
    (hK : (hed.heap_39 w.params).lookup 256 = some ⟨oc, od, .func (fnOf name qual params body scope dV kV doc pm an cdv ct), osl⟩) (hB : body[7]? = some (.For target iter fb orelse pos))
    (G' : Gd w p loose mg mb g) (hdp : dp < 610) (hun : un < 9000) (o1 : 2 ≤ one) (o2 : one ≤ 7) (o3 : one < other) (o4 : other ≤ 13) (a1 : 0 ≤ head) (a2 : head ≤ 42) (w2 : width ≤ 126) (HW : Hid (head + (other - 1) * one = width)) (HT : Hid (one * other = top)) (tp1 : 0 ≤ top) (tp2 : top ≤ 91) (WO : WordOk sl sw one)
    (hD : FmtD es width (width - other) " " lines acc) (gL : g.objs.size ≤ L') (r0 : @LT.lt Nat _ 140 L') (r1 : @LT.lt Nat _ L' row) (r2 : @LT.lt Nat _ row dl) (or1 : @LT.lt Nat _ dl x) (or2 : @LT.lt Nat _ x lines) (or3 : @LT.lt Nat _ lines dx) (or4 : @LT.lt Nat _ dx acc) (r5 : @LT.lt Nat _ acc it)
    (hJ : other - 1 = J) (hok : okL one other J = true) (hI : PaidI w g L' it row acc dx lines x dl th' t3 es nd one other head width top sl sw td te s R0 J J s')
    (hend : ∀ h' tk' gs' mp ts wa C oC nm qn nw gst vs' ep' pl' na RR, ts.length = J → TabMore #[] pl' → IntsAre vs' (rowL one other J) → Fr g L' h' mp → PaidM mp row wa x top width other sl sw td te →
      News g L' h' ((row, listOf vs'.toArray ep') :: (140, tabO pl') :: (acc, accObj dx (ts.map .ref) na) :: (dx, dictOf (accD w th' (.int head t3)) 1) :: (lines, listOf #[] 0) :: (x, instObj 94 dl) :: (dl, dictOf es nd) :: RR) →
      GX s.gens gs' → (s.gens.size ≤ nw ∧ gs'[nw]? = some gst ∧ FreshGen w 77 C gst ∧ NsO oC (fun y => [((Str.ofString "self"), Value.ref x)].reverse.lookup y)) → PaidR RR R0 row acc it ts wa C oC nw nm qn (tupO [.str sl td, .str sw te]) → R (.ok .next) { s with heap := h', toks := tk', gens := gs' }) :
    codeAny (model pw w) (AR dp un fr gd) (.forLoop target (.ref it) fb orelse (envOfC qual scope L' 256 cdv)) R s' := by
  have hc := hK.symm.trans (show (hed.heap_39 w.params).lookup 256 = some _ from by k_is)
  cases hc
  clear hK
  cases hB
  have X := G'.X
  have T := G'.T
  k_with_none
  k_with "fn" => (
    rename Fr g _ _ _ => F
    rename News g _ _ _ => N)
  k_with "steps" => repeat' (fail_if_success (with_reducible show wpAny _ _ (exec (PySem.Stmt.For _ _ _ _ _) _) _ _ _)); (fail_if_success (with_reducible show wpAny _ _ (getMethod _ _ _) _ _ _)); (fail_if_success (with_reducible show wpAny _ _ (call (Value.ref _) _) _ _ _)); (first | (k_unfold; (try dsimp only)) | (k_end; kc_close) | walk1 | (dsimp only; walk1) | (leave1; (try dsimp only)) | fail "no step")
  refine codeAny_forLoop (PaidI w g L' it row acc dx lines x dl th' t3 es nd one other head width top sl sw td te s R0 J) ?_ J hI
  clear hI s'
  intro n s' hI
  show wpAny _ _ _ _ _ _
  k_fold
  obtain ⟨h', tk', gs', mp, ts, wa, C, oC, nm, qn, nw, gst, vs', ep', pl', na, RR, rfl, hJn, htm, hvs, ⟨F, mm⟩, N, gx, ⟨hnw, hgst, hfg, hNs⟩, hR⟩ := hI
  have ch : Chain [140, L', row, dl, x, lines, dx, acc, it] := ⟨r0, r1, r2, or1, or2, or3, or4, r5, trivial⟩
  have chC : Chain [140, L', row, dl, x, lines, dx, acc, C] := ⟨r0, r1, r2, or1, or2, or3, or4, hR.h, trivial⟩
  obtain ⟨m1, m2, m3, ⟨tk4, m4⟩, ⟨tk5, m5⟩, ⟨tk6, m6⟩, m7, m8⟩ := id mm
  have hitr : ∀ q ∈ (row, listOf vs'.toArray ep') :: (140, tabO pl') :: (acc, accObj dx (ts.map .ref) na) :: (dx, dictOf (accD w th' (.int head t3)) 1) :: (lines, listOf #[] 0) :: (x, instObj 94 dl) :: (dl, dictOf es nd) :: RR, q.1 ≠ it := fun q hq => by
    revert q hq
    refine all_cons ?_ (all_cons ?_ (all_cons ?_ (all_cons ?_ (all_cons ?_ (all_cons ?_ (all_cons ?_ (fun q hq => ?_)))))))
    · exact Nat.ne_of_lt (ch.lt 2 8 rfl rfl (by decide))
    · exact Nat.ne_of_lt (ch.lt 0 8 rfl rfl (by decide))
    · exact Nat.ne_of_lt r5
    · exact Nat.ne_of_lt (ch.lt 6 8 rfl rfl (by decide))
    · exact Nat.ne_of_lt (ch.lt 5 8 rfl rfl (by decide))
    · exact Nat.ne_of_lt (ch.lt 4 8 rfl rfl (by decide))
    · exact Nat.ne_of_lt (ch.lt 3 8 rfl rfl (by decide))
    · exact hR.c q hq
  cases n with
  | zero =>
    refine rit_end rfl F N hitr (by omega) fun h6 F6 N6 => ?_
    k_unfold
    dsimp only
    obtain rfl : ts.length = J := by omega
    exact wpAny_pure (hend _ _ _ _ _ _ _ _ _ _ _ _ _ _ _ _ _ rfl htm hvs F6 mm N6 gx ⟨hnw, hgst, hfg, hNs⟩ hR)
  | succ n =>
    rw [map8 m1 m2 m3 m4 m5 m6 m7 m8] at F
    clear mm m1 m2 m3 m4 m5 m6 m7 m8
    refine rit_item F N hitr (by omega) fun h6 F6 N6 => ?_
    clear F N
    k_unfold
    dsimp only
    k_extra "steps"
    k_extra "fn"
    rename_i hh
    have hlw : ((sl.length : Nat) : Int) + (sw.length : Nat) = one := WO.len
    have hbC : ∀ q ∈ [acc, dx, x, dl] ++ ts, @LT.lt Nat _ 140 q ∧ q ≠ C := fun q hq => by
      have hC := hR.h
      rcases List.mem_append.mp hq with hq | hq
      · simp only [List.mem_cons, List.not_mem_nil, or_false] at hq
        rcases hq with h | h | h | h <;> rw [h]
        · exact ⟨(ch.lt 0 7 rfl rfl (by decide)), Nat.ne_of_lt hC⟩
        · exact ⟨(ch.lt 0 6 rfl rfl (by decide)), Nat.ne_of_lt (chC.lt 6 8 rfl rfl (by decide))⟩
        · exact ⟨(ch.lt 0 4 rfl rfl (by decide)), Nat.ne_of_lt (chC.lt 4 8 rfl rfl (by decide))⟩
        · exact ⟨(ch.lt 0 3 rfl rfl (by decide)), Nat.ne_of_lt (chC.lt 3 8 rfl rfl (by decide))⟩
      · obtain ⟨_, h2, h3⟩ := hR.f q hq
        exact ⟨Nat.lt_trans (ch.lt 0 7 rfl rfl (by decide)) h3, h2⟩
    have LA := loop_ar o1 o2 o3 o4 a1 a2 HW hlw hJ (show ts.length < J by omega)
    have hf := LA.hf
    have hr : width - (width - other) = other := ar1 _ _
    have hWk : ∀ B : Around, B.handled = none → B.depth < 800 → Wk w B 100 ((other - 1 - ts.length) * one) other g C x dl wa nw ([C, 140, acc, dx, x, dl] ++ ts) (100 + 1) { s with heap := hh, gens := gs', toks := tk } := fun B hB hd => by
      suffices this : Wk w B 100 (width - (head + (ts.length : Int) * ((sl.length : Int) + (sw.length : Int)))) (width - (width - other)) g C x dl wa nw ([C, 140, acc, dx, x, dl] ++ ts) (100 + 1) { s with heap := hh, gens := gs', toks := tk } by rwa [hf, hr] at this
      refine' wk_fresh (D := 0) (m := fun _ => none) (s := { s with heap := hh, gens := gs', toks := tk }) N (.tail _ (.tail _ (.head _))) (fun q hq => Nat.ne_of_gt (hbC q hq).1) G' (fun _ _ e => e) F.keep ?z1 hfg hgst ?z2 ?z3 hNs ?z4 hD ?z5 ?z6 ?z7 ?z8 ?z9 htm.ok ?z10 ?z11 ?z12 ?z13 B hB hd
      case z1 => exact Nat.le_trans gL (Nat.le_of_lt (chC.lt 1 8 rfl rfl (by decide)))
      case z2 => exact .tail _ (.tail _ (.tail _ (.tail _ (.tail _ (.tail _ (.tail _ (.tail _ hR.d)))))))
      case z3 => exact .tail _ (.tail _ (.tail _ (.tail _ (.tail _ (.tail _ (.tail _ (.tail _ hR.e)))))))
      case z4 =>
        intro q hq
        rcases List.mem_cons.mp hq with h | hq
        · rw [h]; exact Nat.ne_of_lt (chC.lt 0 8 rfl rfl (by decide))
        · exact (hbC q hq).2
      case z5 => exact .tail _ (.tail _ (.tail _ (.tail _ (.tail _ (.tail _ (.head _))))))
      case z6 => exact .tail _ (.tail _ (.tail _ (.tail _ (.tail _ (.tail _ (.tail _ (.head _)))))))
      case z7 => exact .tail _ (.tail _ (.tail _ (.head _)))
      case z8 => exact .tail _ (.tail _ (.tail _ (.tail _ (.head _))))
      case z9 => exact fun t ht => .tail _ (.tail _ (.tail _ (.tail _ (.tail _ (.tail _ (.tail _ (.tail _ (hR.f t ht).1)))))))
      case z10 => exact LA.l1
      case z11 => exact LA.l2
      case z12 => exact LA.s0
      case z13 => exact LA.s1
    have NL : News g L' _ ((row, listOf vs'.toArray ep') :: (140, tabO pl') :: (it, riO ((ts.length : Int) + 1) (((n + 1 : Nat) : Int) - 1) 1) :: (acc, accObj dx (ts.map .ref) na) :: (dx, dictOf (accD w th' (.int head t3)) 1) :: (lines, listOf #[] 0) :: (x, instObj 94 dl) :: (dl, dictOf es nd) :: RR) := News.sub N fun q hq => by
      refine (?_ : ∀ q ∈ (_ : List (Addr × Obj)), q ∈ (_ : List (Addr × Obj))) q hq
      repeat' (first | (with_reducible exact fun _ h => h) | refine sub_cons ?_ ?_ | exact List.Mem.head _ | apply List.Mem.tail | exact sub_nil | (with_reducible exact fun _ h => List.mem_append_left _ h) | refine sub_tail ?_)
    refine laid_K (M := 100) (f := (other - 1 - ts.length) * one) (r := other) (C := C) (oC := oC) (nm := nm) (qn := qn) (B0 := g) F NL ?y1 ?y2 htm.ok G' G' (fun _ _ e => e) ?y3 ?y4 ?y5 ?y6 hWk hvs ?y7 (Nat.lt_of_lt_of_le hdp (by decide)) LA.f0 LA.r0 LA.f1 LA.r1 (ar19 tp2) tp1 (by decide) (by decide) fun h7 tk7 gs7 pl7 vs7 ep7 tm7 F N hvs7 gx7 => ?_
    case y1 =>
      refine all_cons ?_ (all_cons ?_ (all_cons ?_ (all_cons ?_ (all_cons ?_ (all_cons ?_ (fun q hq => ?_))))))
      · exact Nat.ne_of_gt (ch.lt 0 8 rfl rfl (by decide))
      · exact Nat.ne_of_gt (ch.lt 0 7 rfl rfl (by decide))
      · exact Nat.ne_of_gt (ch.lt 0 6 rfl rfl (by decide))
      · exact Nat.ne_of_gt (ch.lt 0 5 rfl rfl (by decide))
      · exact Nat.ne_of_gt (ch.lt 0 4 rfl rfl (by decide))
      · exact Nat.ne_of_gt (ch.lt 0 3 rfl rfl (by decide))
      · exact hR.a q hq
    case y2 =>
      refine all_cons ?_ (all_cons ?_ (all_cons ?_ (all_cons ?_ (all_cons ?_ (all_cons ?_ (all_cons ?_ (fun q hq => ?_)))))))
      · exact Nat.ne_of_lt (ch.lt 0 2 rfl rfl (by decide))
      · exact Nat.ne_of_gt (ch.lt 2 8 rfl rfl (by decide))
      · exact Nat.ne_of_gt (ch.lt 2 7 rfl rfl (by decide))
      · exact Nat.ne_of_gt (ch.lt 2 6 rfl rfl (by decide))
      · exact Nat.ne_of_gt (ch.lt 2 5 rfl rfl (by decide))
      · exact Nat.ne_of_gt (ch.lt 2 4 rfl rfl (by decide))
      · exact Nat.ne_of_gt r2
      · rcases hR.b q hq with z | z
        · exact Nat.ne_of_lt z
        · exact Nat.ne_of_gt (Nat.lt_trans (ch.lt 2 7 rfl rfl (by decide)) z)
    case y3 => exact Nat.le_trans gL (Nat.le_of_lt (chC.lt 1 8 rfl rfl (by decide)))
    case y4 => exact .tail _ (.tail _ (.tail _ (.tail _ (.tail _ (.tail _ hR.d)))))
    case y5 => exact .tail _ (.tail _ (.tail _ (.tail _ (.tail _ (.tail _ hR.e)))))
    case y6 =>
      intro b hb
      simp only [List.mem_cons, List.mem_append, List.not_mem_nil, or_false] at hb
      have q3 : ∃ o, (acc, o) ∈ (140, tabO pl') :: (it, riO ((ts.length : Int) + 1) (((n + 1 : Nat) : Int) - 1) 1) :: (acc, accObj dx (ts.map .ref) na) :: (dx, dictOf (accD w th' (.int head t3)) 1) :: (lines, listOf #[] 0) :: (x, instObj 94 dl) :: (dl, dictOf es nd) :: RR := ⟨_, .tail _ (.tail _ (.head _))⟩
      have q4 : ∃ o, (dx, o) ∈ (140, tabO pl') :: (it, riO ((ts.length : Int) + 1) (((n + 1 : Nat) : Int) - 1) 1) :: (acc, accObj dx (ts.map .ref) na) :: (dx, dictOf (accD w th' (.int head t3)) 1) :: (lines, listOf #[] 0) :: (x, instObj 94 dl) :: (dl, dictOf es nd) :: RR := ⟨_, .tail _ (.tail _ (.tail _ (.head _)))⟩
      have q6 : ∃ o, (x, o) ∈ (140, tabO pl') :: (it, riO ((ts.length : Int) + 1) (((n + 1 : Nat) : Int) - 1) 1) :: (acc, accObj dx (ts.map .ref) na) :: (dx, dictOf (accD w th' (.int head t3)) 1) :: (lines, listOf #[] 0) :: (x, instObj 94 dl) :: (dl, dictOf es nd) :: RR := ⟨_, .tail _ (.tail _ (.tail _ (.tail _ (.tail _ (.head _)))))⟩
      have q7 : ∃ o, (dl, o) ∈ (140, tabO pl') :: (it, riO ((ts.length : Int) + 1) (((n + 1 : Nat) : Int) - 1) 1) :: (acc, accObj dx (ts.map .ref) na) :: (dx, dictOf (accD w th' (.int head t3)) 1) :: (lines, listOf #[] 0) :: (x, instObj 94 dl) :: (dl, dictOf es nd) :: RR := ⟨_, .tail _ (.tail _ (.tail _ (.tail _ (.tail _ (.tail _ (.head _))))))⟩
      rcases hb with h | h | (h | h | h | h | h | h) | h
      · rw [h]; exact q6
      · rw [h]; exact q7
      · rw [h]; exact ⟨_, .tail _ (.tail _ (.tail _ (.tail _ (.tail _ (.tail _ (.tail _ hR.e))))))⟩
      · rw [h]; exact ⟨_, .head _⟩
      · rw [h]; exact q3
      · rw [h]; exact q4
      · rw [h]; exact q6
      · rw [h]; exact q7
      · exact ⟨_, .tail _ (.tail _ (.tail _ (.tail _ (.tail _ (.tail _ (.tail _ (hR.f b h).1))))))⟩
    case y7 => exact Nat.lt_of_le_of_lt (rowL_len one other ts.length) LA.l5
    have hTop : one * other = top := HT
    have hno : other ≠ 0 := LA.r2
    have hk1 := okL_at one other J ts.length hok (by omega)
    rw [hTop] at hk1
    rw [if_neg hno] at hvs7 ⊢
    rw [hk1]
    have hvs8 : IntsAre vs7 (rowL one other (ts.length + 1)) := by
      show IntsAre vs7 (laidL 100 0 ((other - 1 - ts.length) * one) other (one * other) (rowL one other ts.length)).2
      rw [hTop]
      exact hvs7
    clear hvs7 hk1 hWk hf hr NL
    rename Fr g L' hh _ => F0
    rename News g L' hh _ => N0
    clear F0 N0
    k_extra "steps"
    have gx1 : GX s.gens gs7 := gx.thenS gx7 hnw
    clear gx gx7 hTop hno hvs hbC hitr
    refine method_inst (f := 77) F X ⟨(N (x, instObj 94 dl) (.tail _ (.tail _ (.tail _ (.tail _ (.tail _ (.tail _ (.head _)))))))).1, rfl, rfl, (N (dl, dictOf es nd) (.tail _ (.tail _ (.tail _ (.tail _ (.tail _ (.tail _ (.tail _ (.head _))))))))).1⟩ (by k_is) (by k_is) (by k_is) hD.n3 ?_
    dsimp only
    k_extra "steps"
    k_extra "fn"
    refine max_make_K F N G' (Nat.lt_of_lt_of_le hdp (by decide)) fun wa' C' oC' nm' qn' h8 tk8 gs8 F N hoC' hCw' hltC' hfg' => ?_
    have gx2 : GX s.gens (gs7.push gs8) := gx1.trans (GX.pushed hfg'.bare)
    have hsz2 : s.gens.size ≤ gs7.size := gx1.size
    k_extra "steps"
    k_extra "fn"
    refine method_inst (f := 91) F X ⟨(N (x, instObj 94 dl) (.tail _ (.tail _ (.tail _ (.tail _ (.tail _ (.tail _ (.tail _ (.tail _ (.head _)))))))))).1, rfl, rfl, (N (dl, dictOf es nd) (.tail _ (.tail _ (.tail _ (.tail _ (.tail _ (.tail _ (.tail _ (.tail _ (.tail _ (.head _))))))))))).1⟩ (by k_is) (by k_is) (by k_is) hD.n1 ?_
    dsimp only
    k_extra "steps"
    k_extra "fn"
    have hltC1 : @LT.lt Nat _ it C' := hltC' (it, riO ((ts.length : Int) + 1) (((n + 1 : Nat) : Int) - 1) 1) (.tail _ (.tail _ (.head _)))
    have hw1 : @LT.lt Nat _ C' wa' := hCw'
    have chD : Chain [140, L', row, dl, x, lines, dx, acc, it, C', wa'] := ⟨r0, r1, r2, or1, or2, or3, or4, r5, hltC1, hw1, trivial⟩
    have NC : News g L' _ ((140, tabO pl7) :: (acc, accObj dx (ts.map .ref) na) :: (row, listOf vs7.toArray ep7) :: (it, riO ((ts.length : Int) + 1) (((n + 1 : Nat) : Int) - 1) 1) :: (dx, dictOf (accD w th' (.int head t3)) 1) :: (lines, listOf #[] 0) :: (x, instObj 94 dl) :: (dl, dictOf es nd) :: (wa', genO gs7.size nm' qn') :: (C', oC') :: RR) := News.sub N fun q hq => by
      refine (?_ : ∀ q ∈ (_ : List (Addr × Obj)), q ∈ (_ : List (Addr × Obj))) q hq
      repeat' (first | (with_reducible exact fun _ h => h) | refine sub_cons ?_ ?_ | exact List.Mem.head _ | apply List.Mem.tail | exact sub_nil | (with_reducible exact fun _ h => List.mem_append_left _ h) | refine sub_tail ?_)
    refine chunk_fit_K (lines := lines) (mx := width) (cl := width - other) (hd := head) (sp := " ") (dl := dl) (dn := nd) (k := th') (th := t3) F NC ?x1 ?x2 (Nat.ne_of_gt (ch.lt 0 7 rfl rfl (by decide))) G' hD ?x3 ?x4 ?x5 ?x6 tm7.ok (Nat.lt_of_lt_of_le hdp (by decide)) LA.l4 LA.l3 a1 ?x7 (Int.lt_of_le_of_lt w2 (by decide)) fun t h9 tk9 na9 gs9 pl9 tm9 F N hlt9 gx9 => ?_
    case x1 =>
      refine all_cons ?_ (all_cons ?_ (all_cons ?_ (all_cons ?_ (all_cons ?_ (all_cons ?_ (all_cons ?_ (all_cons ?_ (fun q hq => ?_))))))))
      · exact Nat.ne_of_gt (ch.lt 0 2 rfl rfl (by decide))
      · exact Nat.ne_of_gt (ch.lt 0 8 rfl rfl (by decide))
      · exact Nat.ne_of_gt (ch.lt 0 6 rfl rfl (by decide))
      · exact Nat.ne_of_gt (ch.lt 0 5 rfl rfl (by decide))
      · exact Nat.ne_of_gt (ch.lt 0 4 rfl rfl (by decide))
      · exact Nat.ne_of_gt (ch.lt 0 3 rfl rfl (by decide))
      · exact Nat.ne_of_gt (chD.lt 0 10 rfl rfl (by decide))
      · exact Nat.ne_of_gt (chD.lt 0 9 rfl rfl (by decide))
      · exact hR.a q hq
    case x2 =>
      refine all_cons ?_ (all_cons ?_ (all_cons ?_ (all_cons ?_ (all_cons ?_ (all_cons ?_ (all_cons ?_ (all_cons ?_ (fun q hq => ?_))))))))
      · exact Nat.ne_of_lt (ch.lt 2 7 rfl rfl (by decide))
      · exact Nat.ne_of_gt r5
      · exact Nat.ne_of_lt or4
      · exact Nat.ne_of_lt (ch.lt 5 7 rfl rfl (by decide))
      · exact Nat.ne_of_lt (ch.lt 4 7 rfl rfl (by decide))
      · exact Nat.ne_of_lt (ch.lt 3 7 rfl rfl (by decide))
      · exact Nat.ne_of_gt (chD.lt 7 10 rfl rfl (by decide))
      · exact Nat.ne_of_gt (chD.lt 7 9 rfl rfl (by decide))
      · rcases hR.b q hq with z | z
        · exact Nat.ne_of_lt (Nat.lt_trans z (ch.lt 2 7 rfl rfl (by decide)))
        · exact Nat.ne_of_gt z
    case x3 => exact .tail _ (.tail _ (.tail _ (.tail _ (.head _))))
    case x4 => exact .tail _ (.tail _ (.tail _ (.tail _ (.tail _ (.head _)))))
    case x5 => exact .tail _ (.tail _ (.head _))
    case x6 => exact fun t ht => .tail _ (.tail _ (.tail _ (.tail _ (.tail _ (.tail _ (.tail _ (.tail _ (hR.f t ht).1)))))))
    case x7 =>
      exact LA.m
    have lt9 : ∀ {q : Addr × Obj}, q ∈ (140, tabO pl7) :: (acc, accObj dx (ts.map .ref) na) :: (row, listOf vs7.toArray ep7) :: (it, riO ((ts.length : Int) + 1) (((n + 1 : Nat) : Int) - 1) 1) :: (dx, dictOf (accD w th' (.int head t3)) 1) :: (lines, listOf #[] 0) :: (x, instObj 94 dl) :: (dl, dictOf es nd) :: (wa', genO gs7.size nm' qn') :: (C', oC') :: RR → q.1 < t := fun h => hlt9 _ h
    have lt1 : @LT.lt Nat _ wa' t := lt9 (q := (wa', genO gs7.size nm' qn')) (.tail _ (.tail _ (.tail _ (.tail _ (.tail _ (.tail _ (.tail _ (.tail _ (.head _)))))))))
    have chE : Chain [140, L', row, dl, x, lines, dx, acc, it, C', wa', t] := ⟨r0, r1, r2, or1, or2, or3, or4, r5, hltC1, hw1, lt1, trivial⟩
    k_extra "steps"
    any_goals exact n
    any_goals exact Nat.lt_succ_self _
    rename Fr g L' _ _ => F
    have e1 : (ts ++ [t]).length = ts.length + 1 := by simp
    have e2 : (ts.length : Int) + 1 = ((ts ++ [t]).length : Int) := by rw [e1]; simp
    have e3 : ((n + 1 : Nat) : Int) - 1 = (n : Int) := by omega
    rw [e2, e3] at N
    rw [← e1] at hvs8
    refine ⟨_, _, _, _, ts ++ [t], wa', C', oC', nm', qn', gs7.size, gs8, vs7, ep7, pl9, na9, (t, tupO [.str sl td, .str sw te]) :: (wa', genO gs7.size nm' qn') :: (C', oC') :: RR, rfl, by omega, (htm.trans tm7).trans tm9, hvs8, ⟨F, ⟨rfl, rfl, rfl, ⟨_, rfl⟩, ⟨_, rfl⟩, ⟨_, rfl⟩, rfl, rfl⟩⟩, ?_, gx2.trans gx9, ⟨hsz2, ?_, hfg', hoC'⟩, ?_⟩
    · refine News.sub N fun q hq => ?_
      refine (?_ : ∀ q ∈ (_ : List (Addr × Obj)), q ∈ (_ : List (Addr × Obj))) q hq
      repeat' (first | (with_reducible exact fun _ h => h) | refine sub_cons ?_ ?_ | exact List.Mem.head _ | apply List.Mem.tail | exact sub_nil | (with_reducible exact fun _ h => List.mem_append_left _ h) | refine sub_tail ?_)
    · exact gx9.get (Array.getElem?_push_size ..)
    · have ltR : ∀ q ∈ RR, @LT.lt Nat _ q.1 C' := fun q hq => hltC' q (.tail _ (.tail _ (.tail _ (.tail _ (.tail _ (.tail _ (.tail _ (.tail _ hq))))))))
      refine ⟨fun q hq => ?_, fun q hq => ?_, fun q hq => ?_, .tail _ (.head _), .tail _ (.tail _ (.head _)), fun t' ht' => ?_, fun q hq => .tail _ (.tail _ (.tail _ (hR.g q hq))), (chD.lt 7 9 rfl rfl (by decide)), (chD.lt 7 10 rfl rfl (by decide))⟩
      · rcases List.mem_cons.mp hq with rfl | hq
        · exact Nat.ne_of_gt (chE.lt 0 11 rfl rfl (by decide))
        rcases List.mem_cons.mp hq with rfl | hq
        · exact Nat.ne_of_gt (chD.lt 0 10 rfl rfl (by decide))
        rcases List.mem_cons.mp hq with rfl | hq
        · exact Nat.ne_of_gt (chD.lt 0 9 rfl rfl (by decide))
        · exact hR.a q hq
      · rcases List.mem_cons.mp hq with rfl | hq
        · exact .inr (chE.lt 7 11 rfl rfl (by decide))
        rcases List.mem_cons.mp hq with rfl | hq
        · exact .inr (chD.lt 7 10 rfl rfl (by decide))
        rcases List.mem_cons.mp hq with rfl | hq
        · exact .inr (chD.lt 7 9 rfl rfl (by decide))
        · exact hR.b q hq
      · rcases List.mem_cons.mp hq with rfl | hq
        · exact Nat.ne_of_gt (chE.lt 8 11 rfl rfl (by decide))
        rcases List.mem_cons.mp hq with rfl | hq
        · exact Nat.ne_of_gt (chD.lt 8 10 rfl rfl (by decide))
        rcases List.mem_cons.mp hq with rfl | hq
        · exact Nat.ne_of_gt hltC1
        · exact hR.c q hq
      · rcases List.mem_append.mp ht' with ht | ht
        · obtain ⟨z1, z2, z3⟩ := hR.f t' ht
          exact ⟨.tail _ (.tail _ (.tail _ z1)), Nat.ne_of_lt (ltR _ z1), z3⟩
        · rw [List.mem_singleton.mp ht]
          exact ⟨.head _, Nat.ne_of_gt (chE.lt 9 11 rfl rfl (by decide)), (chE.lt 7 11 rfl rfl (by decide))⟩
end
end Mine
namespace Mine
open PySem PySem.W PySem.Calls PyProof.Rows
local macro_rules | `(tactic| k_all) => `(tactic| assumption)

/-- the names of _law_paid that stay behind the loop. -/
structure PaidN (mp : Str → Option Value) (row x : Addr) (top width other : Int) (sl sw : Str) (td te : Tok) : Prop where
  m1 : mp "row" = some (.ref row)
  m3 : mp "line" = some (.ref x)
  m4 : ∃ t, mp "top" = some (.int top t)
  m5 : ∃ t, mp "width" = some (.int width t)
  m6 : ∃ t, mp "other" = some (.int other t)
  m7 : mp "lead" = some (.str sl td)
  m8 : mp "word" = some (.str sw te)
theorem map7 {mp : Str → Option Value} {x1 x2 x3 x4 x5 x6 x7 : Str} {a1 a2 a3 a4 a5 a6 a7 : Value} (h1 : mp x1 = some a1) (h2 : mp x2 = some a2) (h3 : mp x3 = some a3) (h4 : mp x4 = some a4) (h5 : mp x5 = some a5) (h6 : mp x6 = some a6) (h7 : mp x7 = some a7) :
    mp = fun x => if x = x1 then some a1 else if x = x2 then some a2 else if x = x3 then some a3 else if x = x4 then some a4 else if x = x5 then some a5 else if x = x6 then some a6 else if x = x7 then some a7 else mp x := funext fun x => by
  by_cases q1 : x = x1
  · rw [if_pos q1, q1, h1]
  rw [if_neg q1]
  by_cases q2 : x = x2
  · rw [if_pos q2, q2, h2]
  rw [if_neg q2]
  by_cases q3 : x = x3
  · rw [if_pos q3, q3, h3]
  rw [if_neg q3]
  by_cases q4 : x = x4
  · rw [if_pos q4, q4, h4]
  rw [if_neg q4]
  by_cases q5 : x = x5
  · rw [if_pos q5, q5, h5]
  rw [if_neg q5]
  by_cases q6 : x = x6
  · rw [if_pos q6, q6, h6]
  rw [if_neg q6]
  by_cases q7 : x = x7
  · rw [if_pos q7, q7, h7]
  rw [if_neg q7]

/-- the order in which things were made. -/
structure OrdP (g : Heap) (L L' row dl x lines dx acc : Addr) : Prop where
  gL : g.objs.size ≤ L'
  l0 : @LT.lt Nat _ L L'
  l1 : @LT.lt Nat _ 147 L'
  l2 : @LT.lt Nat _ (L' + 1) row
  l3 : @LT.lt Nat _ row dl
  l4 : @LT.lt Nat _ dl x
  l5 : @LT.lt Nat _ x lines
  l6 : @LT.lt Nat _ lines dx
  l7 : @LT.lt Nat _ dx acc
  nL : L ≠ 140 ∧ L ≠ 147

section
variable {w : World} {A : Around} {dp un : Nat} {fr : Option (List Env)} {gd : Option (List Code)} {s : Shared} {g : Heap} {L L' : Addr} {p : Program} {loose : List Str} {mg mb mp : Str → Option Value} {E : Value → Shared → Prop} {Q : Flow → Shared → Prop}
  {name qual : Str} {params : Arguments} {body : List Stmt} {scope : Scope} {dV kV doc pm cdv ct oc : Value} {an od : Option Addr} {osl : Array (Option Value)}
  {one other head width top : Int} {row acc dx lines x dl : Addr} {th' t3 td te : Tok} {es : List DictEntry} {nd J : Nat} {sl sw : Str} {rest : List (Addr × Obj)} {oL oe : Obj}

theorem tailA {envL : Env} {wa C it : Addr} {oC : Obj} {nm qn : Value} {nw : Nat} {gst : GenState} {vs' : List Value} {ns : List Int} {ep' na : Nat} {pl' : Array Value} {ts : List Addr} {RR : List (Addr × Obj)}
    (hK : (hed.heap_39 w.params).lookup 256 = some ⟨oc, od, .func (fnOf name qual params body scope dV kV doc pm an cdv ct), osl⟩)
    (G' : Gd w p loose mg mb g) (hdp : dp < 610) (hun : un + 20 < 9000) (O : OrdP g L L' row dl x lines dx acc) (o1 : 2 ≤ one) (o2 : one ≤ 7) (o3 : one < other) (o4 : other ≤ 13) (a1 : 0 ≤ head) (a2 : head ≤ 42) (w2 : width ≤ 126) (HW : Hid (head + (other - 1) * one = width)) (WO : WordOk sl sw one)
    (hD : FmtD es width (width - other) " " lines acc) (hL : envL.frame = some L) (kL : envL.scope.kind ≠ .module) (dL : ∃ es ep, oL.data = .dict es ep) (hJ : other - 1 = J) (hts : ts.length = J) (htm : TabMore #[] pl')
    (hrest : ∀ q ∈ rest, @LT.lt Nat _ q.1 L' ∧ q.1 ≠ L ∧ q.1 ≠ 140 ∧ q.1 ≠ 147)
    (F : Fr g L' s.heap mp) (mm : PaidM mp row wa x top width other sl sw td te)
    (N : News g L' s.heap ((row, listOf vs'.toArray ep') :: (140, tabO pl') :: (acc, accObj dx (ts.map .ref) na) :: (dx, dictOf (accD w th' (.int head t3)) 1) :: (lines, listOf #[] 0) :: (x, instObj 94 dl) :: (dl, dictOf es nd) :: RR))
    (hg : s.gens[nw]? = some gst ∧ FreshGen w 77 C gst ∧ NsO oC (fun y => [((Str.ofString "self"), Value.ref x)].reverse.lookup y)) (hR : PaidR RR ((L' + 1, oe) :: (L, oL) :: (147, tabO #[]) :: rest) row acc it ts wa C oC nw nm qn (tupO [.str sl td, .str sw te]))
    (h : ∀ t sl1 h' tk' gs' mp' pl2 ps2 t1 t2 n1 n2, TabMore pl' pl2 → TabMore #[] ps2 → Fr g L' h' mp' → PaidN mp' row x top width other sl sw td te →
      News g L' h' ((140, tabO pl2) :: (147, tabO ps2) :: (lines, listOf #[.str (lineS J (sl ++ sw)) t1] n2) :: (acc, accObj dx [.ref t] n1) :: (dx, dictOf (accD w th' (.int 0 t2)) 1) :: (t, tupO [.str sl td, .str sw te]) :: (row, listOf vs'.toArray ep') :: (x, instObj 94 dl) :: (dl, dictOf es nd) :: (L' + 1, oe) :: (L, { oL with slots := sl1 }) :: rest) → @LT.lt Nat _ acc t →
      GXs [nw] s.gens gs' → wpAny (model pw w) (AR dp un (some [envOfC qual scope L' 256 cdv, envL]) gd) (execs (body.drop 9) (envOfC qual scope L' 256 cdv)) Q E { s with heap := h', toks := tk', gens := gs' }) :
    wpAny (model pw w) (AR dp un (some [envOfC qual scope L' 256 cdv, envL]) gd) (execs (body.drop 8) (envOfC qual scope L' 256 cdv)) Q E s := by
  have hc := hK.symm.trans (show (hed.heap_39 w.params).lookup 256 = some _ from by k_is)
  cases hc
  clear hK
  have X := G'.X
  have T := G'.T
  k_with_none
  k_with "fn" => (
    rename Fr g _ _ _ => F
    rename News g _ _ _ => N)
  k_with "steps" => repeat' (fail_if_success (with_reducible show wpAny _ _ (execs (_ :: _) _) _ _ _)); (fail_if_success (with_reducible show wpAny _ _ (getMethod (Value.ref _) _ _) _ _ _)); (fail_if_success (with_reducible show wpAny _ _ (call (Value.ref _) _) _ _ _)); (first | (k_unfold; (try dsimp only)) | (k_end; kc_close) | walk1 | (dsimp only; walk1) | (leave1; (try dsimp only)) | fail "no step")
  k_with "go" => repeat' (fail_if_success (with_reducible show wpAny _ _ (getMethod (Value.ref _) _ _) _ _ _)); (fail_if_success (with_reducible show wpAny _ _ (call (Value.ref _) _) _ _ _)); (first | (k_unfold; (try dsimp only)) | (k_end; kc_close) | walk1 | (dsimp only; walk1) | (leave1; (try dsimp only)) | fail "no step")
  obtain ⟨m1, m2, m3, ⟨tk4, m4⟩, ⟨tk5, m5⟩, ⟨tk6, m6⟩, m7, m8⟩ := id mm
  rw [map8 m1 m2 m3 m4 m5 m6 m7 m8] at F
  clear mm m1 m2 m3 m4 m5 m6 m7 m8
  show wpAny _ _ (execs (_ :: _) _) _ _ _
  k_extra "go"
  k_extra "fn"
  obtain ⟨gL, l0, l1, l2, l3, l4, l5, l6, l7, nL1, nL2⟩ := O
  obtain ⟨hgst, hfg, hNs⟩ := hg
  have hC := hR.h
  have hwa := hR.i
  have ch : Chain [140, 147, L', L' + 1, row, dl, x, lines, dx, acc, C] := ⟨by decide, l1, Nat.lt_succ_self _, l2, l3, l4, l5, l6, l7, hC, trivial⟩
  have chL : Chain [L, L', L' + 1, row, dl, x, lines, dx, acc, C] := ⟨l0, Nat.lt_succ_self _, l2, l3, l4, l5, l6, l7, hC, trivial⟩
  have chW : Chain [L, L', L' + 1, row, dl, x, lines, dx, acc, wa] := ⟨l0, Nat.lt_succ_self _, l2, l3, l4, l5, l6, l7, hwa, trivial⟩
  have hlw : ((sl.length : Nat) : Int) + (sw.length : Nat) = one := WO.len
  have hbC : ∀ q ∈ [acc, dx, x, dl] ++ ts, @LT.lt Nat _ 140 q ∧ q ≠ C ∧ @LT.lt Nat _ L q := fun q hq => by
    rcases List.mem_append.mp hq with hq | hq
    · simp only [List.mem_cons, List.not_mem_nil, or_false] at hq
      rcases hq with h | h | h | h <;> rw [h]
      · exact ⟨(ch.lt 0 9 rfl rfl (by decide)), Nat.ne_of_lt hC, (chL.lt 0 8 rfl rfl (by decide))⟩
      · exact ⟨(ch.lt 0 8 rfl rfl (by decide)), Nat.ne_of_lt (ch.lt 8 10 rfl rfl (by decide)), (chL.lt 0 7 rfl rfl (by decide))⟩
      · exact ⟨(ch.lt 0 6 rfl rfl (by decide)), Nat.ne_of_lt (ch.lt 6 10 rfl rfl (by decide)), (chL.lt 0 5 rfl rfl (by decide))⟩
      · exact ⟨(ch.lt 0 5 rfl rfl (by decide)), Nat.ne_of_lt (ch.lt 5 10 rfl rfl (by decide)), (chL.lt 0 4 rfl rfl (by decide))⟩
    · obtain ⟨_, h2, h3⟩ := hR.f q hq
      exact ⟨Nat.lt_trans (ch.lt 0 9 rfl rfl (by decide)) h3, h2, Nat.lt_trans (chL.lt 0 8 rfl rfl (by decide)) h3⟩
  have LA := full_ar o1 o2 o3 o4 a1 a2 HW hlw (show other - 1 = ts.length from hts ▸ hJ)
  have hf := LA.hf
  have hr : width - (width - other) = other := ar1 _ _
  have hWk : ∀ B : Around, B.handled = none → B.depth < 800 → Wk w B 100 0 other g C x dl wa nw ([C, 140, acc, dx, x, dl] ++ ts) (100 + 1) s := fun B hB hd => by
    suffices this : Wk w B 100 (width - (head + (ts.length : Int) * ((sl.length : Int) + (sw.length : Int)))) (width - (width - other)) g C x dl wa nw ([C, 140, acc, dx, x, dl] ++ ts) (100 + 1) s by rwa [hf, hr] at this
    refine' wk_fresh (D := 0) (m := fun _ => none) (s := s) N (.tail _ (.head _)) (fun q hq => Nat.ne_of_gt (hbC q hq).1) G' (fun _ _ e => e) F.keep ?z1 hfg hgst ?z2 ?z3 hNs ?z4 hD ?z5 ?z6 ?z7 ?z8 ?z9 htm.ok ?z10 ?z11 ?z12 ?z13 B hB hd
    case z1 => exact Nat.le_trans gL (Nat.le_of_lt (ch.lt 2 10 rfl rfl (by decide)))
    case z2 => exact .tail _ (.tail _ (.tail _ (.tail _ (.tail _ (.tail _ (.tail _ hR.d))))))
    case z3 => exact .tail _ (.tail _ (.tail _ (.tail _ (.tail _ (.tail _ (.tail _ hR.e))))))
    case z4 =>
      intro q hq
      rcases List.mem_cons.mp hq with h | hq
      · rw [h]; exact Nat.ne_of_lt (ch.lt 0 10 rfl rfl (by decide))
      · exact (hbC q hq).2.1
    case z5 => exact .tail _ (.tail _ (.tail _ (.tail _ (.tail _ (.head _)))))
    case z6 => exact .tail _ (.tail _ (.tail _ (.tail _ (.tail _ (.tail _ (.head _))))))
    case z7 => exact .tail _ (.tail _ (.head _))
    case z8 => exact .tail _ (.tail _ (.tail _ (.head _)))
    case z9 => exact fun t ht => .tail _ (.tail _ (.tail _ (.tail _ (.tail _ (.tail _ (.tail _ (hR.f t ht).1))))))
    case z10 => exact LA.l1
    case z11 => exact LA.l2
    case z12 => exact LA.s0
    case z13 => exact LA.s1
  obtain ⟨RF, hRF⟩ : ∃ RF, RF = RR.filter fun q => decide (q.1 ≠ L) := ⟨_, rfl⟩
  have inF : ∀ {q : Addr × Obj}, q ∈ RR → q.1 ≠ L → q ∈ RF := fun h1 h2 => by rw [hRF]; exact List.mem_filter.mpr ⟨h1, decide_eq_true h2⟩
  have outF : ∀ {q : Addr × Obj}, q ∈ RF → q ∈ RR ∧ q.1 ≠ L := fun h1 => by
    rw [hRF] at h1
    exact ⟨(List.mem_filter.mp h1).1, of_decide_eq_true (List.mem_filter.mp h1).2⟩
  clear hRF
  have NL : News g L' s.heap ((L, oL) :: (140, tabO pl') :: (row, listOf vs'.toArray ep') :: (acc, accObj dx (ts.map .ref) na) :: (dx, dictOf (accD w th' (.int head t3)) 1) :: (lines, listOf #[] 0) :: (x, instObj 94 dl) :: (dl, dictOf es nd) :: RF) := News.sub N fun q hq => by
    simp only [List.mem_cons] at hq ⊢
    rcases hq with h | h | h | h | h | h | h | h | h
    · rw [h]; simp only [hR.g (L, oL) (.tail _ (.head _)), or_true]
    all_goals first | simp only [h, true_or, or_true] | simp only [(outF h).1, or_true]
  refine refused_K (M := 100) (r := other) (C := C) (oC := oC) (nm := nm) (qn := qn) (B0 := g) F NL ?y1 ?y2 htm.ok G' G' (fun _ _ e => e) ?y3 ?y4 ?y5 ?y6 hWk (Nat.lt_of_lt_of_le hdp (by decide)) rfl (by show ScopeKind.function ≠ ScopeKind.module; decide) hL kL dL fun h7 tk7 gs7 pl7 sl7 tm7 F N gx7 => ?_
  case y1 =>
    refine all_cons ?_ (all_cons ?_ (all_cons ?_ (all_cons ?_ (all_cons ?_ (all_cons ?_ (fun q hq => ?_))))))
    · exact Nat.ne_of_gt (ch.lt 0 4 rfl rfl (by decide))
    · exact Nat.ne_of_gt (ch.lt 0 9 rfl rfl (by decide))
    · exact Nat.ne_of_gt (ch.lt 0 8 rfl rfl (by decide))
    · exact Nat.ne_of_gt (ch.lt 0 7 rfl rfl (by decide))
    · exact Nat.ne_of_gt (ch.lt 0 6 rfl rfl (by decide))
    · exact Nat.ne_of_gt (ch.lt 0 5 rfl rfl (by decide))
    · exact hR.a q (outF hq).1
  case y2 =>
    refine all_cons ?_ (all_cons ?_ (all_cons ?_ (all_cons ?_ (all_cons ?_ (all_cons ?_ (all_cons ?_ (fun q hq => ?_)))))))
    · exact Ne.symm nL1
    · exact Nat.ne_of_gt (chL.lt 0 3 rfl rfl (by decide))
    · exact Nat.ne_of_gt (chL.lt 0 8 rfl rfl (by decide))
    · exact Nat.ne_of_gt (chL.lt 0 7 rfl rfl (by decide))
    · exact Nat.ne_of_gt (chL.lt 0 6 rfl rfl (by decide))
    · exact Nat.ne_of_gt (chL.lt 0 5 rfl rfl (by decide))
    · exact Nat.ne_of_gt (chL.lt 0 4 rfl rfl (by decide))
    · exact (outF hq).2
  case y3 => exact Nat.le_trans gL (Nat.le_of_lt (ch.lt 2 10 rfl rfl (by decide)))
  case y4 => exact .tail _ (.tail _ (.tail _ (.tail _ (.tail _ (.tail _ (inF hR.d (Nat.ne_of_gt (chW.lt 0 9 rfl rfl (by decide)))))))))
  case y5 => exact .tail _ (.tail _ (.tail _ (.tail _ (.tail _ (.tail _ (inF hR.e (Nat.ne_of_gt (chL.lt 0 9 rfl rfl (by decide)))))))))
  case y6 =>
    intro b hb
    simp only [List.mem_cons, List.mem_append, List.not_mem_nil, or_false] at hb
    have q3 : ∃ o, (acc, o) ∈ (140, tabO pl') :: (row, listOf vs'.toArray ep') :: (acc, accObj dx (ts.map .ref) na) :: (dx, dictOf (accD w th' (.int head t3)) 1) :: (lines, listOf #[] 0) :: (x, instObj 94 dl) :: (dl, dictOf es nd) :: RF := ⟨_, .tail _ (.tail _ (.head _))⟩
    have q4 : ∃ o, (dx, o) ∈ (140, tabO pl') :: (row, listOf vs'.toArray ep') :: (acc, accObj dx (ts.map .ref) na) :: (dx, dictOf (accD w th' (.int head t3)) 1) :: (lines, listOf #[] 0) :: (x, instObj 94 dl) :: (dl, dictOf es nd) :: RF := ⟨_, .tail _ (.tail _ (.tail _ (.head _)))⟩
    have q6 : ∃ o, (x, o) ∈ (140, tabO pl') :: (row, listOf vs'.toArray ep') :: (acc, accObj dx (ts.map .ref) na) :: (dx, dictOf (accD w th' (.int head t3)) 1) :: (lines, listOf #[] 0) :: (x, instObj 94 dl) :: (dl, dictOf es nd) :: RF := ⟨_, .tail _ (.tail _ (.tail _ (.tail _ (.tail _ (.head _)))))⟩
    have q7 : ∃ o, (dl, o) ∈ (140, tabO pl') :: (row, listOf vs'.toArray ep') :: (acc, accObj dx (ts.map .ref) na) :: (dx, dictOf (accD w th' (.int head t3)) 1) :: (lines, listOf #[] 0) :: (x, instObj 94 dl) :: (dl, dictOf es nd) :: RF := ⟨_, .tail _ (.tail _ (.tail _ (.tail _ (.tail _ (.tail _ (.head _))))))⟩
    rcases hb with h | h | (h | h | h | h | h | h) | h
    · rw [h]; exact q6
    · rw [h]; exact q7
    · rw [h]; exact ⟨_, .tail _ (.tail _ (.tail _ (.tail _ (.tail _ (.tail _ (.tail _ (inF hR.e (Nat.ne_of_gt (chL.lt 0 9 rfl rfl (by decide))))))))))⟩
    · rw [h]; exact ⟨_, .head _⟩
    · rw [h]; exact q3
    · rw [h]; exact q4
    · rw [h]; exact q6
    · rw [h]; exact q7
    · exact ⟨_, .tail _ (.tail _ (.tail _ (.tail _ (.tail _ (.tail _ (.tail _ (inF (hR.f b h).1 (Nat.ne_of_gt (hbC b (List.mem_append_right _ h)).2.2))))))))⟩
  clear hWk NL
  k_extra "steps"
  k_extra "fn"
  refine method_inst (f := 91) F X ⟨(N (x, instObj 94 dl) (.tail _ (.tail _ (.tail _ (.tail _ (.tail _ (.tail _ (.head _)))))))).1, rfl, rfl, (N (dl, dictOf es nd) (.tail _ (.tail _ (.tail _ (.tail _ (.tail _ (.tail _ (.tail _ (.head _))))))))).1⟩ (by k_is) (by k_is) (by k_is) hD.n1 ?_
  dsimp only
  k_extra "steps"
  k_extra "fn"
  have NC : News g L' _ ((140, tabO pl7) :: (147, tabO #[]) :: (lines, listOf #[] 0) :: (acc, accObj dx (ts.map .ref) na) :: (dx, dictOf (accD w th' (.int head t3)) 1) :: (row, listOf vs'.toArray ep') :: (x, instObj 94 dl) :: (dl, dictOf es nd) :: (L' + 1, oe) :: (L, { oL with slots := sl7 }) :: (rest ++ ts.map fun t => (t, tupO [.str sl td, .str sw te]))) := News.sub N fun q hq => by
    simp only [List.mem_cons, List.mem_append, List.mem_map] at hq ⊢
    rcases hq with h | h | h | h | h | h | h | h | h | h | h | ⟨t, h, rfl⟩
    · simp only [h, true_or, or_true]
    · rw [h]; simp only [inF (hR.g (147, tabO #[]) (.tail _ (.tail _ (.head _)))) (Ne.symm nL2), or_true]
    · simp only [h, true_or, or_true]
    · simp only [h, true_or, or_true]
    · simp only [h, true_or, or_true]
    · simp only [h, true_or, or_true]
    · simp only [h, true_or, or_true]
    · simp only [h, true_or, or_true]
    · rw [h]; simp only [inF (hR.g (L' + 1, oe) (.head _)) (Nat.ne_of_gt (chL.lt 0 2 rfl rfl (by decide))), or_true]
    · simp only [h, true_or, or_true]
    · simp only [inF (hR.g q (.tail _ (.tail _ (.tail _ h)))) (hrest q h).2.1, or_true]
    · simp only [inF (hR.f t h).1 (Nat.ne_of_gt (hbC t (List.mem_append_right _ h)).2.2), or_true]
  refine chunk_over_K (mx := width) (cl := width - other) (hd := head) (dl := dl) (dn := nd) (k := th') (th := t3) hun F NC ?x1 (ch.lt 1 7 rfl rfl (by decide)) l6 l7 G' hD ?x3 ?x4 ?x6 tm7.ok True.intro (Nat.lt_of_lt_of_le hdp (by decide)) LA.n1 LA.n2 LA.n3 LA.n4 a1 ?x7 (Int.lt_of_le_of_lt w2 (by decide)) WO.head fun t h9 tk9 na9 n29 gs9 pl9 ps9 t19 t29 tm9 tp9 F N hlt9 gx9 => ?_
  case x1 =>
    intro q hq
    simp only [List.mem_cons, List.mem_append, List.mem_map] at hq
    have big : ∀ b : Addr, @LT.lt Nat _ acc b → b ≠ 140 ∧ b ≠ 147 ∧ b ≠ lines ∧ b ≠ acc ∧ b ≠ dx := fun b hb => ⟨Nat.ne_of_gt (Nat.lt_trans (ch.lt 0 9 rfl rfl (by decide)) hb), Nat.ne_of_gt (Nat.lt_trans (ch.lt 1 9 rfl rfl (by decide)) hb), Nat.ne_of_gt (Nat.lt_trans (ch.lt 7 9 rfl rfl (by decide)) hb), Nat.ne_of_gt hb, Nat.ne_of_gt (Nat.lt_trans l7 hb)⟩
    have mid : ∀ b : Addr, @LT.lt Nat _ 147 b → @LT.lt Nat _ b lines → b ≠ 140 ∧ b ≠ 147 ∧ b ≠ lines ∧ b ≠ acc ∧ b ≠ dx := fun b hb hc => ⟨Nat.ne_of_gt (Nat.lt_trans (by decide) hb), Nat.ne_of_gt hb, Nat.ne_of_lt hc, Nat.ne_of_lt (Nat.lt_trans hc (ch.lt 7 9 rfl rfl (by decide))), Nat.ne_of_lt (Nat.lt_trans hc l6)⟩
    rcases hq with h | h | h | h | h | h | ⟨t, h, rfl⟩
    · rw [h]; exact mid row (ch.lt 1 4 rfl rfl (by decide)) (ch.lt 4 7 rfl rfl (by decide))
    · rw [h]; exact mid x (ch.lt 1 6 rfl rfl (by decide)) l5
    · rw [h]; exact mid dl (ch.lt 1 5 rfl rfl (by decide)) (ch.lt 5 7 rfl rfl (by decide))
    · rw [h]; exact mid (L' + 1) (ch.lt 1 3 rfl rfl (by decide)) (ch.lt 3 7 rfl rfl (by decide))
    · rw [h]; exact ⟨nL1, nL2, Nat.ne_of_lt (chL.lt 0 6 rfl rfl (by decide)), Nat.ne_of_lt (chL.lt 0 8 rfl rfl (by decide)), Nat.ne_of_lt (chL.lt 0 7 rfl rfl (by decide))⟩
    · obtain ⟨z1, z2, z3, z4⟩ := hrest q h
      exact ⟨z3, z4, Nat.ne_of_lt (Nat.lt_trans z1 (ch.lt 2 7 rfl rfl (by decide))), Nat.ne_of_lt (Nat.lt_trans z1 (ch.lt 2 9 rfl rfl (by decide))), Nat.ne_of_lt (Nat.lt_trans z1 (ch.lt 2 8 rfl rfl (by decide)))⟩
    · exact big t (hR.f t h).2.2
  case x3 => exact .tail _ (.head _)
  case x4 => exact .tail _ (.tail _ (.head _))
  case x6 => exact fun t ht => .tail _ (.tail _ (.tail _ (.tail _ (.tail _ (List.mem_append_right _ (List.mem_map.mpr ⟨t, ht, rfl⟩))))))
  case x7 => exact LA.m
  clear NC
  k_extra "steps"
  rename Fr g L' _ _ => F
  rw [hts] at N
  dsimp only
  refine h t sl7 h9 _ gs9 _ pl9 ps9 t19 t29 na9 n29 (tm7.trans tm9) tp9 F ⟨rfl, rfl, ⟨_, rfl⟩, ⟨_, rfl⟩, ⟨_, rfl⟩, rfl, rfl⟩ (News.sub N fun q hq => ?_) (hlt9 (acc, _) (.head _)) (gx7.trans gx9.s)
  refine (?_ : ∀ q ∈ (_ : List (Addr × Obj)), q ∈ (_ : List (Addr × Obj))) q hq
  repeat' (first | (with_reducible exact fun _ h => h) | refine sub_cons ?_ ?_ | exact List.Mem.head _ | apply List.Mem.tail | exact sub_nil | (with_reducible exact fun _ h => List.mem_append_left _ h) | refine sub_tail ?_)
end
end Mine
namespace Mine
open PySem PySem.W PySem.Calls PyProof.Rows

section
variable {w : World} {dp un : Nat} {fr : Option (List Env)} {gd : Option (List Code)} {s : Shared} {g : Heap} {L' : Addr} {m : Str → Option Value} {p : Program} {loose : List Str} {mg mb : Str → Option Value} {E : Value → Shared → Prop} {Q : Value → Shared → Prop}

/-- the front of a fresh walk upon a line as it stands. -/
theorem frontW {a dx ln dl lines wa C : Addr} {oC : Obj} {mx cl hd f r : Int} {sp sl sw : Str} {tl tw k th tc : Tok} {ts : List Addr} {n dn cnt nw : Nat} {es : List DictEntry} {pl : Array Value} {gs : GenState} {rest : List (Addr × Obj)} {nm qn : Value}
    (hcl : mx - cl = r) (hf : mx - (hd + ts.length * (sl.length + sw.length)) = f) (h0 : 0 ≤ hd + ts.length * (sl.length + sw.length)) (h63 : hd + ts.length * (sl.length + sw.length) < 2 ^ 63) (hf0 : f ≠ 0) (hsl : ¬ (sl.length : Int) ≥ 2 ^ 63) (hsw : ¬ (sw.length : Int) ≥ 2 ^ 63)
    (F : Fr g L' s.heap m) (N : News g L' s.heap ((140, tabO pl) :: rest)) (hr : ∀ q ∈ rest, q.1 ≠ 140) (htr : TriplesOk pl.toList) (G : Gd w p loose mg mb g) (hgC : g.objs.size ≤ C) (hlt : ∀ q ∈ [140, a, dx, ln, dl] ++ ts, @LT.lt Nat _ q C)
    (hwa : (wa, genO nw nm qn) ∈ rest) (hoC : (C, oC) ∈ rest) (hfg : FreshGen w 77 C gs) (hgs : s.gens[nw]? = some gs) (hNs : NsO oC (fun y => [((Str.ofString "self"), Value.ref ln)].reverse.lookup y))
    (hD : FmtD es mx cl sp lines a) (hi : (ln, instObj 94 dl) ∈ rest) (hdl : (dl, dictOf es dn) ∈ rest) (hacc : (a, accObj dx (ts.map .ref) n) ∈ rest) (hdx : (dx, dictOf (accD w k (.int hd th)) 1) ∈ rest) (hts : ∀ t ∈ ts, (t, tupO [.str sl tl, .str sw tw]) ∈ rest)
    (hdp : dp < 650) (hcnt : 1 < cnt) (hcM : cnt ≤ 100)
    (h : ∀ l h' tk' gs' pl' vs' ep', TabMore pl pl' → Fr g L' h' m → News g L' h' ((l, listOf vs'.toArray ep') :: (140, tabO pl') :: rest) → (∀ q ∈ (140, tabO pl) :: rest, q.1 < l) → IntsAre vs' (frontL f r cnt) → GXs [nw] s.gens gs' → Q (.ref l) { s with heap := h', toks := tk', gens := gs' }) :
    wpAny (model pw w) (AR dp un fr gd) (call (.ref 237) [.ref wa, .int cnt tc]) Q E s := by
  refine front_K (M := 100) (f := f) (r := r) (C := C) (ln := ln) (dl := dl) (keep := [C, 140, a, dx, ln, dl] ++ ts) (B0 := g) F N hr htr G G (fun _ _ e => e) hgC hwa hoC ?_ ?_ hdp hf0 (by decide) (by decide) hcnt hcM h
  · intro b hb
    simp only [List.mem_cons, List.mem_append, List.not_mem_nil, or_false] at hb
    rcases hb with h | h | (h | h | h | h | h | h) | h
    · rw [h]; exact ⟨_, .tail _ hi⟩
    · rw [h]; exact ⟨_, .tail _ hdl⟩
    · rw [h]; exact ⟨_, .tail _ hoC⟩
    · rw [h]; exact ⟨_, .head _⟩
    · rw [h]; exact ⟨_, .tail _ hacc⟩
    · rw [h]; exact ⟨_, .tail _ hdx⟩
    · rw [h]; exact ⟨_, .tail _ hi⟩
    · rw [h]; exact ⟨_, .tail _ hdl⟩
    · exact ⟨_, .tail _ (hts b h)⟩
  · intro B hB hd'
    suffices this : Wk w B 100 (mx - (hd + ts.length * (sl.length + sw.length))) (mx - cl) g C ln dl wa nw ([C, 140, a, dx, ln, dl] ++ ts) (100 + 1) s by rwa [hf, hcl] at this
    refine wk_fresh (D := 0) (m := m) N (.head _) (fun q hq => ?_) G (fun _ _ e => e) F.keep hgC hfg hgs (.tail _ hwa) (.tail _ hoC) hNs (fun q hq => Nat.ne_of_lt (hlt q hq)) hD (.tail _ hi) (.tail _ hdl) (.tail _ hacc) (.tail _ hdx) (fun t ht => .tail _ (hts t ht)) htr hsl hsw h0 h63 B hB hd'
    rcases List.mem_append.mp hq with hq | hq
    · simp only [List.mem_cons, List.not_mem_nil, or_false] at hq
      rcases hq with h | h | h | h <;> rw [h]
      · exact hr _ hacc
      · exact hr _ hdx
      · exact hr _ hi
      · exact hr _ hdl
    · exact hr _ (hts q hq)
end
end Mine
namespace Mine
open PySem PySem.W PySem.Calls PyProof.Rows
local macro_rules | `(tactic| k_all) => `(tactic| assumption)

/-- what is laid aside while the tail of _law_paid runs: neither the tables nor what was made since. -/
structure RestP (L L' : Addr) (rest : List (Addr × Obj)) : Prop where
  a : ∀ q ∈ rest, @LT.lt Nat _ q.1 L' ∧ q.1 ≠ L ∧ q.1 ≠ 140 ∧ q.1 ≠ 147

section
variable {w : World} {A : Around} {dp un : Nat} {fr : Option (List Env)} {gd : Option (List Code)} {s : Shared} {g : Heap} {L L' : Addr} {p : Program} {loose : List Str} {mg mb mp : Str → Option Value} {E : Value → Shared → Prop} {Q : Flow → Shared → Prop}
  {name qual : Str} {params : Arguments} {body : List Stmt} {scope : Scope} {dV kV doc pm cdv ct oc : Value} {an od : Option Addr} {osl : Array (Option Value)}
  {one other head width top : Int} {row acc dx lines x dl : Addr} {th' t3 td te t1 : Tok} {es : List DictEntry} {nd J : Nat} {sl sw : Str} {rest : List (Addr × Obj)} {oL oe : Obj}


theorem tailB {envL : Env} {vs : List Value} {ep na nl : Nat} {pl ps : Array Value} {ll : Str} {tk0 t2 : Tok} {t : Addr}
    (hK : (hed.heap_39 w.params).lookup 256 = some ⟨oc, od, .func (fnOf name qual params body scope dV kV doc pm an cdv ct), osl⟩)
    (G' : Gd w p loose mg mb g) (hdp : dp < 610) (hun : un + 35 < 9000) (O : OrdP g L L' row dl x lines dx acc) (o1 : 2 ≤ one) (o2 : one ≤ 7) (o3 : one < other) (o4 : other ≤ 13) (w1 : other ≤ width) (w2 : width ≤ 126) (WO : WordOk sl sw one)
    (hD : FmtD es width (width - other) " " lines acc) (hrest : RestP L L' rest) (dc : oe.data = .cell (some (.int one t1))) (mm : PaidN mp row x top width other sl sw td te) (F : Fr g L' s.heap mp)
    (N : News g L' s.heap ((140, tabO pl) :: (147, tabO ps) :: (lines, listOf #[.str ll tk0] nl) :: (acc, accObj dx [.ref t] na) :: (dx, dictOf (accD w th' (.int 0 t2)) 1) :: (t, tupO [.str sl td, .str sw te]) :: (row, listOf vs.toArray ep) :: (x, instObj 94 dl) :: (dl, dictOf es nd) :: (L' + 1, oe) :: (L, oL) :: rest)) (ha : @LT.lt Nat _ acc t) (htr : TriplesOk pl.toList)
    (h : ∀ h' tk' gs' mp' pl2, TabMore pl pl2 → Fr g L' h' mp' → PaidN mp' row x top width other sl sw td te →
      News g L' h' ((140, tabO pl2) :: (147, tabO ps) :: (lines, listOf #[.str ll tk0] nl) :: (acc, accObj dx [.ref t] na) :: (dx, dictOf (accD w th' (.int 0 t2)) 1) :: (t, tupO [.str sl td, .str sw te]) :: (row, listOf vs.toArray ep) :: (x, instObj 94 dl) :: (dl, dictOf es nd) :: (L' + 1, oe) :: (L, oL) :: rest) → GX s.gens gs' →
      wpAny (model pw w) (AR dp un (some [envOfC qual scope L' 256 cdv, envL]) gd) (execs (body.drop 10) (envOfC qual scope L' 256 cdv)) Q E { s with heap := h', toks := tk', gens := gs' }) :
    wpAny (model pw w) (AR dp un (some [envOfC qual scope L' 256 cdv, envL]) gd) (execs (body.drop 9) (envOfC qual scope L' 256 cdv)) Q E s := by
  have hc := hK.symm.trans (show (hed.heap_39 w.params).lookup 256 = some _ from by k_is)
  cases hc
  clear hK
  have X := G'.X
  have T := G'.T
  k_with_none
  k_with "fn" => (
    rename Fr g _ _ _ => F
    rename News g _ _ _ => N)
  k_with "steps" => repeat' (fail_if_success (with_reducible show wpAny _ _ (execs (_ :: _) _) _ _ _)); (fail_if_success (with_reducible show wpAny _ _ (getMethod (Value.ref _) _ _) _ _ _)); (fail_if_success (with_reducible show wpAny _ _ (call (Value.ref _) _) _ _ _)); (first | (k_unfold; (try dsimp only)) | (k_end; kc_close) | walk1 | (dsimp only; walk1) | (leave1; (try dsimp only)) | fail "no step")
  k_with "go" => repeat' (fail_if_success (with_reducible show wpAny _ _ (getMethod (Value.ref _) _ _) _ _ _)); (fail_if_success (with_reducible show wpAny _ _ (call (Value.ref _) _) _ _ _)); (first | (k_unfold; (try dsimp only)) | (k_end; kc_close) | walk1 | (dsimp only; walk1) | (leave1; (try dsimp only)) | fail "no step")
  obtain ⟨gL, l0, l1, l2, l3, l4, l5, l6, l7, nL1, nL2⟩ := O
  obtain ⟨m1, m3, ⟨tk4, m4⟩, ⟨tk5, m5⟩, ⟨tk6, m6⟩, m7, m8⟩ := id mm
  rw [map7 m1 m3 m4 m5 m6 m7 m8] at F
  clear mm m1 m3 m4 m5 m6 m7 m8
  show wpAny _ _ (execs (_ :: _) _) _ _ _
  k_extra "go"
  k_extra "fn"
  refine method_inst (f := 77) F X ⟨(N (x, instObj 94 dl) (by repeat (first | exact List.Mem.head _ | apply List.Mem.tail))).1, rfl, rfl, (N (dl, dictOf es nd) (by repeat (first | exact List.Mem.head _ | apply List.Mem.tail))).1⟩ (by k_is) (by k_is) (by k_is) hD.n3 ?_
  dsimp only
  k_extra "steps"
  k_extra "fn"
  refine max_make_K F N G' (Nat.lt_of_lt_of_le hdp (by decide)) fun wa C oC nm qn h1 tk1 gs F N hoC hCw hltC hfg => ?_
  have hC : @LT.lt Nat _ t C := hltC (t, tupO [.str sl td, .str sw te]) (by repeat (first | exact List.Mem.head _ | apply List.Mem.tail))
  have hw : @LT.lt Nat _ C wa := hCw
  have ch : Chain [140, 147, L', L' + 1, row, dl, x, lines, dx, acc, t, C, wa] := ⟨by decide, l1, Nat.lt_succ_self _, l2, l3, l4, l5, l6, l7, ha, hC, hw, trivial⟩
  k_extra "steps"
  k_extra "fn"
  have hlw : ((sl.length : Nat) : Int) + (sw.length : Nat) = one := WO.len
  have NF : News g L' h1 ((140, tabO pl) :: (wa, genO s.gens.size nm qn) :: (C, oC) :: (147, tabO ps) :: (lines, listOf #[.str ll tk0] nl) :: (acc, accObj dx [.ref t] na) :: (dx, dictOf (accD w th' (.int 0 t2)) 1) :: (t, tupO [.str sl td, .str sw te]) :: (row, listOf vs.toArray ep) :: (x, instObj 94 dl) :: (dl, dictOf es nd) :: (L' + 1, oe) :: (L, oL) :: rest) := News.sub N fun q hq => by
    refine (?_ : ∀ q ∈ (_ : List (Addr × Obj)), q ∈ (_ : List (Addr × Obj))) q hq
    repeat' (first | (with_reducible exact fun _ h => h) | refine sub_cons ?_ ?_ | exact List.Mem.head _ | apply List.Mem.tail | exact sub_nil | refine sub_tail ?_)
  refine frontW (cnt := 3) (a := acc) (dx := dx) (ln := x) (dl := dl) (lines := lines) (C := C) (oC := oC) (nm := nm) (qn := qn) (mx := width) (cl := width - other) (hd := 0) (f := width - one) (r := other) (sl := sl) (sw := sw) (tl := td) (tw := te) (ts := [t]) (k := th') (th := t2) (n := na) (dn := nd) (es := es) (sp := " ") (ar1 _ _) ?f1 ?f2 ?f3 (ar5 o3 w1) ?f4 ?f5 F NF ?f6 htr G' ?f7 ?f8 ?g1 ?g2 hfg (Array.getElem?_push_size ..) hoC hD ?g3 ?g4 ?g5 ?g6 ?g7 (Nat.lt_of_lt_of_le hdp (by decide)) (by decide) (by decide) fun l h2 tk2 gs2 pl2 vs2 ep2 tm2 F N hl2 hi2 gx2 => ?_
  case f1 => exact ar2 hlw _ rfl
  case f2 => exact ar3 hlw _ rfl o1
  case f3 => exact ar4 hlw _ rfl o2
  case f4 => exact (ar6 hlw o2).1
  case f5 => exact (ar6 hlw o2).2
  case f6 =>
    refine all_cons ?_ (all_cons ?_ (all_cons ?_ (all_cons ?_ (all_cons ?_ (all_cons ?_ (all_cons ?_ (all_cons ?_ (all_cons ?_ (all_cons ?_ (all_cons ?_ (all_cons ?_ (fun q hq => ?_))))))))))))
    · exact Nat.ne_of_gt (ch.lt 0 12 rfl rfl (by decide))
    · exact Nat.ne_of_gt (ch.lt 0 11 rfl rfl (by decide))
    · exact (show (147 : Nat) ≠ 140 by decide)
    · exact Nat.ne_of_gt (ch.lt 0 7 rfl rfl (by decide))
    · exact Nat.ne_of_gt (ch.lt 0 9 rfl rfl (by decide))
    · exact Nat.ne_of_gt (ch.lt 0 8 rfl rfl (by decide))
    · exact Nat.ne_of_gt (ch.lt 0 10 rfl rfl (by decide))
    · exact Nat.ne_of_gt (ch.lt 0 4 rfl rfl (by decide))
    · exact Nat.ne_of_gt (ch.lt 0 6 rfl rfl (by decide))
    · exact Nat.ne_of_gt (ch.lt 0 5 rfl rfl (by decide))
    · exact Nat.ne_of_gt (ch.lt 0 3 rfl rfl (by decide))
    · exact nL1
    · exact (hrest.a q hq).2.2.1
  case f7 => exact Nat.le_trans gL (Nat.le_of_lt (ch.lt 2 11 rfl rfl (by decide)))
  case f8 =>
    exact all_cons (ch.lt 0 11 rfl rfl (by decide)) (all_cons (ch.lt 9 11 rfl rfl (by decide)) (all_cons (ch.lt 8 11 rfl rfl (by decide)) (all_cons (ch.lt 6 11 rfl rfl (by decide)) (all_cons (ch.lt 5 11 rfl rfl (by decide)) (all_cons (ch.lt 10 11 rfl rfl (by decide)) all_nil)))))
  case g1 => exact .head _
  case g2 => exact .tail _ (.head _)
  case g3 => repeat (first | exact List.Mem.head _ | apply List.Mem.tail)
  case g4 => repeat (first | exact List.Mem.head _ | apply List.Mem.tail)
  case g5 => repeat (first | exact List.Mem.head _ | apply List.Mem.tail)
  case g6 => repeat (first | exact List.Mem.head _ | apply List.Mem.tail)
  case g7 =>
    intro t' ht'
    rw [List.mem_singleton.mp ht']
    repeat (first | exact List.Mem.head _ | apply List.Mem.tail)
  have efr : frontL (width - one) other 3 = [width - one, other, other] := front3 (ar7 w2 o1) (ar12 o4) (ar13 o1 o3).2
  rw [efr] at hi2
  have gx3 : GX s.gens gs2 := (GX.pushed hfg.bare).thenS gx2 (Nat.le_refl _)
  clear NF gx2 hoC hltC hfg
  k_extra "steps"
  k_extra "fn"
  rename Fr g L' _ _ => F
  dsimp only
  refine h _ _ gs2 _ pl2 tm2 F ⟨rfl, rfl, ⟨_, rfl⟩, ⟨_, rfl⟩, ⟨_, rfl⟩, rfl, rfl⟩ (News.sub N fun q hq => ?_) gx3
  refine (?_ : ∀ q ∈ (_ : List (Addr × Obj)), q ∈ (_ : List (Addr × Obj))) q hq
  repeat' (first | (with_reducible exact fun _ h => h) | refine sub_cons ?_ ?_ | exact List.Mem.head _ | apply List.Mem.tail | exact sub_nil | refine sub_tail ?_)
end
end Mine
namespace Mine
open PySem PySem.W PySem.Calls PyProof.Rows
local macro_rules | `(tactic| k_all) => `(tactic| assumption)

section
variable {w : World} {A : Around} {dp un : Nat} {fr : Option (List Env)} {gd : Option (List Code)} {s : Shared} {g : Heap} {L L' : Addr} {p : Program} {loose : List Str} {mg mb mp : Str → Option Value} {E : Value → Shared → Prop} {Q : Flow → Shared → Prop}
  {name qual : Str} {params : Arguments} {body : List Stmt} {scope : Scope} {dV kV doc pm cdv ct oc : Value} {an od : Option Addr} {osl : Array (Option Value)}
  {one other head width top : Int} {row acc dx lines x dl : Addr} {th' t3 td te t1 : Tok} {es : List DictEntry} {nd J : Nat} {sl sw : Str} {rest : List (Addr × Obj)} {oL oe : Obj}


theorem lineS_length (x : Str) : ∀ n, (lineS n x).length = n * x.length
  | 0 => by rw [Nat.zero_mul]; rfl
  | n + 1 => by
    show (x ++ lineS n x).length = _
    rw [Str.length_append, lineS_length x n, Nat.succ_mul, Nat.add_comm]

theorem tailC {envL : Env} {vs : List Value} {ep na nl : Nat} {pl ps : Array Value} {tk0 t2 : Tok} {t : Addr}
    (hK : (hed.heap_39 w.params).lookup 256 = some ⟨oc, od, .func (fnOf name qual params body scope dV kV doc pm an cdv ct), osl⟩)
    (G' : Gd w p loose mg mb g) (hdp : dp < 610) (hun : un + 35 < 9000) (O : OrdP g L L' row dl x lines dx acc) (o1 : 2 ≤ one) (o2 : one ≤ 7) (o3 : one < other) (o4 : other ≤ 13) (w1 : other ≤ width) (w2 : width ≤ 126) (WO : WordOk sl sw one)
    (hD : FmtD es width (width - other) " " lines acc) (hrest : RestP L L' rest) (dc : oe.data = .cell (some (.int one t1))) (mm : PaidN mp row x top width other sl sw td te) (F : Fr g L' s.heap mp)
    (N : News g L' s.heap ((140, tabO pl) :: (147, tabO ps) :: (lines, listOf #[.str (lineS J (sl ++ sw)) tk0] nl) :: (acc, accObj dx [.ref t] na) :: (dx, dictOf (accD w th' (.int 0 t2)) 1) :: (t, tupO [.str sl td, .str sw te]) :: (row, listOf vs.toArray ep) :: (x, instObj 94 dl) :: (dl, dictOf es nd) :: (L' + 1, oe) :: (L, oL) :: rest)) (ha : @LT.lt Nat _ acc t) (htr : TriplesOk pl.toList) (htr2 : TriplesOk ps.toList) (hJ : other - 1 = J)
    (h : ∀ h' tk' gs' mp' pl2 ps2 n1 n2 t3 ls, TabMore pl pl2 → TabMore ps ps2 → Fr g L' h' mp' → PaidN mp' row x top width other sl sw td te →
      News g L' h' ((140, tabO pl2) :: (147, tabO ps2) :: (lines, listOf ls n2) :: (acc, accObj dx [] n1) :: (dx, dictOf (accD w th' (.int 0 t3)) 1) :: (row, listOf vs.toArray ep) :: (x, instObj 94 dl) :: (dl, dictOf es nd) :: (L' + 1, oe) :: (L, oL) :: rest) → GX s.gens gs' →
      wpAny (model pw w) (AR dp un (some [envOfC qual scope L' 256 cdv, envL]) gd) (execs (body.drop 11) (envOfC qual scope L' 256 cdv)) Q E { s with heap := h', toks := tk', gens := gs' }) :
    wpAny (model pw w) (AR dp un (some [envOfC qual scope L' 256 cdv, envL]) gd) (execs (body.drop 10) (envOfC qual scope L' 256 cdv)) Q E s := by
  have hc := hK.symm.trans (show (hed.heap_39 w.params).lookup 256 = some _ from by k_is)
  cases hc
  clear hK
  have X := G'.X
  have T := G'.T
  k_with_none
  k_with "fn" => (
    rename Fr g _ _ _ => F
    rename News g _ _ _ => N)
  k_with "steps" => repeat' (fail_if_success (with_reducible show wpAny _ _ (execs (_ :: _) _) _ _ _)); (fail_if_success (with_reducible show wpAny _ _ (getMethod (Value.ref _) _ _) _ _ _)); (fail_if_success (with_reducible show wpAny _ _ (call (Value.ref _) _) _ _ _)); (first | (k_unfold; (try dsimp only)) | (k_end; kc_close) | walk1 | (dsimp only; walk1) | (leave1; (try dsimp only)) | fail "no step")
  k_with "go" => repeat' (fail_if_success (with_reducible show wpAny _ _ (getMethod (Value.ref _) _ _) _ _ _)); (fail_if_success (with_reducible show wpAny _ _ (call (Value.ref _) _) _ _ _)); (first | (k_unfold; (try dsimp only)) | (k_end; kc_close) | walk1 | (dsimp only; walk1) | (leave1; (try dsimp only)) | fail "no step")
  obtain ⟨gL, l0, l1, l2, l3, l4, l5, l6, l7, nL1, nL2⟩ := O
  obtain ⟨m1, m3, ⟨tk4, m4⟩, ⟨tk5, m5⟩, ⟨tk6, m6⟩, m7, m8⟩ := id mm
  rw [map7 m1 m3 m4 m5 m6 m7 m8] at F
  clear mm m1 m3 m4 m5 m6 m7 m8
  show wpAny _ _ (execs (_ :: _) _) _ _ _
  have ch : Chain [140, 147, L', L' + 1, row, dl, x, lines, dx, acc, t] := ⟨by decide, l1, Nat.lt_succ_self _, l2, l3, l4, l5, l6, l7, ha, trivial⟩
  have chL : Chain [L, L', L' + 1, row, dl, x, lines, dx, acc] := ⟨l0, Nat.lt_succ_self _, l2, l3, l4, l5, l6, l7, trivial⟩
  have hlw : ((sl.length : Nat) : Int) + (sw.length : Nat) = one := WO.len
  have hsa := ar21 hlw o2 hJ o4 WO.l1
  have hs1 : sl.length ≤ 7 := hsa.1
  have hs2 : sw.length ≤ 7 := hsa.2.1
  have hs0 := WO.l1
  have hsx : (sl ++ sw).length = sl.length + sw.length := Str.length_append _ _
  have hlj : (lineS J (sl ++ sw)).length ≤ 1000 := by
    rw [lineS_length]
    exact Nat.le_trans (Nat.mul_le_mul hsa.2.2.1 (show (sl ++ sw).length ≤ 14 from hsx ▸ hsa.2.2.2.1)) (by decide)
  have hml : (Txt.mul (sl ++ sw) (other - 1)).length ≤ 1000 := by
    rw [mul_line hJ (hsx ▸ hsa.2.2.2.2.1)]
    exact hlj
  have hbig : ∀ b : Addr, @LT.lt Nat _ acc b → b ≠ 140 ∧ b ≠ 147 ∧ b ≠ lines ∧ b ≠ acc ∧ b ≠ dx := fun b hb => ⟨Nat.ne_of_gt (Nat.lt_trans (ch.lt 0 9 rfl rfl (by decide)) hb), Nat.ne_of_gt (Nat.lt_trans (ch.lt 1 9 rfl rfl (by decide)) hb), Nat.ne_of_gt (Nat.lt_trans (ch.lt 7 9 rfl rfl (by decide)) hb), Nat.ne_of_gt hb, Nat.ne_of_gt (Nat.lt_trans l7 hb)⟩
  have mid : ∀ b : Addr, @LT.lt Nat _ 147 b → @LT.lt Nat _ b lines → b ≠ 140 ∧ b ≠ 147 ∧ b ≠ lines ∧ b ≠ acc ∧ b ≠ dx := fun b hb hc => ⟨Nat.ne_of_gt (Nat.lt_trans (by decide) hb), Nat.ne_of_gt hb, Nat.ne_of_lt hc, Nat.ne_of_lt (Nat.lt_trans hc (ch.lt 7 9 rfl rfl (by decide))), Nat.ne_of_lt (Nat.lt_trans hc l6)⟩
  k_extra "go"
  k_extra "fn"
  refine method_inst (f := 42) F X ⟨(N (x, instObj 94 dl) (by repeat (first | exact List.Mem.head _ | apply List.Mem.tail))).1, rfl, rfl, (N (dl, dictOf es nd) (by repeat (first | exact List.Mem.head _ | apply List.Mem.tail))).1⟩ (by k_is) (by k_is) (by k_is) hD.n4 ?_
  dsimp only
  k_extra "steps"
  k_extra "fn"
  refine str_K (mx := width) (cl := width - other) (dl := dl) (dn := nd) (k := th') (th := t2) (t := t) (sl := sl) (sw := sw) (tl := td) (tw := te) (Nat.lt_of_le_of_lt (Nat.add_le_add_left (by decide) un) hun) F N ?x1 (ch.lt 1 7 rfl rfl (by decide)) l6 l7 G' hD ?x3 ?x4 ?x5 htr htr2 (Nat.lt_of_lt_of_le hdp (by decide)) hsa.2.2.2.2.2 WO.w1 WO.k1 WO.k2 WO.sp hlj ?x6 fun t' h2 tk2 n2 n3 gs2 pl2 ps2 t12 t22 t32 tm2 tp2 F N gx2 => ?_
  case x1 =>
    refine all_cons ?_ (all_cons ?_ (all_cons ?_ (all_cons ?_ (all_cons ?_ (all_cons ?_ (fun q h => ?_))))))
    · exact hbig t ha
    · exact mid row (ch.lt 1 4 rfl rfl (by decide)) (ch.lt 4 7 rfl rfl (by decide))
    · exact mid x (ch.lt 1 6 rfl rfl (by decide)) l5
    · exact mid dl (ch.lt 1 5 rfl rfl (by decide)) (ch.lt 5 7 rfl rfl (by decide))
    · exact mid (L' + 1) (ch.lt 1 3 rfl rfl (by decide)) (ch.lt 3 7 rfl rfl (by decide))
    · exact ⟨nL1, nL2, Nat.ne_of_lt (chL.lt 0 6 rfl rfl (by decide)), Nat.ne_of_lt (chL.lt 0 8 rfl rfl (by decide)), Nat.ne_of_lt (chL.lt 0 7 rfl rfl (by decide))⟩
    · obtain ⟨z1, z2, z3, z4⟩ := hrest.a q h
      exact ⟨z3, z4, Nat.ne_of_lt (Nat.lt_trans z1 (ch.lt 2 7 rfl rfl (by decide))), Nat.ne_of_lt (Nat.lt_trans z1 (ch.lt 2 9 rfl rfl (by decide))), Nat.ne_of_lt (Nat.lt_trans z1 (ch.lt 2 8 rfl rfl (by decide)))⟩
  case x3 => exact .tail _ (.tail _ (.head _))
  case x4 => exact .tail _ (.tail _ (.tail _ (.head _)))
  case x5 => exact .head _
  case x6 => decide
  k_extra "steps"
  k_extra "fn"
  · rename (_ != _) = true => hne
    rw [told_text (sl := sl) (sw := sw) (sep := Str.ofString "|") hJ (hsx ▸ hsa.2.2.2.2.1), bne_self_eq_false] at hne
    cases hne
  rename Fr g L' _ _ => F
  rename News g L' _ _ => N
  dsimp only
  refine h _ _ gs2 _ pl2 ps2 n2 n3 t22 #[.str (lineS J (sl ++ sw)) tk0, .str (lineS 1 (sl ++ sw)) t12] tm2 tp2 F ⟨rfl, rfl, ⟨_, rfl⟩, ⟨_, rfl⟩, ⟨_, rfl⟩, rfl, rfl⟩ (News.sub N fun q hq => ?_) gx2
  refine (?_ : ∀ q ∈ (_ : List (Addr × Obj)), q ∈ (_ : List (Addr × Obj))) q hq
  repeat' (first | (with_reducible exact fun _ h => h) | refine sub_cons ?_ ?_ | exact List.Mem.head _ | apply List.Mem.tail | exact sub_nil | refine sub_tail ?_)
end
end Mine
namespace Mine
open PySem PySem.W PySem.Calls PyProof.Rows
local macro_rules | `(tactic| k_all) => `(tactic| assumption)

section
variable {w : World} {A : Around} {dp un : Nat} {fr : Option (List Env)} {gd : Option (List Code)} {s : Shared} {g : Heap} {L L' : Addr} {p : Program} {loose : List Str} {mg mb mp : Str → Option Value} {E : Value → Shared → Prop} {Q : Flow → Shared → Prop}
  {name qual : Str} {params : Arguments} {body : List Stmt} {scope : Scope} {dV kV doc pm cdv ct oc : Value} {an od : Option Addr} {osl : Array (Option Value)}
  {one other head width top : Int} {row acc dx lines x dl : Addr} {th' t3 td te t1 : Tok} {es : List DictEntry} {nd J : Nat} {sl sw : Str} {rest : List (Addr × Obj)} {oL oe : Obj}


theorem tailD {envL : Env} {vs : List Value} {ep na nl : Nat} {pl ps : Array Value} {ls : Array Value} {t2 : Tok}
    (hK : (hed.heap_39 w.params).lookup 256 = some ⟨oc, od, .func (fnOf name qual params body scope dV kV doc pm an cdv ct), osl⟩)
    (G' : Gd w p loose mg mb g) (hdp : dp < 610) (hun : un + 35 < 9000) (O : OrdP g L L' row dl x lines dx acc) (o1 : 2 ≤ one) (o2 : one ≤ 7) (o3 : one < other) (o4 : other ≤ 13) (w1 : other ≤ width) (w2 : width ≤ 126) (WO : WordOk sl sw one)
    (hD : FmtD es width (width - other) " " lines acc) (hrest : RestP L L' rest) (dc : oe.data = .cell (some (.int one t1))) (mm : PaidN mp row x top width other sl sw td te) (F : Fr g L' s.heap mp)
    (N : News g L' s.heap ((140, tabO pl) :: (147, tabO ps) :: (lines, listOf ls nl) :: (acc, accObj dx [] na) :: (dx, dictOf (accD w th' (.int 0 t2)) 1) :: (row, listOf vs.toArray ep) :: (x, instObj 94 dl) :: (dl, dictOf es nd) :: (L' + 1, oe) :: (L, oL) :: rest)) (htr : TriplesOk pl.toList)
    (h : ∀ h' tk' gs' mp' pl2, TabMore pl pl2 → Fr g L' h' mp' → PaidN mp' row x top width other sl sw td te →
      News g L' h' ((140, tabO pl2) :: (147, tabO ps) :: (lines, listOf ls nl) :: (acc, accObj dx [] na) :: (dx, dictOf (accD w th' (.int 0 t2)) 1) :: (row, listOf vs.toArray ep) :: (x, instObj 94 dl) :: (dl, dictOf es nd) :: (L' + 1, oe) :: (L, oL) :: rest) → GX s.gens gs' →
      wpAny (model pw w) (AR dp un (some [envOfC qual scope L' 256 cdv, envL]) gd) (execs (body.drop 12) (envOfC qual scope L' 256 cdv)) Q E { s with heap := h', toks := tk', gens := gs' }) :
    wpAny (model pw w) (AR dp un (some [envOfC qual scope L' 256 cdv, envL]) gd) (execs (body.drop 11) (envOfC qual scope L' 256 cdv)) Q E s := by
  have hc := hK.symm.trans (show (hed.heap_39 w.params).lookup 256 = some _ from by k_is)
  cases hc
  clear hK
  have X := G'.X
  have T := G'.T
  k_with_none
  k_with "fn" => (
    rename Fr g _ _ _ => F
    rename News g _ _ _ => N)
  k_with "steps" => repeat' (fail_if_success (with_reducible show wpAny _ _ (execs (_ :: _) _) _ _ _)); (fail_if_success (with_reducible show wpAny _ _ (getMethod (Value.ref _) _ _) _ _ _)); (fail_if_success (with_reducible show wpAny _ _ (call (Value.ref _) _) _ _ _)); (first | (k_unfold; (try dsimp only)) | (k_end; kc_close) | walk1 | (dsimp only; walk1) | (leave1; (try dsimp only)) | fail "no step")
  k_with "go" => repeat' (fail_if_success (with_reducible show wpAny _ _ (getMethod (Value.ref _) _ _) _ _ _)); (fail_if_success (with_reducible show wpAny _ _ (call (Value.ref _) _) _ _ _)); (first | (k_unfold; (try dsimp only)) | (k_end; kc_close) | walk1 | (dsimp only; walk1) | (leave1; (try dsimp only)) | fail "no step")
  obtain ⟨gL, l0, l1, l2, l3, l4, l5, l6, l7, nL1, nL2⟩ := O
  obtain ⟨m1, m3, ⟨tk4, m4⟩, ⟨tk5, m5⟩, ⟨tk6, m6⟩, m7, m8⟩ := id mm
  rw [map7 m1 m3 m4 m5 m6 m7 m8] at F
  clear mm m1 m3 m4 m5 m6 m7 m8
  show wpAny _ _ (execs (_ :: _) _) _ _ _
  k_extra "go"
  k_extra "fn"
  refine method_inst (f := 77) F X ⟨(N (x, instObj 94 dl) (by repeat (first | exact List.Mem.head _ | apply List.Mem.tail))).1, rfl, rfl, (N (dl, dictOf es nd) (by repeat (first | exact List.Mem.head _ | apply List.Mem.tail))).1⟩ (by k_is) (by k_is) (by k_is) hD.n3 ?_
  dsimp only
  k_extra "steps"
  k_extra "fn"
  refine max_make_K F N G' (Nat.lt_of_lt_of_le hdp (by decide)) fun wa C oC nm qn h1 tk1 gs F N hoC hCw hltC hfg => ?_
  have hC : @LT.lt Nat _ acc C := hltC (acc, accObj dx [] na) (by repeat (first | exact List.Mem.head _ | apply List.Mem.tail))
  have hw : @LT.lt Nat _ C wa := hCw
  have ch : Chain [140, 147, L', L' + 1, row, dl, x, lines, dx, acc, C, wa] := ⟨by decide, l1, Nat.lt_succ_self _, l2, l3, l4, l5, l6, l7, hC, hw, trivial⟩
  k_extra "steps"
  k_extra "fn"
  have hlw : ((sl.length : Nat) : Int) + (sw.length : Nat) = one := WO.len
  have NF : News g L' h1 ((140, tabO pl) :: (wa, genO s.gens.size nm qn) :: (C, oC) :: (147, tabO ps) :: (lines, listOf ls nl) :: (acc, accObj dx [] na) :: (dx, dictOf (accD w th' (.int 0 t2)) 1) :: (row, listOf vs.toArray ep) :: (x, instObj 94 dl) :: (dl, dictOf es nd) :: (L' + 1, oe) :: (L, oL) :: rest) := News.sub N fun q hq => by
    refine (?_ : ∀ q ∈ (_ : List (Addr × Obj)), q ∈ (_ : List (Addr × Obj))) q hq
    repeat' (first | (with_reducible exact fun _ h => h) | refine sub_cons ?_ ?_ | exact List.Mem.head _ | apply List.Mem.tail | exact sub_nil | refine sub_tail ?_)
  refine frontW (cnt := 2) (a := acc) (dx := dx) (ln := x) (dl := dl) (lines := lines) (C := C) (oC := oC) (nm := nm) (qn := qn) (mx := width) (cl := width - other) (hd := 0) (f := width) (r := other) (sl := sl) (sw := sw) (tl := td) (tw := te) (ts := []) (k := th') (th := t2) (n := na) (dn := nd) (es := es) (sp := " ") (ar1 _ _) ?f1 ?f2 ?f3 (ar8 o1 o3 w1) ?f4 ?f5 F NF ?f6 htr G' ?f7 ?f8 ?g1 ?g2 hfg (Array.getElem?_push_size ..) hoC hD ?g3 ?g4 ?g5 ?g6 ?g7 (Nat.lt_of_lt_of_le hdp (by decide)) (by decide) (by decide) fun l h2 tk2 gs2 pl2 vs2 ep2 tm2 F N hl2 hi2 gx2 => ?_
  case f1 => exact ar0f _ rfl (Int.sub_zero _)
  case f2 => exact ar0p _ rfl (Int.le_refl 0)
  case f3 => exact ar0q _ rfl (by decide)
  case f4 => exact (ar6 hlw o2).1
  case f5 => exact (ar6 hlw o2).2
  case f6 =>
    refine all_cons ?_ (all_cons ?_ (all_cons ?_ (all_cons ?_ (all_cons ?_ (all_cons ?_ (all_cons ?_ (all_cons ?_ (all_cons ?_ (all_cons ?_ (all_cons ?_ (fun q hq => ?_)))))))))))
    · exact Nat.ne_of_gt (ch.lt 0 11 rfl rfl (by decide))
    · exact Nat.ne_of_gt (ch.lt 0 10 rfl rfl (by decide))
    · exact (show (147 : Nat) ≠ 140 by decide)
    · exact Nat.ne_of_gt (ch.lt 0 7 rfl rfl (by decide))
    · exact Nat.ne_of_gt (ch.lt 0 9 rfl rfl (by decide))
    · exact Nat.ne_of_gt (ch.lt 0 8 rfl rfl (by decide))
    · exact Nat.ne_of_gt (ch.lt 0 4 rfl rfl (by decide))
    · exact Nat.ne_of_gt (ch.lt 0 6 rfl rfl (by decide))
    · exact Nat.ne_of_gt (ch.lt 0 5 rfl rfl (by decide))
    · exact Nat.ne_of_gt (ch.lt 0 3 rfl rfl (by decide))
    · exact nL1
    · exact (hrest.a q hq).2.2.1
  case f7 => exact Nat.le_trans gL (Nat.le_of_lt (ch.lt 2 10 rfl rfl (by decide)))
  case f8 =>
    exact all_cons (ch.lt 0 10 rfl rfl (by decide)) (all_cons (ch.lt 9 10 rfl rfl (by decide)) (all_cons (ch.lt 8 10 rfl rfl (by decide)) (all_cons (ch.lt 6 10 rfl rfl (by decide)) (all_cons (ch.lt 5 10 rfl rfl (by decide)) all_nil))))
  case g1 => exact .head _
  case g2 => exact .tail _ (.head _)
  case g3 => repeat (first | exact List.Mem.head _ | apply List.Mem.tail)
  case g4 => repeat (first | exact List.Mem.head _ | apply List.Mem.tail)
  case g5 => repeat (first | exact List.Mem.head _ | apply List.Mem.tail)
  case g6 => repeat (first | exact List.Mem.head _ | apply List.Mem.tail)
  case g7 =>
    intro t' ht'
    cases ht'
  have efr : frontL width other 2 = [width, other] := front2 (ar14 w2) (ar12 o4) (ar13 o1 o3).2
  rw [efr] at hi2
  have gx3 : GX s.gens gs2 := (GX.pushed hfg.bare).thenS gx2 (Nat.le_refl _)
  clear NF gx2 hoC hltC hfg
  k_extra "steps"
  k_extra "fn"
  rename Fr g L' _ _ => F
  dsimp only
  refine h _ _ gs2 _ pl2 tm2 F ⟨rfl, rfl, ⟨_, rfl⟩, ⟨_, rfl⟩, ⟨_, rfl⟩, rfl, rfl⟩ (News.sub N fun q hq => ?_) gx3
  refine (?_ : ∀ q ∈ (_ : List (Addr × Obj)), q ∈ (_ : List (Addr × Obj))) q hq
  repeat' (first | (with_reducible exact fun _ h => h) | refine sub_cons ?_ ?_ | exact List.Mem.head _ | apply List.Mem.tail | exact sub_nil | refine sub_tail ?_)
end
end Mine
namespace Mine
open PySem PySem.W PySem.Calls PyProof.Rows

section
variable {w : World} {dp un : Nat} {fr : Option (List Env)} {gd : Option (List Code)} {s : Shared} {g : Heap} {L' : Addr} {m : Str → Option Value} {p : Program} {loose : List Str} {mg mb : Str → Option Value} {E : Value → Shared → Prop} {Q : Value → Shared → Prop}

/-- fmt_new_K, the head's token told by name. -/
theorem fmt_new_T {h₀ : Heap} {L : Addr} {rest : List (Addr × Obj)} {hd mx : Int} {cw sp : Str} {th tm tc ts : Tok}
    (F : Fr h₀ L s.heap m) (N : News h₀ L s.heap rest) (G : Gd w p loose mg mb h₀) (hdp : dp < 870) (hcw : ¬ (cw.length : Int) ≥ 2 ^ 63)
    (h : ∀ T x dl lines acc dx es n n' t' h' tk', FmtD es mx cw.length sp lines acc → Fr h₀ L h' m → News h₀ L h' ((acc, accObj dx [] n') :: (dx, dictOf (accD w t' (.int hd T)) 1) :: (lines, listOf #[] 0) :: (x, instObj 94 dl) :: (dl, dictOf es n) :: rest) → (∀ q ∈ rest, q.1 < dl) → (dl < x ∧ x < lines ∧ lines < dx ∧ dx < acc) → Q (.ref x) { s with heap := h', toks := tk' }) :
    wpAny (model pw w) (AR dp un fr gd) (call (.ref 94) [.int hd th, .int mx tm, .str cw tc, .str sp ts]) Q E s := fmt_new_K F N G hdp hcw (h th)

/-- marks laid by a fresh walk upon a line as it stands, without a word in it. -/
theorem laidW {a dx ln dl lines wa C row : Addr} {oC : Obj} {mx cl hd f r top : Int} {sp : Str} {k th tt : Tok} {n dn nw ep : Nat} {es : List DictEntry} {pl : Array Value} {gs : GenState} {rest : List (Addr × Obj)} {nm qn : Value} {vs : List Value} {ns : List Int}
    (hcl : mx - cl = r) (hf : mx - hd = f) (h0 : 0 ≤ hd) (h63 : hd < 2 ^ 63) (hf0 : 0 < f) (hr0 : 0 ≤ r) (hf1 : f ≠ 127) (hr1 : r ≠ 127) (htop : top < 100) (htop0 : 0 ≤ top)
    (F : Fr g L' s.heap m) (N : News g L' s.heap ((row, listOf vs.toArray ep) :: (140, tabO pl) :: rest)) (hr : ∀ q ∈ rest, q.1 ≠ 140) (hr2 : ∀ p ∈ (140, tabO pl) :: rest, p.1 ≠ row) (htr : TriplesOk pl.toList) (G : Gd w p loose mg mb g) (hgC : g.objs.size ≤ C) (hlt : ∀ q ∈ [140, a, dx, ln, dl], @LT.lt Nat _ q C)
    (hwa : (wa, genO nw nm qn) ∈ rest) (hoC : (C, oC) ∈ rest) (hfg : FreshGen w 77 C gs) (hgs : s.gens[nw]? = some gs) (hNs : NsO oC (fun y => [((Str.ofString "self"), Value.ref ln)].reverse.lookup y))
    (hD : FmtD es mx cl sp lines a) (hi : (ln, instObj 94 dl) ∈ rest) (hdl : (dl, dictOf es dn) ∈ rest) (hacc : (a, accObj dx [] n) ∈ rest) (hdx : (dx, dictOf (accD w k (.int hd th)) 1) ∈ rest)
    (hvs : IntsAre vs ns) (hlen : ns.length < 2 ^ 19) (hdp : dp < 650)
    (h : ∀ h' tk' gs' pl' vs' ep', TabMore pl pl' → Fr g L' h' m → News g L' h' ((row, listOf vs'.toArray ep') :: (140, tabO pl') :: rest) → IntsAre vs' (laidL 100 0 f (if r = 0 then f else r) top ns).2 → GXs [nw] s.gens gs' → Q (.bool (laidL 100 0 f (if r = 0 then f else r) top ns).1) { s with heap := h', toks := tk', gens := gs' }) :
    wpAny (model pw w) (AR dp un fr gd) (call (.ref 251) [.ref row, .ref wa, .int top tt]) Q E s := by
  refine laid_K (M := 100) (f := f) (r := r) (C := C) (ln := ln) (dl := dl) (keep := [C, 140, a, dx, ln, dl]) (B0 := g) F N hr hr2 htr G G (fun _ _ e => e) hgC hwa hoC ?_ ?_ hvs hlen hdp hf0 hr0 hf1 hr1 htop htop0 (by decide) (by decide) h
  · intro b hb
    simp only [List.mem_cons, List.not_mem_nil, or_false] at hb
    rcases hb with h | h | h | h | h | h | h | h
    · rw [h]; exact ⟨_, .tail _ hi⟩
    · rw [h]; exact ⟨_, .tail _ hdl⟩
    · rw [h]; exact ⟨_, .tail _ hoC⟩
    · rw [h]; exact ⟨_, .head _⟩
    · rw [h]; exact ⟨_, .tail _ hacc⟩
    · rw [h]; exact ⟨_, .tail _ hdx⟩
    · rw [h]; exact ⟨_, .tail _ hi⟩
    · rw [h]; exact ⟨_, .tail _ hdl⟩
  · intro B hB hd'
    have z : hd + (([] : List Addr).length : Int) * (((Str.empty).length : Int) + ((Str.empty).length : Int)) = hd := by simp
    have := wk_fresh (D := 0) (m := m) (s := s) (N := 100) (ts := []) (sl := Str.empty) (sw := Str.empty) (tl := k) (tw := k) N (.tail _ (.head _)) (fun q hq => ?_) G (fun _ _ e => e) F.keep hgC hfg hgs (.tail _ (.tail _ hwa)) (.tail _ (.tail _ hoC)) hNs (fun q hq => Nat.ne_of_lt (hlt q hq)) hD (.tail _ (.tail _ hi)) (.tail _ (.tail _ hdl)) (.tail _ (.tail _ hacc)) (.tail _ (.tail _ hdx)) (fun t ht => nomatch ht) htr (by decide) (by decide) (by rw [z]; exact h0) (by rw [z]; exact h63) B hB hd'
    · rw [z, hf, hcl] at this
      exact this
    · simp only [List.append_nil, List.mem_cons, List.not_mem_nil, or_false] at hq
      rcases hq with h | h | h | h <;> rw [h]
      · exact hr _ hacc
      · exact hr _ hdx
      · exact hr _ hi
      · exact hr _ hdl
end
end Mine
namespace Mine
open PySem PySem.W PySem.Calls PyProof.Rows
local macro_rules | `(tactic| k_all) => `(tactic| assumption)

section
variable {w : World} {A : Around} {dp un : Nat} {fr : Option (List Env)} {gd : Option (List Code)} {s : Shared} {g : Heap} {L L' : Addr} {p : Program} {loose : List Str} {mg mb mp : Str → Option Value} {E : Value → Shared → Prop} {Q : Flow → Shared → Prop}
  {name qual : Str} {params : Arguments} {body : List Stmt} {scope : Scope} {dV kV doc pm cdv ct oc : Value} {an od : Option Addr} {osl : Array (Option Value)}
  {one other head width top : Int} {row acc dx lines x dl : Addr} {th' t3 td te t1 : Tok} {es : List DictEntry} {nd J : Nat} {sl sw : Str} {rest : List (Addr × Obj)} {oL oe : Obj}


theorem tailE {envL : Env} {vs : List Value} {ns : List Int} {ep : Nat} {pl ps : Array Value}
    (hK : (hed.heap_39 w.params).lookup 256 = some ⟨oc, od, .func (fnOf name qual params body scope dV kV doc pm an cdv ct), osl⟩)
    (G' : Gd w p loose mg mb g) (hdp : dp < 610) (hun : un + 35 < 9000) (O : OrdP g L L' row dl x lines dx acc) (o1 : 2 ≤ one) (o2 : one ≤ 7) (o3 : one < other) (o4 : other ≤ 13) (w1 : other ≤ width) (w2 : width ≤ 126)
    (hrest : RestP L L' rest) (dc : oe.data = .cell (some (.int one t1))) (mm : PaidN mp row x top width other sl sw td te) (F : Fr g L' s.heap mp)
    (N : News g L' s.heap ((row, listOf vs.toArray ep) :: (140, tabO pl) :: (147, tabO ps) :: (L' + 1, oe) :: (L, oL) :: rest)) (htr : TriplesOk pl.toList) (tp1 : 0 ≤ top) (tp2 : top ≤ 91) (hvs : IntsAre vs ns) (hlen : ns.length < 2 ^ 19) (hA : (laidL 100 0 other other top ns).1 = true)
    (h : ∀ h' tk' gs' mp' pl2 vs2 ep2, TabMore pl pl2 → Fr g L' h' mp' → PaidN mp' row x top width other sl sw td te → IntsAre vs2 (laidL 100 0 other other top ns).2 →
      News g L' h' ((row, listOf vs2.toArray ep2) :: (140, tabO pl2) :: (147, tabO ps) :: (L' + 1, oe) :: (L, oL) :: rest) → GX s.gens gs' →
      wpAny (model pw w) (AR dp un (some [envOfC qual scope L' 256 cdv, envL]) gd) (execs (body.drop 13) (envOfC qual scope L' 256 cdv)) Q E { s with heap := h', toks := tk', gens := gs' }) :
    wpAny (model pw w) (AR dp un (some [envOfC qual scope L' 256 cdv, envL]) gd) (execs (body.drop 12) (envOfC qual scope L' 256 cdv)) Q E s := by
  have hc := hK.symm.trans (show (hed.heap_39 w.params).lookup 256 = some _ from by k_is)
  cases hc
  clear hK
  have X := G'.X
  have T := G'.T
  k_with_none
  k_with "fn" => (
    rename Fr g _ _ _ => F
    rename News g _ _ _ => N)
  k_with "steps" => repeat' (fail_if_success (with_reducible show wpAny _ _ (execs (_ :: _) _) _ _ _)); (fail_if_success (with_reducible show wpAny _ _ (getMethod (Value.ref _) _ _) _ _ _)); (fail_if_success (with_reducible show wpAny _ _ (call (Value.ref _) _) _ _ _)); (first | (k_unfold; (try dsimp only)) | (k_end; kc_close) | walk1 | (dsimp only; walk1) | (leave1; (try dsimp only)) | fail "no step")
  k_with "go" => repeat' (fail_if_success (with_reducible show wpAny _ _ (getMethod (Value.ref _) _ _) _ _ _)); (fail_if_success (with_reducible show wpAny _ _ (call (Value.ref _) _) _ _ _)); (first | (k_unfold; (try dsimp only)) | (k_end; kc_close) | walk1 | (dsimp only; walk1) | (leave1; (try dsimp only)) | fail "no step")
  obtain ⟨gL, l0, l1, l2, l3, l4, l5, l6, l7, nL1, nL2⟩ := O
  obtain ⟨m1, m3, ⟨tk4, m4⟩, ⟨tk5, m5⟩, ⟨tk6, m6⟩, m7, m8⟩ := id mm
  rw [map7 m1 m3 m4 m5 m6 m7 m8] at F
  clear mm m1 m3 m4 m5 m6 m7 m8
  show wpAny _ _ (execs (_ :: _) _) _ _ _
  k_extra "go"
  k_extra "fn"
  have hcl : ((Txt.mul (Str.ofString " ") width).length : Int) = width := blanks_len (ar18 o1 o3 w1)
  refine fmt_new_T F N G' (Nat.lt_of_lt_of_le hdp (by decide)) (ar10 hcl w2) fun T2 x2 dl2 lines2 acc2 dx2 es2 nd2 na2 th2 h2 tk2 hD2 F N ltd ord => ?_
  rw [hcl] at hD2
  obtain ⟨or1, or2, or3, or4⟩ := ord
  have or1 : @LT.lt Nat _ dl2 x2 := or1
  have or2 : @LT.lt Nat _ x2 lines2 := or2
  have or3 : @LT.lt Nat _ lines2 dx2 := or3
  have or4 : @LT.lt Nat _ dx2 acc2 := or4
  have or0 : @LT.lt Nat _ row dl2 := ltd (row, listOf vs.toArray ep) (by repeat (first | exact List.Mem.head _ | apply List.Mem.tail))
  k_extra "steps"
  k_extra "fn"
  refine method_inst (f := 77) F X ⟨(N (x2, instObj 94 dl2) (by repeat (first | exact List.Mem.head _ | apply List.Mem.tail))).1, rfl, rfl, (N (dl2, dictOf es2 nd2) (by repeat (first | exact List.Mem.head _ | apply List.Mem.tail))).1⟩ (by k_is) (by k_is) (by k_is) hD2.n3 ?_
  dsimp only
  k_extra "steps"
  k_extra "fn"
  refine max_make_K F N G' (Nat.lt_of_lt_of_le hdp (by decide)) fun wa C oC nm qn h1 tk1 gs F N hoC hCw hltC hfg => ?_
  have hC : @LT.lt Nat _ acc2 C := hltC (acc2, accObj dx2 [] na2) (by repeat (first | exact List.Mem.head _ | apply List.Mem.tail))
  have hw : @LT.lt Nat _ C wa := hCw
  have ch : Chain [140, 147, L', L' + 1, row, dl2, x2, lines2, dx2, acc2, C, wa] := ⟨by decide, l1, Nat.lt_succ_self _, l2, or0, or1, or2, or3, or4, hC, hw, trivial⟩
  have chL : Chain [L, L', L' + 1, row] := ⟨l0, Nat.lt_succ_self _, l2, trivial⟩
  k_extra "steps"
  k_extra "fn"
  have NF : News g L' _ ((row, listOf vs.toArray ep) :: (140, tabO pl) :: (wa, genO s.gens.size nm qn) :: (C, oC) :: (acc2, accObj dx2 [] na2) :: (dx2, dictOf (accD w th2 (.int (width - other) T2)) 1) :: (lines2, listOf #[] 0) :: (x2, instObj 94 dl2) :: (dl2, dictOf es2 nd2) :: (147, tabO ps) :: (L' + 1, oe) :: (L, oL) :: rest) := News.sub N fun q hq => by
    refine (?_ : ∀ q ∈ (_ : List (Addr × Obj)), q ∈ (_ : List (Addr × Obj))) q hq
    repeat' (first | (with_reducible exact fun _ h => h) | refine sub_cons ?_ ?_ | exact List.Mem.head _ | apply List.Mem.tail | exact sub_nil | refine sub_tail ?_)
  refine laidW (a := acc2) (dx := dx2) (ln := x2) (dl := dl2) (lines := lines2) (C := C) (oC := oC) (nm := nm) (qn := qn) (mx := width) (cl := width) (hd := width - other) (f := other) (r := 0) (k := th2) (th := T2) (n := na2) (dn := nd2) (es := es2) (sp := " ") (Int.sub_self _) (ar1 _ _) (Int.sub_nonneg_of_le w1) (ar9 o1 o3 w2) (ar13 o1 o3).1 (Int.le_refl 0) (ar12 o4) (by decide) (ar19 tp2) tp1 F NF ?f6 ?f61 htr G' ?f7 ?f8 ?g1 ?g2 hfg (Array.getElem?_push_size ..) hoC hD2 ?g3 ?g4 ?g5 ?g6 hvs hlen (Nat.lt_of_lt_of_le hdp (by decide)) fun h2 tk2 gs2 pl2 vs2 ep2 tm2 F N hi2 gx2 => ?_
  case f6 =>
    refine all_cons ?_ (all_cons ?_ (all_cons ?_ (all_cons ?_ (all_cons ?_ (all_cons ?_ (all_cons ?_ (all_cons ?_ (all_cons ?_ (all_cons ?_ (fun q hq => ?_))))))))))
    · exact Nat.ne_of_gt (ch.lt 0 11 rfl rfl (by decide))
    · exact Nat.ne_of_gt (ch.lt 0 10 rfl rfl (by decide))
    · exact Nat.ne_of_gt (ch.lt 0 9 rfl rfl (by decide))
    · exact Nat.ne_of_gt (ch.lt 0 8 rfl rfl (by decide))
    · exact Nat.ne_of_gt (ch.lt 0 7 rfl rfl (by decide))
    · exact Nat.ne_of_gt (ch.lt 0 6 rfl rfl (by decide))
    · exact Nat.ne_of_gt (ch.lt 0 5 rfl rfl (by decide))
    · exact (show (147 : Nat) ≠ 140 by decide)
    · exact Nat.ne_of_gt (ch.lt 0 3 rfl rfl (by decide))
    · exact nL1
    · exact (hrest.a q hq).2.2.1
  case f61 =>
    refine all_cons ?_ (all_cons ?_ (all_cons ?_ (all_cons ?_ (all_cons ?_ (all_cons ?_ (all_cons ?_ (all_cons ?_ (all_cons ?_ (all_cons ?_ (all_cons ?_ (fun q hq => ?_)))))))))))
    · exact Nat.ne_of_lt (ch.lt 0 4 rfl rfl (by decide))
    · exact Nat.ne_of_gt (ch.lt 4 11 rfl rfl (by decide))
    · exact Nat.ne_of_gt (ch.lt 4 10 rfl rfl (by decide))
    · exact Nat.ne_of_gt (ch.lt 4 9 rfl rfl (by decide))
    · exact Nat.ne_of_gt (ch.lt 4 8 rfl rfl (by decide))
    · exact Nat.ne_of_gt (ch.lt 4 7 rfl rfl (by decide))
    · exact Nat.ne_of_gt (ch.lt 4 6 rfl rfl (by decide))
    · exact Nat.ne_of_gt or0
    · exact Nat.ne_of_lt (ch.lt 1 4 rfl rfl (by decide))
    · exact Nat.ne_of_lt l2
    · exact Nat.ne_of_lt (chL.lt 0 3 rfl rfl (by decide))
    · exact Nat.ne_of_lt (Nat.lt_trans (hrest.a q hq).1 (ch.lt 2 4 rfl rfl (by decide)))
  case f7 => exact Nat.le_trans gL (Nat.le_of_lt (ch.lt 2 10 rfl rfl (by decide)))
  case f8 =>
    exact all_cons (ch.lt 0 10 rfl rfl (by decide)) (all_cons (ch.lt 9 10 rfl rfl (by decide)) (all_cons (ch.lt 8 10 rfl rfl (by decide)) (all_cons (ch.lt 6 10 rfl rfl (by decide)) (all_cons (ch.lt 5 10 rfl rfl (by decide)) all_nil))))
  case g1 => exact .head _
  case g2 => exact .tail _ (.head _)
  case g3 => repeat (first | exact List.Mem.head _ | apply List.Mem.tail)
  case g4 => repeat (first | exact List.Mem.head _ | apply List.Mem.tail)
  case g5 => repeat (first | exact List.Mem.head _ | apply List.Mem.tail)
  case g6 => repeat (first | exact List.Mem.head _ | apply List.Mem.tail)
  rw [if_pos rfl] at hi2 ⊢
  rw [hA]
  have gx3 : GX s.gens gs2 := (GX.pushed hfg.bare).thenS gx2 (Nat.le_refl _)
  clear NF gx2 hoC hltC hfg
  k_extra "steps"
  rename Fr g L' _ _ => F
  dsimp only
  refine h _ _ gs2 _ pl2 vs2 ep2 tm2 F ⟨rfl, rfl, ⟨_, rfl⟩, ⟨_, rfl⟩, ⟨_, rfl⟩, rfl, rfl⟩ hi2 (News.sub N fun q hq => ?_) gx3
  refine (?_ : ∀ q ∈ (_ : List (Addr × Obj)), q ∈ (_ : List (Addr × Obj))) q hq
  repeat' (first | (with_reducible exact fun _ h => h) | refine sub_cons ?_ ?_ | exact List.Mem.head _ | apply List.Mem.tail | exact sub_nil | refine sub_tail ?_)
end
end Mine
namespace Mine
open PySem PySem.W PySem.Calls PyProof.Rows
local macro_rules | `(tactic| k_all) => `(tactic| assumption)

section
variable {w : World} {A : Around} {dp un : Nat} {fr : Option (List Env)} {gd : Option (List Code)} {s : Shared} {g : Heap} {L L' : Addr} {p : Program} {loose : List Str} {mg mb mp : Str → Option Value} {E : Value → Shared → Prop} {Q : Flow → Shared → Prop}
  {name qual : Str} {params : Arguments} {body : List Stmt} {scope : Scope} {dV kV doc pm cdv ct oc : Value} {an od : Option Addr} {osl : Array (Option Value)}
  {one other head width top : Int} {row acc dx lines x dl : Addr} {th' t3 td te t1 : Tok} {es : List DictEntry} {nd J : Nat} {sl sw : Str} {rest : List (Addr × Obj)} {oL oe : Obj}


theorem tailF {envL : Env} {vs : List Value} {ep : Nat} {pl ps : Array Value}
    (hK : (hed.heap_39 w.params).lookup 256 = some ⟨oc, od, .func (fnOf name qual params body scope dV kV doc pm an cdv ct), osl⟩)
    (G' : Gd w p loose mg mb g) (hdp : dp < 610) (hun : un + 35 < 9000) (O : OrdP g L L' row dl x lines dx acc) (o1 : 2 ≤ one) (o2 : one ≤ 7) (o3 : one < other) (o4 : other ≤ 13) (w1 : other ≤ width) (w2 : width ≤ 126)
    (hrest : RestP L L' rest) (dc : oe.data = .cell (some (.int one t1))) (mm : PaidN mp row x top width other sl sw td te) (F : Fr g L' s.heap mp)
    (N : News g L' s.heap ((row, listOf vs.toArray ep) :: (140, tabO pl) :: (147, tabO ps) :: (L' + 1, oe) :: (L, oL) :: rest)) (htr : TriplesOk pl.toList)
    (h : ∀ h' tk' gs' mp' pl2, TabMore pl pl2 → Fr g L' h' mp' → PaidN mp' row x top width other sl sw td te →
      News g L' h' ((row, listOf vs.toArray ep) :: (140, tabO pl2) :: (147, tabO ps) :: (L' + 1, oe) :: (L, oL) :: rest) → GX s.gens gs' →
      wpAny (model pw w) (AR dp un (some [envOfC qual scope L' 256 cdv, envL]) gd) (execs (body.drop 15) (envOfC qual scope L' 256 cdv)) Q E { s with heap := h', toks := tk', gens := gs' }) :
    wpAny (model pw w) (AR dp un (some [envOfC qual scope L' 256 cdv, envL]) gd) (execs (body.drop 13) (envOfC qual scope L' 256 cdv)) Q E s := by
  have hc := hK.symm.trans (show (hed.heap_39 w.params).lookup 256 = some _ from by k_is)
  cases hc
  clear hK
  have X := G'.X
  have T := G'.T
  k_with_none
  k_with "fn" => (
    rename Fr g _ _ _ => F
    rename News g _ _ _ => N)
  k_with "steps" => repeat' (fail_if_success (with_reducible show wpAny _ _ (execs (_ :: _) _) _ _ _)); (fail_if_success (with_reducible show wpAny _ _ (getMethod (Value.ref _) _ _) _ _ _)); (fail_if_success (with_reducible show wpAny _ _ (call (Value.ref _) _) _ _ _)); (first | (k_unfold; (try dsimp only)) | (k_end; kc_close) | walk1 | (dsimp only; walk1) | (leave1; (try dsimp only)) | fail "no step")
  k_with "go" => repeat' (fail_if_success (with_reducible show wpAny _ _ (getMethod (Value.ref _) _ _) _ _ _)); (fail_if_success (with_reducible show wpAny _ _ (call (Value.ref _) _) _ _ _)); (first | (k_unfold; (try dsimp only)) | (k_end; kc_close) | walk1 | (dsimp only; walk1) | (leave1; (try dsimp only)) | fail "no step")
  obtain ⟨gL, l0, l1, l2, l3, l4, l5, l6, l7, nL1, nL2⟩ := O
  obtain ⟨m1, m3, ⟨tk4, m4⟩, ⟨tk5, m5⟩, ⟨tk6, m6⟩, m7, m8⟩ := id mm
  rw [map7 m1 m3 m4 m5 m6 m7 m8] at F
  clear mm m1 m3 m4 m5 m6 m7 m8
  show wpAny _ _ (execs (_ :: _) _) _ _ _
  k_extra "go"
  k_extra "fn"
  have hcl : ((Txt.mul (Str.ofString " ") (width + other)).length : Int) = width + other := blanks_len (ar16 o1 o2 o3 w1 w2).2.2
  refine fmt_new_T F N G' (Nat.lt_of_lt_of_le hdp (by decide)) (ar11 hcl w2 o4) fun T2 x2 dl2 lines2 acc2 dx2 es2 nd2 na2 th2 h2 tk2 hD2 F N ltd ord => ?_
  rw [hcl] at hD2
  obtain ⟨or1, or2, or3, or4⟩ := ord
  have or1 : @LT.lt Nat _ dl2 x2 := or1
  have or2 : @LT.lt Nat _ x2 lines2 := or2
  have or3 : @LT.lt Nat _ lines2 dx2 := or3
  have or4 : @LT.lt Nat _ dx2 acc2 := or4
  have or0 : @LT.lt Nat _ row dl2 := ltd (row, listOf vs.toArray ep) (by repeat (first | exact List.Mem.head _ | apply List.Mem.tail))
  k_extra "go"
  k_extra "fn"
  refine method_inst (f := 77) F X ⟨(N (x2, instObj 94 dl2) (by repeat (first | exact List.Mem.head _ | apply List.Mem.tail))).1, rfl, rfl, (N (dl2, dictOf es2 nd2) (by repeat (first | exact List.Mem.head _ | apply List.Mem.tail))).1⟩ (by k_is) (by k_is) (by k_is) hD2.n3 ?_
  dsimp only
  k_extra "steps"
  k_extra "fn"
  refine max_make_K F N G' (Nat.lt_of_lt_of_le hdp (by decide)) fun wa C oC nm qn h1 tk1 gs F N hoC hCw hltC hfg => ?_
  have hC : @LT.lt Nat _ acc2 C := hltC (acc2, accObj dx2 [] na2) (by repeat (first | exact List.Mem.head _ | apply List.Mem.tail))
  have hw : @LT.lt Nat _ C wa := hCw
  have ch : Chain [140, 147, L', L' + 1, row, dl2, x2, lines2, dx2, acc2, C, wa] := ⟨by decide, l1, Nat.lt_succ_self _, l2, or0, or1, or2, or3, or4, hC, hw, trivial⟩
  have chL : Chain [L, L', L' + 1, row] := ⟨l0, Nat.lt_succ_self _, l2, trivial⟩
  k_extra "steps"
  k_extra "fn"
  have NF : News g L' _ ((140, tabO pl) :: (wa, genO s.gens.size nm qn) :: (C, oC) :: (acc2, accObj dx2 [] na2) :: (dx2, dictOf (accD w th2 (.int (width + one) T2)) 1) :: (lines2, listOf #[] 0) :: (x2, instObj 94 dl2) :: (dl2, dictOf es2 nd2) :: (row, listOf vs.toArray ep) :: (147, tabO ps) :: (L' + 1, oe) :: (L, oL) :: rest) := News.sub N fun q hq => by
    refine (?_ : ∀ q ∈ (_ : List (Addr × Obj)), q ∈ (_ : List (Addr × Obj))) q hq
    repeat' (first | (with_reducible exact fun _ h => h) | refine sub_cons ?_ ?_ | exact List.Mem.head _ | apply List.Mem.tail | exact sub_nil | refine sub_tail ?_)
  refine frontW (cnt := 3) (a := acc2) (dx := dx2) (ln := x2) (dl := dl2) (lines := lines2) (C := C) (oC := oC) (nm := nm) (qn := qn) (mx := width) (cl := width + other) (hd := width + one) (f := -one) (r := -other) (sl := Str.empty) (sw := Str.empty) (tl := th2) (tw := th2) (ts := []) (k := th2) (th := T2) (n := na2) (dn := nd2) (es := es2) (sp := " ") (ar15 _ _) ?f1 ?f2 ?f3 (ar17 o1).1 (by decide) (by decide) F NF ?f6 htr G' ?f7 ?f8 ?g1 ?g2 hfg (Array.getElem?_push_size ..) hoC hD2 ?g3 ?g4 ?g5 ?g6 (fun _ h => nomatch h) (Nat.lt_of_lt_of_le hdp (by decide)) (by decide) (by decide) fun l h2 tk2 gs2 pl2 vs2 ep2 tm2 F N hl2 hi2 gx2 => ?_
  case f1 => exact ar0f _ rfl (ar15 _ _)
  case f2 => exact ar0p _ rfl (ar16 o1 o2 o3 w1 w2).1
  case f3 => exact ar0q _ rfl (ar16 o1 o2 o3 w1 w2).2.1
  case f6 =>
    refine all_cons ?_ (all_cons ?_ (all_cons ?_ (all_cons ?_ (all_cons ?_ (all_cons ?_ (all_cons ?_ (all_cons ?_ (all_cons ?_ (all_cons ?_ (all_cons ?_ (fun q hq => ?_)))))))))))
    · exact Nat.ne_of_gt (ch.lt 0 11 rfl rfl (by decide))
    · exact Nat.ne_of_gt (ch.lt 0 10 rfl rfl (by decide))
    · exact Nat.ne_of_gt (ch.lt 0 9 rfl rfl (by decide))
    · exact Nat.ne_of_gt (ch.lt 0 8 rfl rfl (by decide))
    · exact Nat.ne_of_gt (ch.lt 0 7 rfl rfl (by decide))
    · exact Nat.ne_of_gt (ch.lt 0 6 rfl rfl (by decide))
    · exact Nat.ne_of_gt (ch.lt 0 5 rfl rfl (by decide))
    · exact Nat.ne_of_gt (ch.lt 0 4 rfl rfl (by decide))
    · exact (show (147 : Nat) ≠ 140 by decide)
    · exact Nat.ne_of_gt (ch.lt 0 3 rfl rfl (by decide))
    · exact nL1
    · exact (hrest.a q hq).2.2.1
  case f7 => exact Nat.le_trans gL (Nat.le_of_lt (ch.lt 2 10 rfl rfl (by decide)))
  case f8 =>
    exact all_cons (ch.lt 0 10 rfl rfl (by decide)) (all_cons (ch.lt 9 10 rfl rfl (by decide)) (all_cons (ch.lt 8 10 rfl rfl (by decide)) (all_cons (ch.lt 6 10 rfl rfl (by decide)) (all_cons (ch.lt 5 10 rfl rfl (by decide)) all_nil))))
  case g1 => exact .head _
  case g2 => exact .tail _ (.head _)
  case g3 => repeat (first | exact List.Mem.head _ | apply List.Mem.tail)
  case g4 => repeat (first | exact List.Mem.head _ | apply List.Mem.tail)
  case g5 => repeat (first | exact List.Mem.head _ | apply List.Mem.tail)
  case g6 => repeat (first | exact List.Mem.head _ | apply List.Mem.tail)
  have efr : frontL (-one) (-other) 3 = [-one, -other, -other] := front3 (ar17 o1).2 (ar20 o1 o3).1 (ar20 o1 o3).2
  rw [efr] at hi2
  have gx3 : GX s.gens gs2 := (GX.pushed hfg.bare).thenS gx2 (Nat.le_refl _)
  clear NF gx2 hoC hltC hfg
  k_extra "steps"
  k_extra "fn"
  rename Fr g L' _ _ => F
  dsimp only
  refine h _ _ gs2 _ pl2 tm2 F ⟨rfl, rfl, ⟨_, rfl⟩, ⟨_, rfl⟩, ⟨_, rfl⟩, rfl, rfl⟩ (News.sub N fun q hq => ?_) gx3
  refine (?_ : ∀ q ∈ (_ : List (Addr × Obj)), q ∈ (_ : List (Addr × Obj))) q hq
  repeat' (first | (with_reducible exact fun _ h => h) | refine sub_cons ?_ ?_ | exact List.Mem.head _ | apply List.Mem.tail | exact sub_nil | refine sub_tail ?_)
end
end Mine
namespace Mine
open PySem PySem.W PySem.Calls PyProof.Rows

/-- apart from the four objects that a comprehension at work keeps. -/
def Off4 (a b c d : Addr) (l : List (Addr × Obj)) : Prop := ∀ q ∈ l, q.1 ≠ a ∧ q.1 ≠ b ∧ q.1 ≠ c ∧ q.1 ≠ d

/-- what the value of the clause has to tell: a list of the ledger, and what each turn does. -/
def CompG (w : World) (A : Around) (h₀ : Heap) (L : Addr) (m : Str → Option Value) (env : Env) (elt : Expr) (x : Str) (scope : Scope) (cl : List (Str × Addr)) (Q : Value → Shared → Prop) (xv : Value) (s₁ : Shared) : Prop :=
  ∃ (src : Addr) (its : Array Value) (k : Nat) (news : List (Addr × Obj)) (K : Nat → List Value → List (Addr × Obj) → Array GenState → Prop),
    xv = .ref src ∧ A.handled = none ∧ Fr h₀ L s₁.heap m ∧ News h₀ L s₁.heap ((src, listOf its k) :: news) ∧ (∀ q ∈ news, q.1 ≠ src) ∧ its.size ≤ sizeLine ∧ K 0 [] news s₁.gens ∧
    (∀ i v I C D oI oC mC h tk gs ys nw, its[i]? = some v → ys.length = i → K i ys nw gs → LCg.NsObj oC mC → mC x = some v → Fr h₀ L h m → News h₀ L h ((I, oI) :: (C, oC) :: (D, LCg.lst ys) :: (src, listOf its k) :: nw) → Off4 I C D src nw →
      wpAny (model pw w) A (eval elt (compEnvC scope cl C env)) (fun y s₄ => ∃ h' tk' gs' nw', s₄ = { s₁ with heap := h', toks := tk', gens := gs' } ∧ Fr h₀ L h' m ∧ News h₀ L h' ((I, oI) :: (C, oC) :: (D, LCg.lst ys) :: (src, listOf its k) :: nw') ∧ Off4 I C D src nw' ∧ K (i + 1) (ys ++ [y]) nw' gs') (fun _ _ => False) { s₁ with heap := h, toks := tk, gens := gs }) ∧
    (∀ D h tk gs ys nw, K its.size ys nw gs → Fr h₀ L h m → News h₀ L h ((D, LCg.lst ys) :: (src, listOf its k) :: nw) → (∀ q ∈ nw, q.1 ≠ D) → Q (.ref D) { s₁ with heap := h, toks := tk, gens := gs })

section
variable {w : World} {A : Around} {E : Value → Shared → Prop} {s : Shared} {h₀ : Heap} {L : Addr} {m : Str → Option Value} {env : Env}

theorem listcomp_G {elt iter : Expr} {x : Str} {px : Pos} {scope : Scope} {cl : List (Str × Addr)} {pos : Pos} {Q : Value → Shared → Prop} (_F : Fr h₀ L s.heap m)
    (hclos : closureFor scope env = pure cl) (hcell : ∀ y ∈ scope.names, y.2 ≠ .cell) (hkind : scope.kind = .function)
    (hnames : ∀ y ∈ scope.names, y.2 = .local → scope.names.lookup y.1 = some .local) (hx : scope.names.lookup x = some .local)
    (h : wpAny (model pw w) A (eval iter env) (CompG w A h₀ L m env elt x scope cl Q) E s)
    (hs : ∀ x, foldedSetIterable iter env x = pure x := by intro _; rfl) :
    wpAny (model pw w) A (eval (.ListComp elt [⟨.Name x px, iter, [], 0⟩] scope pos) env) Q E s := by
  rw [eval_ListComp]
  refine wpAny_comprehension_free (use := none) rfl hs hclos hkind hnames (wpAny_mono h (fun xv s₁ h₁ => ?_) fun _ _ e => e)
  obtain ⟨src, its, k, news, K, rfl, hh, F, N, hne, hsz, hK0, turn, fin⟩ := h₁
  have iS := N _ (.head _)
  have hl : s₁.heap.IsList src its := ⟨_, iS.1, rfl, _, rfl⟩
  refine wpAny_pyIter_list hl ?_
  have N1 := N.push F { cls := .type "list_iterator", data := .fields #[.ref src, .int 0 0] }
  have F1 := F.push { cls := .type "list_iterator", data := .fields #[.ref src, .int 0 0] }
  have hIS : src < s₁.heap.objs.size := Heap.lt_size iS.1
  have ltI : ∀ q ∈ (src, listOf its k) :: news, q.1 < s₁.heap.objs.size := fun q hq => Heap.lt_size (N q hq).1
  generalize hI : s₁.heap.objs.size = I at N1 hIS ltI
  generalize hg : s₁.heap.push { cls := .type "list_iterator", data := .fields #[.ref src, .int 0 0] } = g1 at N1 F1 ⊢
  have hsz1 : g1.objs.size = I + 1 := by rw [← hg, Heap.size_push, hI]
  refine wpAny_newObj_type (wpAny_newFunctionEnv hcell (by intro y hy; simp at hy) (fun h₁ hns₁ hsb₁ => ?_) hkind)
  dsimp only at hns₁ hsb₁ ⊢
  have N2 := N1.push F1 { cls := .type "list", data := .seq ([] : List Value).toArray }
  have F2 := F1.push { cls := .type "list", data := .seq ([] : List Value).toArray }
  have hID : I < g1.objs.size := by rw [hsz1]; exact Nat.lt_succ_self _
  have ltD : ∀ q ∈ (src, listOf its k) :: news, q.1 < g1.objs.size := fun q hq => Nat.lt_trans (ltI q hq) hID
  generalize hD : g1.objs.size = D at N2 hID ltD
  generalize hg2 : g1.push { cls := .type "list", data := .seq ([] : List Value).toArray } = g2 at hns₁ hsb₁ N2 F2 ⊢
  have hsz2 : g2.objs.size = D + 1 := by rw [← hg2, Heap.size_push, hD]
  have hDC : D < g2.objs.size := by rw [hsz2]; exact Nat.lt_succ_self _
  have ltC : ∀ q ∈ (src, listOf its k) :: news, q.1 < g2.objs.size := fun q hq => Nat.lt_trans (ltD q hq) hDC
  have k₁ : ∀ b o, g2.get? b = some o → h₁.get? b = some o := fun b o e => hsb₁.extBut b o (Nat.ne_of_lt (Heap.lt_size e)) (Heap.get?_push_of_some _ e)
  have hC0 : h₀.get? g2.objs.size = none := by
    cases z : h₀.get? g2.objs.size with
    | none => rfl
    | some o => exact absurd (Heap.lt_size (F2.keep _ _ z)) (Nat.lt_irrefl _)
  have hCL : g2.objs.size ≠ L := Nat.ne_of_gt F2.ns.lt
  generalize hC : g2.objs.size = C at hns₁ hsb₁ hDC ltC hC0 hCL ⊢
  obtain ⟨oC, hoC, hN⟩ := LCg.ns_obj hns₁
  have F3 := F2.keeps k₁
  have N3 : News h₀ L h₁ ((I, { cls := .type "list_iterator", data := .fields #[.ref src, .int 0 0] }) :: (C, oC) :: (D, LCg.lst []) :: (src, listOf its k) :: news) := fun q hq => by
    have old : ∀ {q}, q ∈ (D, LCg.lst []) :: (I, ({ cls := .type "list_iterator", data := .fields #[.ref src, .int 0 0] } : Obj)) :: (src, listOf its k) :: news → h₁.get? q.1 = some q.2 ∧ q.1 ≠ L ∧ h₀.get? q.1 = none := fun {q} hq => ⟨k₁ _ _ (N2 q hq).1, (N2 q hq).2⟩
    rcases List.mem_cons.mp hq with rfl | hq
    · exact old (.tail _ (.head _))
    rcases List.mem_cons.mp hq with rfl | hq
    · exact ⟨hoC, hCL, hC0⟩
    rcases List.mem_cons.mp hq with rfl | hq
    · exact old (.head _)
    · exact old (.tail _ (.tail _ hq))
  clear N N1 N2 F F1 F2 k₁ hsb₁ hns₁
  have nIC : I ≠ C := Nat.ne_of_lt (Nat.lt_trans hID hDC)
  have nID : I ≠ D := Nat.ne_of_lt hID
  have nCD : C ≠ D := Nat.ne_of_gt hDC
  have nSI : src ≠ I := Nat.ne_of_lt hIS
  have nSC : src ≠ C := Nat.ne_of_lt (ltC _ (.head _))
  have nSD : src ≠ D := Nat.ne_of_lt (ltD _ (.head _))
  have off0 : Off4 I C D src news := fun q hq => ⟨Nat.ne_of_lt (ltI q (.tail _ hq)), Nat.ne_of_lt (ltC q (.tail _ hq)), Nat.ne_of_lt (ltD q (.tail _ hq)), hne q hq⟩
  have W := Walks.list (prog := pw) (w := w) hh I src nSI its
  have loop : ∀ s₃ : Shared, s₃ = { s₁ with heap := h₁, toks := s₁.toks + ([] : List (Str × Value)).length } →
      codeAny (model pw w) A (.compLoop (.ListComp elt [⟨.Name x px, iter, [], 0⟩] scope pos) 0 (.ref I) (.ref D) (compEnvC scope cl C env)) (compPost (model pw w) A E none Q (.ref D) C) s₃ := by
    rintro s₃ rfl
    refine codeAny_compLoop_tests (fun n s' => ∃ i h' tk gs ys oI oC mC nw, s' = { s₁ with heap := h', toks := tk, gens := gs } ∧ i ≤ its.size ∧ n = its.size + 1 - i ∧ ys.length = i ∧ K i ys nw gs ∧ h'.IsListIter I src i ∧ LCg.NsObj oC mC ∧ Fr h₀ L h' m ∧
      News h₀ L h' ((I, oI) :: (C, oC) :: (D, LCg.lst ys) :: (src, listOf its k) :: nw) ∧ Off4 I C D src nw) ?_ (its.size + 1) ⟨0, h₁, _, _, [], _, oC, _, news, rfl, Nat.zero_le _, rfl, rfl, hK0, ⟨_, (N3 _ (.head _)).1, rfl, rfl⟩, hN, F3, N3, off0⟩
    clear hN hoC N3 F3 off0 hK0
    clear oC
    intro n s' hI
    show wpAny _ _ _ _ _ _
    k_fold
    obtain ⟨i, h', tk, gs, ys, oI, oC, mC, nw, rfl, hi, rfl, hyl, hK, hit, hN, F, N, off⟩ := hI
    have iI := N _ (.head _)
    have iC := N _ (.tail _ (.head _))
    have iD := N _ (.tail _ (.tail _ (.head _)))
    have iS := N _ (.tail _ (.tail _ (.tail _ (.head _))))
    have hls : h'.IsList src its := ⟨_, iS.1, rfl, _, rfl⟩
    by_cases hlt : i < its.size
    · refine W.item i _ _ _ hlt ⟨hit, hls⟩ fun v h₂ tk₂ hv hst₂ hk₂ => ?_
      k_unfold
      dsimp only
      have ne2 : ∀ {b o}, b ≠ I → h'.get? b = some o → h₂.get? b = some o := fun hb e => hk₂ _ _ (by simpa using hb) e
      obtain ⟨oI2, hoI2, hcI2, hdI2⟩ := hst₂.1
      refine wpAny_assign_Name (wpAny_storeName_local (lookup_relabel_local hx) (hN.ns (ne2 (Ne.symm nIC) iC.1)) (fun h₃ hn₃ hs₃ => ?_) (by simp [compEnvC, relabel, hkind]))
      refine wpAny_tests_nil ?_
      simp only [if_true]
      have k3 : ∀ {b o}, b ≠ C → h₂.get? b = some o → h₃.get? b = some o := fun hb e => hs₃.extBut _ _ hb e
      obtain ⟨oC3, hoC3, hN3⟩ := LCg.ns_obj hn₃
      have F3 : Fr h₀ L h₃ m := ⟨F.ns.at' fun o e => k3 (Ne.symm iC.2.1) (ne2 (Ne.symm iI.2.1) e), fun b o e => k3 (fun q => by rw [q, iC.2.2] at e; cases e) (ne2 (fun q => by rw [q, iI.2.2] at e; cases e) (F.keep b o e)), F.above⟩
      have N3 : News h₀ L h₃ ((I, oI2) :: (C, oC3) :: (D, LCg.lst ys) :: (src, listOf its k) :: nw) := fun q hq => by
        rcases List.mem_cons.mp hq with rfl | hq
        · exact ⟨k3 nIC hoI2, iI.2⟩
        rcases List.mem_cons.mp hq with rfl | hq
        · exact ⟨hoC3, iC.2⟩
        rcases List.mem_cons.mp hq with rfl | hq
        · exact ⟨k3 (Ne.symm nCD) (ne2 (Ne.symm nID) iD.1), iD.2⟩
        rcases List.mem_cons.mp hq with rfl | hq
        · exact ⟨k3 nSC (ne2 nSI iS.1), iS.2⟩
        · have iq := N q (.tail _ (.tail _ (.tail _ (.tail _ hq))))
          have o4 := off q hq
          exact ⟨k3 o4.2.1 (ne2 o4.1 iq.1), iq.2⟩
      refine wpAny_mono (turn i v I C D oI2 oC3 _ h₃ _ gs ys nw hv hyl hK hN3 (by simp) F3 N3 off) (fun y s₄ h₄ => ?_) fun _ _ e => e.elim
      obtain ⟨h₄, tk₄, gs₄, nw₄, rfl, F₄, N₄, off₄, hK₄⟩ := h₄
      have jI := N₄ _ (.head _)
      have jC := N₄ _ (.tail _ (.head _))
      have jD := N₄ _ (.tail _ (.tail _ (.head _)))
      have jS := N₄ _ (.tail _ (.tail _ (.tail _ (.head _))))
      refine append_at (hsz := by show ys.toArray.size ≤ sizeLine; rw [List.size_toArray, hyl]; exact Nat.le_trans hi hsz) jD.1 fun h₅ hs₅ hD₅ => ?_
      have k5 : ∀ {b o}, b ≠ D → h₄.get? b = some o → h₅.get? b = some o := fun hb e => hs₅.extBut _ _ hb e
      refine ⟨its.size + 1 - (i + 1), by omega, i + 1, h₅, tk₄, gs₄, ys ++ [y], oI2, oC3, _, nw₄, rfl, hlt, rfl, by rw [List.length_append, List.length_singleton, hyl], hK₄, ⟨oI2, k5 nID jI.1, hcI2, hdI2⟩, hN3, F₄.change hs₅ jD.2.1 jD.2.2, fun q hq => ?_, off₄⟩
      rcases List.mem_cons.mp hq with rfl | hq
      · exact ⟨k5 nID jI.1, jI.2⟩
      rcases List.mem_cons.mp hq with rfl | hq
      · exact ⟨k5 nCD jC.1, jC.2⟩
      rcases List.mem_cons.mp hq with rfl | hq
      · exact ⟨hD₅.trans (congrArg some (LCg.lst_snoc ys y)), jD.2⟩
      rcases List.mem_cons.mp hq with rfl | hq
      · exact ⟨k5 nSD jS.1, jS.2⟩
      · have jq := N₄ q (.tail _ (.tail _ (.tail _ (.tail _ hq))))
        exact ⟨k5 (off₄ q hq).2.2.1 jq.1, jq.2⟩
    · obtain rfl : i = its.size := Nat.le_antisymm hi (Nat.not_lt.mp hlt)
      refine W.done _ _ _ ⟨hit, hls⟩ fun h₂ tk₂ hk₂ => ?_
      k_unfold
      dsimp only
      have ne2 : ∀ {b o}, b ≠ I → h'.get? b = some o → h₂.get? b = some o := fun hb e => hk₂ _ _ (by simpa using hb) e
      refine ⟨mC, hN.ns (ne2 (Ne.symm nIC) iC.1), fun h₃ hs₃ => ?_⟩
      have k3 : ∀ {b o}, b ≠ C → h₂.get? b = some o → h₃.get? b = some o := fun hb e => hs₃.extBut _ _ hb e
      refine fin D h₃ tk₂ gs ys nw hK ⟨F.ns.at' fun o e => k3 (Ne.symm iC.2.1) (ne2 (Ne.symm iI.2.1) e), fun b o e => k3 (fun q => by rw [q, iC.2.2] at e; cases e) (ne2 (fun q => by rw [q, iI.2.2] at e; cases e) (F.keep b o e)), F.above⟩ (fun q hq => ?_) fun q hq => (off q hq).2.2.1
      rcases List.mem_cons.mp hq with rfl | hq
      · exact ⟨k3 (Ne.symm nCD) (ne2 (Ne.symm nID) iD.1), iD.2⟩
      rcases List.mem_cons.mp hq with rfl | hq
      · exact ⟨k3 nSC (ne2 nSI iS.1), iS.2⟩
      · have iq := N q (.tail _ (.tail _ (.tail _ (.tail _ hq))))
        have o4 := off q hq
        exact ⟨k3 o4.2.1 (ne2 o4.1 iq.1), iq.2⟩
  exact codeAny_compStart_list (loop _ rfl) (W.self 0 _ _ _ ⟨⟨_, (N3 _ (.head _)).1, rfl, rfl⟩, ⟨_, (N3 _ (.tail _ (.tail _ (.tail _ (.head _))))).1, rfl, _, rfl⟩⟩ (loop _ rfl))
end
end Mine
namespace Mine
open PySem PySem.W PySem.Calls PyProof.Rows

/-- a formatter without a word in it. -/
structure FmtR where
  x : Addr
  dl : Addr
  acc : Addr
  dx : Addr
  lines : Addr
  es : List DictEntry
  nd : Nat
  na : Nat
  th : Tok
  T : Tok
  hd : Int
  mx : Int
  cl : Int
structure FmtR.In (r : FmtR) (w : World) (nw : List (Addr × Obj)) : Prop where
  ok : FmtD r.es r.mx r.cl " " r.lines r.acc
  i1 : (r.acc, accObj r.dx [] r.na) ∈ nw
  i2 : (r.dx, dictOf (accD w r.th (.int r.hd r.T)) 1) ∈ nw
  i3 : (r.x, instObj 94 r.dl) ∈ nw
  i4 : (r.dl, dictOf r.es r.nd) ∈ nw
theorem FmtR.In.mono {r : FmtR} {w : World} {nw nw' : List (Addr × Obj)} (h : r.In w nw) (k : ∀ q ∈ nw, q ∈ nw') : r.In w nw' := ⟨h.ok, k _ h.i1, k _ h.i2, k _ h.i3, k _ h.i4⟩
abbrev FmtR.nums (r : FmtR) : Int × Int × Int := (r.hd, r.mx, r.cl)

/-- after i turns of the comprehension that makes formatters. -/
def MadeK (w : World) (base : List (Addr × Obj)) (gs0 : Array GenState) (par : List (Int × Int × Int)) (i : Nat) (ys : List Value) (nw : List (Addr × Obj)) (gs : Array GenState) : Prop :=
  ∃ rs : List FmtR, gs = gs0 ∧ rs.length = i ∧ ys = rs.map (fun r => Value.ref r.x) ∧ rs.map FmtR.nums = par.take i ∧ (∀ r ∈ rs, r.In w nw) ∧ (∀ q ∈ base, q ∈ nw) ∧ ∀ q ∈ nw, q ∈ base ∨ ∀ z ∈ base, @LT.lt Nat _ z.1 q.1

/-- what has been told so far: a list of ints for each. -/
structure ToldR where
  l : Addr
  vs : List Value
  ep : Nat
/-- after i turns of the comprehension that asks each formatter. -/
def AskK (base : List (Addr × Obj)) (gs0 : Array GenState) (pl0 : Array Value) (exp : List (List Int)) (i : Nat) (ys : List Value) (nw : List (Addr × Obj)) (gs : Array GenState) : Prop :=
  ∃ (pl : Array Value) (nw' : List (Addr × Obj)) (ls : List ToldR), nw = (140, tabO pl) :: nw' ∧ TabMore pl0 pl ∧ GX gs0 gs ∧ ls.length = i ∧ ys = ls.map (fun e => Value.ref e.l) ∧ (∀ e ∈ ls, (e.l, listOf e.vs.toArray e.ep) ∈ nw') ∧
    (∀ (j : Nat) (e : ToldR) (ns : List Int), ls[j]? = some e → exp[j]? = some ns → IntsAre e.vs ns) ∧ (∀ q ∈ base, q ∈ nw') ∧ ∀ q ∈ nw', q.1 ≠ 140

theorem reads_ints {h : Heap} {a : Addr} {vs : List Value} {ns : List Int} {n : Nat} (e : h.get? a = some (listOf vs.toArray n)) (hi : IntsAre vs ns) : Reads h (.ref a) (.list (ns.map .int)) [a] := .list e rfl rfl (hi.reads h)
theorem four_of {α : Type} : ∀ {l : List α}, l.length = 4 → ∃ a b c d, l = [a, b, c, d]
  | [a, b, c, d], _ => ⟨a, b, c, d, rfl⟩
theorem reads_four {h : Heap} {D a b c d : Addr} {n : Nat} {xa xb xc xd : PyData} {sa sb sc sd : List Addr} (e : h.get? D = some (listOf #[.ref a, .ref b, .ref c, .ref d] n))
    (ra : Reads h (.ref a) xa sa) (rb : Reads h (.ref b) xb sb) (rc : Reads h (.ref c) xc sc) (rd : Reads h (.ref d) xd sd) : ∃ as, Reads h (.ref D) (.list [xa, xb, xc, xd]) as := ⟨_, .list e rfl rfl (.cons ra (.cons rb (.cons rc (.cons rd .nil))))⟩
def ints4 (one : Int) : PyData := .list [.list ([one, 128, 128].map .int), .list ([one].map .int), .list ([one, 126, 126].map .int), .list (([] : List Int).map .int)]
theorem shaped4 (one : Int) : SeqAt.shaped (ints4 one) = true := by rfl
theorem eqv4 (one : Int) : PyData.eqv (ints4 one) (ints4 one) = true := by simp [ints4, PyData.eqv, PyData.eqvAll]
/-- what each formatter's ruler tells. -/
abbrev exp4 (one : Int) : List (List Int) := [[one, 128, 128], [one], [one, 126, 126], []]
theorem exp_at {rs : List FmtR} {one : Int} (h7 : one ≤ 7) (h2 : 2 ≤ one) (hn : rs.map FmtR.nums = [(129 - one, 129, 1), (129 - one, 129, 2), (129 - one, 129, 3), (2, 129, 1)]) {i : Nat} {r : FmtR} (hr : rs[i]? = some r) :
    (exp4 one)[i]? = some (frontL (r.mx - r.hd) (r.mx - r.cl) 3) ∧ r.mx - r.hd ≠ 0 ∧ 0 ≤ r.hd ∧ r.hd < 2 ^ 63 := by
  obtain ⟨a, b, c, d, rfl⟩ := four_of (l := rs) (by have := congrArg List.length hn; simpa using this)
  simp only [List.map_cons, List.map_nil, List.cons.injEq, and_true, FmtR.nums, Prod.mk.injEq] at hn
  obtain ⟨⟨a1, a2, a3⟩, ⟨b1, b2, b3⟩, ⟨c1, c2, c3⟩, ⟨d1, d2, d3⟩⟩ := hn
  rcases i with _ | _ | _ | _ | i
  · cases hr
    refine ⟨?_, by omega, by omega, by omega⟩
    rw [a1, a2, a3, show (129 : Int) - (129 - one) = one by omega]
    simp only [frontL]
    rw [if_neg (by omega), if_neg (by decide), if_neg (by decide)]
    rfl
  · cases hr
    refine ⟨?_, by omega, by omega, by omega⟩
    rw [b1, b2, b3, show (129 : Int) - (129 - one) = one by omega]
    simp only [frontL]
    rw [if_neg (by omega), if_pos (by decide)]
    rfl
  · cases hr
    refine ⟨?_, by omega, by omega, by omega⟩
    rw [c1, c2, c3, show (129 : Int) - (129 - one) = one by omega]
    simp only [frontL]
    rw [if_neg (by omega), if_neg (by decide), if_neg (by decide)]
    rfl
  · cases hr
    refine ⟨?_, by omega, by omega, by omega⟩
    rw [d1, d2, d3]
    simp only [frontL]
    rw [if_pos (by decide)]
    rfl
  · simp at hr
end Mine
namespace Mine
open PySem PySem.W PySem.Calls PyProof.Rows
local macro_rules | `(tactic| k_all) => `(tactic| assumption)

section
variable {w : World} {A : Around} {dp un : Nat} {fr : Option (List Env)} {gd : Option (List Code)} {s : Shared} {g : Heap} {L L' : Addr} {p : Program} {loose : List Str} {mg mb mp : Str → Option Value} {E : Value → Shared → Prop} {Q : Flow → Shared → Prop}
  {name qual : Str} {params : Arguments} {body : List Stmt} {scope : Scope} {dV kV doc pm cdv ct oc : Value} {an od : Option Addr} {osl : Array (Option Value)}
  {one other head width top : Int} {row acc dx lines x dl : Addr} {th' t3 td te t1 : Tok} {es : List DictEntry} {nd J : Nat} {sl sw : Str} {rest : List (Addr × Obj)} {oL oe : Obj}


theorem tailG1 {envL : Env} {vs : List Value} {ep : Nat} {pl ps : Array Value}
    (hK : (hed.heap_39 w.params).lookup 256 = some ⟨oc, od, .func (fnOf name qual params body scope dV kV doc pm an cdv ct), osl⟩)
    (G' : Gd w p loose mg mb g) (hdp : dp < 610) (hun : un + 35 < 9000) (O : OrdP g L L' row dl x lines dx acc) (o1 : 2 ≤ one) (o2 : one ≤ 7) (o3 : one < other) (o4 : other ≤ 13) (w1 : other ≤ width) (w2 : width ≤ 126)
    (hrest : RestP L L' rest) (dc : oe.data = .cell (some (.int one t1))) (mm : PaidN mp row x top width other sl sw td te) (F : Fr g L' s.heap mp)
    (N : News g L' s.heap ((row, listOf vs.toArray ep) :: (140, tabO pl) :: (147, tabO ps) :: (L' + 1, oe) :: (L, oL) :: rest)) (htr : TriplesOk pl.toList)
    (h : ∀ (h' : Heap) (tk' : Nat) (mp' : Str → Option Value) (l : Addr) (rs : List FmtR) (nw : List (Addr × Obj)), Fr g L' h' mp' → mp' "lines" = some (.ref l) → mp' "row" = some (.ref row) →
      News g L' h' ((l, listOf (rs.map fun r => Value.ref r.x).toArray 0) :: nw) → (∀ q ∈ nw, q.1 ≠ l) → rs.map FmtR.nums = [(129 - one, 129, 1), (129 - one, 129, 2), (129 - one, 129, 3), (2, 129, 1)] → (∀ r ∈ rs, r.In w nw) → (∀ q ∈ (row, listOf vs.toArray ep) :: (140, tabO pl) :: (147, tabO ps) :: (L' + 1, oe) :: (L, oL) :: rest, q ∈ nw) → (∀ q ∈ nw, q ∈ ((row, listOf vs.toArray ep) :: (140, tabO pl) :: (147, tabO ps) :: (L' + 1, oe) :: (L, oL) :: rest) ∨ @LT.lt Nat _ row q.1) →
      wpAny (model pw w) (AR dp un (some [envOfC qual scope L' 256 cdv, envL]) gd) (execs (body.drop 16) (envOfC qual scope L' 256 cdv)) Q E { s with heap := h', toks := tk' }) :
    wpAny (model pw w) (AR dp un (some [envOfC qual scope L' 256 cdv, envL]) gd) (execs (body.drop 15) (envOfC qual scope L' 256 cdv)) Q E s := by
  have hc := hK.symm.trans (show (hed.heap_39 w.params).lookup 256 = some _ from by k_is)
  cases hc
  clear hK
  have X := G'.X
  have T := G'.T
  k_with_none
  k_with "fn" => (
    rename Fr g _ _ _ => F
    rename News g _ _ _ => N)
  k_with "steps" => repeat' (fail_if_success (with_reducible show wpAny _ _ (execs (_ :: _) _) _ _ _)); (fail_if_success (with_reducible show wpAny _ _ (getMethod (Value.ref _) _ _) _ _ _)); (fail_if_success (with_reducible show wpAny _ _ (call (Value.ref _) _) _ _ _)); (fail_if_success (with_reducible show wpAny _ _ (eval (PySem.Expr.ListComp _ _ _ _) _) _ _ _)); (fail_if_success (with_reducible show wpAny _ _ (binaryOp _ (Value.ref _) (Value.ref _)) _ _ _)); (fail_if_success (with_reducible show CompG _ _ _ _ _ _ _ _ _ _ _ _ _)); (first | (k_unfold; (try dsimp only)) | (k_end; kc_close) | walk1 | (dsimp only; walk1) | (leave1; (try dsimp only)) | fail "no step")
  k_with "go" => repeat' (fail_if_success (with_reducible show wpAny _ _ (getMethod (Value.ref _) _ _) _ _ _)); (fail_if_success (with_reducible show wpAny _ _ (call (Value.ref _) _) _ _ _)); (fail_if_success (with_reducible show wpAny _ _ (eval (PySem.Expr.ListComp _ _ _ _) _) _ _ _)); (fail_if_success (with_reducible show wpAny _ _ (binaryOp _ (Value.ref _) (Value.ref _)) _ _ _)); (fail_if_success (with_reducible show CompG _ _ _ _ _ _ _ _ _ _ _ _ _)); (first | (k_unfold; (try dsimp only)) | (k_end; kc_close) | walk1 | (dsimp only; walk1) | (leave1; (try dsimp only)) | fail "no step")
  obtain ⟨gL, l0, l1, l2, l3, l4, l5, l6, l7, nL1, nL2⟩ := O
  obtain ⟨m1, m3, ⟨tk4, m4⟩, ⟨tk5, m5⟩, ⟨tk6, m6⟩, m7, m8⟩ := id mm
  rw [map7 m1 m3 m4 m5 m6 m7 m8] at F
  clear mm m1 m3 m4 m5 m6 m7 m8
  show wpAny _ _ (execs (_ :: _) _) _ _ _
  k_extra "go"
  refine listcomp_G F (by with_unfolding_all rfl) (by decide) (by rfl) (by decide) (by rfl) ?_
  k_extra "go"
  k_extra "fn"
  rename_i src h1s l1s
  have hSrc : ∀ q ∈ ((row, listOf vs.toArray ep) :: (140, tabO pl) :: (147, tabO ps) :: (L' + 1, oe) :: (L, oL) :: rest), q.1 < src := by
    obtain ⟨a1, a2, a3, a4, a5, a6⟩ := l1s
    refine all_cons ?_ (all_cons ?_ (all_cons ?_ (all_cons ?_ (all_cons ?_ (fun q hq => ?_)))))
    · exact a1
    · exact a2
    · exact a3
    · exact a4
    · exact a5
    · exact allLt_mem a6 q hq
  refine ⟨src, _, 0, _, MadeK w ((row, listOf vs.toArray ep) :: (140, tabO pl) :: (147, tabO ps) :: (L' + 1, oe) :: (L, oL) :: rest) s.gens [(129 - one, 129, 1), (129 - one, 129, 2), (129 - one, 129, 3)], rfl, rfl, F, N, fun q hq => Nat.ne_of_lt (hSrc q hq), by show 3 ≤ sizeLine; decide, ⟨[], rfl, rfl, rfl, rfl, (fun _ h => nomatch h), (fun _ h => h), (fun _ h => .inl h)⟩, ?turn, ?fin⟩
  case turn =>
    clear F N
    rintro i v I C D oI oC mC h2 tk2 gs2 ys nw hv hyl ⟨rs, rfl, hlen, rfl, hpar, hin, hbase, hord⟩ hNC hmx F N off
    obtain ⟨hi3, t, rfl⟩ : i < 3 ∧ ∃ t, v = .int ((i : Int) + 1) t := by
      rcases i with _ | _ | _ | i
      · exact ⟨by decide, _, (Option.some.inj hv).symm⟩
      · exact ⟨by decide, _, (Option.some.inj hv).symm⟩
      · exact ⟨by decide, _, (Option.some.inj hv).symm⟩
      · simp at hv
    have N := News.sub N (l' := (I, oI) :: (C, oC) :: (D, LCg.lst (rs.map fun r => Value.ref r.x)) :: (src, listOf #[.int 1 s.toks, .int 2 (s.toks + 1), .int 3 (s.toks + 1 + 1)] 0) :: (L' + 1, oe) :: nw) fun q hq => by
      simp only [List.mem_cons] at hq ⊢
      rcases hq with h | h | h | h | h | h
      · simp only [h, true_or, or_true]
      · simp only [h, true_or, or_true]
      · simp only [h, true_or, or_true]
      · simp only [h, true_or, or_true]
      · rw [h]; simp only [hbase (L' + 1, oe) (.tail _ (.tail _ (.tail _ (.head _)))), or_true]
      · simp only [h, or_true]
    k_extra "go"
    k_extra "fn"
    have hcl : ((Txt.mul (Str.ofString " ") ((i : Int) + 1)).length : Int) = (i : Int) + 1 := blanks_len (Int.add_nonneg (Int.natCast_nonneg _) (by decide))
    refine fmt_new_T F N G' (Nat.lt_of_lt_of_le hdp (by decide)) (ar10 hcl (Int.le_trans (Int.add_le_add_right (Int.ofNat_le.mpr (Nat.le_of_lt hi3)) 1) (by decide))) fun T2 x2 dl2 lines2 acc2 dx2 es2 nd2 na2 th2 h3 tk3 hD2 F N ltd ord => ?_
    rw [hcl] at hD2
    obtain ⟨or1, or2, or3, or4⟩ := ord
    have or1 : @LT.lt Nat _ dl2 x2 := or1
    have or2 : @LT.lt Nat _ x2 lines2 := or2
    have or3 : @LT.lt Nat _ lines2 dx2 := or3
    have or4 : @LT.lt Nat _ dx2 acc2 := or4
    have zI : @LT.lt Nat _ I dl2 := ltd (I, oI) (.head _)
    have zC : @LT.lt Nat _ C dl2 := ltd (C, oC) (.tail _ (.head _))
    have zD : @LT.lt Nat _ D dl2 := ltd (D, _) (.tail _ (.tail _ (.head _)))
    have zS : @LT.lt Nat _ src dl2 := ltd (src, _) (.tail _ (.tail _ (.tail _ (.head _))))
    have ltn : ∀ q ∈ nw, @LT.lt Nat _ q.1 dl2 := fun q hq => ltd q (.tail _ (.tail _ (.tail _ (.tail _ (.tail _ hq)))))
    have ch : Chain [dl2, x2, lines2, dx2, acc2] := ⟨or1, or2, or3, or4, trivial⟩
    have big : ∀ b : Addr, @LE.le Nat _ dl2 b → b ≠ I ∧ b ≠ C ∧ b ≠ D ∧ b ≠ src := fun b hb => ⟨Nat.ne_of_gt (Nat.lt_of_lt_of_le zI hb), Nat.ne_of_gt (Nat.lt_of_lt_of_le zC hb), Nat.ne_of_gt (Nat.lt_of_lt_of_le zD hb), Nat.ne_of_gt (Nat.lt_of_lt_of_le zS hb)⟩
    refine ⟨_, _, s.gens, (acc2, accObj dx2 [] na2) :: (dx2, dictOf (accD w th2 (.int (129 - one) T2)) 1) :: (lines2, listOf #[] 0) :: (x2, instObj 94 dl2) :: (dl2, dictOf es2 nd2) :: nw, rfl, F, ?u1, ?u2, rs ++ [⟨x2, dl2, acc2, dx2, lines2, es2, nd2, na2, th2, T2, 129 - one, 129, (i : Int) + 1⟩], rfl, ?u3, ?u4, ?u5, ?u6, ?u7, ?u8⟩
    case u1 =>
      refine News.sub N fun q hq => ?_
      refine (?_ : ∀ q ∈ (_ : List (Addr × Obj)), q ∈ (_ : List (Addr × Obj))) q hq
      repeat' (first | (with_reducible exact fun _ h => h) | refine sub_cons ?_ ?_ | exact List.Mem.head _ | apply List.Mem.tail | exact sub_nil | (with_reducible exact fun _ h => List.mem_append_left _ h) | refine sub_tail ?_)
    case u2 =>
      refine all_cons ?_ (all_cons ?_ (all_cons ?_ (all_cons ?_ (all_cons ?_ (fun q hq => ?_)))))
      · exact big acc2 (Nat.le_of_lt (ch.lt 0 4 rfl rfl (by decide)))
      · exact big dx2 (Nat.le_of_lt (ch.lt 0 3 rfl rfl (by decide)))
      · exact big lines2 (Nat.le_of_lt (ch.lt 0 2 rfl rfl (by decide)))
      · exact big x2 (Nat.le_of_lt or1)
      · exact big dl2 (Nat.le_refl _)
      · exact off q hq
    case u3 => rw [List.length_append, hlen]; rfl
    case u4 => rw [List.map_append]; rfl
    case u5 =>
      rw [List.map_append, hpar]
      have : i = 0 ∨ i = 1 ∨ i = 2 := by omega
      rcases this with rfl | rfl | rfl <;> rfl
    case u6 =>
      intro r hr
      rcases List.mem_append.mp hr with hr | hr
      · exact (hin r hr).mono fun q hq => .tail _ (.tail _ (.tail _ (.tail _ (.tail _ hq))))
      · rw [List.mem_singleton.mp hr]
        exact ⟨hD2, .head _, .tail _ (.head _), .tail _ (.tail _ (.tail _ (.head _))), .tail _ (.tail _ (.tail _ (.tail _ (.head _))))⟩
    case u7 => exact fun q hq => .tail _ (.tail _ (.tail _ (.tail _ (.tail _ (hbase q hq)))))
    case u8 =>
      have lb : ∀ b : Addr, @LE.le Nat _ dl2 b → ∀ z ∈ ((row, listOf vs.toArray ep) :: (140, tabO pl) :: (147, tabO ps) :: (L' + 1, oe) :: (L, oL) :: rest), @LT.lt Nat _ z.1 b := fun b hb z hz => Nat.lt_of_lt_of_le (ltn z (hbase z hz)) hb
      refine all_cons ?_ (all_cons ?_ (all_cons ?_ (all_cons ?_ (all_cons ?_ (fun q hq => ?_)))))
      · exact .inr (lb acc2 (Nat.le_of_lt (ch.lt 0 4 rfl rfl (by decide))))
      · exact .inr (lb dx2 (Nat.le_of_lt (ch.lt 0 3 rfl rfl (by decide))))
      · exact .inr (lb lines2 (Nat.le_of_lt (ch.lt 0 2 rfl rfl (by decide))))
      · exact .inr (lb x2 (Nat.le_of_lt or1))
      · exact .inr (lb dl2 (Nat.le_refl _))
      · exact hord q hq
  case fin =>
    clear F N
    rintro D h2 tk2 gs2 ys nw ⟨rs, rfl, hlen, rfl, hpar, hin, hbase, hord⟩ F N off
    k_extra "go"
    k_extra "fn"
    refine fmt_new_T F N G' (Nat.lt_of_lt_of_le hdp (by decide)) (by decide) fun T2 x2 dl2 lines2 acc2 dx2 es2 nd2 na2 th2 h3 tk3 hD2 F N ltd ord => ?_
    obtain ⟨or1, or2, or3, or4⟩ := ord
    have or1 : @LT.lt Nat _ dl2 x2 := or1
    have or2 : @LT.lt Nat _ x2 lines2 := or2
    have or3 : @LT.lt Nat _ lines2 dx2 := or3
    have or4 : @LT.lt Nat _ dx2 acc2 := or4
    have ltn : ∀ q ∈ nw, @LT.lt Nat _ q.1 dl2 := fun q hq => ltd q (.tail _ (.tail _ hq))
    have zD : @LT.lt Nat _ D dl2 := ltd (D, _) (.head _)
    k_extra "go"
    k_extra "fn"
    rename_i la hla lla
    have hA1 := isList_of (its := (rs.map fun r => Value.ref r.x).toArray) (N (D, _) (.tail _ (.tail _ (.tail _ (.tail _ (.tail _ (.tail _ (.head _)))))))).1
    have hA2 := isList_of (N (la, _) (.head _)).1
    refine kmk_add_lit (zs := (rs ++ ([⟨x2, dl2, acc2, dx2, lines2, es2, nd2, na2, th2, T2, 2, 129, 1⟩] : List FmtR)).map fun r : FmtR => Value.ref r.x) F N hA1 hA2 (by simp) (fun l h4 F N hll => ?_) (by simp [hlen]; decide)
    have hcl : ((Str.ofString " ").length : Int) = 1 := by decide
    rw [hcl] at hD2
    k_extra "steps"
    k_extra "fn"
    dsimp only
    refine h _ _ _ l (rs ++ [⟨x2, dl2, acc2, dx2, lines2, es2, nd2, na2, th2, T2, 2, 129, 1⟩]) ((acc2, accObj dx2 [] na2) :: (dx2, dictOf (accD w th2 (.int 2 T2)) 1) :: (lines2, listOf #[] 0) :: (x2, instObj 94 dl2) :: (dl2, dictOf es2 nd2) :: nw) F rfl rfl (News.sub N ?v1) ?v2 ?v3 ?v4 ?v5 ?v6
    case v1 =>
      intro q hq
      refine (?_ : ∀ q ∈ (_ : List (Addr × Obj)), q ∈ (_ : List (Addr × Obj))) q hq
      repeat' (first | (with_reducible exact fun _ h => h) | refine sub_cons ?_ ?_ | exact List.Mem.head _ | apply List.Mem.tail | exact sub_nil | (with_reducible exact fun _ h => List.mem_append_left _ h) | refine sub_tail ?_)
    case v2 =>
      intro q hq
      refine Nat.ne_of_lt (hll q ?_)
      refine (?_ : ∀ q ∈ (_ : List (Addr × Obj)), q ∈ (_ : List (Addr × Obj))) q hq
      repeat' (first | (with_reducible exact fun _ h => h) | refine sub_cons ?_ ?_ | exact List.Mem.head _ | apply List.Mem.tail | exact sub_nil | (with_reducible exact fun _ h => List.mem_append_left _ h) | refine sub_tail ?_)
    case v3 => rw [List.map_append, hpar]; rfl
    case v4 =>
      intro r hr
      rcases List.mem_append.mp hr with hr | hr
      · exact (hin r hr).mono fun q hq => .tail _ (.tail _ (.tail _ (.tail _ (.tail _ hq))))
      · rw [List.mem_singleton.mp hr]
        exact ⟨hD2, .head _, .tail _ (.head _), .tail _ (.tail _ (.tail _ (.head _))), .tail _ (.tail _ (.tail _ (.tail _ (.head _))))⟩
    case v5 => exact fun q hq => .tail _ (.tail _ (.tail _ (.tail _ (.tail _ (hbase q hq)))))
    case v6 =>
      have zr : @LT.lt Nat _ row dl2 := ltn _ (hbase _ (.head _))
      have ch : Chain [row, dl2, x2, lines2, dx2, acc2] := ⟨zr, or1, or2, or3, or4, trivial⟩
      refine all_cons ?_ (all_cons ?_ (all_cons ?_ (all_cons ?_ (all_cons ?_ (fun q hq => ?_)))))
      · exact .inr (ch.lt 0 5 rfl rfl (by decide))
      · exact .inr (ch.lt 0 4 rfl rfl (by decide))
      · exact .inr (ch.lt 0 3 rfl rfl (by decide))
      · exact .inr (ch.lt 0 2 rfl rfl (by decide))
      · exact .inr zr
      · rcases hord q hq with z | z
        · exact .inl z
        · exact .inr (z (row, listOf vs.toArray ep) (.head _))
end
end Mine
namespace Mine
open PySem PySem.W PySem.Calls PyProof.Rows
local macro_rules | `(tactic| k_all) => `(tactic| assumption)

section
variable {w : World} {A : Around} {dp un : Nat} {fr : Option (List Env)} {gd : Option (List Code)} {s : Shared} {g : Heap} {L L' : Addr} {p : Program} {loose : List Str} {mg mb mp : Str → Option Value} {E : Value → Shared → Prop} {Q : Flow → Shared → Prop}
  {name qual : Str} {params : Arguments} {body : List Stmt} {scope : Scope} {dV kV doc pm cdv ct oc : Value} {an od : Option Addr} {osl : Array (Option Value)}
  {one other head width top : Int} {row acc dx lines x dl : Addr} {th' t3 td te t1 : Tok} {es : List DictEntry} {nd J : Nat} {sl sw : Str} {rest : List (Addr × Obj)} {oL oe : Obj}


theorem tailG2 {envL : Env} {ep : Nat} {vs : List Value} {pl ps : Array Value} {l : Addr} {rs : List FmtR} {nw : List (Addr × Obj)}
    (hK : (hed.heap_39 w.params).lookup 256 = some ⟨oc, od, .func (fnOf name qual params body scope dV kV doc pm an cdv ct), osl⟩)
    (G' : Gd w p loose mg mb g) (hdp : dp < 610) (hun : un + 35 < 9000) (gL : g.objs.size ≤ L') (l2 : @LT.lt Nat _ 147 L') (o1 : 2 ≤ one) (o2 : one ≤ 7) (dc : oe.data = .cell (some (.int one t1)))
    (F : Fr g L' s.heap mp) (m1 : mp "lines" = some (.ref l)) (m2 : mp "row" = some (.ref row))
    (N : News g L' s.heap ((l, listOf (rs.map fun r => Value.ref r.x).toArray 0) :: nw)) (hnl : ∀ q ∈ nw, q.1 ≠ l) (hnums : rs.map FmtR.nums = [(129 - one, 129, 1), (129 - one, 129, 2), (129 - one, 129, 3), (2, 129, 1)]) (hin : ∀ r ∈ rs, r.In w nw)
    (hpl : (140, tabO pl) ∈ nw) (hoe : (L' + 1, oe) ∈ nw) (h140 : ∀ q ∈ nw, q = (140, tabO pl) ∨ q.1 ≠ 140) (htr : TriplesOk pl.toList)
    (h : ∀ h' tk' gs' mp' pl2, TabMore pl pl2 → Fr g L' h' mp' → (∀ nw' : List (Addr × Obj), (∀ q ∈ nw', q ∈ nw ∧ q.1 ≠ 140) → News g L' h' ((140, tabO pl2) :: nw')) → GX s.gens gs' →
      Q (.ret (.ref row)) { s with heap := h', toks := tk', gens := gs' }) :
    wpAny (model pw w) (AR dp un (some [envOfC qual scope L' 256 cdv, envL]) gd) (execs (body.drop 16) (envOfC qual scope L' 256 cdv)) Q E s := by
  have hc := hK.symm.trans (show (hed.heap_39 w.params).lookup 256 = some _ from by k_is)
  cases hc
  clear hK
  have X := G'.X
  have T := G'.T
  k_with_none
  k_with "fn" => (
    rename Fr g _ _ _ => F
    rename News g _ _ _ => N)
  k_with "steps" => repeat' (fail_if_success (with_reducible show wpAny _ _ (execs (_ :: _) _) _ _ _)); (fail_if_success (with_reducible show wpAny _ _ (getMethod (Value.ref _) _ _) _ _ _)); (fail_if_success (with_reducible show wpAny _ _ (call (Value.ref _) _) _ _ _)); (fail_if_success (with_reducible show wpAny _ _ (eval (PySem.Expr.ListComp _ _ _ _) _) _ _ _)); (fail_if_success (with_reducible show wpAny _ _ (binaryOp _ (Value.ref _) (Value.ref _)) _ _ _)); (fail_if_success (with_reducible show CompG _ _ _ _ _ _ _ _ _ _ _ _ _)); (first | (k_unfold; (try dsimp only)) | (k_end; kc_close) | walk1 | (dsimp only; walk1) | (leave1; (try dsimp only)) | fail "no step")
  k_with "go" => repeat' (fail_if_success (with_reducible show wpAny _ _ (getMethod (Value.ref _) _ _) _ _ _)); (fail_if_success (with_reducible show wpAny _ _ (call (Value.ref _) _) _ _ _)); (fail_if_success (with_reducible show wpAny _ _ (eval (PySem.Expr.ListComp _ _ _ _) _) _ _ _)); (fail_if_success (with_reducible show wpAny _ _ (binaryOp _ (Value.ref _) (Value.ref _)) _ _ _)); (fail_if_success (with_reducible show CompG _ _ _ _ _ _ _ _ _ _ _ _ _)); (first | (k_unfold; (try dsimp only)) | (k_end; kc_close) | walk1 | (dsimp only; walk1) | (leave1; (try dsimp only)) | fail "no step")
  rw [map2 m1 m2] at F
  show wpAny _ _ (execs (_ :: _) _) _ _ _
  k_extra "go"
  refine listcomp_G F (by with_unfolding_all rfl) (by decide) (by rfl) (by decide) (by rfl) ?_
  k_extra "go"
  k_extra "fn"
  obtain ⟨nF, hnF⟩ : ∃ nF, nF = nw.filter fun q => decide (q.1 ≠ 140) := ⟨_, rfl⟩
  have inF : ∀ {q : Addr × Obj}, q ∈ nw → q.1 ≠ 140 → q ∈ nF := fun h1 h2 => by rw [hnF]; exact List.mem_filter.mpr ⟨h1, decide_eq_true h2⟩
  have outF : ∀ {q : Addr × Obj}, q ∈ nF → q ∈ nw ∧ q.1 ≠ 140 := fun h1 => by
    rw [hnF] at h1
    exact ⟨(List.mem_filter.mp h1).1, of_decide_eq_true (List.mem_filter.mp h1).2⟩
  clear hnF
  have l1 : (140 : Nat) ≠ L' + 1 := by omega
  have hrs : rs.length = 4 := by have := congrArg List.length hnums; simpa using this
  have l140 : l ≠ 140 := fun q => hnl _ hpl q.symm
  have NF : News g L' s.heap ((l, listOf (rs.map fun r => Value.ref r.x).toArray 0) :: (140, tabO pl) :: nF) := News.sub N fun q hq => by
    rcases List.mem_cons.mp hq with rfl | hq
    · exact .head _
    rcases List.mem_cons.mp hq with rfl | hq
    · exact .tail _ hpl
    · exact .tail _ (outF hq).1
  refine ⟨l, _, _, _, AskK nF s.gens pl (exp4 one), rfl, rfl, F, NF, fun q hq => ?_, ?_, ⟨pl, nF, [], rfl, .refl htr, .refl _, rfl, rfl, (fun _ h => nomatch h), (fun _ _ _ h => by simp at h), (fun _ h => h), (fun _ h => (outF h).2)⟩, ?turn, ?fin⟩
  · rcases List.mem_cons.mp hq with rfl | hq
    · exact Ne.symm l140
    · exact hnl q (outF hq).1
  · show (rs.map fun r => Value.ref r.x).length ≤ sizeLine
    rw [List.length_map, hrs]
    decide
  case turn =>
    clear F N NF
    rintro i v I C D oI oC mC h2 tk2 gs2 ys nw2 hv hyl ⟨pl2, nw', ls, rfl, htm, gx, hlen, rfl, hls, hexp, hbase, h140'⟩ hNC hmx F N off
    obtain ⟨r, hri, rfl⟩ : ∃ r, rs[i]? = some r ∧ v = .ref r.x := by
      have hv' : (rs.map fun r => Value.ref r.x)[i]? = some v := by simpa using hv
      rw [List.getElem?_map] at hv'
      cases q : rs[i]? with
      | none => rw [q] at hv'; cases hv'
      | some r => rw [q] at hv'; exact ⟨r, rfl, (Option.some.inj hv').symm⟩
    obtain ⟨he, hf0, hh0, hh1⟩ := exp_at o2 o1 hnums hri
    have hmr : ∀ {a : Addr} {o : Obj}, (a, o) ∈ nw → a ≠ 140 → (a, o) ∈ nw' := fun h1 h2 => hbase _ (inF h1 h2)
    have hrI := hin r (List.mem_of_getElem? hri)
    have k1 : r.acc ≠ 140 := fun q => by
      rcases h140 _ hrI.i1 with z | z
      · injection z with _ z2; injection z2 with z3; cases z3
      · exact z q
    have k2 : r.dx ≠ 140 := fun q => by
      rcases h140 _ hrI.i2 with z | z
      · injection z with _ z2; injection z2 with z3; cases z3
      · exact z q
    have k3 : r.x ≠ 140 := fun q => by
      rcases h140 _ hrI.i3 with z | z
      · injection z with _ z2; injection z2 with z3; cases z3
      · exact z q
    have k4 : r.dl ≠ 140 := fun q => by
      rcases h140 _ hrI.i4 with z | z
      · injection z with _ z2; injection z2 with z3; cases z3
      · exact z q
    have i1 := hmr hrI.i1 k1
    have i2 := hmr hrI.i2 k2
    have i3 := hmr hrI.i3 k3
    have i4 := hmr hrI.i4 k4
    have o140 := off (140, tabO pl2) (.head _)
    k_extra "go"
    k_extra "fn"
    refine method_inst (f := 77) F X ⟨(N (r.x, instObj 94 r.dl) (.tail _ (.tail _ (.tail _ (.tail _ (.tail _ i3)))))).1, rfl, rfl, (N (r.dl, dictOf r.es r.nd) (.tail _ (.tail _ (.tail _ (.tail _ (.tail _ i4)))))).1⟩ (by k_is) (by k_is) (by k_is) hrI.ok.n3 ?_
    dsimp only
    k_extra "steps"
    k_extra "fn"
    refine max_make_K F N G' (Nat.lt_of_lt_of_le hdp (by decide)) fun wa C' oC' nm qn h3 tk3 gs3 F N hoC hCw hltC hfg => ?_
    k_extra "steps"
    k_extra "fn"
    have bI : ∀ q ∈ (I, oI) :: (C, oC) :: (D, LCg.lst (ls.map fun e => Value.ref e.l)) :: (l, listOf (rs.map fun r => Value.ref r.x).toArray 0) :: (140, tabO pl2) :: nw', @LT.lt Nat _ q.1 C' := hltC
    have hw : @LT.lt Nat _ C' wa := hCw
    have b140 : @LT.lt Nat _ 140 C' := bI (140, tabO pl2) (.tail _ (.tail _ (.tail _ (.tail _ (.head _)))))
    have bNw : ∀ {q}, q ∈ nw' → @LT.lt Nat _ q.1 C' := fun hq => bI _ (.tail _ (.tail _ (.tail _ (.tail _ (.tail _ hq)))))
    have cI : @LT.lt Nat _ I C' := bI (I, oI) (.head _)
    have cC : @LT.lt Nat _ C C' := bI (C, oC) (.tail _ (.head _))
    have cD : @LT.lt Nat _ D C' := bI (D, _) (.tail _ (.tail _ (.head _)))
    have ch : Chain [140, C', wa] := ⟨b140, hw, trivial⟩
    have cl : @LT.lt Nat _ l C' := bI (l, _) (.tail _ (.tail _ (.tail _ (.head _))))
    have NG : News g L' h3 ((140, tabO pl2) :: (wa, genO gs2.size nm qn) :: (C', oC') :: (I, oI) :: (C, oC) :: (D, LCg.lst (ls.map fun e => Value.ref e.l)) :: (l, listOf (rs.map fun r => Value.ref r.x).toArray 0) :: nw') := News.sub N fun q hq => by
      refine (?_ : ∀ q ∈ (_ : List (Addr × Obj)), q ∈ (_ : List (Addr × Obj))) q hq
      repeat' (first | (with_reducible exact fun _ h => h) | refine sub_cons ?_ ?_ | exact List.Mem.head _ | apply List.Mem.tail | exact sub_nil | (with_reducible exact fun _ h => List.mem_append_left _ h) | refine sub_tail ?_)
    refine frontW (cnt := 3) (a := r.acc) (dx := r.dx) (ln := r.x) (dl := r.dl) (lines := r.lines) (C := C') (oC := oC') (nm := nm) (qn := qn) (mx := r.mx) (cl := r.cl) (hd := r.hd) (f := r.mx - r.hd) (r := r.mx - r.cl) (sl := Str.empty) (sw := Str.empty) (tl := r.T) (tw := r.T) (ts := []) (k := r.th) (th := r.T) (n := r.na) (dn := r.nd) (es := r.es) (sp := " ") rfl ?f1 ?f2 ?f3 hf0 (by decide) (by decide) F NG ?f6 htm.ok G' ?f7 ?f8 ?g1 ?g2 hfg (Array.getElem?_push_size ..) hoC hrI.ok ?g3 ?g4 ?g5 ?g6 (fun _ h => nomatch h) (Nat.lt_of_lt_of_le hdp (by decide)) (by decide) (by decide) fun l3 h4 tk4 gs4 pl4 vs4 ep4 tm4 F N hl4 hi4 gx4 => ?_
    case f1 => exact ar0f _ rfl rfl
    case f2 => exact ar0p _ rfl hh0
    case f3 => exact ar0q _ rfl hh1
    case f6 =>
      refine all_cons ?_ (all_cons ?_ (all_cons ?_ (all_cons ?_ (all_cons ?_ (all_cons ?_ (fun q hq => ?_))))))
      · exact Nat.ne_of_gt (ch.lt 0 2 rfl rfl (by decide))
      · exact Nat.ne_of_gt b140
      · exact Ne.symm o140.1
      · exact Ne.symm o140.2.1
      · exact Ne.symm o140.2.2.1
      · exact l140
      · exact h140' q hq
    case f7 => exact Nat.le_trans gL (Nat.le_of_lt (Nat.lt_trans (Nat.lt_succ_self _) (bNw (hmr hoe (Ne.symm l1)))))
    case f8 =>
      intro q hq
      simp only [List.append_nil, List.mem_cons, List.not_mem_nil, or_false] at hq
      rcases hq with h | h | h | h | h <;> rw [h]
      · exact b140
      · exact bNw i1
      · exact bNw i2
      · exact bNw i3
      · exact bNw i4
    case g1 => exact .head _
    case g2 => exact .tail _ (.head _)
    case g3 => exact .tail _ (.tail _ (.tail _ (.tail _ (.tail _ (.tail _ i3)))))
    case g4 => exact .tail _ (.tail _ (.tail _ (.tail _ (.tail _ (.tail _ i4)))))
    case g5 => exact .tail _ (.tail _ (.tail _ (.tail _ (.tail _ (.tail _ i1)))))
    case g6 => exact .tail _ (.tail _ (.tail _ (.tail _ (.tail _ (.tail _ i2)))))
    have b3 : @LT.lt Nat _ wa l3 := hl4 (wa, genO gs2.size nm qn) (.tail _ (.head _))
    have big : ∀ b : Addr, @LE.le Nat _ C' b → b ≠ I ∧ b ≠ C ∧ b ≠ D ∧ b ≠ l := fun b hb => ⟨Nat.ne_of_gt (Nat.lt_of_lt_of_le cI hb), Nat.ne_of_gt (Nat.lt_of_lt_of_le cC hb), Nat.ne_of_gt (Nat.lt_of_lt_of_le cD hb), Nat.ne_of_gt (Nat.lt_of_lt_of_le cl hb)⟩
    refine ⟨_, _, gs4, (140, tabO pl4) :: (l3, listOf vs4.toArray ep4) :: (wa, genO gs2.size nm qn) :: (C', oC') :: nw', rfl, F, ?u1, ?u2, pl4, (l3, listOf vs4.toArray ep4) :: (wa, genO gs2.size nm qn) :: (C', oC') :: nw', ls ++ [⟨l3, vs4, ep4⟩], rfl, htm.trans tm4, ?u3, ?u4, ?u5, ?u6, ?u7, ?u8, ?u9⟩
    case u1 =>
      refine News.sub N fun q hq => ?_
      refine (?_ : ∀ q ∈ (_ : List (Addr × Obj)), q ∈ (_ : List (Addr × Obj))) q hq
      repeat' (first | (with_reducible exact fun _ h => h) | refine sub_cons ?_ ?_ | exact List.Mem.head _ | apply List.Mem.tail | exact sub_nil | (with_reducible exact fun _ h => List.mem_append_left _ h) | refine sub_tail ?_)
    case u2 =>
      refine all_cons ?_ (all_cons ?_ (all_cons ?_ (all_cons ?_ (fun q hq => ?_))))
      · exact o140
      · exact big l3 (Nat.le_of_lt (Nat.lt_trans hw b3))
      · exact big wa (Nat.le_of_lt hw)
      · exact big C' (Nat.le_refl _)
      · exact off q (.tail _ hq)
    case u3 => exact (gx.trans (GX.pushed hfg.bare)).thenS gx4 gx.size
    case u4 => rw [List.length_append, hlen]; rfl
    case u5 => rw [List.map_append]; rfl
    case u6 =>
      intro e he'
      rcases List.mem_append.mp he' with he' | he'
      · exact .tail _ (.tail _ (.tail _ (hls e he')))
      · rw [List.mem_singleton.mp he']; exact .head _
    case u7 =>
      intro j e ns hj hns
      by_cases q : j < ls.length
      · rw [List.getElem?_append_left q] at hj
        exact hexp j e ns hj hns
      · rw [List.getElem?_append_right (Nat.le_of_not_lt q)] at hj
        obtain ⟨q1, q2⟩ : j - ls.length = 0 ∧ e = ⟨l3, vs4, ep4⟩ := by
          cases z : j - ls.length with
          | zero => rw [z] at hj; exact ⟨rfl, (Option.some.inj hj).symm⟩
          | succ n => rw [z] at hj; simp at hj
        obtain rfl : j = i := by omega
        rw [he] at hns
        rw [q2, ← Option.some.inj hns]
        exact hi4
    case u8 => exact fun q hq => .tail _ (.tail _ (.tail _ (hbase q hq)))
    case u9 =>
      refine all_cons ?_ (all_cons ?_ (all_cons ?_ (fun q hq => ?_)))
      · exact Nat.ne_of_gt (Nat.lt_trans (ch.lt 0 2 rfl rfl (by decide)) b3)
      · exact Nat.ne_of_gt (ch.lt 0 2 rfl rfl (by decide))
      · exact Nat.ne_of_gt b140
      · exact h140' q hq
  case fin =>
    clear F N NF
    rintro D h2 tk2 gs2 ys nw2 ⟨pl2, nw', ls, rfl, htm, gx, hlen, rfl, hls, hexp, hbase, h140'⟩ F N off
    obtain ⟨e0, e1, e2, e3, rfl⟩ := four_of (hlen.trans (show (rs.map fun r => Value.ref r.x).length = 4 by rw [List.length_map, hrs]))
    have N := News.sub N (l' := (D, LCg.lst [.ref e0.l, .ref e1.l, .ref e2.l, .ref e3.l]) :: (140, tabO pl2) :: (L' + 1, oe) :: nw') fun q hq => by
      simp only [List.mem_cons] at hq ⊢
      rcases hq with h | h | h | h
      · simp only [h, true_or, or_true]; exact .inl rfl
      · simp only [h, true_or, or_true]
      · rw [h]; simp only [hbase _ (inF hoe (Ne.symm l1)), or_true]
      · simp only [h, or_true]
    k_extra "go"
    k_extra "fn"
    rename_i a0 x0 y0 a1 x1 y1 a2 x2 y2 a3 x3 y3 W xW yW
    clear y0 y1 y2 y3 yW
    have inW : ∀ {q : Addr × Obj}, q ∈ nw' → xW.get? q.1 = some q.2 := fun {q} hq => (N q (.tail _ (.tail _ (.tail _ (.tail _ (.tail _ (.tail _ (.tail _ (.tail _ hq))))))))).1
    have r0 := reads_ints (a := e0.l) (inW (hls e0 (.head _))) (hexp 0 e0 _ rfl rfl)
    have r1 := reads_ints (a := e1.l) (inW (hls e1 (.tail _ (.head _)))) (hexp 1 e1 _ rfl rfl)
    have r2 := reads_ints (a := e2.l) (inW (hls e2 (.tail _ (.tail _ (.head _))))) (hexp 2 e2 _ rfl rfl)
    have r3 := reads_ints (a := e3.l) (inW (hls e3 (.tail _ (.tail _ (.tail _ (.head _)))))) (hexp 3 e3 _ rfl rfl)
    obtain ⟨sL, rL⟩ := reads_four (n := 4) (N (D, LCg.lst [.ref e0.l, .ref e1.l, .ref e2.l, .ref e3.l]) (.tail _ (.tail _ (.tail _ (.tail _ (.tail _ (.head _))))))).1 r0 r1 r2 r3
    have q0 := reads_ints (N (a0, _) (.tail _ (.tail _ (.tail _ (.tail _ (.head _)))))).1 (.cons one _ (.cons 128 _ (.cons 128 _ .nil)))
    have q1 := reads_ints (N (a1, _) (.tail _ (.tail _ (.tail _ (.head _))))).1 (.cons one _ .nil)
    have q2 := reads_ints (N (a2, _) (.tail _ (.tail _ (.head _)))).1 (.cons one _ (.cons 126 _ (.cons 126 _ .nil)))
    have q3 := reads_ints (N (a3, _) (.tail _ (.head _))).1 .nil
    obtain ⟨sR, rR⟩ := reads_four (N (W, _) (.head _)).1 q0 q1 q2 q3
    refine SeqAt.compareNe_shaped (da := ints4 one) (db := ints4 one) rL rR (shaped4 one) (shaped4 one) (Nat.lt_of_lt_of_le (show un + 64 < 9000 + 29 from Nat.add_lt_add_right hun 29) (by decide)) ?_
    rw [eqv4 one]
    k_extra "steps"
    dsimp only
    k_extra "go"
    k_extra "fn"
    dsimp only
    refine h _ _ gs2 _ pl2 htm F (fun nx hnx q hq => ?_) gx
    rcases List.mem_cons.mp hq with rfl | hq
    · exact N _ (.tail _ (.tail _ (.tail _ (.tail _ (.tail _ (.tail _ (.head _)))))))
    · exact N q (.tail _ (.tail _ (.tail _ (.tail _ (.tail _ (.tail _ (.tail _ (.tail _ (hbase q (inF (hnx q hq).1 (hnx q hq).2))))))))))
end
end Mine
namespace Mine
open PySem PySem.W PySem.Calls PyProof.Rows
local macro_rules | `(tactic| k_all) => `(tactic| assumption)
section
variable {w : World} {A : Around} {dp un : Nat} {fr : Option (List Env)} {gd : Option (List Code)} {s : Shared} {h₀ : Heap} {L : Addr} {m : Str → Option Value} {p : Program} {loose : List Str} {mg mb : Str → Option Value} {rest : List (Addr × Obj)} {E : Value → Shared → Prop}

theorem paid_K {envL : Env} {one other head blanks : Int} {t1 t2 t3 t4 : Tok} {Q : Value → Shared → Prop} (hun : un + 40 < 9000)
    (F : Fr h₀ L s.heap m) (N : News h₀ L s.heap ((140, tabO #[]) :: (147, tabO #[]) :: rest)) (G : Gd w p loose mg mb h₀) (hdp : dp < 600) (hL : envL.frame = some L) (kL : envL.scope.kind ≠ .module)
    (o1 : 2 ≤ one) (o2 : one ≤ 7) (o3 : one < other) (o4 : other ≤ 13) (a1 : 0 ≤ head) (a2 : head ≤ 42) (b1 : 1 ≤ blanks) (b2 : blanks < one) (hA : okA one other = true) (hrs : ∀ q ∈ rest, q.1 ≠ 140 ∧ q.1 ≠ 147)
    (h : ∀ row vs ep pl' ps' h' tk' gs', Fr h₀ L h' m → News h₀ L h' ((row, listOf vs.toArray ep) :: (140, tabO pl') :: (147, tabO ps') :: rest) → (∀ q ∈ (140, tabO #[]) :: (147, tabO #[]) :: rest, q.1 ≠ row) → IntsAre vs (allL one other) → GX s.gens gs' → Q (.ref row) { s with heap := h', toks := tk', gens := gs' }) :
    wpAny (model pw w) (AR dp un (some [envL]) gd) (call (.ref 256) [.int one t1, .int other t2, .int head t3, .int blanks t4]) Q E s := by
  refine wpAny_call ?_
  refine' code_KFC (binds := [("one", .int one t1), ("other", .int other t2), ("head", .int head t3), ("blanks", .int blanks t4)]) F N G.X G.T ?k6 ?k7 ?k8 ?k9 ?kB ?kD ?_ ?c1 ?c2 ?c3
  case k6 => k_is
  case k7 => k_is
  case k8 => exact Nat.lt_trans hdp (by decide)
  case k9 => exact BindsTo.of_eq rfl
  case kB => rfl
  case kD => decide
  case c1 => exact rfl
  case c2 => exact rfl
  case c3 => exact rfl
  intro g L' h₁ tk0 oL cells st hgL FO F N Y X T hlt hne
  k_cells Y
  simp only [List.cons_append, List.nil_append] at N
  rename_i oc dc
  show wpAny _ _ _ _ _ _
  k_fold
  have G' := G.keeps st
  k_with_none
  k_with "fn" => (
    rename Fr g _ _ _ => F
    rename News g _ _ _ => N)
  k_with "steps" => repeat' (fail_if_success (with_reducible show wpAny _ _ (exec (PySem.Stmt.For _ _ _ _ _) _) _ _ _)); (fail_if_success (with_reducible show wpAny _ _ (getMethod (Value.ref _) _ _) _ _ _)); (fail_if_success (with_reducible show wpAny _ _ (call (Value.ref _) _) _ _ _)); (first | (k_unfold; (try dsimp only)) | (k_end; kc_close) | walk1 | (dsimp only; walk1) | (leave1; (try dsimp only)) | fail "no step")
  obtain ⟨bq3, bq4, w1, w2⟩ := wide_ar o1 o2 o3 o4 a1 a2
  k_extra "steps"
  rename Fr g _ _ _ => F
  rename_i tl kl0 kzl knl hA1 tw kw0 kzw knw hB1 row hC1 hlr hD1 N tt kk kz kn
  have WO := word_ok o2 b1 b2
  clear kzl knl kzw knw
  generalize Txt.mul (Str.ofString " ") blanks = sl at F WO
  generalize Txt.mul (Str.ofString "x") (one - blanks) = sw at F WO
  generalize hW : head + (other - 1) * one = width at F kz kn w1 w2 ⊢
  generalize hTop : one * other = top at F bq3 bq4
  have HW : Hid (head + (other - 1) * one = width) := hW
  have HT : Hid (one * other = top) := hTop
  clear hTop hW
  k_extra "steps"
  k_extra "fn"
  have hcl : ((Txt.mul (Str.ofString " ") (width - other)).length : Int) = width - other := blanks_len (Int.sub_nonneg_of_le w1)
  refine fmt_new_K F N G' (Nat.lt_of_lt_of_le (Nat.succ_lt_succ hdp) (by decide)) (ar22 hcl o1 o3 w2) fun x dl lines acc dx es nd na th' h2 tk2 hD F N ltd ord => ?_
  rw [hcl] at hD
  clear kz kn
  obtain ⟨or1, or2, or3, or4⟩ := ord
  have or1 : @LT.lt Nat _ dl x := or1
  have or2 : @LT.lt Nat _ x lines := or2
  have or3 : @LT.lt Nat _ lines dx := or3
  have or4 : @LT.lt Nat _ dx acc := or4
  have or0 : @LT.lt Nat _ row dl := ltd (row, listOf #[] 0) (.head _)
  have orc : @LT.lt Nat _ (L' + 1) row := hlr.1
  k_extra "steps"
  k_extra "fn"
  refine method_inst (f := 77) F X ⟨(N (x, instObj 94 dl) (.tail _ (.tail _ (.tail _ (.head _))))).1, rfl, rfl, (N (dl, dictOf es nd) (.tail _ (.tail _ (.tail _ (.tail _ (.head _)))))).1⟩ (by k_is) (by k_is) (by k_is) hD.n3 ?_
  dsimp only
  k_extra "steps"
  k_extra "fn"
  refine max_make_K F N G' (Nat.lt_of_lt_of_le (Nat.succ_lt_succ hdp) (by decide)) fun wa C oC nm qn h3 tk3 gs F N hoC hCw hltC hfg => ?_
  k_extra "steps"
  refine wpAny_For ?_
  k_extra "steps"
  k_extra "fn"
  rename IsRange _ _ 0 _ 1 _ _ _ => rg
  obtain ⟨J, hJ⟩ : ∃ n : Nat, other - 1 = n := ⟨(other - 1).toNat, by omega⟩
  have hsz : Builtin.Range.rangeSize 0 (other - 1) 1 = J := by rw [rangeSize_nat, hJ]; simp
  have NB : News g L' _ ((row, listOf #[] 0) :: (140, tabO #[]) :: (acc, accObj dx [] na) :: (dx, dictOf (accD w th' (.int head t3)) 1) :: (lines, listOf #[] 0) :: (x, instObj 94 dl) :: (dl, dictOf es nd) :: (wa, genO s.gens.size nm qn) :: (C, oC) :: (L' + 1, oc) :: (L, oL) :: (147, tabO #[]) :: rest) := News.sub N fun q hq => by
    refine (?_ : ∀ q ∈ (_ : List (Addr × Obj)), q ∈ (_ : List (Addr × Obj))) q hq
    repeat' (first | (with_reducible exact fun _ h => h) | refine sub_cons ?_ ?_ | exact List.Mem.head _ | apply List.Mem.tail | exact sub_nil | (with_reducible exact fun _ h => List.mem_append_left _ h) | refine sub_tail ?_)
  refine rit_new F NB rg (small_one (by omega) (by omega) (by omega) (by omega)) fun it h4 F N hit => ?_
  clear NB rg
  rw [hsz] at N
  have hltC0 : ∀ q ∈ (row, listOf #[] 0) :: (acc, accObj dx [] na) :: (dx, dictOf (accD w th' (.int head t3)) 1) :: (lines, listOf #[] 0) :: (x, instObj 94 dl) :: (dl, dictOf es nd) :: (L' + 1, oc) :: (L, oL) :: (140, tabO #[]) :: (147, tabO #[]) :: rest, @LT.lt Nat _ q.1 C := fun q hq => hltC q (by
    refine (?_ : ∀ q ∈ (_ : List (Addr × Obj)), q ∈ (_ : List (Addr × Obj))) q hq
    repeat' (first | (with_reducible exact fun _ h => h) | refine sub_cons ?_ ?_ | exact List.Mem.head _ | apply List.Mem.tail | exact sub_nil | (with_reducible exact fun _ h => List.mem_append_left _ h) | refine sub_tail ?_))
  have hit0 : @LT.lt Nat _ wa it := hit (wa, _) (by repeat (first | exact List.Mem.head _ | apply List.Mem.tail))
  have gL := F.above
  have r147 : @LT.lt Nat _ 147 L' := hlt (147, tabO #[]) (.tail _ (.tail _ (.head _)))
  have rL : @LT.lt Nat _ L L' := hlt (L, oL) (.head _)
  have n1 : (140 : Nat) ≠ L := hne (140, tabO #[]) (.head _)
  have n2 : (147 : Nat) ≠ L := hne (147, tabO #[]) (.tail _ (.head _))
  have rC : @LT.lt Nat _ acc C := hltC0 (acc, accObj dx [] na) (.tail _ (.head _))
  have rW : @LT.lt Nat _ C wa := hCw
  have ch : Chain [140, 147, L', L' + 1, row, dl, x, lines, dx, acc, C, wa, it] := ⟨by decide, r147, Nat.lt_succ_self _, orc, or0, or1, or2, or3, or4, rC, rW, hit0, trivial⟩
  have chL : Chain [L, L', L' + 1, row, dl, x, lines, dx, acc, C, wa, it] := ⟨rL, Nat.lt_succ_self _, orc, or0, or1, or2, or3, or4, rC, rW, hit0, trivial⟩
  clear hltC hltC0 hCw
  have hrest : RestP L L' rest := ⟨fun q hq => ⟨hlt q (.tail _ (.tail _ (.tail _ hq))), hne q (.tail _ (.tail _ hq)), hrs q hq⟩⟩
  have dc' : oc.data = .cell (some (.int one t1)) := dc
  clear dc
  simp only [okA, Bool.and_eq_true] at hA
  obtain ⟨hA1, hA2⟩ := hA
  have hJn : (other - 1).toNat = J := by omega
  have hTop : one * other = top := HT
  rw [hJn] at hA1 hA2
  rw [hTop] at hA2
  have hall : allL one other = (laidL 100 0 other other top (rowL one other J)).2 := by
    unfold allL
    rw [hJn, hTop]
  rw [hall] at h
  clear hall
  have hlenJ : (rowL one other J).length < 2 ^ 19 := Nat.lt_of_le_of_lt (rowL_len one other J) (by omega)
  have hlenJ2 : True := trivial
  have O : OrdP g L L' row dl x lines dx acc := ⟨gL, rL, r147, orc, or0, or1, or2, or3, or4, ⟨Ne.symm n1, Ne.symm n2⟩⟩
  have hd1 : dp + 1 < 610 := Nat.lt_of_lt_of_le (Nat.succ_lt_succ hdp) (by decide)
  have hu1 : un + 3 + 35 < 9000 := Nat.lt_of_le_of_lt (Nat.add_le_add_left (show 38 ≤ 40 by decide) un) hun
  have hK := (show (hed.heap_39 w.params).lookup 256 = some _ from by k_is)
  refine' paid_loop (s := s) (dp := dp + 1) (un := un + 3) (td := tl) (te := tw) (R0 := (L' + 1, oc) :: (L, oL) :: (147, tabO #[]) :: rest) hK rfl G' hd1 (Nat.lt_of_le_of_lt (Nat.le_add_right _ _) hu1) o1 o2 o3 o4 a1 a2 w2 HW HT bq4 bq3 WO hD gL (ch.lt 0 2 rfl rfl (by decide)) (ch.lt 2 4 rfl rfl (by decide)) or0 or1 or2 or3 or4 (ch.lt 9 12 rfl rfl (by decide)) hJ hA1 ?hI ?hend
  case hI =>
    refine ⟨h4, _, _, _, [], wa, C, oC, nm, qn, s.gens.size, gs, [], 0, #[], na, (wa, genO s.gens.size nm qn) :: (C, oC) :: (L' + 1, oc) :: (L, oL) :: (147, tabO #[]) :: rest, rfl, by simp, .refl True.intro, .nil, ⟨F, ⟨rfl, rfl, rfl, ⟨_, rfl⟩, ⟨_, rfl⟩, ⟨_, rfl⟩, rfl, rfl⟩⟩, N, GX.pushed hfg.bare, ⟨Nat.le_refl _, Array.getElem?_push_size .., hfg, hoC⟩, ?_⟩
    refine ⟨fun q hq => ?_, fun q hq => ?_, fun q hq => ?_, .head _, .tail _ (.head _), (fun _ h => nomatch h), (fun q hq => .tail _ (.tail _ hq)), rC, (ch.lt 9 11 rfl rfl (by decide))⟩
    · revert q hq
      refine all_cons ?_ (all_cons ?_ (all_cons ?_ (all_cons ?_ (all_cons ?_ (fun q hq => ?_)))))
      · exact Nat.ne_of_gt (ch.lt 0 11 rfl rfl (by decide))
      · exact Nat.ne_of_gt (ch.lt 0 10 rfl rfl (by decide))
      · exact Nat.ne_of_gt (ch.lt 0 3 rfl rfl (by decide))
      · exact Ne.symm n1
      · exact (show (147 : Nat) ≠ 140 by decide)
      · exact (hrest.a q hq).2.2.1
    · revert q hq
      refine all_cons ?_ (all_cons ?_ (all_cons ?_ (all_cons ?_ (all_cons ?_ (fun q hq => ?_)))))
      · exact .inr (ch.lt 9 11 rfl rfl (by decide))
      · exact .inr rC
      · exact .inl orc
      · exact .inl (chL.lt 0 3 rfl rfl (by decide))
      · exact .inl (ch.lt 1 4 rfl rfl (by decide))
      · exact .inl (Nat.lt_trans (hrest.a q hq).1 (ch.lt 2 4 rfl rfl (by decide)))
    · revert q hq
      refine all_cons ?_ (all_cons ?_ (all_cons ?_ (all_cons ?_ (all_cons ?_ (fun q hq => ?_)))))
      · exact Nat.ne_of_lt hit0
      · exact Nat.ne_of_lt (ch.lt 10 12 rfl rfl (by decide))
      · exact Nat.ne_of_lt (ch.lt 3 12 rfl rfl (by decide))
      · exact Nat.ne_of_lt (chL.lt 0 11 rfl rfl (by decide))
      · exact Nat.ne_of_lt (ch.lt 1 12 rfl rfl (by decide))
      · exact Nat.ne_of_lt (Nat.lt_trans (hrest.a q hq).1 (ch.lt 2 12 rfl rfl (by decide)))
  clear F N hoC hfg
  intro h5 tk5 gs5 mp5 ts wa C oC nm qn nw gst vs5 ep5 pl5 na5 RR hts htm5 hvs5 F mm5 N gx5 hg5 hR5
  dsimp only
  refine tailA (ns := []) (dp := dp + 1) (un := un + 3) hK G' hd1 (Nat.lt_of_le_of_lt (Nat.add_le_add_left (by decide) _) hu1) O o1 o2 o3 o4 a1 a2 w2 HW WO hD hL kL FO.dict hJ hts htm5 hrest.a F mm5 N ⟨hg5.2.1, hg5.2.2.1, hg5.2.2.2⟩ hR5 ?_
  intro t sl6 h6 tk6 gs6 mp6 pl6 ps6 t16 t26 n16 n26 tm6 tp6 F mm N lt6 gx6
  refine tailB (dp := dp + 1) (un := un + 3) hK G' hd1 hu1 O o1 o2 o3 o4 w1 w2 WO hD hrest dc' mm F N lt6 tm6.ok ?_
  intro h7 tk7 gs7 mp7 pl7 tm7 F mm N gx7
  refine tailC (dp := dp + 1) (un := un + 3) hK G' hd1 hu1 O o1 o2 o3 o4 w1 w2 WO hD hrest dc' mm F N lt6 tm7.ok tp6.ok hJ ?_
  intro h8 tk8 gs8 mp8 pl8 ps8 n18 n28 t38 ls8 tm8 tp8 F mm N gx8
  refine tailD (dp := dp + 1) (un := un + 3) hK G' hd1 hu1 O o1 o2 o3 o4 w1 w2 WO hD hrest dc' mm F N tm8.ok ?_
  intro h9 tk9 gs9 mp9 pl9 tm9 F mm N gx9
  have N9 := News.sub N (l' := (row, listOf vs5.toArray ep5) :: (140, tabO pl9) :: (147, tabO ps8) :: (L' + 1, oc) :: (L, { oL with slots := sl6 }) :: rest) fun q hq => by
    refine (?_ : ∀ q ∈ (_ : List (Addr × Obj)), q ∈ (_ : List (Addr × Obj))) q hq
    repeat' (first | (with_reducible exact fun _ h => h) | refine sub_cons ?_ ?_ | exact List.Mem.head _ | apply List.Mem.tail | exact sub_nil | (with_reducible exact fun _ h => List.mem_append_left _ h) | refine sub_tail ?_)
  clear N
  refine tailE (dp := dp + 1) (un := un + 3) hK G' hd1 hu1 O o1 o2 o3 o4 w1 w2 hrest dc' mm F N9 tm9.ok bq4 bq3 hvs5 hlenJ hA2 ?_
  intro h10 tk10 gs10 mp10 pl10 vs10 ep10 tm10 F mm hvs10 N gx10
  refine tailF (dp := dp + 1) (un := un + 3) hK G' hd1 hu1 O o1 o2 o3 o4 w1 w2 hrest dc' mm F N tm10.ok ?_
  intro h11 tk11 gs11 mp11 pl11 tm11 F mm N gx11
  refine tailG1 (dp := dp + 1) (un := un + 3) hK G' hd1 hu1 O o1 o2 o3 o4 w1 w2 hrest dc' mm F N tm11.ok ?_
  intro h12 tk12 mp12 l12 rs nw12 F m1 m2 N hnl hnums hin hbase hord
  refine tailG2 (ps := #[]) (vs := []) (ep := 0) (dp := dp + 1) (un := un + 3) (pl := pl11) (oe := oc) (t1 := t1) hK G' hd1 hu1 gL r147 o1 o2 dc' F m1 m2 N hnl hnums hin (hbase _ (.tail _ (.head _))) (hbase _ (.tail _ (.tail _ (.tail _ (.head _))))) (fun q hq => ?_) tm11.ok ?_
  · rcases hord q hq with z | z
    · simp only [List.mem_cons] at z
      rcases z with z | z | z | z | z | z
      · rw [z]; exact .inr (Nat.ne_of_gt (ch.lt 0 4 rfl rfl (by decide)))
      · exact .inl z
      · rw [z]; exact .inr (show (147 : Nat) ≠ 140 by decide)
      · rw [z]; exact .inr (Nat.ne_of_gt (ch.lt 0 3 rfl rfl (by decide)))
      · rw [z]; exact .inr (Ne.symm n1)
      · exact .inr (hrest.a q z).2.2.1
    · exact .inr (Nat.ne_of_gt (show @LT.lt Nat _ 140 q.1 by omega))
  intro h13 tk13 gs13 mp13 pl13 tm13 F N gx13
  have N13 := N ((L, { oL with slots := sl6 }) :: (row, listOf vs10.toArray ep10) :: (147, tabO ps8) :: rest) fun q hq => by
    simp only [List.mem_cons] at hq
    rcases hq with z | z | z | z
    · rw [z]; exact ⟨hbase _ (.tail _ (.tail _ (.tail _ (.tail _ (.head _))))), Ne.symm n1⟩
    · rw [z]; exact ⟨hbase _ (.head _), Nat.ne_of_gt (ch.lt 0 4 rfl rfl (by decide))⟩
    · rw [z]; exact ⟨hbase _ (.tail _ (.tail _ (.head _))), show (147 : Nat) ≠ 140 by decide⟩
    · exact ⟨hbase _ (.tail _ (.tail _ (.tail _ (.tail _ (.tail _ z))))), (hrest.a q z).2.2.1⟩
  have gxA : GX s.gens gs6 := gx5.thenS gx6 hg5.1
  refine ⟨L', _, sl6, (row, listOf vs10.toArray ep10) :: (140, tabO pl13) :: (147, tabO ps8) :: rest, F, News.sub N13 fun q hq => ?_, fun q hq => ?_, fun F' N' => h row vs10 ep10 pl13 ps8 _ _ gs13 F' N' (fun q hq => ?_) hvs10 ((((((gxA.trans gx7).trans gx8).trans gx9).trans gx10).trans gx11).trans gx13)⟩
  · refine (?_ : ∀ q ∈ (_ : List (Addr × Obj)), q ∈ (_ : List (Addr × Obj))) q hq
    repeat' (first | (with_reducible exact fun _ h => h) | refine sub_cons ?_ ?_ | exact List.Mem.head _ | apply List.Mem.tail | exact sub_nil | (with_reducible exact fun _ h => List.mem_append_left _ h) | refine sub_tail ?_)
  · simp only [List.mem_cons] at hq
    rcases hq with z | z | z | z
    · rw [z]; exact Nat.ne_of_gt (chL.lt 0 3 rfl rfl (by decide))
    · rw [z]; exact n1
    · rw [z]; exact n2
    · exact (hrest.a q z).2.1
  · simp only [List.mem_cons] at hq
    rcases hq with z | z | z
    · rw [z]; exact Nat.ne_of_lt (ch.lt 0 4 rfl rfl (by decide))
    · rw [z]; exact Nat.ne_of_lt (ch.lt 1 4 rfl rfl (by decide))
    · exact Nat.ne_of_lt (Nat.lt_trans (hrest.a q z).1 (ch.lt 2 4 rfl rfl (by decide)))
end
end Mine
namespace Mine
open PySem PySem.W PySem.Calls PyProof.Rows
theorem mir_of {ns : List Int} {one other : Int} (h : mirB ns one other = true) : ∃ below, MirOk ns one other below := by
  refine ⟨bisR ns (one * other - one - other) ns.length 0 ns.length, ?_⟩
  simp only [mirB, Bool.and_eq_true, beq_iff_eq, decide_eq_true_eq, List.all_eq_true, List.mem_range] at h
  obtain ⟨⟨⟨⟨⟨⟨⟨⟨⟨h1, h2⟩, h3⟩, h4⟩, h5⟩, h6⟩, h7⟩, h8⟩, h9⟩, h10⟩ := h
  refine ⟨rfl, h1, h2, h3, h4, h5, h6, fun k k0 k1 => ?_, h8, h9, h10⟩
  have := h7 k.toNat (by omega)
  rw [show ((k.toNat : Nat) : Int) = k by omega] at this
  exact this
theorem coins_facts (x y : Int) : ∃ one other, 2 + x.fmod 6 = one ∧ coinsL 12 (2 + x.fmod 6) (2 + x.fmod 6 + 1 + y.fmod 6) = other ∧ 2 ≤ one ∧ one ≤ 7 ∧ one < other ∧ other ≤ 13 ∧ okA one other = true ∧ (∃ below, MirOk (allL one other) one other below) ∧ (allL one other).length < 200 := by
  have x1 := Int.fmod_nonneg_of_pos x (show (0 : Int) < 6 by decide)
  have x2 := Int.fmod_lt_of_pos x (show (0 : Int) < 6 by decide)
  have y1 := Int.fmod_nonneg_of_pos y (show (0 : Int) < 6 by decide)
  have y2 := Int.fmod_lt_of_pos y (show (0 : Int) < 6 by decide)
  have h1 := coins_bnd (x.fmod 6).toNat (List.mem_range.mpr (by omega)) (y.fmod 6).toNat (List.mem_range.mpr (by omega))
  have h2 := good_all (x.fmod 6).toNat (List.mem_range.mpr (by omega)) (y.fmod 6).toNat (List.mem_range.mpr (by omega))
  rw [show (((x.fmod 6).toNat : Nat) : Int) = x.fmod 6 by omega, show (((y.fmod 6).toNat : Nat) : Int) = y.fmod 6 by omega] at h1 h2
  simp only [goodB, Bool.and_eq_true, decide_eq_true_eq] at h2
  obtain ⟨⟨h3, h4⟩, h5⟩ := h2
  exact ⟨_, _, rfl, rfl, by omega, by omega, h1.1, h1.2, h3, mir_of h4, h5⟩

section
variable {w : World} {dp un : Nat} {fr : Option (List Env)} {gd : Option (List Code)} {s : Shared} {h₀ : Heap} {L : Addr} {m : Str → Option Value} {rest : List (Addr × Obj)} {p : Program} {loose : List Str} {mg mb : Str → Option Value}
theorem law_walk {A : Around} {fa sc : Addr} {vs : List Value} {ns : List Int} {name qual : Str} {params : Arguments} {body : List Stmt} {scope : Scope} {dV kV doc pm cdv ct oc : Value} {an od : Option Addr} {osl : Array (Option Value)} {Q : Flow → Shared → Prop} {E : Value → Shared → Prop}
    (hK : (hed.heap_39 w.params).lookup 270 = some ⟨oc, od, .func (fnOf name qual params body scope dV kV doc pm an cdv ct), osl⟩)
    (F : Fr h₀ L s.heap (fun y => [((Str.ofString "script"), Value.ref sc)].reverse.lookup y)) (N : News h₀ L s.heap [(140, tabO #[]), (147, tabO #[])]) (G : Gd w p loose mg mb h₀) (hl : h₀.IsList sc vs.toArray) (hi : IntsAre vs ns) (hn : ns.length ≤ 63) (hun : un + 41 < 9000) (hdp : dp < 600)
    (h : ∀ h' tk' gs' m' pl ps, Fr h₀ L h' m' → News h₀ L h' [(140, tabO pl), (147, tabO ps)] → GX s.gens gs' → Q (.ret (.bool true)) { s with heap := h', toks := tk', gens := gs' }) :
    wpAny (model pw w) (AR dp un (some [envOf qual scope L fa cdv]) gd) (execs body (envOf qual scope L fa cdv)) Q E s := by
  have hc := hK.symm.trans (show (hed.heap_39 w.params).lookup 270 = some _ from by k_is)
  cases hc
  clear hK
  show wpAny _ _ _ _ _ _
  have X := G.X
  have T := G.T
  k_with_none
  k_with "call builtin:sum" => (
    rename Fr h₀ _ _ _ => lF
    rename News h₀ _ _ _ => lN
    refine sumK rfl lF lN ⟨_, (lN _ (.head _)).1, rfl, _, rfl⟩ (hi.pick _ _ _) fun h' tk t' F' N' => ?_
    clear lF lN
    generalize (pickNums ns _ _ _).sum = z)
  k_steps
  rename Fr h₀ _ _ _ => lF
  rename News h₀ _ _ _ => lN
  rename_i z1 hh
  refine coins_K lF lN X T (by omega) fun l t1 t2 h3 tk3 F3 N3 hl3 => ?_
  clear lF lN
  obtain ⟨one, other, e1, e2, o1, o2, o3, o4, hA, hM, hlen⟩ := coins_facts (1 + z1) (1 + z)
  rw [e2, e1] at N3
  clear e1 e2
  k_steps
  rename Fr h₀ _ _ _ => lF
  rename News h₀ _ _ _ => lN
  generalize hz3 : (2 + z) = z3 at lF ⊢
  have p1 := Int.fmod_nonneg_of_pos z3 (show (0 : Int) < 43 by decide)
  have p2 := Int.fmod_lt_of_pos z3 (show (0 : Int) < 43 by decide)
  have q1 := Int.fmod_nonneg_of_pos (z3.fdiv 43) (show (0 : Int) < one - 1 by omega)
  have q2 := Int.fmod_lt_of_pos (z3.fdiv 43) (show (0 : Int) < one - 1 by omega)
  have N4 : News h₀ L _ [(140, tabO #[]), (147, tabO #[])] := News.sub lN fun q hq => by
    rcases List.mem_cons.mp hq with rfl | hq
    · repeat (first | exact List.Mem.head _ | apply List.Mem.tail)
    rcases List.mem_cons.mp hq with rfl | hq
    · repeat (first | exact List.Mem.head _ | apply List.Mem.tail)
    · cases hq
  refine paid_K (by omega) lF N4 G (by omega) rfl (by show ScopeKind.function ≠ ScopeKind.module; decide) o1 o2 o3 o4 p1 (by omega) (by omega) (by omega) hA (fun _ h => nomatch h) fun row vs' ep pl ps h' tk' gs' F5 N5 hne hi5 gx => ?_
  clear lF lN N4
  k_steps
  rename Fr h₀ _ _ _ => lF
  rename News h₀ _ _ _ => lN
  obtain ⟨below, hM⟩ := hM
  refine mirrored_K hM lF lN (fun q hq => ?hrr) X T hi5 hlen (by omega) (by omega) o1 o2 o3 o4 fun h6 tk6 F6 N6 => ?_
  case hrr =>
    rcases List.mem_cons.mp hq with rfl | hq
    · exact hne (140, tabO #[]) (.head _)
    rcases List.mem_cons.mp hq with rfl | hq
    · exact hne (147, tabO #[]) (.tail _ (.head _))
    · cases hq
  clear lF lN
  k_steps
  exact h h6 tk6 gs' _ _ _ F6 (fun q hq => N6 q (.tail _ hq)) gx
end
theorem in_with2 {K : Params → Frag} {P : Params} {h : Heap} (X : (with2 K P).In h) : (K P).In h := fun a o e => X a o (by
  show List.lookup a (K P ++ _) = some o
  rw [List.lookup_append]
  rw [show List.lookup a (K P) = some o from e]; rfl)
theorem oldK_of {h₁ h' : Heap} {L : Addr} {m : Str → Option Value} {pl ps : Array Value} (hT : TabsAt [(144, 140), (151, 147)] h₁) (F : Fr (ghostOf h₁ [(144, 140), (151, 147)]) L h' m) (N : News (ghostOf h₁ [(144, 140), (151, 147)]) L h' [(140, tabO pl), (147, tabO ps)]) : OldK h₁ h' := by
  have e1 := (N _ (.head _)).1
  have e2 := (N _ (.tail _ (.head _))).1
  have t1 := hT _ (.head _)
  have t2 := hT _ (.tail _ (.head _))
  have keep : ∀ b o, b ≠ 140 → b ≠ 147 → h₁.get? b = some o → h'.get? b = some o := fun b o n1 n2 e => F.keep b o (ghost_ne e (by simp [n1, n2]))
  refine ⟨fun b o e => ?_, fun b o e => ?_⟩
  · by_cases q1 : b = 140
    · subst q1
      rw [t1.2] at e
      cases e
      exact .inr (.inl ⟨(t1.1.tab t1.2).isCodeTable, rfl, #[], pl, rfl, by rw [Array.empty_append]; exact e1⟩)
    by_cases q2 : b = 147
    · subst q2
      rw [t2.2] at e
      cases e
      exact .inr (.inl ⟨(t2.1.tab t2.2).isCodeTable, rfl, #[], ps, rfl, by rw [Array.empty_append]; exact e2⟩)
    · exact .inl (keep b o q1 q2 e)
  · by_cases q1 : b = 140
    · subst q1
      exact ⟨_, e1⟩
    by_cases q2 : b = 147
    · subst q2
      exact ⟨_, e2⟩
    · exact ⟨o, keep b o q1 q2 e⟩
theorem lawT : PySem.Challenge.rw_wu0090_01.Holds := by
  refine hedB ?_
  · intro w s₀ s₁ mg mb G Y fa o pm cd doc dV kV ho hd hcd hD hmg hg args vals as hpre hlay hrd hwl hlo
    have KX := kIn_of Y
    have X := (Ground.X G).1
    have V := (Ground.X G).2
    refine Ground.open G ?_
    intro T B D TE TW
    try (refine guard_noD D (by decide +kernel) ?_; clear D)
    obtain ⟨bm, ob, M⟩ := bmod_of_top T
    have hT9 : TabsAt [(144, 140), (151, 147)] s₁.heap := List.forall_mem_cons.mpr ⟨⟨codeHd_of_K KX (by kernel_rfl), KX _ _ (by kernel_rfl)⟩, List.forall_mem_cons.mpr ⟨⟨codeHd_of_K KX (by kernel_rfl), KX _ _ (by kernel_rfl)⟩, fun _ h => nomatch h⟩⟩
    have he9 : cd = PySem.Value.ref 269 := law_code (x := "law") (c := 269) (P := 265) (in_with2 KX) (Top.g T) (by kernel_rfl) hmg ho hd
    subst he9
    clear hmg
    wrow_args hpre hlay hrd hwl hlo
    all_goals (
      first | refine callC_kw (enter_call ?_) | refine enter_call ?_
      w_top on
      w_call any ho hd hcd hD T F
      clear hd)
    have X1 := in_with2 KX
    rename News _ _ _ _ => N
    rename Heap.IsList _ _ _ => hl
    rename IntsAre _ _ => hi
    have X2 := ghost_K hT9 X1 (by kernel_rfl)
    have T2 := topRead_of (ghost_top hT9 T)
    have N2 := ghost_news hT9 F N
    have F2 := ghost_fr hT9 F
    have M2 : BMod (ghostOf s₁.heap [(144, 140), (151, 147)]) mainGlobals mg bm ob := ⟨ghost_ns hT9 M.ns, M.name, M.ne, ghost_get hT9 M.obj (fun q => by have := M.cls; rw [q] at this; cases this), M.cls, M.dict, M.data⟩
    have G2 := Gd.mk X2 T2 ⟨bm, ob, M2⟩
    refine' law_walk (A := callerA) ?hK ?hF ?hN G2 (ghost_list hT9 hl) hi (by omega) (un := 7) (dp := 302) ?hun ?hdp ?fin
    case hK => k_is
    case hF => exact F2
    case hN => exact N2
    case hun => decide
    case hdp => decide
    intro h' tk' gs' m' pl ps F' N' gx
    refine ⟨.inl ⟨.bool true, .bool true, [], rfl, fun _ => rfl, .bool true, ?post, fun _ => ⟨List.nodup_nil, fun _ h => nomatch h⟩⟩, oldK_of hT9 F' N', rfl, gx.bare ?_⟩
    case post => wrow_post
    show AllBare s₁.gens
    rw [hg]
    intro x hx
    simp at hx
end Mine
theorem PySem.Challenge.cw_wu0090_01_holds : PySem.Challenge.rw_wu0090_01.Holds :=
  Mine.lawT
