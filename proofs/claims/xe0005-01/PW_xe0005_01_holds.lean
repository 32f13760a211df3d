import PyProof.Rows.All
import Wide.All
import OpenK.AllK
import Wide.FinOn
import Lean
import PySem.Challenge.RW_xe0005_01
open PySem PySem.W PyProof.Rows PySem.Spec PySem.Calls PyProof.V
set_option Elab.async false
set_option linter.all false
set_option rowWalk.seconds 0
namespace Mine
set_option maxRecDepth 100000 in
set_option maxHeartbeats 8000000 in
open_top hd for PySem.Challenge.rw_xe0005_01
/-! ## data on a heap or on a ledger -/
abbrev tupOf (its : Array Value) (n : Nat) : Obj := { cls := .type "tuple", data := .seq its n }
mutual
inductive Rp (G : Addr → Obj → Prop) : Value → PyData → Prop
  | none : Rp G .none .none
  | bool (b : Bool) : Rp G (.bool b) (.bool b)
  | int (i : Int) (t : Tok) : Rp G (.int i t) (.int i)
  | str (x : Str) (t : Tok) : Rp G (.str x t) (.str x)
  | list {a : Addr} {vs : List Value} {n : Nat} {ds : List PyData} : G a (W.listOf vs.toArray n) → RpL G vs ds → Rp G (.ref a) (.list ds)
  | tuple {a : Addr} {vs : List Value} {n : Nat} {ds : List PyData} : G a (tupOf vs.toArray n) → RpL G vs ds → Rp G (.ref a) (.tuple ds)
inductive RpL (G : Addr → Obj → Prop) : List Value → List PyData → Prop
  | nil : RpL G [] []
  | cons {v : Value} {vs : List Value} {d : PyData} {ds : List PyData} : Rp G v d → RpL G vs ds → RpL G (v :: vs) (d :: ds)
end
def HG (h : Heap) (a : Addr) (o : Obj) : Prop := h.get? a = some o
def LG (ld : List (Addr × Obj)) (a : Addr) (o : Obj) : Prop := (a, o) ∈ ld
mutual
theorem Rp.mono {G G' : Addr → Obj → Prop} (hs : ∀ a o, G a o → G' a o) : ∀ {v : Value} {d : PyData}, Rp G v d → Rp G' v d
  | _, _, .none => .none
  | _, _, .bool b => .bool b
  | _, _, .int i t => .int i t
  | _, _, .str x t => .str x t
  | _, _, .list h r => .list (hs _ _ h) (RpL.mono hs r)
  | _, _, .tuple h r => .tuple (hs _ _ h) (RpL.mono hs r)
theorem RpL.mono {G G' : Addr → Obj → Prop} (hs : ∀ a o, G a o → G' a o) : ∀ {vs : List Value} {ds : List PyData}, RpL G vs ds → RpL G' vs ds
  | _, _, .nil => .nil
  | _, _, .cons h r => .cons (Rp.mono hs h) (RpL.mono hs r)
end
mutual
theorem Rp.reads {h : Heap} : ∀ {v : Value} {d : PyData}, Rp (HG h) v d → ∃ as, Reads h v d as
  | _, _, .none => ⟨_, .none⟩
  | _, _, .bool b => ⟨_, .bool b⟩
  | _, _, .int i t => ⟨_, .int i t⟩
  | _, _, .str x t => ⟨_, .str x t⟩
  | _, _, .list g r => let ⟨_, q⟩ := RpL.reads r; ⟨_, .list g rfl rfl q⟩
  | _, _, .tuple g r => let ⟨_, q⟩ := RpL.reads r; ⟨_, .tuple g rfl rfl q⟩
theorem RpL.reads {h : Heap} : ∀ {vs : List Value} {ds : List PyData}, RpL (HG h) vs ds → ∃ as, ReadsAll h vs ds as
  | _, _, .nil => ⟨_, .nil⟩
  | _, _, .cons a r => let ⟨_, p⟩ := Rp.reads a; let ⟨_, q⟩ := RpL.reads r; ⟨_, .cons p q⟩
end
theorem RpL.length {G : Addr → Obj → Prop} : ∀ {vs : List Value} {ds : List PyData}, RpL G vs ds → vs.length = ds.length
  | _, _, .nil => rfl
  | _, _, .cons _ r => congrArg (· + 1) (RpL.length r)
theorem RpL.get {G : Addr → Obj → Prop} : ∀ {vs : List Value} {ds : List PyData}, RpL G vs ds → ∀ {i : Nat} {v : Value}, vs[i]? = some v → ∃ d, ds[i]? = some d ∧ Rp G v d
  | _, _, .nil, i, _, h => by simp at h
  | _, _, .cons a r, 0, _, h => by simp at h; subst h; exact ⟨_, rfl, a⟩
  | _, _, .cons _ r, i + 1, _, h => by simpa using RpL.get r (i := i) (by simpa using h)
theorem RpL.getD {G : Addr → Obj → Prop} : ∀ {vs : List Value} {ds : List PyData}, RpL G vs ds → ∀ {i : Nat} {d : PyData}, ds[i]? = some d → ∃ v, vs[i]? = some v ∧ Rp G v d
  | _, _, .nil, i, _, h => by simp at h
  | _, _, .cons a r, 0, _, h => by simp at h; subst h; exact ⟨_, rfl, a⟩
  | _, _, .cons _ r, i + 1, _, h => by simpa using RpL.getD r (i := i) (by simpa using h)
theorem RpL.append {G : Addr → Obj → Prop} : ∀ {vs : List Value} {ds : List PyData}, RpL G vs ds → ∀ {ws es}, RpL G ws es → RpL G (vs ++ ws) (ds ++ es)
  | _, _, .nil, _, _, q => q
  | _, _, .cons a r, _, _, q => .cons a (RpL.append r q)
theorem HG.of_news {h₀ h : Heap} {L : Addr} {ld : List (Addr × Obj)} (N : News h₀ L h ld) : ∀ a o, LG ld a o → HG h a o := fun _ _ m => (N _ m).1
theorem HG.keeps {h h' : Heap} (k : h.StaysIn h') : ∀ a o, HG h a o → HG h' a o := fun _ _ e => k _ _ e

/-! ## contracts -/

def XC (w : World) (f : Addr) (sz : Nat) (vs : List Value) (Pre : Heap → Prop) (Post : List (Addr × Obj) → Value → Prop) : Prop :=
  ∀ (loose : List Str) (mean : ExcName → Option Value) (mg mb : Str → Option Value) (dp un : Nat) (gd : Option (List Code)) (cn : Str) (cs : Scope) (a : Addr) (ccd : Value) (cl : List (Str × Addr)) (outer : List Env) (A₀ : Around) (base h₀ : Heap) (L : Addr) (m : Str → Option Value) (s : Shared)
    (Q E : Value → Shared → Prop),
    Below A₀ base outer h₀ → Fr h₀ L s.heap m → (Mine.hd.heap_39 w.params).In h₀ → Top Mine.hd.view_39 loose mean mg mb h₀ → cs.kind = .function → Pre s.heap → dp + sz < recursionLimit → un + 8 * sz < cLine →
    (∀ r tl h' tk', Fr h₀ L h' m → s.heap.StaysIn h' → News s.heap L h' tl → Post tl r → Q r { s with heap := h', toks := tk' }) →
    wpAny (model PySem.Challenge.rw_xe0005_01.row.prog w) (ktrTop dp un gd cn cs L a ccd cl outer) (call (.ref f) vs) Q E s

/-- a def's end: what comes back, and all that stood stands -/
def XEnd (gs : Array GenState) (dr : Drawn) (os : OsState) (g : Heap) (L : Addr) (Post : List (Addr × Obj) → Value → Prop) (fl : Flow) (s' : Shared) : Prop :=
  ∃ v h' tk m' tl, fl = .ret v ∧ s' = ⟨h', gs, dr, tk, os⟩ ∧ Fr g L h' m' ∧ News g L h' tl ∧ Post tl v
theorem XEnd.mk {gs : Array GenState} {dr : Drawn} {os : OsState} {g : Heap} {L : Addr} {Post : List (Addr × Obj) → Value → Prop} {v : Value} {h' : Heap} {tk : Nat} {m' : Str → Option Value} {tl : List (Addr × Obj)} (F : Fr g L h' m') (N : News g L h' tl) (p : Post tl v) :
    XEnd gs dr os g L Post (.ret v) ⟨h', gs, dr, tk, os⟩ := ⟨v, h', tk, m', tl, rfl, rfl, F, N, p⟩

theorem xc_def {w : World} {f : Addr} {sz : Nat} {vs : List Value} {Pre : Heap → Prop} {Post : List (Addr × Obj) → Value → Prop}
    {name qual : Str} {params : Arguments} {body : List Stmt} {scope : Scope} {dV kV doc pm cdv ct oc : Value} {an od : Option Addr} {osl : Array (Option Value)} {binds : List (Str × Value)}
    (ho : (Mine.hd.heap_39 w.params).lookup f = some ⟨oc, od, .func (fnOf name qual params body scope dV kV doc pm an cdv ct), osl⟩) (hcd : codeIn (Mine.hd.heap_39 w.params) cdv qual = true) (hsz : 0 < sz)
    (hbind : ∀ s, BindsTo s (fnOf name qual params body scope dV kV doc pm an cdv ct) ⟨vs, []⟩ binds) (hloc : ∀ y ∈ binds, scope.names.lookup y.1 = some .local)
    (hcell : ∀ x ∈ scope.names, x.2 ≠ .cell) (hco : scope.isCoroutine = false) (hgen : scope.isGenerator = false) (hk : scope.kind = .function)
    (h : ∀ (loose : List Str) (mean : ExcName → Option Value) (mg mb : Str → Option Value) (dp un : Nat) (gd : Option (List Code)) (cn : Str) (cs : Scope) (L a : Addr) (ccd : Value) (cl : List (Str × Addr)) (outer : List Env) (base g : Heap) (L' : Addr) (h₁ : Heap) (gs : Array GenState) (dr : Drawn) (os : OsState) (tk : Nat) (E : Value → Shared → Prop),
      Fr g L' h₁ (fun y => binds.reverse.lookup y) → News g L' h₁ [] → Below (ktrTop dp un gd cn cs L a ccd cl outer) base (envX cn cs L a ccd cl :: outer) g → (Mine.hd.heap_39 w.params).In g → Top Mine.hd.view_39 loose mean mg mb g → Pre g →
      dp + sz < recursionLimit → un + 8 * sz < cLine →
      wpAny (model PySem.Challenge.rw_xe0005_01.row.prog w) ((ktrTop dp un gd cn cs L a ccd cl outer).deeper (envOf qual scope L' f cdv)) (execs body (envOf qual scope L' f cdv)) (XEnd gs dr os g L' Post)
        (fun e s' => wpAny (model PySem.Challenge.rw_xe0005_01.row.prog w) ((ktrTop dp un gd cn cs L a ccd cl outer).deeper (envOf qual scope L' f cdv)) (leaving (envOf qual scope L' f cdv) e) (fun _ s'' => E e s'') (fun e' s'' => E e' s'') s') ⟨h₁, gs, dr, tk, os⟩) :
    XC w f sz vs Pre Post := by
  intro loose mean mg mb dp un gd cn cs a ccd cl outer A₀ base h₀ L m s Q E B F X T hck hp hd hu ret
  refine wpAny_call ?_
  have st : h₀.StaysIn s.heap := F.keep
  have BG : Below (ktrTop dp un gd cn cs L a ccd cl outer) base (envX cn cs L a ccd cl :: outer) s.heap :=
    ⟨rfl, fun b o e => st b o (B.stays b o e), (pushX (env := envX cn cs L a ccd cl) B F rfl hck).frames⟩
  refine codeAny_call_def (fd := fnOf name qual params body scope dV kV doc pm an cdv ct) (body := body) (binds := binds) (by show dp < _; omega) ((X.keeps F.keep) _ _ ho) rfl (T.nolimit.keeps F.keep) (codeRec_of (X.keeps F.keep) hcd) rfl (hbind s) hcell hloc (fun h₁ hns hk₁ => ?_) hco hgen hk
  refine wpAny_mono (h loose mean mg mb dp un gd cn cs L a ccd cl outer base s.heap s.heap.objs.size h₁ s.gens s.drawn s.os (s.toks + binds.length) E
    ⟨hns, hk₁, Nat.le_refl _⟩ (fun _ hp => nomatch hp) BG (X.keeps F.keep) (T.keeps F.keep) hp hd hu) (fun fl s' hl => ?_) fun _ _ y => y
  obtain ⟨v, h', tk, m', tl, rfl, rfl, F', N', hpost⟩ := hl
  obtain ⟨oL, es, ep, hL, hLd, hLk, hLf⟩ := F.ns
  exact ret v tl h' tk ⟨⟨oL, es, ep, F'.keep L oL hL, hLd, hLk, hLf⟩, fun b o e => F'.keep b o (st b o e), F.above⟩ F'.keep
    (fun p hp => ⟨(N' p hp).1, fun q => (by have := (N' p hp).2.2; rw [q, hL] at this; cases this), (N' p hp).2.2⟩) hpost

section
variable {prog : Program} {w : World} {A : Around} {E : Value → Shared → Prop} {s : Shared} {h₀ : Heap} {L : Addr} {news : List (Addr × Obj)}
theorem News.afterCall {h h' : Heap} {tl : List (Addr × Obj)} {m : Str → Option Value} (F : Fr h₀ L h m) (N : News h₀ L h news) (k : h.StaysIn h') (N' : News h L h' tl) : News h₀ L h' (tl ++ news) := fun p hp => by
  rcases List.mem_append.mp hp with q | q
  · refine ⟨(N' p q).1, (N' p q).2.1, ?_⟩
    cases e : h₀.get? p.1 with
    | none => rfl
    | some o => have := (N' p q).2.2; rw [F.keep _ _ e] at this; cases this
  · exact ⟨k _ _ (N p q).1, (N p q).2⟩
theorem News.apart' {h h' : Heap} {tl : List (Addr × Obj)} (N : News h₀ L h news) (N' : News h L h' tl) : ∀ p ∈ tl, ∀ q ∈ news, p.1 ≠ q.1 := fun p hp q hq e => by
  have h1 := (N' p hp).2.2
  rw [e, (N q hq).1] at h1; cases h1
/-- the ways of an expression meet again in one int -/
def XJ (x : Int) (s : Shared) (v : Value) (s' : Shared) : Prop := ∃ u tk, v = .int x u ∧ s' = { s with toks := tk }
theorem XJ.mk {x y : Int} {s : Shared} {u : Tok} {tk : Nat} (e : y = x) : XJ x s (.int y u) ⟨s.heap, s.gens, s.drawn, tk, s.os⟩ := ⟨u, tk, by rw [e], rfl⟩
theorem x_join {t : Sem Value} {x : Int} {M : Model} {Q : Value → Shared → Prop} (h1 : wpAny M A t (XJ x s) E s) (h2 : ∀ u tk, Q (.int x u) { s with toks := tk }) : wpAny M A t Q E s :=
  wpAny_mono h1 (fun v s' ⟨u, tk, e1, e2⟩ => by subst e1 e2; exact h2 u tk) fun _ _ e => e
theorem x_join_of {t : Sem Value} {f : Int → Int} {y : Int} {t0 : Tok} {m : Str → Option Value} {M : Model} {Q : Value → Shared → Prop} {x : Str} (_F : Fr h₀ L s.heap m) (_hv : m x = some (.int y t0)) (h1 : wpAny M A t (XJ (f y) s) E s) (h2 : ∀ u tk, Q (.int (f y) u) { s with toks := tk }) : wpAny M A t Q E s := x_join h1 h2
end
theorem xfill (w : World) : Mine.hd.heap_39 w.params = Mine.hd.heap_39 w.params ∧ PySem.Challenge.rw_xe0005_01 = PySem.Challenge.rw_xe0005_01 := by
  k_fill
  exact ⟨rfl, rfl⟩
section
variable {w : World} {E : Value → Shared → Prop} {s : Shared} {base h₀ : Heap} {L : Addr} {m : Str → Option Value} {news : List (Addr × Obj)} {f : Addr} {sz : Nat} {vs : List Value} {Pre : Heap → Prop} {Post : List (Addr × Obj) → Value → Prop}
theorem xc_use {loose : List Str} {mean : ExcName → Option Value} {mg mb : Str → Option Value} {dp un : Nat} {gd : Option (List Code)} {cn : Str} {cs : Scope} {a : Addr} {ccd : Value} {cl : List (Str × Addr)} {outer : List Env} {A₀ : Around} {Q : Value → Shared → Prop}
    (C : XC w f sz vs Pre Post) (B : Below A₀ base outer h₀) (F : Fr h₀ L s.heap m) (X : (Mine.hd.heap_39 w.params).In h₀) (N : News h₀ L s.heap news) (T : Top Mine.hd.view_39 loose mean mg mb h₀) (hk : cs.kind = .function) (hp : Pre s.heap) (hd : dp + sz < recursionLimit) (hu : un + 8 * sz < cLine)
    (ret : ∀ r tl h' tk', Fr h₀ L h' m → News h₀ L h' (tl ++ news) → (∀ p ∈ tl, ∀ q ∈ news, p.1 ≠ q.1) → Post tl r → Q r { s with heap := h', toks := tk' }) :
    wpAny (model PySem.Challenge.rw_xe0005_01.row.prog w) (ktrTop dp un gd cn cs L a ccd cl outer) (call (.ref f) vs) Q E s :=
  C _ _ _ _ _ _ _ _ _ _ _ _ _ _ _ _ _ _ _ _ _ B F X T hk hp hd hu fun r tl h' tk' F' st N' p => ret r tl h' tk' F' (News.afterCall F N st N') (News.apart' N N') p
theorem News.pick {h : Heap} {tl : List (Addr × Obj)} {q : Addr × Obj} (N : News h₀ L h (tl ++ news)) (hm : q ∈ tl) : News h₀ L h (q :: news) := fun p hp => by
  rcases List.mem_cons.mp hp with rfl | hp
  · exact N _ (List.mem_append_left _ hm)
  · exact N _ (List.mem_append_right _ hp)
theorem News.none {h : Heap} {tl : List (Addr × Obj)} (N : News h₀ L h (tl ++ news)) : News h₀ L h news := fun p hp => N _ (List.mem_append_right _ hp)
/-- what comes back, told to any question of it -/
theorem xc_use_val {v : Value} {loose : List Str} {mean : ExcName → Option Value} {mg mb : Str → Option Value} {dp un : Nat} {gd : Option (List Code)} {cn : Str} {cs : Scope} {a : Addr} {ccd : Value} {cl : List (Str × Addr)} {outer : List Env} {A₀ : Around} {Q : Value → Shared → Prop}
    (C : XC w f sz vs Pre (fun _ r => r = v)) (B : Below A₀ base outer h₀) (F : Fr h₀ L s.heap m) (X : (Mine.hd.heap_39 w.params).In h₀) (N : News h₀ L s.heap news) (T : Top Mine.hd.view_39 loose mean mg mb h₀) (hk : cs.kind = .function) (hp : Pre s.heap) (hd : dp + sz < recursionLimit) (hu : un + 8 * sz < cLine)
    (ret : ∀ h' tk', Fr h₀ L h' m → News h₀ L h' news → Q v { s with heap := h', toks := tk' }) : wpAny (model PySem.Challenge.rw_xe0005_01.row.prog w) (ktrTop dp un gd cn cs L a ccd cl outer) (call (.ref f) vs) Q E s :=
  xc_use C B F X N T hk hp hd hu fun r tl h' tk' F' N' _ p => by cases p; exact ret h' tk' F' (News.none N')
theorem xc_use_str {x : Str} {loose : List Str} {mean : ExcName → Option Value} {mg mb : Str → Option Value} {dp un : Nat} {gd : Option (List Code)} {cn : Str} {cs : Scope} {a : Addr} {ccd : Value} {cl : List (Str × Addr)} {outer : List Env} {A₀ : Around} {Q : Value → Shared → Prop}
    (C : XC w f sz vs Pre (fun _ r => ∃ t, r = .str x t)) (B : Below A₀ base outer h₀) (F : Fr h₀ L s.heap m) (X : (Mine.hd.heap_39 w.params).In h₀) (N : News h₀ L s.heap news) (T : Top Mine.hd.view_39 loose mean mg mb h₀) (hk : cs.kind = .function) (hp : Pre s.heap) (hd : dp + sz < recursionLimit) (hu : un + 8 * sz < cLine)
    (ret : ∀ t h' tk', Fr h₀ L h' m → News h₀ L h' news → Q (.str x t) { s with heap := h', toks := tk' }) : wpAny (model PySem.Challenge.rw_xe0005_01.row.prog w) (ktrTop dp un gd cn cs L a ccd cl outer) (call (.ref f) vs) Q E s :=
  xc_use C B F X N T hk hp hd hu fun r tl h' tk' F' N' _ p => by obtain ⟨t, rfl⟩ := p; exact ret t h' tk' F' (News.none N')
theorem xc_use_l3 {x y z : Int} {loose : List Str} {mean : ExcName → Option Value} {mg mb : Str → Option Value} {dp un : Nat} {gd : Option (List Code)} {cn : Str} {cs : Scope} {a : Addr} {ccd : Value} {cl : List (Str × Addr)} {outer : List Env} {A₀ : Around} {Q : Value → Shared → Prop}
    (C : XC w f sz vs Pre (fun tl r => ∃ l' n u1 u2 u3, r = .ref l' ∧ (l', W.listOf [Value.int x u1, .int y u2, .int z u3].toArray n) ∈ tl)) (B : Below A₀ base outer h₀) (F : Fr h₀ L s.heap m) (X : (Mine.hd.heap_39 w.params).In h₀) (N : News h₀ L s.heap news) (T : Top Mine.hd.view_39 loose mean mg mb h₀) (hk : cs.kind = .function) (hp : Pre s.heap) (hd : dp + sz < recursionLimit) (hu : un + 8 * sz < cLine)
    (ret : ∀ l' n u1 u2 u3 h' tk', Fr h₀ L h' m → News h₀ L h' ((l', W.listOf [Value.int x u1, .int y u2, .int z u3].toArray n) :: news) → (∀ q ∈ news, l' ≠ q.1) → Q (.ref l') { s with heap := h', toks := tk' }) : wpAny (model PySem.Challenge.rw_xe0005_01.row.prog w) (ktrTop dp un gd cn cs L a ccd cl outer) (call (.ref f) vs) Q E s :=
  xc_use C B F X N T hk hp hd hu fun r tl h' tk' F' N' a' p => by obtain ⟨l', n, u1, u2, u3, rfl, hm⟩ := p; exact ret l' n u1 u2 u3 h' tk' F' (News.pick N' hm) (a' _ hm)
theorem xc_use_s3 {x y z : Str} {loose : List Str} {mean : ExcName → Option Value} {mg mb : Str → Option Value} {dp un : Nat} {gd : Option (List Code)} {cn : Str} {cs : Scope} {a : Addr} {ccd : Value} {cl : List (Str × Addr)} {outer : List Env} {A₀ : Around} {Q : Value → Shared → Prop}
    (C : XC w f sz vs Pre (fun tl r => ∃ l' n u1 u2 u3, r = .ref l' ∧ (l', W.listOf [Value.str x u1, .str y u2, .str z u3].toArray n) ∈ tl)) (B : Below A₀ base outer h₀) (F : Fr h₀ L s.heap m) (X : (Mine.hd.heap_39 w.params).In h₀) (N : News h₀ L s.heap news) (T : Top Mine.hd.view_39 loose mean mg mb h₀) (hk : cs.kind = .function) (hp : Pre s.heap) (hd : dp + sz < recursionLimit) (hu : un + 8 * sz < cLine)
    (ret : ∀ l' n u1 u2 u3 h' tk', Fr h₀ L h' m → News h₀ L h' ((l', W.listOf [Value.str x u1, .str y u2, .str z u3].toArray n) :: news) → (∀ q ∈ news, l' ≠ q.1) → Q (.ref l') { s with heap := h', toks := tk' }) : wpAny (model PySem.Challenge.rw_xe0005_01.row.prog w) (ktrTop dp un gd cn cs L a ccd cl outer) (call (.ref f) vs) Q E s :=
  xc_use C B F X N T hk hp hd hu fun r tl h' tk' F' N' a' p => by obtain ⟨l', n, u1, u2, u3, rfl, hm⟩ := p; exact ret l' n u1 u2 u3 h' tk' F' (News.pick N' hm) (a' _ hm)
theorem xc_use_p {P : Value → Prop} {loose : List Str} {mean : ExcName → Option Value} {mg mb : Str → Option Value} {dp un : Nat} {gd : Option (List Code)} {cn : Str} {cs : Scope} {a : Addr} {ccd : Value} {cl : List (Str × Addr)} {outer : List Env} {A₀ : Around} {Q : Value → Shared → Prop}
    (C : XC w f sz vs Pre (fun _ r => P r)) (B : Below A₀ base outer h₀) (F : Fr h₀ L s.heap m) (X : (Mine.hd.heap_39 w.params).In h₀) (N : News h₀ L s.heap news) (T : Top Mine.hd.view_39 loose mean mg mb h₀) (hk : cs.kind = .function) (hp : Pre s.heap) (hd : dp + sz < recursionLimit) (hu : un + 8 * sz < cLine)
    (ret : ∀ r h' tk', Fr h₀ L h' m → News h₀ L h' news → P r → Q r { s with heap := h', toks := tk' }) : wpAny (model PySem.Challenge.rw_xe0005_01.row.prog w) (ktrTop dp un gd cn cs L a ccd cl outer) (call (.ref f) vs) Q E s :=
  xc_use C B F X N T hk hp hd hu fun r tl h' tk' F' N' _ p => ret r h' tk' F' (News.none N') p
end
local macro_rules | `(tactic| walk_at $s:str) => `(tactic| k_extra $s)
local macro_rules | `(tactic| k_lt $h:ident) => `(tactic| (replace $h := allLt_of $h; dsimp only [AllLt] at $h:ident; repeat (have := And.left $h; replace $h := And.right $h)))
local macro_rules | `(tactic| k_ne) => `(tactic| (refine neN ?_; (try dsimp only); first | (with_reducible assumption) | (refine Ne.symm ?_; with_reducible assumption) | (refine Nat.ne_of_lt ?_; with_reducible assumption) | (refine Nat.ne_of_gt ?_; with_reducible assumption)))
theorem kw_1 : True := by
  w_top off
  k_with_none
  k_with "x mem" => (first | (with_reducible assumption) | (with_reducible exact List.mem_cons_self) | (refine' List.mem_cons_of_mem _ ?_; k_extra "x mem") | (refine' List.mem_append_left _ ?_; k_extra "x mem") | (refine' List.mem_append_right _ ?_; k_extra "x mem"))
  k_with "x enter" => ((
  refine' xc_def ?k6r2 ?k7r2 ?k8r2 (fun s => ?k9r2) ?kBr2 ?c5r2 ?c2r2 ?c3r2 ?c4r2 ?_
  (case k6r2 => k_is)
  (case k7r2 => k_is)
  (case k8r2 => decide)
  (case k9r2 => exact BindsTo.of_eq rfl)
  (case c5r2 => decide)
  (case kBr2 => exact locs rfl)
  (case c2r2 => exact rfl)
  (case c3r2 => exact rfl)
  (case c4r2 => exact rfl)
  intro loosezq meanzq mgzq mbzq dpzq unzq gdzq cnzq cszq Lzq azq ccdzq clzq outerzq basezq gzq L'zq h'zq gszq drzq oszq tkzq Ezq F'zq N'zq B'zq X'zq T'zq hpzq hdzq huzq
  (try dsimp only) 
  (try k_fold)))
  k_with "x sides" => ((
  (case k1 => k_asm)
  (case k2 => k_asm)
  (case k3 => k_asm)
  (case k4 => k_asm)
  (case k5 => k_asm)
  (case kK => first | exact rfl | assumption)
  (case kd => ktr_room)
  (case ku => ktr_units)))
  k_with "subscriptTail Name Constant ref int" => ((k_here; k_dflt ((with_reducible show wpAny _ _ (subscriptTail _ _ (Value.ref _) (Value.int _ _)) _ _ _); (with_unfolding_all refine' item_litK ?k1r4 ?k2r4 ?k3r4 ?k4r4 ?_ ?k6r4; (case k1r4 => is_list); (case k2r4 => decide); (case k3r4 => decide); (case k4r4 => rfl); (case k6r4 => with_unfolding_all rfl)))))
  k_with "subscriptTail Name BinOp ref int" => ((k_here; k_dflt ((with_reducible show wpAny _ _ (subscriptTail _ _ (Value.ref _) (Value.int _ _)) _ _ _); (with_unfolding_all refine' item_litK ?k1r5 ?k2r5 ?k3r5 ?k4r5 ?_ ?k6r5; (case k1r5 => is_list); (case k2r5 => decide); (case k3r5 => decide); (case k4r5 => rfl); (case k6r5 => with_unfolding_all rfl)))))
  k_with "subscriptTail Name Name ref int" => ((k_here; k_dflt ((with_reducible show wpAny _ _ (subscriptTail _ _ (Value.ref _) (Value.int _ _)) _ _ _); (with_unfolding_all refine' item_litK ?k1r6 ?k2r6 ?k3r6 ?k4r6 ?_ ?k6r6; (case k1r6 => is_list); (case k2r6 => decide); (case k3r6 => decide); (case k4r6 => rfl); (case k6r6 => with_unfolding_all rfl)))))
  k_with "eval Name" => ((k_here; dsimp only))
  trivial
/-! ## defs with defaults, with captured names; loops by an invariant over what is left -/
section
variable {w : World} {f : Addr} {sz : Nat} {vs : List Value} {Pre : Heap → Prop} {Post : List (Addr × Obj) → Value → Prop}
    {name qual : Str} {params : Arguments} {body : List Stmt} {scope : Scope} {dV kV doc pm cdv ct oc : Value} {an od : Option Addr} {osl : Array (Option Value)} {binds : List (Str × Value)}
theorem xc_defK 
    (ho : (Mine.hd.heap_39 w.params).lookup f = some ⟨oc, od, .func (fnOf name qual params body scope dV kV doc pm an cdv ct), osl⟩) (hcd : codeIn (Mine.hd.heap_39 w.params) cdv qual = true) (hsz : 0 < sz)
    (hbind : ∀ S, peek (Mine.hd.heap_39 w.params) S (bindArgs (fnOf name qual params body scope dV kV doc pm an cdv ct) ⟨vs, []⟩) = some binds) (hloc : ∀ y ∈ binds, scope.names.lookup y.1 = some .local)
    (hcell : ∀ x ∈ scope.names, x.2 ≠ .cell) (hco : scope.isCoroutine = false) (hgen : scope.isGenerator = false) (hk : scope.kind = .function)
    (h : ∀ (loose : List Str) (mean : ExcName → Option Value) (mg mb : Str → Option Value) (dp un : Nat) (gd : Option (List Code)) (cn : Str) (cs : Scope) (L a : Addr) (ccd : Value) (cl : List (Str × Addr)) (outer : List Env) (base g : Heap) (L' : Addr) (h₁ : Heap) (gs : Array GenState) (dr : Drawn) (os : OsState) (tk : Nat) (E : Value → Shared → Prop),
      Fr g L' h₁ (fun y => binds.reverse.lookup y) → News g L' h₁ [] → Below (ktrTop dp un gd cn cs L a ccd cl outer) base (envX cn cs L a ccd cl :: outer) g → (Mine.hd.heap_39 w.params).In g → Top Mine.hd.view_39 loose mean mg mb g → Pre g →
      dp + sz < recursionLimit → un + 8 * sz < cLine →
      wpAny (model PySem.Challenge.rw_xe0005_01.row.prog w) ((ktrTop dp un gd cn cs L a ccd cl outer).deeper (envOf qual scope L' f cdv)) (execs body (envOf qual scope L' f cdv)) (XEnd gs dr os g L' Post)
        (fun e s' => wpAny (model PySem.Challenge.rw_xe0005_01.row.prog w) ((ktrTop dp un gd cn cs L a ccd cl outer).deeper (envOf qual scope L' f cdv)) (leaving (envOf qual scope L' f cdv) e) (fun _ s'' => E e s'') (fun e' s'' => E e' s'') s') ⟨h₁, gs, dr, tk, os⟩) :
    XC w f sz vs Pre Post := by
  intro loose mean mg mb dp un gd cn cs a ccd cl outer A₀ base h₀ L m s Q E B F X T hck hp hd hu ret
  refine wpAny_call ?_
  have st : h₀.StaysIn s.heap := F.keep
  have BG : Below (ktrTop dp un gd cn cs L a ccd cl outer) base (envX cn cs L a ccd cl :: outer) s.heap :=
    ⟨rfl, fun b o e => st b o (B.stays b o e), (pushX (env := envX cn cs L a ccd cl) B F rfl hck).frames⟩
  refine codeAny_call_def (fd := fnOf name qual params body scope dV kV doc pm an cdv ct) (body := body) (binds := binds) (by show dp < _; omega) ((X.keeps F.keep) _ _ ho) rfl (T.nolimit.keeps F.keep) (codeRec_of (X.keeps F.keep) hcd) rfl (kp_binds (X.keeps F.keep) hbind) hcell hloc (fun h₁ hns hk₁ => ?_) hco hgen hk
  refine wpAny_mono (h loose mean mg mb dp un gd cn cs L a ccd cl outer base s.heap s.heap.objs.size h₁ s.gens s.drawn s.os (s.toks + binds.length) E
    ⟨hns, hk₁, Nat.le_refl _⟩ (fun _ hp => nomatch hp) BG (X.keeps F.keep) (T.keeps F.keep) hp hd hu) (fun fl s' hl => ?_) fun _ _ y => y
  obtain ⟨v, h', tk, m', tl, rfl, rfl, F', N', hpost⟩ := hl
  obtain ⟨oL, es, ep, hL, hLd, hLk, hLf⟩ := F.ns
  exact ret v tl h' tk ⟨⟨oL, es, ep, F'.keep L oL hL, hLd, hLk, hLf⟩, fun b o e => F'.keep b o (st b o e), F.above⟩ F'.keep
    (fun p hp => ⟨(N' p hp).1, fun q => (by have := (N' p hp).2.2; rw [q, hL] at this; cases this), (N' p hp).2.2⟩) hpost
theorem xc_defC
    (ho : (Mine.hd.heap_39 w.params).lookup f = some ⟨oc, od, .func (fnOf name qual params body scope dV kV doc pm an cdv ct), osl⟩) (hcd : codeIn (Mine.hd.heap_39 w.params) cdv qual = true) (hsz : 0 < sz)
    (hbind : ∀ S, peek (Mine.hd.heap_39 w.params) S (bindArgs (fnOf name qual params body scope dV kV doc pm an cdv ct) ⟨vs, []⟩) = some binds)
    (hkind : (binds.all fun y => scope.names.lookup y.1 == some .local || scope.names.lookup y.1 == some .cell) = true)
    (hnd : ((cellsFrom 0 scope.names []).map (·.1)).Nodup) (hco : scope.isCoroutine = false) (hgen : scope.isGenerator = false) (hk : scope.kind = .function)
    (h : ∀ (loose : List Str) (mean : ExcName → Option Value) (mg mb : Str → Option Value) (dp un : Nat) (gd : Option (List Code)) (cn : Str) (cs : Scope) (L a : Addr) (ccd : Value) (cl : List (Str × Addr)) (outer : List Env) (base g : Heap) (L' : Addr) (h₁ : Heap) (gs : Array GenState) (dr : Drawn) (os : OsState) (tk : Nat) (E : Value → Shared → Prop) (cells : List (Addr × Obj)),
      Fr g L' h₁ (bindL (envOfC qual scope L' f cdv).kindOf binds fun _ => none) → News g L' h₁ cells → CellsAre (bindC (envOfC qual scope L' f cdv).kindOf binds fun _ => none) (cellsFrom (L' + 1) scope.names []) cells →
      Below (ktrTop dp un gd cn cs L a ccd cl outer) base (envX cn cs L a ccd cl :: outer) g → (Mine.hd.heap_39 w.params).In g → Top Mine.hd.view_39 loose mean mg mb g → Pre g →
      dp + sz < recursionLimit → un + 8 * sz < cLine →
      wpAny (model PySem.Challenge.rw_xe0005_01.row.prog w) ((ktrTop dp un gd cn cs L a ccd cl outer).deeper (envOfC qual scope L' f cdv)) (execs body (envOfC qual scope L' f cdv)) (XEnd gs dr os g L' Post)
        (fun e s' => wpAny (model PySem.Challenge.rw_xe0005_01.row.prog w) ((ktrTop dp un gd cn cs L a ccd cl outer).deeper (envOfC qual scope L' f cdv)) (leaving (envOfC qual scope L' f cdv) e) (fun _ s'' => E e s'') (fun e' s'' => E e' s'') s') ⟨h₁, gs, dr, tk, os⟩) :
    XC w f sz vs Pre Post := by
  intro loose mean mg mb dp un gd cn cs a ccd cl outer A₀ base h₀ L m s Q E B F X T hck hp hd hu ret
  refine wpAny_call ?_
  have st : h₀.StaysIn s.heap := F.keep
  have BG : Below (ktrTop dp un gd cn cs L a ccd cl outer) base (envX cn cs L a ccd cl :: outer) s.heap :=
    ⟨rfl, fun b o e => st b o (B.stays b o e), (pushX (env := envX cn cs L a ccd cl) B F rfl hck).frames⟩
  refine codeAny_call_function (fd := fnOf name qual params body scope dV kV doc pm an cdv ct) (by show dp < _; omega) ((X.keeps F.keep) _ _ ho) rfl hco hgen rfl (codeRec_of (X.keeps F.keep) hcd) (kp_binds (X.keeps F.keep) hbind _ _ _ _ ?_)
  refine wpAny_newFunctionEnv_cells hk (kindsX hkind _) fun env' he s' x => ?_
  subst he
  refine ⟨(T.nolimit.keeps F.keep).keeps x.toInCall.keep, codeAny_func ?_⟩
  obtain ⟨h₁, tk, rfl, _⟩ := x.done
  have hk₁ := x.toInCall.keep
  obtain ⟨cells, NC, Y⟩ := Cl.news (h₀ := s.heap) (Nat.le_refl _) fun n c hm => ⟨x.cell n c (lookup_of_mem_nodup (cellsFrom_names scope.names 0 (s.heap.objs.size + 1) [] [] rfl ▸ hnd) hm), x.above n c hm⟩
  refine wpAny_mono (h loose mean mg mb dp un gd cn cs L a ccd cl outer base s.heap s.heap.objs.size h₁ s.gens s.drawn s.os tk E cells
    ⟨x.toInCall.ns, hk₁, Nat.le_refl _⟩ NC Y BG (X.keeps F.keep) (T.keeps F.keep) hp hd hu) (fun fl s' hl => ?_) fun _ _ y => y
  obtain ⟨v, h', tk, m', tl, rfl, rfl, F', N', hpost⟩ := hl
  obtain ⟨oL, es, ep, hL, hLd, hLk, hLf⟩ := F.ns
  exact ret v tl h' tk ⟨⟨oL, es, ep, F'.keep L oL hL, hLd, hLk, hLf⟩, fun b o e => F'.keep b o (st b o e), F.above⟩ F'.keep
    (fun p hp => ⟨(N' p hp).1, fun q => (by have := (N' p hp).2.2; rw [q, hL] at this; cases this), (N' p hp).2.2⟩) hpost
end
theorem AllObj.mono {k k' : List (Addr × Obj) → Prop} : ∀ {ws : List (Addr × String)}, (∀ its, k its → k' its) → AllObj ws k → AllObj ws k'
  | [], hk, h => hk _ h
  | _ :: ws, hk, h => fun o ho => AllObj.mono (ws := ws) (fun its q => hk _ q) (h o ho)
section
variable {prog : Program} {w : World} {A : Around} {E : Value → Shared → Prop} {s : Shared} {env : Env} {h₀ : Heap} {target : PySem.Expr} {body : List Stmt} {Q : Flow → Shared → Prop}
theorem rest_ind {ws : List (Addr × String)} {keep : List (Addr × Obj)} (Inv : List Itm → (Str → Option Value) → List (Addr × Obj) → Prop)
    (hz : ∀ m news, Inv [] m news → ∀ h tk, Fr h₀ env.locals h m → News h₀ env.locals h news → Q .next { s with heap := h, toks := tk })
    (hs : ∀ a r m news, Inv (a :: r) m news → ∀ v h tk, a.Is v h → Fr h₀ env.locals h m → AllObj ws (fun its => News h₀ env.locals h (its ++ news) →
      wpAny (model prog w) A (assign target env v) (fun _ s₂ => wpAny (model prog w) A (execs body env) (UnrPostW h₀ env.locals { s with heap := h, toks := tk } its (fun m' n' => SubL keep n' ∧ Inv r m' n') Q) E s₂) E { s with heap := h, toks := tk })) :
    ∀ xs m news, Inv xs m news → ItemsRest prog w A E h₀ env target body Q s ws keep xs m news
  | [], m, news, hi => hz m news hi
  | a :: r, m, news, hi => by
    intro v h tk ha F
    refine AllObj.mono (fun its q N => ?_) (hs a r m news hi v h tk ha F)
    refine wpAny_mono (q N) (fun _ s₂ x => wpAny_mono x (fun f s₃ p => ?_) fun _ _ y => y) fun _ _ y => y
    have fin : UnrEndW h₀ env.locals { s with heap := h, toks := tk } its (fun m' n' => SubL keep n' ∧ Inv r m' n') s₃ → UnrEndW h₀ env.locals { s with heap := h, toks := tk } its (fun m' n' => SubL keep n' ∧ ItemsRest prog w A E h₀ env target body Q s ws keep r m' n') s₃ := by
      rintro ⟨h', tk', m', news', e, F', N', ho, hk, hr⟩
      exact ⟨h', tk', m', news', e, F', N', ho, hk, rest_ind Inv hz hs r m' news' hr⟩
    cases f with
    | ret v => exact p
    | brk => exact p
    | next => exact fin p
    | cont => exact fin p
theorem x_core {I : Addr} {fp wr : List Addr} {n : Nat} {P Md : Nat → Value → Heap → Prop} {St : Nat → Heap → Prop} {ws : List (Addr × String)} {keep : List (Addr × Obj)} {xs : List Itm} {m₀ : Str → Option Value} {news : List (Addr × Obj)} {hp : Heap} {tk0 : Nat}
    (W : KTurns prog w A target I fp wr n P Md St) (hn : n = xs.length) (hP : ∀ i v h, P i v h → ∃ a, xs[i]? = some a ∧ a.Is v h)
    (hobj : ∀ i h, St i h → ∃ its, Objs ws its ∧ ∀ p ∈ its, h.get? p.1 = some p.2)
    (hws : ∀ b ∈ ws.map (·.1), b ∈ fp ∧ h₀.get? b = none) (hwr : ∀ b ∈ wr, b ∈ ws.map (·.1))
    (hfp : ∀ b ∈ fp, b ∈ ws.map (·.1) ∨ (∃ o, (b, o) ∈ keep) ∨ ∃ o, h₀.get? b = some o) (hL : env.locals ∉ fp) (hnw : ∀ p ∈ news, p.1 ∉ wr) (hst : St 0 hp)
    (F : Fr h₀ env.locals hp m₀) (N : News h₀ env.locals hp news) (hk : SubL keep news)
    (rest : ItemsRest prog w A E h₀ env target body Q s ws keep xs m₀ news) : TurnsAt prog w A h₀ env target body Q E (.ref I) { s with heap := hp, toks := tk0 } := by
  let J : Nat → (Str → Option Value) → List (Addr × Obj) → Prop := fun i m₁ news₁ => SubL keep news₁ ∧ ItemsRest prog w A E h₀ env target body Q s ws keep (xs.drop i) m₁ news₁
  refine ⟨I, fp, wr, n, P, Md, St, m₀, news, J, rfl, W, hL, fun b hb => (hws b (hwr b hb)).2, hnw, hst, F, N, ⟨hk, by rw [List.drop_zero]; exact rest⟩, ?_, ?_⟩
  · intro i v m₁ news₁ h₁ tk₁ own hin hPi hJ hoff hown hget hall hst₁ F₁ N₁
    obtain ⟨hk₁, hJ⟩ := hJ
    obtain ⟨a, ha, hav⟩ := hP i v h₁ hPi
    obtain ⟨its, hits, hval⟩ := hobj (i + 1) h₁ hst₁
    have hmap := hits.map
    have hdrop : xs.drop i = a :: xs.drop (i + 1) := by
      have hlt' : i < xs.length := hn ▸ hin
      rw [List.drop_eq_getElem_cons hlt']
      congr 1
      exact Option.some.inj ((List.getElem?_eq_getElem hlt').symm.trans ha)
    have hJ' : ItemsRest prog w A E h₀ env target body Q s ws keep (a :: xs.drop (i + 1)) m₁ news₁ := by rw [← hdrop]; exact hJ
    have N₂ : News h₀ env.locals h₁ (its ++ news₁) := fun p hp => by
      rcases List.mem_append.mp hp with hp | hp
      · have h1 : p.1 ∈ ws.map (·.1) := by rw [← hmap]; exact List.mem_map.mpr ⟨p, hp, rfl⟩
        exact N₁ _ (List.mem_append_left _ (hall p.1 (hws _ h1).1 (hws _ h1).2 p.2 (hval p hp)))
      · exact N₁ _ (List.mem_append_right _ hp)
    have fin : ∀ s₃, UnrEndW h₀ env.locals { s with heap := h₁, toks := tk₁ } its (fun m' n' => SubL keep n' ∧ ItemsRest prog w A E h₀ env target body Q s ws keep (xs.drop (i + 1)) m' n') s₃ →
        LoopStepU h₀ env.locals wr own (J (i + 1)) { s with heap := h₁, toks := tk₁ } .next s₃ := by
      rintro s₃ ⟨h', tk, m', news', e, F', N', ho, hk', r⟩
      refine ⟨rfl, h', tk, m', news', e, F', ?_, ?_, hk', r⟩
      · rintro ⟨pa, po⟩ hp
        rcases List.mem_append.mp hp with hp | hp
        · have h2 : h₁.get? pa = some po := hget _ hp
          rcases hfp pa (hown _ hp) with h3 | ⟨o, h3⟩ | ⟨o, h3⟩
          · have h4 : pa ∈ its.map (·.1) := by rw [hmap]; exact h3
            obtain ⟨⟨qa, qo⟩, hq, hqe⟩ := List.mem_map.mp h4
            have hqe' : qa = pa := hqe
            subst hqe'
            have h5 : h₁.get? qa = some qo := hval _ hq
            have h6 : qo = po := Option.some.inj (h5.symm.trans h2)
            subst h6
            exact N' _ (List.mem_append_left _ hq)
          · have h4 : h₁.get? pa = some o := (N₁ _ (List.mem_append_right _ (hk₁.mem _ h3))).1
            have h6 : o = po := Option.some.inj (h4.symm.trans h2)
            subst h6
            exact N' _ (List.mem_append_right _ (hk'.mem _ h3))
          · have h4 := (N₁ _ (List.mem_append_left _ hp)).2.2
            rw [h3] at h4; cases h4
        · exact N' _ (List.mem_append_right _ hp)
      · intro p hp hI
        have h4 : p.1 ∈ its.map (·.1) := by rw [hmap]; exact hwr _ hI
        obtain ⟨q, hq, hqe⟩ := List.mem_map.mp h4
        exact ho p hp q hq hqe.symm
    refine wpAny_mono ((hJ' v h₁ tk₁ hav F₁).at hits N₂) (fun _ s₂ h₂ => wpAny_mono h₂ (fun f s₃ p => ?_) fun _ _ e => e) fun _ _ e => e
    cases f with
    | ret v => exact .ret p
    | brk => exact .brk p
    | next => exact .next (fin _ p)
    | cont => exact .cont (fin _ p)
  · intro h' tk m' news' F' N' _ hJ
    have hJ' : ItemsRest prog w A E h₀ env target body Q s ws keep (xs.drop n) m' news' := hJ.2
    have z : xs.drop n = [] := List.drop_eq_nil_of_le (Nat.le_of_eq hn.symm)
    rw [z] at hJ'
    exact hJ' h' tk F' N'
/-- a list of the old heap, turn by turn -/
theorem iter_listOld {ax : Addr} {vs : List Value} {m₀ : Str → Option Value} {news : List (Addr × Obj)}
    (hh : A.handled = none) (F : Fr h₀ env.locals s.heap m₀) (N : News h₀ env.locals s.heap news) (hl₀ : h₀.IsList ax vs.toArray)
    (rest₀ : ∀ I : Addr, (∀ p ∈ news, p.1 < I) → ItemsRest prog w A E h₀ env target body Q s [(I, "list_iterator")] [] (vs.map .val) m₀ news) :
    wpAny (model prog w) A (pyIter (.ref ax)) (fun it s₂ => TurnsAt prog w A h₀ env target body Q E it s₂) E s := by
  have hl : s.heap.IsList ax vs.toArray := hl₀.at fun o e => F.keep ax o e
  obtain ⟨ol, hol, _⟩ := id hl₀
  have hlt : ax < s.heap.objs.size := Heap.lt_size (F.keep _ _ hol)
  have hne : ax ≠ s.heap.objs.size := Nat.ne_of_lt hlt
  have hLx : env.locals ≠ ax := fun e => by
    have h1 := Heap.lt_size hol
    have h2 := F.above
    rw [← e] at h1
    exact absurd h1 (Nat.not_lt.mpr h2)
  refine wpAny_pyIter_list hl ?_
  refine x_core (tk0 := s.toks) (keep := []) (KTurns.ofWalks (Walks.list hh s.heap.objs.size ax hne vs.toArray) fun i v s Q E st q => letGo_listiter st.1 q) (by simp) (fun i v h hp => ⟨.val v, ?_, rfl⟩) (fun i h st => ?_) (fun b hb => ?_) (fun b hb => by simpa using hb) (fun b hb => ?_) ?_ (fun p hp hI => ?_) ?_ (F.push _) (fun p hp => ⟨Heap.get?_push_of_some _ (N p hp).1, (N p hp).2⟩) trivial (rest₀ _ fun p hp => Heap.lt_size (N p hp).1)
  · have hp' : vs.toArray[i]? = some v := hp
    simpa using hp'
  · obtain ⟨it, hit, hic, _⟩ := st.1
    exact ⟨[(s.heap.objs.size, it)], ⟨⟨rfl, hic⟩, trivial⟩, fun p hp => by rw [List.mem_singleton.mp hp]; exact hit⟩
  · have hb' : b = s.heap.objs.size := by simpa using hb
    rw [hb']
    exact ⟨List.mem_cons_self .., next_is_new F⟩
  · have hb' : b = s.heap.objs.size ∨ b = ax := by simpa using hb
    rcases hb' with e | e
    · exact .inl (by simp [e])
    · exact .inr (.inr ⟨ol, by rw [e]; exact hol⟩)
  · intro hI
    rcases List.mem_cons.mp hI with e | hI
    · exact absurd F.ns.lt (e ▸ Nat.lt_irrefl _)
    · exact hLx (List.mem_singleton.mp hI)
  · exact absurd (Heap.lt_size (N p hp).1) ((List.mem_singleton.mp hI) ▸ Nat.lt_irrefl _)
  · exact ⟨⟨_, Heap.get?_push_size _ rfl, rfl, rfl⟩, hl.at fun o e => Heap.get?_push_of_some _ e⟩
theorem iter_listInv {ax : Addr} {vs : List Value} {m₀ : Str → Option Value} {news : List (Addr × Obj)} (Inv : List Itm → (Str → Option Value) → List (Addr × Obj) → Prop)
    (hh : A.handled = none) (F : Fr h₀ env.locals s.heap m₀) (N : News h₀ env.locals s.heap news) (hl₀ : h₀.IsList ax vs.toArray) (h0 : Inv (vs.map .val) m₀ news)
    (hz : ∀ m news, Inv [] m news → ∀ h tk, Fr h₀ env.locals h m → News h₀ env.locals h news → Q .next { s with heap := h, toks := tk })
    (hs : ∀ (I : Addr), (∀ p ∈ news, p.1 < I) → ∀ a r m news, Inv (a :: r) m news → ∀ v h tk, a.Is v h → Fr h₀ env.locals h m → AllObj [(I, "list_iterator")] (fun its => News h₀ env.locals h (its ++ news) →
      wpAny (model prog w) A (assign target env v) (fun _ s₂ => wpAny (model prog w) A (execs body env) (UnrPostW h₀ env.locals { s with heap := h, toks := tk } its (fun m' n' => SubL [] n' ∧ Inv r m' n') Q) E s₂) E { s with heap := h, toks := tk })) :
    wpAny (model prog w) A (pyIter (.ref ax)) (fun it s₂ => TurnsAt prog w A h₀ env target body Q E it s₂) E s :=
  iter_listOld hh F N hl₀ fun I hl => rest_ind Inv hz (hs I hl) _ _ _ h0
theorem map_start {M : Str → Option Value} {x : Str} (h : M x = none) : M = fun y => if y = x then none else M y := by
  funext y
  by_cases e : y = x
  · rw [if_pos e, e, h]
  · rw [if_neg e]
theorem map_again {M : Str → Option Value} {x : Str} {a b : Option Value} : (fun y => if y = x then a else if y = x then b else M y) = fun y => if y = x then a else M y := by
  funext y
  by_cases e : y = x <;> simp [e]
end
/-- off these names the frame is as it was -/
def OffN (xs : List Str) (m M : Str → Option Value) : Prop := ∀ y, y ∉ xs → m y = M y
theorem OffN.refl {xs : List Str} {M : Str → Option Value} : OffN xs M M := fun _ _ => rfl
theorem OffN.map3 {a b c : Str} {m M : Str → Option Value} (h : OffN [a, b, c] m M) : m = fun y => if y = a then m a else if y = b then m b else if y = c then m c else M y := by
  funext y
  by_cases h1 : y = a
  · rw [if_pos h1, h1]
  · rw [if_neg h1]
    by_cases h2 : y = b
    · rw [if_pos h2, h2]
    · rw [if_neg h2]
      by_cases h3 : y = c
      · rw [if_pos h3, h3]
      · rw [if_neg h3]; exact h y (by simp [h1, h2, h3])
theorem OffN.map2 {a b : Str} {m M : Str → Option Value} (h : OffN [a, b] m M) : m = fun y => if y = a then m a else if y = b then m b else M y := by
  funext y
  by_cases h1 : y = a
  · rw [if_pos h1, h1]
  · rw [if_neg h1]
    by_cases h2 : y = b
    · rw [if_pos h2, h2]
    · rw [if_neg h2]; exact h y (by simp [h1, h2])
theorem OffN.map4 {a b c d : Str} {m M : Str → Option Value} (h : OffN [a, b, c, d] m M) : m = fun y => if y = a then m a else if y = b then m b else if y = c then m c else if y = d then m d else M y := by
  funext y
  by_cases h1 : y = a
  · rw [if_pos h1, h1]
  · rw [if_neg h1]
    by_cases h2 : y = b
    · rw [if_pos h2, h2]
    · rw [if_neg h2]
      by_cases h3 : y = c
      · rw [if_pos h3, h3]
      · rw [if_neg h3]
        by_cases h4 : y = d
        · rw [if_pos h4, h4]
        · rw [if_neg h4]; exact h y (by simp [h1, h2, h3, h4])
section
variable {prog : Program} {w : World} {A : Around} {E : Value → Shared → Prop} {s : Shared} {h₀ : Heap} {L : Addr}
/-- the ways of an expression meet again in one int, what it made being dropped -/
def XJH (h₀ : Heap) (L : Addr) (m : Str → Option Value) (news : List (Addr × Obj)) (x : Int) (s : Shared) (v : Value) (s' : Shared) : Prop := ∃ u h' tk, v = .int x u ∧ s' = { s with heap := h', toks := tk } ∧ Fr h₀ L h' m ∧ News h₀ L h' news
theorem XJH.mk {m : Str → Option Value} {news all : List (Addr × Obj)} {x y : Int} {u : Tok} {h' : Heap} {tk : Nat} (F : Fr h₀ L h' m) (N : News h₀ L h' all) (hs : SubL news all) (e : y = x) : XJH h₀ L m news x s (.int y u) ⟨h', s.gens, s.drawn, tk, s.os⟩ :=
  ⟨u, h', tk, by rw [e], rfl, F, fun p hp => N p (hs.mem p hp)⟩
theorem x_joinH {M : Model} {m : Str → Option Value} {news : List (Addr × Obj)} {t : Sem Value} (x : Int) {Q : Value → Shared → Prop} (_F : Fr h₀ L s.heap m) (_N : News h₀ L s.heap news) (h1 : wpAny M A t (XJH h₀ L m news x s) E s)
    (h2 : ∀ u h' tk, Fr h₀ L h' m → News h₀ L h' news → Q (.int x u) { s with heap := h', toks := tk }) : wpAny M A t Q E s :=
  wpAny_mono h1 (fun v s' ⟨u, h', tk, e1, e2, F', N'⟩ => by subst e1 e2; exact h2 u h' tk F' N') fun _ _ e => e
end
/-! ## a loop over a short range that makes nothing to keep -/
section
variable {prog : Program} {w : World} {A : Around} {E : Value → Shared → Prop} {s : Shared} {h₀ : Heap} {env : Env} {body : List Stmt} {Q : Flow → Shared → Prop}
theorem range_loopI {x : Str} {px : Pos} {r : Addr} {n : Nat} {t u v : Tok} {M : Str → Option Value} {news : List (Addr × Obj)} (Inv : Addr → Nat → (Str → Option Value) → List (Addr × Obj) → Prop) (hh : A.handled = none) (F : Fr h₀ env.locals s.heap M) (N : News h₀ env.locals s.heap news)
    (hr : IsRange s.heap r 0 (n : Int) 1 t u v) (hsm : Builtin.Range.small 0 (n : Int) 1 = true) (hn : Builtin.Range.rangeSize 0 (n : Int) 1 = ((n : Nat) : Int))
    (h00 : ∀ I, (∀ p ∈ news, p.1 < I) → Inv I 0 M news)
    (hz : ∀ I m news h tk, Inv I n m news → Fr h₀ env.locals h m → News h₀ env.locals h news → Q .next { s with heap := h, toks := tk })
    (hs : ∀ (k : Nat) (t : Tok) (I : Addr) (it : Obj) m news h tk, k < n → Inv I k m news → Fr h₀ env.locals h m → News h₀ env.locals h ((I, it) :: news) →
      wpAny (model prog w) A (assign (.Name x px) env (.int (k : Int) t)) (fun _ s₂ => wpAny (model prog w) A (execs body env) (UnrPostW h₀ env.locals { s with heap := h, toks := tk } [(I, it)] (fun m' n' => Inv I (k + 1) m' n') Q) E s₂) E { s with heap := h, toks := tk }) :
    wpAny (model prog w) A (pyIter (.ref r)) (fun it s₂ => TurnsAt prog w A h₀ env (.Name x px) body Q E it s₂) E s := by
  refine wpAny_pyIter_range hr hsm ?_
  generalize hI : s.heap.objs.size = I
  have hlt : ∀ p ∈ news, @LT.lt Nat _ p.1 I := fun p hp => hI ▸ Heap.lt_size (N p hp).1
  have up : ∀ b o, s.heap.get? b = some o → (s.heap.push { cls := .type "range_iterator", dict := none, data := .fields #[rawInt 0, rawInt (Builtin.Range.rangeSize 0 (n : Int) 1), rawInt 1], slots := #[] }).get? b = some o := fun b o e => Heap.get?_push_of_some _ e
  have rest : ItemsRest prog w A E h₀ env (.Name x px) body Q s [(I, "range_iterator")] [] ((List.range n).map fun (i : Nat) => Itm.tok (Value.int (i : Int))) M news := by
    refine rest_ind (fun xs m news' => ∃ k, k ≤ n ∧ xs = ((List.range n).map fun (i : Nat) => Itm.tok (Value.int (i : Int))).drop k ∧ Inv I k m news') ?_ ?_ _ _ _ ⟨0, Nat.zero_le _, by simp, h00 I hlt⟩
    · rintro m news' ⟨k, hk, e, hm⟩ h tk F' N'
      have hkn : k = n := by
        have e2 := congrArg List.length e
        simp at e2
        omega
      exact hz I m news' h tk (hkn ▸ hm) F' N'
    · rintro a xs m news' ⟨k, hk, e, hm⟩ v' h tk ha F'
      have hkn : k < n := by
        rcases Nat.lt_or_ge k n with h1 | h1
        · exact h1
        · rw [List.drop_eq_nil_of_le (by simpa using h1)] at e; cases e
      rw [List.drop_eq_getElem_cons (by simpa using hkn)] at e
      obtain ⟨rfl, rfl⟩ := List.cons.inj e
      rw [List.getElem_map, List.getElem_range] at ha
      obtain ⟨t', rfl⟩ := ha
      intro o ho
      intro N'
      refine wpAny_mono (hs k t' I o m news' h tk hkn hm F' N') (fun _ s₂ h₂ => wpAny_mono h₂ (fun f s₃ p => ?_) fun _ _ e => e) fun _ _ e => e
      have fin : UnrEndW h₀ env.locals { s with heap := h, toks := tk } [(I, o)] (fun m' n' => Inv I (k + 1) m' n') s₃ → UnrEndW h₀ env.locals { s with heap := h, toks := tk } [(I, o)] (fun m' n' => SubL [] n' ∧ ∃ k', k' ≤ n ∧ ((List.range n).map fun (i : Nat) => Itm.tok (Value.int (i : Int))).drop (k + 1) = ((List.range n).map fun (i : Nat) => Itm.tok (Value.int (i : Int))).drop k' ∧ Inv I k' m' n') s₃ := by
        rintro ⟨h2, tk2, m2, news2, e2, F2, N2, ho2, hm2⟩
        exact ⟨h2, tk2, m2, news2, e2, F2, N2, ho2, trivial, k + 1, hkn, rfl, hm2⟩
      cases f with
      | ret v => exact p
      | brk => exact p
      | next => exact fin p
      | cont => exact fin p
  refine x_core (tk0 := s.toks) (keep := []) (KTurns.ofWalks (LCg.range_walks (prog := prog) (w := w) (I := I) hh 0 n).bound fun i v s Q E st q => by unfold letOwnedTupleGo; exact wpAny_pure q) (by simp) (fun i v h hp => ?_) (fun i h st => ?_) (fun b hb => ?_) (fun b hb => by simpa using hb) (fun b hb => ?_) ?_ (fun p hp hb => ?_) ?_ (F.keeps up) (fun p hp => ⟨up _ _ (N p hp).1, (N p hp).2⟩) trivial rest
  · obtain ⟨h1, t', rfl⟩ := hp
    exact ⟨Itm.tok (Value.int (i : Int)), by simp [h1], t', by rw [Int.zero_add]⟩
  · exact ⟨[(I, _)], ⟨⟨rfl, rfl⟩, trivial⟩, fun p hp => by rw [List.mem_singleton.mp hp]; exact st⟩
  · have hb' : b = I := by simpa using hb
    rw [hb', ← hI]
    exact ⟨List.mem_cons_self .., next_is_new F⟩
  · exact .inl (by simpa using hb)
  · intro hb
    have h1 := F.ns.lt
    rw [List.mem_singleton.mp hb, ← hI] at h1
    exact Nat.lt_irrefl _ h1
  · have h1 := hlt p hp
    rw [List.mem_singleton.mp hb] at h1
    exact Nat.lt_irrefl _ h1
  · show IsRangeIter _ _ _ _ _
    rw [hn, ← hI]; simpa using Heap.get?_push_size _ rfl
theorem range_loop {x : Str} {px : Pos} {r : Addr} {n : Nat} {t u v : Tok} {M : Str → Option Value} {news : List (Addr × Obj)} (ns : List Str) (hh : A.handled = none) (F : Fr h₀ env.locals s.heap M) (N : News h₀ env.locals s.heap news)
    (hr : IsRange s.heap r 0 (n : Int) 1 t u v) (hsm : Builtin.Range.small 0 (n : Int) 1 = true) (hn : Builtin.Range.rangeSize 0 (n : Int) 1 = ((n : Nat) : Int))
    (hz : ∀ m h tk, OffN ns m M → Fr h₀ env.locals h m → News h₀ env.locals h news → Q .next { s with heap := h, toks := tk })
    (hs : ∀ (k : Nat) (t : Tok) (I : Addr) (it : Obj) m h tk, k < n → (∀ p ∈ news, ∀ q ∈ [(I, it)], p.1 ≠ q.1) → OffN ns m M → Fr h₀ env.locals h m → News h₀ env.locals h ((I, it) :: news) →
      wpAny (model prog w) A (assign (.Name x px) env (.int (k : Int) t)) (fun _ s₂ => wpAny (model prog w) A (execs body env) (UnrPostW h₀ env.locals { s with heap := h, toks := tk } [(I, it)] (fun m' n' => OffN ns m' M ∧ n' = news) Q) E s₂) E { s with heap := h, toks := tk }) :
    wpAny (model prog w) A (pyIter (.ref r)) (fun it s₂ => TurnsAt prog w A h₀ env (.Name x px) body Q E it s₂) E s :=
  range_loopI (fun I _ m news' => (∀ p ∈ news, p.1 < I) ∧ OffN ns m M ∧ news' = news) hh F N hr hsm hn (fun I hI => ⟨hI, OffN.refl, rfl⟩) (fun I m news' h tk hi F' N' => by
    obtain ⟨_, hm, rfl⟩ := hi
    exact hz m h tk hm F' N') fun k t I it m news' h tk hk hi F' N' => by
    obtain ⟨hI, hm, rfl⟩ := hi
    refine wpAny_mono (hs k t I it m h tk hk (fun p hp q hq => by rw [List.mem_singleton.mp hq]; exact Nat.ne_of_lt (hI p hp)) hm F' N') (fun _ s₂ h₂ => wpAny_mono h₂ (fun f s₃ p => ?_) fun _ _ e => e) fun _ _ e => e
    have fin : UnrEndW h₀ env.locals { s with heap := h, toks := tk } [(I, it)] (fun m' n' => OffN ns m' M ∧ n' = news') s₃ → UnrEndW h₀ env.locals { s with heap := h, toks := tk } [(I, it)] (fun m' n' => (∀ p ∈ news', p.1 < I) ∧ OffN ns m' M ∧ n' = news') s₃ := by
      rintro ⟨h2, tk2, m2, news2, e2, F2, N2, ho2, hm2⟩
      exact ⟨h2, tk2, m2, news2, e2, F2, N2, ho2, hI, hm2⟩
    cases f with
    | ret v => exact p
    | brk => exact p
    | next => exact fin p
    | cont => exact fin p
end
section
variable {prog : Program} {w : World} {A : Around} {E : Value → Shared → Prop} {s : Shared} {env : Env} {h₀ : Heap} {target : PySem.Expr} {body : List Stmt} {Q : Flow → Shared → Prop}
theorem rest_val {keep : List (Addr × Obj)} {I : Addr} (Inv : List Value → (Str → Option Value) → List (Addr × Obj) → Prop)
    (hz : ∀ m news, Inv [] m news → ∀ h tk, Fr h₀ env.locals h m → News h₀ env.locals h news → Q .next { s with heap := h, toks := tk })
    (hs : ∀ x r m news, Inv (x :: r) m news → ∀ h tk o, Fr h₀ env.locals h m → News h₀ env.locals h ((I, o) :: news) →
      wpAny (model prog w) A (assign target env x) (fun _ s₂ => wpAny (model prog w) A (execs body env) (UnrPostW h₀ env.locals { s with heap := h, toks := tk } [(I, o)] (fun m' n' => SubL keep n' ∧ Inv r m' n') Q) E s₂) E { s with heap := h, toks := tk }) :
    ∀ vs m news, Inv vs m news → ItemsRest prog w A E h₀ env target body Q s [(I, "list_iterator")] keep (vs.map .val) m news := fun vs m news hi => by
  refine rest_ind (fun xs m news => ∃ r, xs = r.map Itm.val ∧ Inv r m news) ?_ ?_ _ _ _ ⟨vs, rfl, hi⟩
  · rintro m news ⟨r, e, hi⟩ h tk F N
    cases r with
    | nil => exact hz m news hi h tk F N
    | cons _ _ => cases e
  · rintro a xs m news ⟨r, e, hi⟩ v h tk ha F
    cases r with
    | nil => cases e
    | cons x r =>
      obtain ⟨rfl, rfl⟩ := List.cons.inj e
      have ev : v = x := ha
      subst ev
      intro o ho N
      refine wpAny_mono (hs v r m news hi h tk o F N) (fun _ s₂ h₂ => wpAny_mono h₂ (fun f s₃ p => ?_) fun _ _ e => e) fun _ _ e => e
      have fin : UnrEndW h₀ env.locals { s with heap := h, toks := tk } [(I, o)] (fun m' n' => SubL keep n' ∧ Inv r m' n') s₃ → UnrEndW h₀ env.locals { s with heap := h, toks := tk } [(I, o)] (fun m' n' => SubL keep n' ∧ ∃ r', r.map Itm.val = r'.map Itm.val ∧ Inv r' m' n') s₃ := by
        rintro ⟨h2, tk2, m2, news2, e2, F2, N2, ho2, hk2, hi2⟩
        exact ⟨h2, tk2, m2, news2, e2, F2, N2, ho2, hk2, r, rfl, hi2⟩
      cases f with
      | ret v => exact p
      | brk => exact p
      | next => exact fin p
      | cont => exact fin p
theorem iter_listV {ax : Addr} {vs : List Value} {m₀ : Str → Option Value} {news : List (Addr × Obj)} (Inv : List Value → (Str → Option Value) → List (Addr × Obj) → Prop)
    (hh : A.handled = none) (F : Fr h₀ env.locals s.heap m₀) (N : News h₀ env.locals s.heap news) (hl₀ : h₀.IsList ax vs.toArray) (h0 : Inv vs m₀ news)
    (hz : ∀ m news, Inv [] m news → ∀ h tk, Fr h₀ env.locals h m → News h₀ env.locals h news → Q .next { s with heap := h, toks := tk })
    (hs : ∀ (I : Addr), (∀ p ∈ news, p.1 < I) → ∀ x r m news, Inv (x :: r) m news → ∀ h tk o, Fr h₀ env.locals h m → News h₀ env.locals h ((I, o) :: news) →
      wpAny (model prog w) A (assign target env x) (fun _ s₂ => wpAny (model prog w) A (execs body env) (UnrPostW h₀ env.locals { s with heap := h, toks := tk } [(I, o)] (fun m' n' => SubL [] n' ∧ Inv r m' n') Q) E s₂) E { s with heap := h, toks := tk }) :
    wpAny (model prog w) A (pyIter (.ref ax)) (fun it s₂ => TurnsAt prog w A h₀ env target body Q E it s₂) E s :=
  iter_listOld hh F N hl₀ fun I hl => rest_val Inv hz (hs I hl) _ _ _ h0
theorem iter_listVL {ax : Addr} {lo : Obj} {vs : List Value} {n : Nat} {m₀ : Str → Option Value} {news : List (Addr × Obj)} (Inv : List Value → (Str → Option Value) → List (Addr × Obj) → Prop)
    (hh : A.handled = none) (F : Fr h₀ env.locals s.heap m₀) (N : News h₀ env.locals s.heap news) (hm : (ax, lo) ∈ news) (hc : lo.cls = .type "list") (hd : lo.data = .seq vs.toArray n) (h0 : Inv vs m₀ news)
    (hz : ∀ m news, Inv [] m news → ∀ h tk, Fr h₀ env.locals h m → News h₀ env.locals h news → Q .next { s with heap := h, toks := tk })
    (hs : ∀ (I : Addr), (∀ p ∈ news, p.1 < I) → ∀ x r m news, Inv (x :: r) m news → ∀ h tk o, Fr h₀ env.locals h m → News h₀ env.locals h ((I, o) :: news) →
      wpAny (model prog w) A (assign target env x) (fun _ s₂ => wpAny (model prog w) A (execs body env) (UnrPostW h₀ env.locals { s with heap := h, toks := tk } [(I, o)] (fun m' n' => SubL [(ax, lo)] n' ∧ Inv r m' n') Q) E s₂) E { s with heap := h, toks := tk }) :
    wpAny (model prog w) A (pyIter (.ref ax)) (fun it s₂ => TurnsAt prog w A h₀ env target body Q E it s₂) E s :=
  iter_listTurns hh F N hm hc hd fun I hl => rest_val Inv hz (hs I hl) _ _ _ h0
end
/-- maps off some names, told to any question of them -/
theorem OffN.el1 {a : Str} {m M : Str → Option Value} {C : (Str → Option Value) → Prop} (h : OffN [a] m M) (k : ∀ u, C (fun y => if y = a then u else M y)) : C m := by
  have e : m = fun y => if y = a then m a else M y := by
    funext y
    by_cases h1 : y = a
    · rw [if_pos h1, h1]
    · rw [if_neg h1]; exact h y (by simp [h1])
  rw [e]; exact k _
theorem OffN.el2 {a b : Str} {m M : Str → Option Value} {C : (Str → Option Value) → Prop} (h : OffN [a, b] m M) (k : ∀ u v, C (fun y => if y = a then u else if y = b then v else M y)) : C m := by
  have e := OffN.map2 h
  rw [e]; exact k _ _
theorem OffN.el3 {a b c : Str} {m M : Str → Option Value} {C : (Str → Option Value) → Prop} (h : OffN [a, b, c] m M) (k : ∀ u v w, C (fun y => if y = a then u else if y = b then v else if y = c then w else M y)) : C m := by
  have e := OffN.map3 h
  rw [e]; exact k _ _ _
theorem OffN.el4 {a b c d : Str} {m M : Str → Option Value} {C : (Str → Option Value) → Prop} (h : OffN [a, b, c, d] m M) (k : ∀ u v w x, C (fun y => if y = a then u else if y = b then v else if y = c then w else if y = d then x else M y)) : C m := by
  have e := OffN.map4 h
  rw [e]; exact k _ _ _ _
/-! ## three items, by place -/
def selZ (k : Nat) (a b c : Int) : Int := match k with
  | 0 => a
  | 1 => b
  | _ => c
theorem three {k : Nat} {P : Nat → Prop} (hk : k < 3) (h0 : P 0) (h1 : P 1) (h2 : P 2) : P k := by
  match k, hk with
  | 0, _ => exact h0
  | 1, _ => exact h1
  | 2, _ => exact h2
section
variable {prog : Program} {w : World} {A : Around} {E : Value → Shared → Prop} {s : Shared} {h₀ : Heap} {L D : Addr} {m : Str → Option Value} {news news' : List (Addr × Obj)}
theorem append_L {vs : List Value} {n : Nat} {x : Value} {Q : Value → Shared → Prop} (F : Fr h₀ L s.heap m) (N : News h₀ L s.heap news) (U : Upd D (W.listOf vs.toArray n) (W.listOf (vs ++ [x]).toArray (n + 1)) news news') (hsz : vs.length ≤ 1000000)
    (h : ∀ h', Fr h₀ L h' m → News h₀ L h' news' → Q .none { s with heap := h' }) : wpAny (model prog w) A (call (.builtin "list.append") [.ref D, x]) Q E s := by
  have e : (vs ++ [x]).toArray = vs.toArray.push x := by simp
  rw [e] at U
  exact append_K F N U h (by rw [List.size_toArray, sizeLine_eq]; omega)
theorem item_sel {value slice : PySem.Expr} {M : Addr} {a b c : Int} {t1 t2 t3 u : Tok} {k : Nat} {Q : Value → Shared → Prop} (hk : k < 3) (hl : s.heap.IsList M [.int a t1, .int b t2, .int c t3].toArray) (h : ∀ t, Q (.int (selZ k a b c) t) s)
    (hs : subscripted slice false (.ref M) (.int (k : Int) u) = operate [.ref M, .int (k : Int) u] (getItem (.ref M) (.int (k : Int) u)) := by with_unfolding_all rfl) : wpAny (model prog w) A (subscriptTail value slice (.ref M) (.int (k : Int) u)) Q E s := by
  rcases (show k = 0 ∨ k = 1 ∨ k = 2 by omega) with rfl | rfl | rfl <;> exact item_litK hl (by decide) (by decide) rfl (h _) hs
theorem item_sel1 {value slice : PySem.Expr} {M : Addr} {a b c : Int} {t1 t2 t3 u : Tok} {k : Nat} {Q : Value → Shared → Prop} (hk : k < 3) (hl : s.heap.IsList M [.int a t1, .int b t2, .int c t3].toArray) (h : ∀ t, Q (.int (selZ ((k + 1) % 3) a b c) t) s)
    (hs : subscripted slice false (.ref M) (.int (((k : Int) + 1).fmod 3) u) = operate [.ref M, .int (((k : Int) + 1).fmod 3) u] (getItem (.ref M) (.int (((k : Int) + 1).fmod 3) u)) := by with_unfolding_all rfl) : wpAny (model prog w) A (subscriptTail value slice (.ref M) (.int (((k : Int) + 1).fmod 3) u)) Q E s := by
  rcases (show k = 0 ∨ k = 1 ∨ k = 2 by omega) with rfl | rfl | rfl <;> exact item_litK hl (by decide) (by decide) rfl (h _) hs
theorem item_sel2 {value slice : PySem.Expr} {M : Addr} {a b c : Int} {t1 t2 t3 u : Tok} {k : Nat} {Q : Value → Shared → Prop} (hk : k < 3) (hl : s.heap.IsList M [.int a t1, .int b t2, .int c t3].toArray) (h : ∀ t, Q (.int (selZ ((k + 2) % 3) a b c) t) s)
    (hs : subscripted slice false (.ref M) (.int (((k : Int) + 2).fmod 3) u) = operate [.ref M, .int (((k : Int) + 2).fmod 3) u] (getItem (.ref M) (.int (((k : Int) + 2).fmod 3) u)) := by with_unfolding_all rfl) : wpAny (model prog w) A (subscriptTail value slice (.ref M) (.int (((k : Int) + 2).fmod 3) u)) Q E s := by
  rcases (show k = 0 ∨ k = 1 ∨ k = 2 by omega) with rfl | rfl | rfl <;> exact item_litK hl (by decide) (by decide) rfl (h _) hs
end
/-- the first of three ints, one by one -/
def firstN (f : Nat → Int) (k : Nat) : List Int := (List.range k).map f
theorem firstN_snoc {f : Nat → Int} {k : Nat} {ys : List Value} {z : Int} {t : Tok} (h : IntsAre ys (firstN f k)) (e : z = f k) : IntsAre (ys ++ [.int z t]) (firstN f (k + 1)) := by
  subst e
  have e2 : firstN f (k + 1) = firstN f k ++ [f k] := by unfold firstN; rw [List.range_succ, List.map_append]; rfl
  rw [e2]
  exact IntsAre.append h (.cons _ t .nil)
theorem firstN_len {f : Nat → Int} {k : Nat} {ys : List Value} (h : IntsAre ys (firstN f k)) (hk : k < 3) : ys.length ≤ 1000000 := by
  have := h.length
  unfold firstN at this
  rw [List.length_map, List.length_range] at this
  omega
theorem ints3' {v : List Value} {a b c : Int} (hv : IntsAre v [a, b, c]) : ∃ t0 t1 t2, v = [.int a t0, .int b t1, .int c t2] := by
  rcases hv with _ | ⟨_, t0, hv⟩
  rcases hv with _ | ⟨_, t1, hv⟩
  rcases hv with _ | ⟨_, t2, hv⟩
  cases hv
  exact ⟨_, _, _, rfl⟩
/-- a list that is filled by the turns of a loop over range(3) -/
def FillInv (f : Nat → Int) (ns : List Str) (D : Addr) (M : Str → Option Value) (I : Addr) (k : Nat) (m : Str → Option Value) (news : List (Addr × Obj)) : Prop :=
  ∃ ys c, @LT.lt Nat _ D I ∧ IntsAre ys (firstN f k) ∧ OffN ns m M ∧ news = [(D, W.listOf ys.toArray c)]
theorem FillInv.start {f : Nat → Int} {ns : List Str} {D : Addr} {M : Str → Option Value} {I : Addr} {c : Nat} (h : ∀ p ∈ [(D, W.listOf #[] c)], p.1 < I) : FillInv f ns D M I 0 M [(D, W.listOf #[] c)] := ⟨[], c, h _ List.mem_cons_self, .nil, OffN.refl, rfl⟩
theorem FillInv.fin {f : Nat → Int} {a b : Str} {D : Addr} {M m : Str → Option Value} {I : Addr} {news : List (Addr × Obj)} {C : (Str → Option Value) → List (Addr × Obj) → Prop} (h : FillInv f [a, b] D M I 3 m news)
    (k : ∀ t0 t1 t2 c u v, C (fun y => if y = a then u else if y = b then v else M y) [(D, W.listOf [Value.int (f 0) t0, .int (f 1) t1, .int (f 2) t2].toArray c)]) : C m news := by
  obtain ⟨ys, c, _, hi, hm, rfl⟩ := h
  obtain ⟨t0, t1, t2, rfl⟩ := ints3' (a := f 0) (b := f 1) (c := f 2) hi
  exact OffN.el2 (C := fun m => C m _) hm fun u v => k t0 t1 t2 c u v
theorem FillInv.turn {f : Nat → Int} {a b : Str} {D : Addr} {M m : Str → Option Value} {I : Addr} {j : Nat} {news : List (Addr × Obj)} {C : (Str → Option Value) → List (Addr × Obj) → Prop} (h : FillInv f [a, b] D M I j m news) (hj : j < 3)
    (k : ∀ ys c u v, @LT.lt Nat _ D I → IntsAre ys (firstN f j) → ys.length ≤ 1000000 → C (fun y => if y = a then u else if y = b then v else M y) [(D, W.listOf ys.toArray c)]) : C m news := by
  obtain ⟨ys, c, hd, hi, hm, rfl⟩ := h
  exact OffN.el2 (C := fun m => C m _) hm fun u v => k ys c u v hd hi (firstN_len hi hj)
theorem FillInv.next {f : Nat → Int} {a b : Str} {D : Addr} {M m : Str → Option Value} {I : Addr} {j : Nat} {ys : List Value} {z : Int} {t : Tok} {c : Nat} (hd : @LT.lt Nat _ D I) (hi : IntsAre ys (firstN f j)) (hm : OffN [a, b] m M) (e : z = f j) :
    FillInv f [a, b] D M I (j + 1) m [(D, W.listOf (ys ++ [Value.int z t]).toArray c)] := ⟨_, c, hd, firstN_snoc hi e, hm, rfl⟩
theorem FillInv.done {h₀ h' : Heap} {L : Addr} {s₁ : Shared} {tk : Nat} {it : Obj} {f : Nat → Int} {a b : Str} {D : Addr} {M m : Str → Option Value} {I : Addr} {j : Nat} {ys : List Value} {z : Int} {t : Tok} {c : Nat} (F : Fr h₀ L h' m) (N : News h₀ L h' [(I, it), (D, W.listOf (ys ++ [Value.int z t]).toArray c)])
    (hd : @LT.lt Nat _ D I) (hi : IntsAre ys (firstN f j)) (hm : OffN [a, b] m M) (e : z = f j) : UnrEndW h₀ L s₁ [(I, it)] (fun m' n' => FillInv f [a, b] D M I (j + 1) m' n') { s₁ with heap := h', toks := tk } :=
  ⟨h', tk, m, [(D, W.listOf (ys ++ [Value.int z t]).toArray c)], rfl, F, N, fun p hp q hq => by rw [List.mem_singleton.mp hp, List.mem_singleton.mp hq]; exact Nat.ne_of_lt hd, FillInv.next hd hi hm e⟩
theorem kw_2 : True := by
  w_top off
  k_with_none
  k_with "x mem" => (first | (with_reducible assumption) | (with_reducible exact List.mem_cons_self) | (refine' List.mem_cons_of_mem _ ?_; k_extra "x mem") | (refine' List.mem_append_left _ ?_; k_extra "x mem") | (refine' List.mem_append_right _ ?_; k_extra "x mem"))
  k_with "x enter" => ((
  refine' xc_def ?k6r9 ?k7r9 ?k8r9 (fun s => ?k9r9) ?kBr9 ?c5r9 ?c2r9 ?c3r9 ?c4r9 ?_
  (case k6r9 => k_is)
  (case k7r9 => k_is)
  (case k8r9 => decide)
  (case k9r9 => exact BindsTo.of_eq rfl)
  (case c5r9 => decide)
  (case kBr9 => exact locs rfl)
  (case c2r9 => exact rfl)
  (case c3r9 => exact rfl)
  (case c4r9 => exact rfl)
  intro loosezq meanzq mgzq mbzq dpzq unzq gdzq cnzq cszq Lzq azq ccdzq clzq outerzq basezq gzq L'zq h'zq gszq drzq oszq tkzq Ezq F'zq N'zq B'zq X'zq T'zq hpzq hdzq huzq
  (try dsimp only) 
  (try k_fold)))
  k_with "x sides" => ((
  (case k1 => k_asm)
  (case k2 => k_asm)
  (case k3 => k_asm)
  (case k4 => k_asm)
  (case k5 => k_asm)
  (case kK => first | exact rfl | assumption)
  (case kd => ktr_room)
  (case ku => ktr_units)))
  k_with "subscriptTail Name Constant ref int" => ((k_here; k_dflt ((with_reducible show wpAny _ _ (subscriptTail _ _ (Value.ref _) (Value.int _ _)) _ _ _); (with_unfolding_all refine' item_litK ?k1r11 ?k2r11 ?k3r11 ?k4r11 ?_ ?k6r11; (case k1r11 => is_list); (case k2r11 => decide); (case k3r11 => decide); (case k4r11 => rfl); (case k6r11 => with_unfolding_all rfl)))))
  k_with "subscriptTail Name BinOp ref int" => ((k_here; k_dflt ((with_reducible show wpAny _ _ (subscriptTail _ _ (Value.ref _) (Value.int _ _)) _ _ _); (with_unfolding_all refine' item_litK ?k1r12 ?k2r12 ?k3r12 ?k4r12 ?_ ?k6r12; (case k1r12 => is_list); (case k2r12 => decide); (case k3r12 => decide); (case k4r12 => rfl); (case k6r12 => with_unfolding_all rfl)))))
  k_with "subscriptTail Name Name ref int" => ((k_here; k_dflt ((with_reducible show wpAny _ _ (subscriptTail _ _ (Value.ref _) (Value.int _ _)) _ _ _); (with_unfolding_all refine' item_litK ?k1r13 ?k2r13 ?k3r13 ?k4r13 ?_ ?k6r13; (case k1r13 => is_list); (case k2r13 => decide); (case k3r13 => decide); (case k4r13 => rfl); (case k6r13 => with_unfolding_all rfl)))))
  k_with "eval Name" => ((k_here; dsimp only))
  trivial
namespace RF
theorem plainAttrs_pat : PlainAttrs "re.Pattern" :=
  ⟨⟨"object.__getattribute__", by rw [typeLookup_type, builtinLookup_eq_fast]; kernel_rfl, by decide +kernel⟩, by rw [typeLookup_type, builtinLookup_eq_fast]; kernel_rfl⟩
theorem plainAttrs_mat : PlainAttrs "re.Match" :=
  ⟨⟨"object.__getattribute__", by rw [typeLookup_type, builtinLookup_eq_fast]; kernel_rfl, by decide +kernel⟩, by rw [typeLookup_type, builtinLookup_eq_fast]; kernel_rfl⟩
theorem slot_search : Slot "re.Pattern" "search" "re.Pattern.search" :=
  .of (owner := "re.Pattern") (n := "search") (by rw [typeLookup_type, builtinLookup_eq_fast]; kernel_rfl) (by decide +kernel) (by decide +kernel) (by decide +kernel)
    (by first | exact .inl (by decide +kernel) | exact .inr (by decide +kernel)) (by rw [isSubtype_type]; kernel_rfl)
theorem slot_sub : Slot "re.Pattern" "sub" "re.Pattern.sub" :=
  .of (owner := "re.Pattern") (n := "sub") (by rw [typeLookup_type, builtinLookup_eq_fast]; kernel_rfl) (by decide +kernel) (by decide +kernel) (by decide +kernel)
    (by first | exact .inl (by decide +kernel) | exact .inr (by decide +kernel)) (by rw [isSubtype_type]; kernel_rfl)
theorem slot_span : Slot "re.Match" "span" "re.Match.span" :=
  .of (owner := "re.Match") (n := "span") (by rw [typeLookup_type, builtinLookup_eq_fast]; kernel_rfl) (by decide +kernel) (by decide +kernel) (by decide +kernel)
    (by first | exact .inl (by decide +kernel) | exact .inr (by decide +kernel)) (by rw [isSubtype_type]; kernel_rfl)
theorem slot_group : Slot "re.Match" "group" "re.Match.group" :=
  .of (owner := "re.Match") (n := "group") (by rw [typeLookup_type, builtinLookup_eq_fast]; kernel_rfl) (by decide +kernel) (by decide +kernel) (by decide +kernel)
    (by first | exact .inl (by decide +kernel) | exact .inr (by decide +kernel)) (by rw [isSubtype_type]; kernel_rfl)
theorem type_search : typeOf (.builtin "re.Pattern.search") = pure (.type "method_descriptor") := by show builtinType _ = _; rw [builtinType_eq_fast]; kernel_rfl
theorem type_sub : typeOf (.builtin "re.Pattern.sub") = pure (.type "method_descriptor") := by show builtinType _ = _; rw [builtinType_eq_fast]; kernel_rfl
theorem type_span : typeOf (.builtin "re.Match.span") = pure (.type "method_descriptor") := by show builtinType _ = _; rw [builtinType_eq_fast]; kernel_rfl
theorem type_group : typeOf (.builtin "re.Match.group") = pure (.type "method_descriptor") := by show builtinType _ = _; rw [builtinType_eq_fast]; kernel_rfl
theorem entry_search : entryFor table "re.Pattern.search" = some Builtin.«re.Pattern.search» := entryFor_of_tree (by kernel_rfl)
theorem entry_sub : entryFor table "re.Pattern.sub" = some Builtin.«re.Pattern.sub» := entryFor_of_tree (by kernel_rfl)
theorem entry_subloop : entryFor table "re.Pattern.sub.loop" = some Builtin.«re.Pattern.sub.loop» := entryFor_of_tree (by kernel_rfl)
theorem entry_span : entryFor table "re.Match.span" = some Builtin.«re.Match.span» := entryFor_of_tree (by kernel_rfl)
theorem entry_group : entryFor table "re.Match.group" = some Builtin.«re.Match.group» := entryFor_of_tree (by kernel_rfl)
theorem args_search (a b : Value) : argsOk "re.Pattern.search" ⟨[a, b], []⟩ := by unfold argsOk; kernel_rfl
theorem args_sub (a b c : Value) : argsOk "re.Pattern.sub" ⟨[a, b, c], []⟩ := by unfold argsOk; kernel_rfl
theorem args_span (a b : Value) : argsOk "re.Match.span" ⟨[a, b], []⟩ := by unfold argsOk; kernel_rfl
theorem args_group (a b : Value) : argsOk "re.Match.group" ⟨[a, b], []⟩ := by unfold argsOk; kernel_rfl
end RF
theorem kw_3 : True := by
  w_top off
  k_with_none
  k_with "x mem" => (first | (with_reducible assumption) | (with_reducible exact List.mem_cons_self) | (refine' List.mem_cons_of_mem _ ?_; k_extra "x mem") | (refine' List.mem_append_left _ ?_; k_extra "x mem") | (refine' List.mem_append_right _ ?_; k_extra "x mem"))
  k_with "x enter" => ((
  refine' xc_def ?k6r16 ?k7r16 ?k8r16 (fun s => ?k9r16) ?kBr16 ?c5r16 ?c2r16 ?c3r16 ?c4r16 ?_
  (case k6r16 => k_is)
  (case k7r16 => k_is)
  (case k8r16 => decide)
  (case k9r16 => exact BindsTo.of_eq rfl)
  (case c5r16 => decide)
  (case kBr16 => exact locs rfl)
  (case c2r16 => exact rfl)
  (case c3r16 => exact rfl)
  (case c4r16 => exact rfl)
  intro loosezq meanzq mgzq mbzq dpzq unzq gdzq cnzq cszq Lzq azq ccdzq clzq outerzq basezq gzq L'zq h'zq gszq drzq oszq tkzq Ezq F'zq N'zq B'zq X'zq T'zq hpzq hdzq huzq
  (try dsimp only) 
  (try k_fold)))
  k_with "x sides" => ((
  (case k1 => k_asm)
  (case k2 => k_asm)
  (case k3 => k_asm)
  (case k4 => k_asm)
  (case k5 => k_asm)
  (case kK => first | exact rfl | assumption)
  (case kd => ktr_room)
  (case ku => ktr_units)))
  k_with "subscriptTail Name Constant ref int" => ((k_here; k_dflt ((with_reducible show wpAny _ _ (subscriptTail _ _ (Value.ref _) (Value.int _ _)) _ _ _); (with_unfolding_all refine' item_litK ?k1r18 ?k2r18 ?k3r18 ?k4r18 ?_ ?k6r18; (case k1r18 => is_list); (case k2r18 => decide); (case k3r18 => decide); (case k4r18 => rfl); (case k6r18 => with_unfolding_all rfl)))))
  k_with "subscriptTail Name BinOp ref int" => ((k_here; k_dflt ((with_reducible show wpAny _ _ (subscriptTail _ _ (Value.ref _) (Value.int _ _)) _ _ _); (with_unfolding_all refine' item_litK ?k1r19 ?k2r19 ?k3r19 ?k4r19 ?_ ?k6r19; (case k1r19 => is_list); (case k2r19 => decide); (case k3r19 => decide); (case k4r19 => rfl); (case k6r19 => with_unfolding_all rfl)))))
  k_with "subscriptTail Name Name ref int" => ((k_here; k_dflt ((with_reducible show wpAny _ _ (subscriptTail _ _ (Value.ref _) (Value.int _ _)) _ _ _); (with_unfolding_all refine' item_litK ?k1r20 ?k2r20 ?k3r20 ?k4r20 ?_ ?k6r20; (case k1r20 => is_list); (case k2r20 => decide); (case k3r20 => decide); (case k4r20 => rfl); (case k6r20 => with_unfolding_all rfl)))))
  k_with "eval Name" => ((k_here; dsimp only))
  trivial
namespace RF
theorem type_string : typeOf (.builtin "re.Match.string") = pure (.type "member_descriptor") := by show builtinType _ = _; rw [builtinType_eq_fast]; kernel_rfl
theorem entry_string : entryFor table "re.Match.string" = some Builtin.«re.Match.string» := entryFor_of_tree (by kernel_rfl)
theorem owner_string : (".".intercalate ("re.Match.string".cutAt '.').dropLast) = "re.Match" := by
  have e0 : "re.Match.string".cutAt '.' = ["re", "Match", "string"] := by first | rfl | decide +kernel
  rw [e0]; decide +kernel
theorem slot_ga : Slot "re.Match" "__getattribute__" "object.__getattribute__" :=
  .of (owner := "object") (n := "__getattribute__") (by rw [typeLookup_type, builtinLookup_eq_fast]; kernel_rfl) (by decide +kernel) (by decide +kernel) (by decide +kernel)
    (by first | exact .inl (by decide +kernel) | exact .inr (by decide +kernel)) (by rw [isSubtype_type]; kernel_rfl)
theorem entry_ga : entryFor table "object.__getattribute__" = some Builtin.«object.__getattribute__» := entryFor_of_tree (by kernel_rfl)
theorem args_ga (a b : Value) : argsOk "object.__getattribute__" ⟨[a, b], []⟩ := by unfold argsOk; kernel_rfl
theorem lk_string : typeLookup (.type "re.Match") "string" = pure (some (.builtin "re.Match.string")) := by rw [typeLookup_type, builtinLookup_eq_fast]; kernel_rfl
theorem sub_mat : isSubtype (.type "re.Match") (.type "re.Match") = pure true := by rw [isSubtype_type]; kernel_rfl
end RF
section
variable {prog : Program} {w : World} {A : Around} {E : Value → Shared → Prop} {h : Heap} {g : Array GenState} {d : Drawn} {t : Nat} {os : OsState} {a : Addr} {o : Obj} {vs : Array Value} {x : Str} {u : Tok}
theorem mstr_get {R : Result → Shared → Prop} (hx : h.get? a = some o) (hc : o.cls = .type "re.Match") (hd : o.data = .fields vs) (h0 : vs[0]? = some (.str x u)) (hq : R (.ok (.ret (.str x u))) ⟨h, g, d, t, os⟩) :
    codeAny (model prog w) A (.call (.builtin "member_descriptor.__get__") ⟨[.builtin "re.Match.string", .ref a, .type "re.Match"], []⟩) R ⟨h, g, d, t, os⟩ := by
  have hT : (⟨h, g, d, t, os⟩ : Shared).TypeIs (.ref a) "re.Match" := ⟨_, hx, hc⟩
  have hT5 : (⟨h, g, d, t, os⟩ : Shared).TypeIs (.builtin "re.Match.string") "member_descriptor" := RF.type_string
  have f8 : isSubtype (.type "re.Match") (.type (".".intercalate ("re.Match.string".cutAt '.').dropLast)) = pure true := by rw [RF.owner_string]; exact RF.sub_mat
  refine codeAny_call_builtin KF.slot_mem.plain KF.entry_mem (KF.slot_mem.check _ _ _ _ _ _ _ _ hT5 (KF.args_mem _ _ _) ?_)
  repeat (any_goals (first | assumption | wp_step))
  refine ⟨Code.quiet_builtin _ (by decide +kernel), codeAny_builtin RF.entry_string ?_⟩
  show wpAny _ _ (field (.ref a) 0 >>= fun v => ret v) _ _ _
  refine wpAny_bind (wpAny_field hx hd h0 (wpAny_pure ?_))
  exact hq
theorem mstr_entry {tk : Tok} {Q : Fin → Shared → Prop} (hx : h.get? a = some o) (hc : o.cls = .type "re.Match") (hn : o.dict = none) (hd : o.data = .fields vs) (h0 : vs[0]? = some (.str x u)) (hq : Q (.done (.ret (.str x u))) ⟨h, g, d, t, os⟩) :
    wpAny (model prog w) A (Builtin.«object.__getattribute__» ⟨[.ref a, .str "string" tk], []⟩) Q E ⟨h, g, d, t, os⟩ := by
  have hT : (⟨h, g, d, t, os⟩ : Shared).TypeIs (.ref a) "re.Match" := ⟨_, hx, hc⟩
  have hT5 : (⟨h, g, d, t, os⟩ : Shared).TypeIs (.builtin "re.Match.string") "member_descriptor" := RF.type_string
  have f4 := RF.lk_string
  have f5 := RF.type_string
  have f6 := KF.slot_mem.lookup
  have f7 := KF.slot_mset.lookup
  repeat (any_goals (first | assumption | wp_step))
  refine mstr_get hx hc hd h0 ?_
  repeat (any_goals (first | assumption | wp_step))
theorem mstr_call {tk : Tok} {R : Result → Shared → Prop} (hx : h.get? a = some o) (hc : o.cls = .type "re.Match") (hn : o.dict = none) (hd : o.data = .fields vs) (h0 : vs[0]? = some (.str x u)) (hq : R (.ok (.ret (.str x u))) ⟨h, g, d, t, os⟩) :
    codeAny (model prog w) A (.call (.builtin "object.__getattribute__") ⟨[.ref a, .str "string" tk], []⟩) R ⟨h, g, d, t, os⟩ :=
  codeAny_call_builtin RF.slot_ga.plain RF.entry_ga (RF.slot_ga.check _ _ _ _ _ _ _ _ (show (⟨h, g, d, t, os⟩ : Shared).TypeIs (.ref a) "re.Match" from ⟨_, hx, hc⟩) (RF.args_ga _ _) (mstr_entry hx hc hn hd h0 hq))
theorem mstr_by {tk : Tok} {fill expr : Bool} {Q : Value → Shared → Prop} (hx : h.get? a = some o) (hc : o.cls = .type "re.Match") (hn : o.dict = none) (hd : o.data = .fields vs) (h0 : vs[0]? = some (.str x u))
    (hq : Q (.str x u) ⟨h, g, d, t, os⟩) : wpAny (model prog w) A (getAttrBy (.ref a) (.str "string" tk) fill expr) Q E ⟨h, g, d, t, os⟩ := by
  have hT : (⟨h, g, d, t, os⟩ : Shared).TypeIs (.ref a) "re.Match" := ⟨_, hx, hc⟩
  have f2 := RF.slot_ga.lookup
  have f3 := RF.slot_ga.bind (.ref a)
  have hx0 : (expr && onTheHeap (Value.builtin "object.__getattribute__")) = false := by cases expr <;> rfl
  repeat (any_goals (first | assumption | wp_step))
  refine mstr_call hx hc hn hd h0 ?_
  repeat (any_goals (first | assumption | wp_step))
theorem mstr_attr {expr : Bool} {Q : Value → Shared → Prop} (hx : h.get? a = some o) (hc : o.cls = .type "re.Match") (hn : o.dict = none) (hd : o.data = .fields vs) (h0 : vs[0]? = some (.str x u))
    (hq : Q (.str x u) ⟨h, g, d, t + 1, os⟩) : wpAny (model prog w) A (getAttr (.ref a) "string" expr) Q E ⟨h, g, d, t, os⟩ := by
  unfold getAttr
  repeat (any_goals (first | assumption | with_reducible apply mstr_by hx hc hn hd h0 | wp_step))
end
theorem kw_4 : True := by
  w_top off
  k_with_none
  k_with "x mem" => (first | (with_reducible assumption) | (with_reducible exact List.mem_cons_self) | (refine' List.mem_cons_of_mem _ ?_; k_extra "x mem") | (refine' List.mem_append_left _ ?_; k_extra "x mem") | (refine' List.mem_append_right _ ?_; k_extra "x mem"))
  k_with "x enter" => ((
  refine' xc_def ?k6r23 ?k7r23 ?k8r23 (fun s => ?k9r23) ?kBr23 ?c5r23 ?c2r23 ?c3r23 ?c4r23 ?_
  (case k6r23 => k_is)
  (case k7r23 => k_is)
  (case k8r23 => decide)
  (case k9r23 => exact BindsTo.of_eq rfl)
  (case c5r23 => decide)
  (case kBr23 => exact locs rfl)
  (case c2r23 => exact rfl)
  (case c3r23 => exact rfl)
  (case c4r23 => exact rfl)
  intro loosezq meanzq mgzq mbzq dpzq unzq gdzq cnzq cszq Lzq azq ccdzq clzq outerzq basezq gzq L'zq h'zq gszq drzq oszq tkzq Ezq F'zq N'zq B'zq X'zq T'zq hpzq hdzq huzq
  (try dsimp only) 
  (try k_fold)))
  k_with "x sides" => ((
  (case k1 => k_asm)
  (case k2 => k_asm)
  (case k3 => k_asm)
  (case k4 => k_asm)
  (case k5 => k_asm)
  (case kK => first | exact rfl | assumption)
  (case kd => ktr_room)
  (case ku => ktr_units)))
  k_with "subscriptTail Name Constant ref int" => ((k_here; k_dflt ((with_reducible show wpAny _ _ (subscriptTail _ _ (Value.ref _) (Value.int _ _)) _ _ _); (with_unfolding_all refine' item_litK ?k1r25 ?k2r25 ?k3r25 ?k4r25 ?_ ?k6r25; (case k1r25 => is_list); (case k2r25 => decide); (case k3r25 => decide); (case k4r25 => rfl); (case k6r25 => with_unfolding_all rfl)))))
  k_with "subscriptTail Name BinOp ref int" => ((k_here; k_dflt ((with_reducible show wpAny _ _ (subscriptTail _ _ (Value.ref _) (Value.int _ _)) _ _ _); (with_unfolding_all refine' item_litK ?k1r26 ?k2r26 ?k3r26 ?k4r26 ?_ ?k6r26; (case k1r26 => is_list); (case k2r26 => decide); (case k3r26 => decide); (case k4r26 => rfl); (case k6r26 => with_unfolding_all rfl)))))
  k_with "subscriptTail Name Name ref int" => ((k_here; k_dflt ((with_reducible show wpAny _ _ (subscriptTail _ _ (Value.ref _) (Value.int _ _)) _ _ _); (with_unfolding_all refine' item_litK ?k1r27 ?k2r27 ?k3r27 ?k4r27 ?_ ?k6r27; (case k1r27 => is_list); (case k2r27 => decide); (case k3r27 => decide); (case k4r27 => rfl); (case k6r27 => with_unfolding_all rfl)))))
  k_with "eval Name" => ((k_here; dsimp only))
  trivial
abbrev matObj (x : Str) (u : Tok) (pat : Value) (T : Addr) (lim : Int) : Obj := { cls := .type "re.Match", data := .fields #[.str x u, pat, .int 0 0, .int lim 0, .int (-1) 0, .ref T] }
section
variable {prog : Program} {w : World} {A : Around} {E : Value → Shared → Prop} {h : Heap} {g : Array GenState} {d : Drawn} {t : Nat} {os : OsState} {a T : Addr} {x : Str} {u : Tok} {pat : Value} {lim : Int} {b e : Int} {n : Nat}
theorem span_call {u0 : Tok} {Q : Value → Shared → Prop} (hx : h.get? a = some (matObj x u pat T lim)) (hT : h.get? T = some (tupOf #[.int b 0, .int e 0] n))
    (hq : Q (.ref h.objs.size) ⟨h.push { cls := .type "tuple", data := .seq #[.int b t, .int e (t + 1)] }, g, d, t + 2, os⟩) :
    wpAny (model prog w) A (call (.builtin "re.Match.span") [.ref a, .int 0 u0]) Q E ⟨h, g, d, t, os⟩ := by
  refine wpAny_call (codeAny_call_builtin RF.slot_span.plain RF.entry_span (RF.slot_span.check _ _ _ _ _ _ _ _ ⟨_, hx, rfl⟩ (RF.args_span _ _) ?_))
  unfold Builtin.«re.Match.span»
  repeat (any_goals (first | assumption | wp_step))
  simpa [Builtin.Re.reRawOf] using hq
end
theorem fm_range {α : Type} (l : List α) (st : Nat) : ∀ k, st + k ≤ l.length → ((List.range k).map (fun j => st + j)).filterMap (l[·]?) = (l.drop st).take k
  | 0, _ => by simp
  | k + 1, h => by
    rw [List.range_succ, List.map_append, List.filterMap_append, fm_range l st k (by omega), List.take_add_one]
    congr 1
    have h1 : st + k < l.length := by omega
    simp [List.getElem?_drop, List.getElem?_eq_getElem h1]
theorem fm_arr (x : Str) (ks : List Nat) : ks.filterMap (x.cps[·]?) = ks.filterMap (x.cps.toList[·]?) := by
  congr 1; funext i; rw [Array.getElem?_toList]
theorem sliceRange_one (a b : Nat) (h : a ≤ b) : sliceRange (a : Int) (b : Int) 1 = (List.range (b - a)).map (fun j => a + j) := by
  unfold sliceRange
  by_cases h' : a < b
  · rw [if_pos (by decide), if_pos (by omega)]
    have e : (((b : Int) - a + 1 - 1) / 1).toNat = b - a := by rw [Int.ediv_one]; omega
    simp only [e]
    refine List.map_congr_left fun k _ => ?_
    omega
  · rw [if_pos (by decide), if_neg (by omega)]
    have : b - a = 0 := by omega
    rw [this]; rfl
theorem str_eta (x : Str) : (⟨x.cps.toList.toArray⟩ : Str) = x := by cases x; simp
theorem slice_of {x : Str} {l u : Option Int} (a b : Nat) (hab : a ≤ b) (hb : b ≤ x.length) (h : Builtin.Str.strSliceIndices l u 1 x.length = sliceRange (a : Int) (b : Int) 1) : Txt.slice x l u = ⟨((x.cps.toList.drop a).take (b - a)).toArray⟩ := by
  have hsz : x.cps.toList.length = x.length := by rw [Array.length_toList]; rfl
  unfold Txt.slice
  rw [h, sliceRange_one a b hab]
  split
  · rename_i q
    have q' : b - a = x.length := by simpa using q
    have a0 : a = 0 := by omega
    subst a0
    rw [List.drop_zero, List.take_of_length_le (by omega), str_eta]
  · rw [fm_arr, fm_range _ _ _ (by omega)]
theorem slice_take {x : Str} {i : Nat} (h : i ≤ x.length) : Txt.slice x none (some (i : Int)) = ⟨(x.cps.toList.take i).toArray⟩ := by
  have := slice_of (x := x) (l := none) (u := some (i : Int)) 0 i (by omega) h (by
    unfold Builtin.Str.strSliceIndices
    simp only [show ((1 : Int) > 0) = True by simp, if_true]
    congr 1
    rw [if_neg (by omega)]; omega)
  simpa using this
theorem slice_drop {x : Str} {i : Nat} (h : i ≤ x.length) : Txt.slice x (some (i : Int)) none = ⟨(x.cps.toList.drop i).toArray⟩ := by
  have hsz : x.cps.toList.length = x.length := by rw [Array.length_toList]; rfl
  have := slice_of (x := x) (l := some (i : Int)) (u := none) i x.length h (Nat.le_refl _) (by
    unfold Builtin.Str.strSliceIndices
    simp only [show ((1 : Int) > 0) = True by simp, if_true]
    congr 1
    rw [if_neg (by omega)]; omega)
  rw [this, List.take_of_length_le (by rw [List.length_drop]; omega)]
theorem add_lists (a b : List Nat) : (⟨a.toArray⟩ : Str) ++ (⟨b.toArray⟩ : Str) = ⟨(a ++ b).toArray⟩ := by
  refine Str.ext' ?_
  rw [Str.cps_append]; simp
theorem kw_5 : True := by
  w_top off
  k_with_none
  k_with "x mem" => (first | (with_reducible assumption) | (with_reducible exact List.mem_cons_self) | (refine' List.mem_cons_of_mem _ ?_; k_extra "x mem") | (refine' List.mem_append_left _ ?_; k_extra "x mem") | (refine' List.mem_append_right _ ?_; k_extra "x mem"))
  k_with "x enter" => ((
  refine' xc_def ?k6r30 ?k7r30 ?k8r30 (fun s => ?k9r30) ?kBr30 ?c5r30 ?c2r30 ?c3r30 ?c4r30 ?_
  (case k6r30 => k_is)
  (case k7r30 => k_is)
  (case k8r30 => decide)
  (case k9r30 => exact BindsTo.of_eq rfl)
  (case c5r30 => decide)
  (case kBr30 => exact locs rfl)
  (case c2r30 => exact rfl)
  (case c3r30 => exact rfl)
  (case c4r30 => exact rfl)
  intro loosezq meanzq mgzq mbzq dpzq unzq gdzq cnzq cszq Lzq azq ccdzq clzq outerzq basezq gzq L'zq h'zq gszq drzq oszq tkzq Ezq F'zq N'zq B'zq X'zq T'zq hpzq hdzq huzq
  (try dsimp only) 
  (try k_fold)))
  k_with "x sides" => ((
  (case k1 => k_asm)
  (case k2 => k_asm)
  (case k3 => k_asm)
  (case k4 => k_asm)
  (case k5 => k_asm)
  (case kK => first | exact rfl | assumption)
  (case kd => ktr_room)
  (case ku => ktr_units)))
  k_with "subscriptTail Name Constant ref int" => ((k_here; k_dflt ((with_reducible show wpAny _ _ (subscriptTail _ _ (Value.ref _) (Value.int _ _)) _ _ _); (with_unfolding_all refine' item_litK ?k1r32 ?k2r32 ?k3r32 ?k4r32 ?_ ?k6r32; (case k1r32 => is_list); (case k2r32 => decide); (case k3r32 => decide); (case k4r32 => rfl); (case k6r32 => with_unfolding_all rfl)))))
  k_with "subscriptTail Name BinOp ref int" => ((k_here; k_dflt ((with_reducible show wpAny _ _ (subscriptTail _ _ (Value.ref _) (Value.int _ _)) _ _ _); (with_unfolding_all refine' item_litK ?k1r33 ?k2r33 ?k3r33 ?k4r33 ?_ ?k6r33; (case k1r33 => is_list); (case k2r33 => decide); (case k3r33 => decide); (case k4r33 => rfl); (case k6r33 => with_unfolding_all rfl)))))
  k_with "subscriptTail Name Name ref int" => ((k_here; k_dflt ((with_reducible show wpAny _ _ (subscriptTail _ _ (Value.ref _) (Value.int _ _)) _ _ _); (with_unfolding_all refine' item_litK ?k1r34 ?k2r34 ?k3r34 ?k4r34 ?_ ?k6r34; (case k1r34 => is_list); (case k2r34 => decide); (case k3r34 => decide); (case k4r34 => rfl); (case k6r34 => with_unfolding_all rfl)))))
  k_with "eval Name" => ((k_here; dsimp only))
  trivial
section
open PySem.Sre PySem.Builtin.Re
theorem runFor_some : ∀ (n : Nat) {m : Sre.M}, m.outcome.isSome = true → Sre.M.runFor n m = m
  | 0, _, _ => rfl
  | n + 1, m, h => by unfold Sre.M.runFor; rw [if_pos h]
theorem runFor_add : ∀ (a b : Nat) (m : Sre.M), Sre.M.runFor (a + b) m = Sre.M.runFor b (Sre.M.runFor a m)
  | 0, b, m => by rw [Nat.zero_add]; rfl
  | a + 1, b, m => by
    by_cases h : m.outcome.isSome = true
    · rw [runFor_some _ h, runFor_some _ h, runFor_some _ h]
    · have e1 : Sre.M.runFor (a + 1 + b) m = Sre.M.runFor (a + b) m.step := by
        rw [show a + 1 + b = (a + b) + 1 by omega, Sre.M.runFor, if_neg h]
      have e2 : Sre.M.runFor (a + 1) m = Sre.M.runFor a m.step := by rw [Sre.M.runFor, if_neg h]
      rw [e1, e2, runFor_add a b]
theorem runFor_one {m : Sre.M} (h : m.outcome = none) : Sre.M.runFor 1 m = m.step := by
  rw [Sre.M.runFor, if_neg (by rw [h]; exact Bool.false_ne_true)]; rfl
variable {M : Model} {A : Around} {E : Value → Shared → Prop} {s : Shared}
theorem reDrive_runs : ∀ (turns N : Nat) {m : Sre.M} {Q : Sre.M → Shared → Prop}, N ≤ 4 * turns → 0 < N → (Sre.M.runFor N m).outcome.isSome = true → Q (Sre.M.runFor N m) s → wpAny M A (reDrive turns m) Q E s
  | 0, N, _, _, h, h0, _, _ => by omega
  | turns + 1, N, m, Q, h, h0, ho, hq => by
    rw [reDrive]
    show wpAny M A (if (Sre.M.runFor 4 m).outcome.isSome = true then pure (Sre.M.runFor 4 m) else (rule "sre.turn" >>= fun _ => reDrive turns (Sre.M.runFor 4 m))) Q E s
    by_cases hN : N ≤ 4
    · have e : Sre.M.runFor 4 m = Sre.M.runFor N m := by
        rw [show 4 = N + (4 - N) by omega, runFor_add, runFor_some _ ho]
      rw [e, if_pos ho]
      exact wpAny_pure hq
    · have e : Sre.M.runFor N m = Sre.M.runFor (N - 4) (Sre.M.runFor 4 m) := by rw [← runFor_add]; congr 1; omega
      by_cases h4 : (Sre.M.runFor 4 m).outcome.isSome = true
      · rw [if_pos h4]
        rw [e, runFor_some _ h4] at hq
        exact wpAny_pure hq
      · rw [if_neg h4]
        exact wpAny_bind (wpAny_rule (reDrive_runs turns (N - 4) (by omega) (by omega) (by rw [← e]; exact ho) (by rw [← e]; exact hq)))
theorem rules_loop (c : Nat → Bool) (x : Nat → String) {Q : PUnit → Shared → Prop} (hq : Q ⟨⟩ s) : ∀ (l : List Nat), wpAny M A (forIn l PUnit.unit fun i _ => if c i = true then (rule (x i) >>= fun _ => pure (ForInStep.yield PUnit.unit)) else pure (ForInStep.yield PUnit.unit)) Q E s
  | [] => by rw [List.forIn_nil]; exact wpAny_pure hq
  | i :: l => by
    rw [List.forIn_cons]
    refine wpAny_bind ?_
    by_cases h : c i = true
    · rw [if_pos h]
      exact wpAny_bind (wpAny_rule (wpAny_pure (rules_loop c x hq l)))
    · rw [if_neg h]
      exact wpAny_pure (rules_loop c x hq l)
theorem reRun_found {m : Sre.M} {N : Nat} {Q : Option Sre.M → Shared → Prop} (hN : N ≤ 2 ^ 60) (h0 : 0 < N) (ho : (Sre.M.runFor N m).outcome = some .matched) (hq : Q (some (Sre.M.runFor N m)) s) : wpAny M A (reRunToEnd m) Q E s := by
  unfold reRunToEnd
  refine wpAny_bind (reDrive_runs (2 ^ 64) N (by omega) h0 (by rw [ho]; rfl) ?_)
  refine wpAny_bind (rules_loop _ _ ?_ _)
  rw [ho]
  exact wpAny_pure hq
theorem reRun_none {m : Sre.M} {N : Nat} {Q : Option Sre.M → Shared → Prop} (hN : N ≤ 2 ^ 60) (h0 : 0 < N) (ho : (Sre.M.runFor N m).outcome = some .failed) (hq : Q none s) : wpAny M A (reRunToEnd m) Q E s := by
  unfold reRunToEnd
  refine wpAny_bind (reDrive_runs (2 ^ 64) N (by omega) h0 (by rw [ho]; rfl) ?_)
  refine wpAny_bind (rules_loop _ _ ?_ _)
  rw [ho]
  exact wpAny_pure hq
end
section
open PySem.Sre
def ipCode : Array Nat := #[14, 8, 1, 2, 4294967295, 1, 1, 46, 0, 16, 46, 24, 9, 1, 4294967295, 13, 4, 8, 0, 0, 1, 6, 5, 1]
/-- the machine as it tries the place s -/
def ipAt (text : Array Nat) (lim s : Nat) (first : Bool) (seen : Sre.Seen) : Sre.M :=
  { code := ipCode, text, lim, start := s, lastStart := lim, pc := 9, pos := s, handed := s, outermost := first, marks := #[], frames := [{ wait := .nextStart, pc := 9, pos := s, outermost := first }], weight := 1, seen }
/-- what is told of the place s: the match begins there and ends the text -/
def ipEnd (text : Array Nat) (lim s : Nat) : Prop := s + 1 < lim ∧ text.getD s 0 = 46 ∧ ∀ j, s < j → j < lim → isDigit (text.getD j 0) = true
theorem ip_accepts (c : Nat) (seen : Sre.Seen) : ∃ seen', accepts ipCode 15 c seen = .ok (isDigit c, seen') := by
  have e : accepts ipCode 15 c seen = (if (isDigit c != (0 % 2 == 1)) = true then .ok (true, (seen.add 8).add (55 + 0)) else .ok (!true, ((seen.add 8).add (55 + 0)).add 0)) := rfl
  rw [e]
  cases isDigit c with
  | true => exact ⟨_, rfl⟩
  | false => exact ⟨_, rfl⟩
theorem ip_run (text : Array Nat) : ∀ (n p found : Nat) (seen : Sre.Seen), ∃ k seen', Sre.run ipCode text 15 n p found seen = .ok (found + k, seen') ∧ k ≤ n ∧ (∀ j, p ≤ j → j < p + k → isDigit (text.getD j 0) = true) ∧ (k < n → isDigit (text.getD (p + k) 0) = false)
  | 0, p, found, seen => ⟨0, seen, rfl, Nat.le_refl _, fun _ _ _ => by omega, fun h => absurd h (Nat.lt_irrefl _)⟩
  | n + 1, p, found, seen => by
    obtain ⟨s1, e1⟩ := ip_accepts (text.getD p 0) seen
    cases hd : isDigit (text.getD p 0) with
    | false =>
      refine ⟨0, s1, ?_, Nat.zero_le _, fun _ _ _ => by omega, fun _ => hd⟩
      unfold Sre.run
      rw [e1, hd]; rfl
    | true =>
      obtain ⟨k, s2, e2, hk, h1, h2⟩ := ip_run text n (p + 1) (found + 1) s1
      refine ⟨k + 1, s2, ?_, by omega, fun j hj hj' => ?_, fun h => by rw [show p + (k + 1) = p + 1 + k by omega]; exact h2 (by omega)⟩
      · unfold Sre.run
        rw [e1, hd]
        show Sre.run ipCode text 15 n (p + 1) (found + 1) s1 = _
        rw [e2]; congr 2; omega
      · rcases Nat.eq_or_lt_of_le hj with rfl | hj
        · exact hd
        · exact h1 j hj (by omega)
end
theorem runFor_then {m m' : Sre.M} {n : Nat} (h : m.outcome = none) (e : m.step = m') : Sre.M.runFor (1 + n) m = Sre.M.runFor n m' := by
  rw [runFor_add, runFor_one h, e]
section
open PySem.Sre
variable (text : Array Nat) (lim s : Nat) (first : Bool) (seen : Sre.Seen)
theorem ip_step0_end (h : s ≥ lim) : (ipAt text lim s first seen).step = { ipAt text lim s first (seen.add 16) with answer := some false } := by
  show (if s ≥ lim then _ else _) = _
  rw [if_pos h]; rfl
theorem ip_step0 (h : ¬ s ≥ lim) : (ipAt text lim s first seen).step = (match (text.getD s 0 == 46) with
  | false => { ipAt text lim s first (seen.add 16) with answer := some false }
  | true => { ipAt text lim s first (seen.add 16) with pc := 11, pos := s + 1 }) := by
  show (if s ≥ lim then _ else _) = _
  rw [if_neg h]
  show (match (Except.ok (text.getD s 0 == 46, seen.add 16) : Except String (Bool × Sre.Seen)) with | .error why => _ | .ok (false, seen) => _ | .ok (true, seen) => _) = _
  cases text.getD s 0 == 46 <;> rfl
theorem ip_back (p pc hn : Nat) (h : s < lim) : ({ ipAt text lim s first seen with pos := p, pc := pc, handed := hn, answer := some false } : Sre.M).step = ipAt text lim (s + 1) false seen := by
  show (if s < lim then _ else _) = _
  rw [if_pos h]; rfl
theorem ip_back_end (p pc hn : Nat) (h : ¬ s < lim) : ∃ m, ({ ipAt text lim s first seen with pos := p, pc := pc, handed := hn, answer := some false } : Sre.M).step = m ∧ m.outcome = none ∧ m.step.outcome = some .failed := by
  refine ⟨_, rfl, ?_, ?_⟩
  · show (if s < lim then _ else _ : Sre.M).outcome = _
    rw [if_neg h]; rfl
  · show (Sre.M.step (if s < lim then _ else _)).outcome = _
    rw [if_neg h]; rfl
def ipGive (k : Nat) : Sre.M := { ipAt text lim s first seen with pc := 21, pos := s + 1 + k, handed := s + 1 + k, weight := 2, frames := [{ wait := .giveBack, pc := 11, pos := s + 1 + k, outermost := first, count := k }, { wait := .nextStart, pc := 9, pos := s, outermost := first }] }
theorem ip_step1_no (hs : ¬ s + 1 < lim) : ({ ipAt text lim s first seen with pc := 11, pos := s + 1 } : Sre.M).step = { ipAt text lim s first (seen.add 24) with pc := 11, pos := s + 1, answer := some false } := by
  show (if ((1 : Nat) : Int) > (lim : Int) - ((s + 1 : Nat) : Int) then _ else _) = _
  rw [if_pos (by omega)]; rfl
theorem ip_step1 (hs : s + 1 < lim) (hbig : lim < 4294967295) : ∃ k seen', (∀ j, s + 1 ≤ j → j < s + 1 + k → isDigit (text.getD j 0) = true) ∧ (k < lim - (s + 1) → isDigit (text.getD (s + 1 + k) 0) = false) ∧ k ≤ lim - (s + 1) ∧
    ({ ipAt text lim s first seen with pc := 11, pos := s + 1 } : Sre.M).step = (if k < 1 then { ipAt text lim s first seen' with pc := 11, pos := s + 1, answer := some false } else ipGive text lim s first seen' k) := by
  obtain ⟨k, s2, e2, hk, h1, h2⟩ := ip_run text (min 4294967295 (lim - (s + 1))) (s + 1) 0 ((seen.add 24).add 13)
  refine ⟨k, s2, h1, fun h => h2 (by omega), by omega, ?_⟩
  have er : ((lim : Int) - ((s + 1 : Nat) : Int)).toNat = lim - (s + 1) := by omega
  show (if ((1 : Nat) : Int) > (lim : Int) - ((s + 1 : Nat) : Int) then _ else match Sre.run ipCode text 15 (min 4294967295 ((lim : Int) - ((s + 1 : Nat) : Int)).toNat) (s + 1) 0 ((seen.add 24).add 13) with | .error why => _ | .ok (n, seen) => _) = _
  rw [if_neg (by omega), er, e2]
  show (if 0 + k < 1 then _ else _) = _
  rw [Nat.zero_add]
  by_cases h : k < 1
  · rw [if_pos h, if_pos h]; rfl
  · rw [if_neg h, if_neg h]; rfl
theorem ip_give_no (k : Nat) (h : (s + 1 + k == lim || (s + 1 + k + 1 == lim && text.getD (s + 1 + k) 0 == 10)) = false) : ∃ seen', (ipGive text lim s first seen k).step = { ipGive text lim s first seen' k with answer := some false } := by
  refine ⟨(seen.add 6).add (43 + 5), ?_⟩
  show (if (s + 1 + k == lim || (s + 1 + k + 1 == lim && text.getD (s + 1 + k) 0 == 10)) = true then _ else _) = _
  rw [h]; rfl
theorem ip_give_back (k : Nat) : ({ ipGive text lim s first seen (k + 1) with answer := some false } : Sre.M).step = (if k < 1 then { ipAt text lim s first seen with pc := 11, pos := s + 1 + (k + 1), handed := s + 1 + (k + 1), answer := some false } else ipGive text lim s first seen k) := by
  show (if ((k + 1 : Nat) : Int) - 1 < ((1 : Nat) : Int) then _ else _) = _
  by_cases h : k < 1
  · rw [if_pos h, if_pos (by omega)]; rfl
  · rw [if_neg h, if_neg (by omega)]
    have e1 : ((k + 1 : Nat) : Int) - 1 = (k : Int) := by omega
    show Sre.M.afterRun _ _ (((k + 1 : Nat) : Int) - 1) _ = _
    rw [e1]; rfl
theorem ip_give_yes (k : Nat) (h : s + 1 + k = lim) : ∃ m, Sre.M.runFor 5 (ipGive text lim s first seen k) = m ∧ m.outcome = some .matched ∧ m.start = s ∧ m.handed = lim ∧ m.lastmark = -1 ∧ m.lastindex = -1 ∧ m.marks = #[] := by
  have e1 : (ipGive text lim s first seen k).step = { ipGive text lim s first ((seen.add 6).add (43 + 5)) k with pc := 23 } := by
    show (if (s + 1 + k == lim || (s + 1 + k + 1 == lim && text.getD (s + 1 + k) 0 == 10)) = true then _ else _) = _
    rw [if_pos (by simp [h])]; rfl
  refine ⟨_, rfl, ?_⟩
  rw [show 5 = 1 + 4 from rfl, runFor_add, runFor_one (by rfl), e1]
  subst h
  cases first <;> exact ⟨rfl, rfl, rfl, rfl, rfl, rfl⟩
/-- the give-backs: no place short of the end serves -/
theorem ip_gives (hlast : text.getD (lim - 1) 0 ≠ 10) : ∀ (k : Nat) (seen : Sre.Seen), s + 1 + (k + 1) < lim → ∃ hn seen' p, Sre.M.runFor (2 * (k + 1)) (ipGive text lim s first seen (k + 1)) = { ipAt text lim s first seen' with pc := 11, pos := p, handed := hn, answer := some false } := by
  intro k
  induction k with
  | zero =>
    intro seen h
    obtain ⟨s1, e1⟩ := ip_give_no text lim s first seen 1 (by
      have a1 : (s + 1 + 1 == lim) = false := by simp; omega
      rw [a1]
      by_cases q : s + 1 + 1 + 1 = lim
      · have : lim - 1 = s + 1 + 1 := by omega
        rw [this] at hlast
        rw [beq_false_of_ne hlast, Bool.and_false, Bool.or_false]
      · rw [beq_false_of_ne q, Bool.false_and, Bool.or_false])
    refine ⟨s + 1 + (0 + 1), s1, s + 1 + (0 + 1), ?_⟩
    refine (runFor_then (n := 1) (by rfl) e1).trans ?_
    refine (runFor_one (by rfl)).trans ?_
    rw [ip_give_back text lim s first s1 0, if_pos (by omega)]
  | succ k ih =>
    intro seen h
    obtain ⟨s1, e1⟩ := ip_give_no text lim s first seen (k + 1 + 1) (by
      have a1 : (s + 1 + (k + 1 + 1) == lim) = false := by simp; omega
      rw [a1]
      by_cases q : s + 1 + (k + 1 + 1) + 1 = lim
      · have : lim - 1 = s + 1 + (k + 1 + 1) := by omega
        rw [this] at hlast
        rw [beq_false_of_ne hlast, Bool.and_false, Bool.or_false]
      · rw [beq_false_of_ne q, Bool.false_and, Bool.or_false])
    obtain ⟨hn, s2, p, e2⟩ := ih s1 (by omega)
    refine ⟨hn, s2, p, ?_⟩
    rw [show 2 * (k + 1 + 1) = 1 + (1 + 2 * (k + 1)) by omega]
    refine (runFor_then (by rfl) e1).trans ?_
    refine (runFor_then (by rfl) (ip_give_back text lim s first s1 (k + 1))).trans ?_
    rw [if_neg (by omega)]
    exact e2
/-- one place: it is passed, or the match is told -/
theorem ip_place (hlast : text.getD (lim - 1) 0 ≠ 10) (hbig : lim < 1048576) (hs : s < lim) :
    (¬ ipEnd text lim s → ∃ N seen', 0 < N ∧ N ≤ 2 * lim + 8 ∧ Sre.M.runFor N (ipAt text lim s first seen) = ipAt text lim (s + 1) false seen') ∧
    (ipEnd text lim s → ∃ N m, 0 < N ∧ N ≤ 2 * lim + 8 ∧ Sre.M.runFor N (ipAt text lim s first seen) = m ∧ m.outcome = some .matched ∧ m.start = s ∧ m.handed = lim ∧ m.lastmark = -1 ∧ m.lastindex = -1 ∧ m.marks = #[]) := by
  have e0 := ip_step0 text lim s first seen (by omega)
  by_cases hc : text.getD s 0 = 46
  · rw [show (text.getD s 0 == 46) = true by simp [hc]] at e0
    by_cases h1 : s + 1 < lim
    · obtain ⟨k, s2, hd, hk, hle, e1⟩ := ip_step1 text lim s first (seen.add 16) h1 (by omega)
      by_cases h0 : k < 1
      · rw [if_pos h0] at e1
        have k0 : k = 0 := by omega
        subst k0
        have hno : ¬ ipEnd text lim s := fun h => by
          have := h.2.2 (s + 1) (by omega) h1
          rw [show s + 1 = s + 1 + 0 from rfl, hk (by omega)] at this; cases this
        refine ⟨fun _ => ⟨3, s2, by omega, by omega, ?_⟩, fun h => absurd h hno⟩
        refine (runFor_then (n := 2) (by rfl) e0).trans ?_
        refine (runFor_then (n := 1) (by rfl) e1).trans ?_
        refine (runFor_one (by rfl)).trans ?_
        exact ip_back text lim s first s2 (s + 1) 11 s hs
      · rw [if_neg h0] at e1
        by_cases hend : s + 1 + k = lim
        · have hyes : ipEnd text lim s := ⟨h1, hc, fun j hj hj' => hd j (by omega) (by omega)⟩
          refine ⟨fun h => absurd hyes h, fun _ => ?_⟩
          obtain ⟨m, em, r⟩ := ip_give_yes text lim s first s2 k hend
          refine ⟨7, m, by omega, by omega, ?_, r⟩
          refine (runFor_then (n := 6) (by rfl) e0).trans ?_
          refine (runFor_then (n := 5) (by rfl) e1).trans ?_
          exact em
        · have hno : ¬ ipEnd text lim s := fun h => by
            have := h.2.2 (s + 1 + k) (by omega) (by omega)
            rw [hk (by omega)] at this; cases this
          refine ⟨fun _ => ?_, fun h => absurd h hno⟩
          obtain ⟨k', rfl⟩ : ∃ k', k = k' + 1 := ⟨k - 1, by omega⟩
          obtain ⟨hn, s3, p, e3⟩ := ip_gives text lim s first hlast k' s2 (by omega)
          refine ⟨1 + (1 + (2 * (k' + 1) + 1)), s3, by omega, by omega, ?_⟩
          refine (runFor_then (by rfl) e0).trans ?_
          refine (runFor_then (by rfl) e1).trans ?_
          rw [runFor_add, e3]
          refine (runFor_one (by rfl)).trans ?_
          exact ip_back text lim s first s3 p 11 hn hs
    · have hno : ¬ ipEnd text lim s := fun h => h1 h.1
      refine ⟨fun _ => ⟨3, (seen.add 16).add 24, by omega, by omega, ?_⟩, fun h => absurd h hno⟩
      refine (runFor_then (n := 2) (by rfl) e0).trans ?_
      refine (runFor_then (n := 1) (by rfl) (ip_step1_no text lim s first (seen.add 16) h1)).trans ?_
      refine (runFor_one (by rfl)).trans ?_
      exact ip_back text lim s first _ (s + 1) 11 s hs
  · rw [beq_false_of_ne hc] at e0
    have hno : ¬ ipEnd text lim s := fun h => hc h.2.1
    refine ⟨fun _ => ⟨2, seen.add 16, by omega, by omega, ?_⟩, fun h => absurd h hno⟩
    refine (runFor_then (n := 1) (by rfl) e0).trans ?_
    refine (runFor_one (by rfl)).trans ?_
    exact ip_back text lim s first _ s 9 s hs
/-- from a place on: passed to s' as long as none is told -/
theorem ip_pass (hlast : text.getD (lim - 1) 0 ≠ 10) (hbig : lim < 1048576) : ∀ (n s : Nat) (first : Bool) (seen : Sre.Seen), s + n ≤ lim → (∀ j, s ≤ j → j < s + n → ¬ ipEnd text lim j) →
    ∃ N seen' first', N ≤ n * (2 * lim + 8) ∧ Sre.M.runFor N (ipAt text lim s first seen) = ipAt text lim (s + n) first' seen'
  | 0, s, first, seen, _, _ => ⟨0, seen, first, by omega, rfl⟩
  | n + 1, s, first, seen, h, hno => by
    obtain ⟨N1, s1, h1, h2, e1⟩ := (ip_place text lim s first seen hlast hbig (by omega)).1 (hno s (Nat.le_refl _) (by omega))
    obtain ⟨N2, s2, f2, h3, e2⟩ := ip_pass hlast hbig n (s + 1) false s1 (by omega) (fun j hj hj' => hno j (by omega) (by omega))
    refine ⟨N1 + N2, s2, f2, ?_, ?_⟩
    · rw [Nat.succ_mul]; omega
    · rw [runFor_add, e1, e2, show s + 1 + n = s + (n + 1) by omega]
theorem ip_start (h : ¬ lim < 2) : forSearch ipCode text 0 0 lim false = ipAt text lim 0 true (({} : Sre.Seen).add 14) := by
  show (if (decide (0 > lim) || decide (lim - 0 < 2)) = true then _ else _) = _
  rw [if_neg (by simp; omega)]; rfl
theorem ip_short (h : lim < 2) : (Sre.M.runFor 1 (forSearch ipCode text 0 0 lim false)).outcome = some .failed := by
  show (Sre.M.runFor 1 (if (decide (0 > lim) || decide (lim - 0 < 2)) = true then _ else _)).outcome = _
  rw [if_pos (by simp; omega)]; rfl
theorem ip_none (hlast : text.getD (lim - 1) 0 ≠ 10) (hbig : lim < 1048576) (hno : ∀ j, j < lim → ¬ ipEnd text lim j) : ∃ N, N ≤ 2 ^ 60 ∧ 0 < N ∧ (Sre.M.runFor N (forSearch ipCode text 0 0 lim false)).outcome = some .failed := by
  by_cases h : lim < 2
  · exact ⟨1, by omega, by omega, ip_short text lim h⟩
  · obtain ⟨N, s1, f1, hN, e⟩ := ip_pass text lim hlast hbig lim 0 true (({} : Sre.Seen).add 14) (by omega) (fun j _ hj => hno j (by omega))
    rw [Nat.zero_add] at e
    have hb : lim * (2 * lim + 8) ≤ 1048576 * (2 * 1048576 + 8) := Nat.mul_le_mul (by omega) (by omega)
    have e2 := ip_step0_end text lim lim f1 s1 (Nat.le_refl _)
    obtain ⟨m, e3, e4, e5⟩ := ip_back_end text lim lim f1 (s1.add 16) lim 9 lim (Nat.lt_irrefl _)
    refine ⟨N + (1 + (1 + 1)), by omega, by omega, ?_⟩
    rw [ip_start text lim h, runFor_add, e]
    refine (congrArg Sre.M.outcome (runFor_then (n := 1 + 1) (by rfl) e2)).trans ?_
    refine (congrArg Sre.M.outcome (runFor_then (n := 1) (by rfl) e3)).trans ?_
    exact (congrArg Sre.M.outcome (runFor_one e4)).trans e5
theorem ip_found (hlast : text.getD (lim - 1) 0 ≠ 10) (hbig : lim < 1048576) (s : Nat) (hs : s < lim) (hy : ipEnd text lim s) (hno : ∀ j, j < s → ¬ ipEnd text lim j) :
    ∃ N m, N ≤ 2 ^ 60 ∧ 0 < N ∧ Sre.M.runFor N (forSearch ipCode text 0 0 lim false) = m ∧ m.outcome = some .matched ∧ m.start = s ∧ m.handed = lim ∧ m.lastmark = -1 ∧ m.lastindex = -1 ∧ m.marks = #[] := by
  have h : ¬ lim < 2 := by have := hy.1; omega
  obtain ⟨N, s1, f1, hN, e⟩ := ip_pass text lim hlast hbig s 0 true (({} : Sre.Seen).add 14) (by omega) (fun j _ hj => hno j (by omega))
  rw [Nat.zero_add] at e
  obtain ⟨N2, m, h1, h2, e2, r⟩ := (ip_place text lim s f1 s1 hlast hbig hs).2 hy
  have hb : s * (2 * lim + 8) ≤ 1048576 * (2 * 1048576 + 8) := Nat.mul_le_mul (by omega) (by omega)
  refine ⟨N + N2, m, by omega, by omega, ?_, r⟩
  rw [ip_start text lim h, runFor_add, e, e2]
end
/-! ## the regex that finds where a line begins and is not empty -/
section
open PySem.Sre
def twCode : Array Nat := #[14, 4, 0, 0, 0, 6, 1, 5, 5, 0, 6, 6, 1, 1]
/-- the machine as it tries the place s -/
def twAt (text : Array Nat) (lim s : Nat) (first must : Bool) (seen : Sre.Seen) : Sre.M :=
  { code := twCode, text, lim, start := s, lastStart := lim, mustAdvance := must, pc := 5, pos := s, handed := s, outermost := first, marks := #[], frames := [{ wait := .nextStart, pc := 5, pos := s, outermost := first }], weight := 1, seen }
/-- a line that is not empty begins at s -/
def lineAt (text : Array Nat) (lim s : Nat) : Bool := (s == 0 || text.getD (s - 1) 0 == 10) && !(s == lim || text.getD s 0 == 10)
variable (text : Array Nat) (lim s : Nat) (first must : Bool) (seen : Sre.Seen)
theorem tw_step0_no (h : (s == 0 || text.getD (s - 1) 0 == 10) = false) : ∃ seen', (twAt text lim s first must seen).step = { twAt text lim s first must seen' with answer := some false } := by
  refine ⟨(seen.add 6).add (43 + 1), ?_⟩
  show (if (s == 0 || text.getD (s - 1) 0 == 10) = true then _ else _) = _
  rw [h]; rfl
theorem tw_step0 (h : (s == 0 || text.getD (s - 1) 0 == 10) = true) : ∃ seen', (twAt text lim s first must seen).step = { twAt text lim s first must seen' with pc := 7 } := by
  refine ⟨(seen.add 6).add (43 + 1), ?_⟩
  show (if (s == 0 || text.getD (s - 1) 0 == 10) = true then _ else _) = _
  rw [h]; rfl
def twLook (seen : Sre.Seen) : Sre.M := { twAt text lim s first must seen with pc := 10, outermost := false, weight := 2, frames := [{ wait := .lookNot, pc := 7, pos := s, outermost := first, kept := { lastmark := -1, lastindex := -1, whole := false, marks := #[] } }, { wait := .nextStart, pc := 5, pos := s, outermost := first }] }
theorem tw_step1 : ({ twAt text lim s first must seen with pc := 7 } : Sre.M).step = twLook text lim s first must (seen.add 5) := by
  rfl
theorem tw_step2_end (h : (s == lim || text.getD s 0 == 10) = true) : ∃ seen', (twLook text lim s first must seen).step = { twLook text lim s first must seen' with pc := 12 } := by
  refine ⟨(seen.add 6).add (43 + 6), ?_⟩
  show (if (s == lim || text.getD s 0 == 10) = true then _ else _) = _
  rw [h]; rfl
theorem tw_step2 (h : (s == lim || text.getD s 0 == 10) = false) : ∃ seen', (twLook text lim s first must seen).step = { twLook text lim s first must seen' with answer := some false } := by
  refine ⟨(seen.add 6).add (43 + 6), ?_⟩
  show (if (s == lim || text.getD s 0 == 10) = true then _ else _) = _
  rw [h]; rfl
theorem tw_step3_end : ({ twLook text lim s first must seen with pc := 12 } : Sre.M).step = { twLook text lim s first must (seen.add 1) with pc := 12, answer := some true } := by
  cases must <;> rfl
theorem tw_step4_end : ({ twLook text lim s first must seen with pc := 12, answer := some true } : Sre.M).step = { twAt text lim s first must seen with pc := 7, answer := some false } := by
  rfl
theorem tw_step3 : ({ twLook text lim s first must seen with answer := some false } : Sre.M).step = { twAt text lim s first must seen with pc := 13 } := by
  rfl
theorem tw_back (pc : Nat) (h : s < lim) : ({ twAt text lim s first must seen with pc := pc, answer := some false } : Sre.M).step = twAt text lim (s + 1) false false seen := by
  show (if s < lim then _ else _) = _
  rw [if_pos h]; rfl
theorem tw_back_end (pc : Nat) (h : ¬ s < lim) : ∃ m, ({ twAt text lim s first must seen with pc := pc, answer := some false } : Sre.M).step = m ∧ m.outcome = none ∧ m.step.outcome = some .failed := by
  refine ⟨_, rfl, ?_, ?_⟩
  · show (if s < lim then _ else _ : Sre.M).outcome = _
    rw [if_neg h]; rfl
  · show (Sre.M.step (if s < lim then _ else _)).outcome = _
    rw [if_neg h]; rfl
theorem tw_yes : ∃ m, Sre.M.runFor 3 { twAt text lim s first false seen with pc := 13 } = m ∧ m.outcome = some .matched ∧ m.start = s ∧ m.handed = s ∧ m.lastmark = -1 ∧ m.lastindex = -1 ∧ m.marks = #[] := by
  refine ⟨_, rfl, ?_⟩
  cases first <;> exact ⟨rfl, rfl, rfl, rfl, rfl, rfl⟩
theorem tw_must : ({ twAt text lim s true true seen with pc := 13 } : Sre.M).step = { twAt text lim s true true (seen.add 1) with pc := 13, answer := some false } := by
  show (if (true && ((false && s != lim) || (true && s == s))) = true then _ else _) = _
  rw [if_pos (by simp)]; rfl
/-- one place: it is passed, or the match is told -/
theorem tw_pass1 (h : lineAt text lim s = false ∨ (must = true ∧ first = true)) : ∃ N seen' pc, N ≤ 6 ∧ Sre.M.runFor N (twAt text lim s first must seen) = { twAt text lim s first must seen' with pc := pc, answer := some false } := by
  cases h0 : (s == 0 || text.getD (s - 1) 0 == 10) with
  | false =>
    obtain ⟨s1, e0⟩ := tw_step0_no text lim s first must seen h0
    exact ⟨1, s1, 5, by omega, (runFor_one (by rfl)).trans e0⟩
  | true =>
    obtain ⟨s1, e0⟩ := tw_step0 text lim s first must seen h0
    have e1 := tw_step1 text lim s first must s1
    cases h2 : (s == lim || text.getD s 0 == 10) with
    | true =>
      obtain ⟨s2, e2⟩ := tw_step2_end text lim s first must (s1.add 5) h2
      have e3 := tw_step3_end text lim s first must s2
      have e4 := tw_step4_end text lim s first must (s2.add 1)
      refine ⟨5, s2.add 1, 7, by omega, ?_⟩
      refine (runFor_then (n := 4) (by rfl) e0).trans ?_
      refine (runFor_then (n := 3) (by rfl) e1).trans ?_
      refine (runFor_then (n := 2) (by rfl) e2).trans ?_
      refine (runFor_then (n := 1) (by rfl) e3).trans ?_
      exact (runFor_one (by rfl)).trans e4
    | false =>
      have hl : lineAt text lim s = true := by unfold lineAt; rw [h0, h2]; rfl
      rcases h with h | ⟨rfl, rfl⟩
      · rw [hl] at h; cases h
      obtain ⟨s2, e2⟩ := tw_step2 text lim s true true (s1.add 5) h2
      have e3 := tw_step3 text lim s true true s2
      have e4 := tw_must text lim s s2
      refine ⟨5, s2.add 1, 13, by omega, ?_⟩
      refine (runFor_then (n := 4) (by rfl) e0).trans ?_
      refine (runFor_then (n := 3) (by rfl) e1).trans ?_
      refine (runFor_then (n := 2) (by rfl) e2).trans ?_
      refine (runFor_then (n := 1) (by rfl) e3).trans ?_
      exact (runFor_one (by rfl)).trans e4
theorem tw_match1 (h : lineAt text lim s = true) : ∃ m, Sre.M.runFor 7 (twAt text lim s first false seen) = m ∧ m.outcome = some .matched ∧ m.start = s ∧ m.handed = s ∧ m.lastmark = -1 ∧ m.lastindex = -1 ∧ m.marks = #[] := by
  unfold lineAt at h
  rw [Bool.and_eq_true] at h
  obtain ⟨s1, e0⟩ := tw_step0 text lim s first false seen h.1
  have e1 := tw_step1 text lim s first false s1
  obtain ⟨s2, e2⟩ := tw_step2 text lim s first false (s1.add 5) (by simpa using h.2)
  have e3 := tw_step3 text lim s first false s2
  obtain ⟨m, em, r⟩ := tw_yes text lim s first s2
  refine ⟨m, ?_, r⟩
  refine (runFor_then (n := 6) (by rfl) e0).trans ?_
  refine (runFor_then (n := 5) (by rfl) e1).trans ?_
  refine (runFor_then (n := 4) (by rfl) e2).trans ?_
  refine (runFor_then (n := 3) (by rfl) e3).trans ?_
  exact em
/-- from a place on: passed to s + n as long as none is told -/
theorem tw_pass : ∀ (n s : Nat) (first must : Bool) (seen : Sre.Seen), s + n ≤ lim → (must = true → first = true) → (∀ j, s ≤ j → j < s + n → lineAt text lim j = false ∨ (j = s ∧ must = true)) →
    ∃ N seen' first' must', N ≤ n * 7 ∧ (must' = true → first' = true) ∧ (0 < n → must' = false) ∧ (n = 0 → must' = must ∧ first' = first) ∧ Sre.M.runFor N (twAt text lim s first must seen) = twAt text lim (s + n) first' must' seen'
  | 0, s, first, must, seen, _, hm, _ => ⟨0, seen, first, must, by omega, hm, fun h => absurd h (Nat.lt_irrefl _), fun _ => ⟨rfl, rfl⟩, rfl⟩
  | n + 1, s, first, must, seen, h, hm, hno => by
    obtain ⟨N1, s1, pc, h1, e1⟩ := tw_pass1 text lim s first must seen ((hno s (Nat.le_refl _) (by omega)).imp id fun q => ⟨q.2, hm q.2⟩)
    obtain ⟨N2, s2, f2, m2, h3, h4, h5, h6, e2⟩ := tw_pass n (s + 1) false false s1 (by omega) (fun e => e) (fun j hj hj' => by
      rcases hno j (by omega) (by omega) with q | q
      · exact .inl q
      · omega)
    refine ⟨N1 + (1 + N2), s2, f2, m2, ?_, h4, ?_, by omega, ?_⟩
    · rw [Nat.succ_mul]; omega
    · intro _
      cases n with
      | zero => exact (h6 rfl).1
      | succ k => exact h5 (by omega)
    · rw [runFor_add, e1]
      refine (runFor_then (by rfl) (tw_back text lim s first must s1 pc (by omega))).trans ?_
      rw [e2, show s + 1 + n = s + (n + 1) by omega]
theorem tw_start (h : s ≤ lim) : forSearch twCode text 0 s lim must = twAt text lim s true must (({} : Sre.Seen).add 14) := by
  show (if (decide (s > lim) || decide (lim - s < 0)) = true then _ else _) = _
  rw [if_neg (by simp; omega)]; rfl
theorem tw_none (hs : s ≤ lim) (hbig : lim < 1048576) (hno : ∀ j, s ≤ j → j ≤ lim → lineAt text lim j = false ∨ (j = s ∧ must = true)) : ∃ N, N ≤ 2 ^ 60 ∧ 0 < N ∧ (Sre.M.runFor N (forSearch twCode text 0 s lim must)).outcome = some .failed := by
  obtain ⟨N, s1, f1, m1, hN, hm1, hm2, hm3, e⟩ := tw_pass text lim (lim - s) s true must (({} : Sre.Seen).add 14) (by omega) (fun _ => rfl) (fun j h1 h2 => hno j h1 (by omega))
  rw [show s + (lim - s) = lim by omega] at e
  obtain ⟨N2, s2, pc, h2, e2⟩ := tw_pass1 text lim lim f1 m1 s1 (by
    rcases hno lim hs (Nat.le_refl _) with q | ⟨q, q'⟩
    · exact .inl q
    · right
      have h0 := hm3 (by omega)
      exact ⟨h0.1.trans q', h0.2⟩)
  obtain ⟨m, e3, e4, e5⟩ := tw_back_end text lim lim f1 m1 s2 pc (Nat.lt_irrefl _)
  refine ⟨N + (N2 + (1 + 1)), by omega, by omega, ?_⟩
  rw [tw_start text lim s must hs, runFor_add, e, runFor_add, e2]
  refine (congrArg Sre.M.outcome (runFor_then (n := 1) (by rfl) e3)).trans ?_
  exact (congrArg Sre.M.outcome (runFor_one e4)).trans e5
theorem tw_found (i : Nat) (hs : s ≤ i) (hi : i ≤ lim) (hbig : lim < 1048576) (hy : lineAt text lim i = true) (hne : must = true → s < i) (hno : ∀ j, s ≤ j → j < i → lineAt text lim j = false ∨ (j = s ∧ must = true)) :
    ∃ N m, N ≤ 2 ^ 60 ∧ 0 < N ∧ Sre.M.runFor N (forSearch twCode text 0 s lim must) = m ∧ m.outcome = some .matched ∧ m.start = i ∧ m.handed = i ∧ m.lastmark = -1 ∧ m.lastindex = -1 ∧ m.marks = #[] := by
  obtain ⟨N, s1, f1, m1, hN, hm1, hm2, hm3, e⟩ := tw_pass text lim (i - s) s true must (({} : Sre.Seen).add 14) (by omega) (fun _ => rfl) (fun j h1 h2 => hno j h1 (by omega))
  rw [show s + (i - s) = i by omega] at e
  have hm0 : m1 = false := by
    by_cases q : s < i
    · exact hm2 (by omega)
    · have h0 := hm3 (by omega)
      rw [h0.1]
      cases hm : must with
      | false => rfl
      | true => exact absurd (hne hm) q
  subst hm0
  obtain ⟨m, e2, r⟩ := tw_match1 text lim i f1 s1 hy
  refine ⟨N + 7, m, by omega, by omega, ?_, r⟩
  rw [tw_start text lim s must (by omega), runFor_add, e, e2]
end
/-! ## a sheet moved: the plain text -/
def ind (sp : List Nat) : Bool → List Nat → List Nat
  | _, [] => []
  | b, c :: r => (if b && c != 10 then sp else []) ++ c :: ind sp (c == 10) r
section
variable (sp l : List Nat)
def restI (j : Nat) : List Nat := ind sp (j == 0 || l.getD (j - 1) 0 == 10) (l.drop j)
def lineL (j : Nat) : Bool := (j == 0 || l.getD (j - 1) 0 == 10) && !(j == l.length || l.getD j 0 == 10)
theorem restI_end (j : Nat) (h : l.length ≤ j) : restI sp l j = [] := by
  unfold restI; rw [List.drop_of_length_le h]; rfl
theorem restI_step (j : Nat) (h : j < l.length) : restI sp l j = (if lineL l j then sp else []) ++ l.getD j 0 :: restI sp l (j + 1) := by
  unfold restI lineL
  have e : l.drop j = l.getD j 0 :: l.drop (j + 1) := by
    rw [List.drop_eq_getElem_cons h, List.getD_eq_getElem?_getD, List.getElem?_eq_getElem h]; rfl
  rw [e, ind]
  have e1 : (j + 1 == 0 || l.getD (j + 1 - 1) 0 == 10) = (l.getD j 0 == 10) := by
    rw [show (j + 1 == 0) = false from rfl, Bool.false_or, Nat.add_sub_cancel]
  have e2 : (j == l.length) = false := by simp; omega
  rw [e1, e2, Bool.false_or]
  rfl
theorem restI_seg : ∀ (n i : Nat), i + n ≤ l.length → (∀ j, i ≤ j → j < i + n → lineL l j = false) → restI sp l i = (l.drop i).take n ++ restI sp l (i + n)
  | 0, i, _, _ => by simp
  | n + 1, i, h, hno => by
    have e : l.drop i = l.getD i 0 :: l.drop (i + 1) := by
      rw [List.drop_eq_getElem_cons (by omega), List.getD_eq_getElem?_getD, List.getElem?_eq_getElem (by omega)]; rfl
    rw [restI_step sp l i (by omega), hno i (Nat.le_refl _) (by omega), restI_seg n (i + 1) (by omega) (fun j h1 h2 => hno j (by omega) (by omega)), e, List.take_succ_cons, show i + (n + 1) = i + 1 + n by omega]
    rfl
def remI (s : Nat) (must : Bool) : List Nat := if must then l.getD s 0 :: restI sp l (s + 1) else restI sp l s
theorem remI_found (s i : Nat) (must : Bool) (hs : s ≤ i) (hi : i < l.length) (hy : lineL l i = true) (hne : must = true → s < i) (hno : ∀ j, s ≤ j → j < i → lineL l j = false ∨ (j = s ∧ must = true)) :
    remI sp l s must = (l.drop s).take (i - s) ++ (sp ++ remI sp l i true) := by
  have hi' : restI sp l i = sp ++ remI sp l i true := by
    rw [restI_step sp l i hi, hy]; rfl
  cases must with
  | false =>
    have := restI_seg sp l (i - s) s (by omega) (fun j h1 h2 => by
      rcases hno j h1 (by omega) with q | q
      · exact q
      · cases q.2)
    rw [show s + (i - s) = i by omega, hi'] at this
    exact this
  | true =>
    have hlt := hne rfl
    have := restI_seg sp l (i - (s + 1)) (s + 1) (by omega) (fun j h1 h2 => by
      rcases hno j (by omega) (by omega) with q | q
      · exact q
      · omega)
    rw [show s + 1 + (i - (s + 1)) = i by omega, hi'] at this
    show l.getD s 0 :: restI sp l (s + 1) = _
    have e : l.drop s = l.getD s 0 :: l.drop (s + 1) := by
      rw [List.drop_eq_getElem_cons (by omega), List.getD_eq_getElem?_getD, List.getElem?_eq_getElem (by omega)]; rfl
    rw [this, e, show i - s = (i - (s + 1)) + 1 by omega, List.take_succ_cons]
    rfl
theorem remI_none (s : Nat) (must : Bool) (hs : s ≤ l.length) (hm : must = true → s < l.length) (hno : ∀ j, s ≤ j → j ≤ l.length → lineL l j = false ∨ (j = s ∧ must = true)) : remI sp l s must = l.drop s := by
  cases must with
  | false =>
    have := restI_seg sp l (l.length - s) s (by omega) (fun j h1 h2 => by
      rcases hno j h1 (by omega) with q | q
      · exact q
      · cases q.2)
    rw [show s + (l.length - s) = l.length by omega, restI_end sp l _ (Nat.le_refl _), List.append_nil] at this
    show restI sp l s = _
    rw [this, List.take_of_length_le (by rw [List.length_drop]; exact Nat.le_refl _)]
  | true =>
    have hlt := hm rfl
    have := restI_seg sp l (l.length - (s + 1)) (s + 1) (by omega) (fun j h1 h2 => by
      rcases hno j (by omega) (by omega) with q | q
      · exact q
      · omega)
    rw [show s + 1 + (l.length - (s + 1)) = l.length by omega, restI_end sp l _ (Nat.le_refl _), List.append_nil] at this
    show l.getD s 0 :: restI sp l (s + 1) = _
    rw [this, List.take_of_length_le (by rw [List.length_drop]; exact Nat.le_refl _), List.drop_eq_getElem_cons hlt, List.getD_eq_getElem?_getD, List.getElem?_eq_getElem hlt]
    rfl
/-- the next place where a line begins, if there is one -/
theorem next_line (s : Nat) (must : Bool) (hs : s ≤ l.length) : (∃ i, s ≤ i ∧ i < l.length ∧ lineL l i = true ∧ (must = true → s < i) ∧ ∀ j, s ≤ j → j < i → lineL l j = false ∨ (j = s ∧ must = true)) ∨ (∀ j, s ≤ j → j ≤ l.length → lineL l j = false ∨ (j = s ∧ must = true)) := by
  have main : ∀ (n a : Nat), a + n = l.length + 1 → s ≤ a → (∀ j, s ≤ j → j < a → lineL l j = false ∨ (j = s ∧ must = true)) →
      (∃ i, s ≤ i ∧ i < l.length ∧ lineL l i = true ∧ (must = true → s < i) ∧ ∀ j, s ≤ j → j < i → lineL l j = false ∨ (j = s ∧ must = true)) ∨ (∀ j, s ≤ j → j ≤ l.length → lineL l j = false ∨ (j = s ∧ must = true)) := by
    intro n
    induction n with
    | zero => intro a e h1 h2; exact .inr fun j h3 h4 => h2 j h3 (by omega)
    | succ n ih =>
      intro a e h1 h2
      by_cases q : lineL l a = false ∨ (a = s ∧ must = true)
      · refine ih (a + 1) (by omega) (by omega) fun j h3 h4 => ?_
        rcases Nat.lt_or_ge j a with h5 | h5
        · exact h2 j h3 h5
        · have : j = a := by omega
          subst this; exact q
      · have q1 : lineL l a = true := by
          cases hq : lineL l a with
          | true => rfl
          | false => exact absurd (.inl hq) q
        have q2 : a < l.length := by
          rcases Nat.lt_or_ge a l.length with h | h
          · exact h
          · have : a = l.length := by omega
            unfold lineL at q1
            rw [this] at q1
            simp at q1
        refine .inl ⟨a, h1, q2, q1, fun hm => ?_, h2⟩
        rcases Nat.lt_or_ge s a with h | h
        · exact h
        · exact absurd (.inr ⟨by omega, hm⟩) q
  exact main (l.length + 1 - s) s (by omega) (Nat.le_refl _) fun j h1 h2 => by omega
end
theorem getD_cps (x : Str) (i : Nat) : x.cps.getD i 0 = x.cps.toList.getD i 0 := by
  rw [Array.getD_eq_getD_getElem?, List.getD_eq_getElem?_getD, Array.getElem?_toList]
theorem lineAt_L (x : Str) (j : Nat) : lineAt x.cps x.cps.size j = lineL x.cps.toList j := by
  unfold lineAt lineL
  rw [getD_cps, getD_cps, Array.length_toList]
theorem extract_L (x : Str) (b e : Nat) : (⟨x.cps.extract b e⟩ : Str) = ⟨((x.cps.toList.drop b).take (e - b)).toArray⟩ := by
  congr 1
  apply Array.ext'
  simp [List.drop_take, Array.toList_extract, List.extract]
theorem join_flat : ∀ ps : List Str, Txt.join ⟨#[]⟩ ps = ⟨(ps.flatMap (·.cps.toList)).toArray⟩ := by
  intro ps
  unfold Txt.join
  rw [StrLaws.glued_eq_join]
  induction ps with
  | nil => rfl
  | cons x r ih =>
    cases r with
    | nil => simp [Str.join]
    | cons y r =>
      show x ++ ⟨#[]⟩ ++ Str.join ⟨#[]⟩ (y :: r) = _
      rw [ih]
      refine Str.ext' ?_
      rw [Str.cps_append, Str.cps_append]
      simp
theorem fold_len (ps : List Str) : ∀ a, ps.foldl (· + ·.length + (⟨#[]⟩ : Str).length) a = a + (ps.flatMap (·.cps.toList)).length := by
  induction ps with
  | nil => intro a; simp
  | cons x r ih =>
    intro a
    rw [List.foldl_cons, ih, List.flatMap_cons, List.length_append, Array.length_toList]
    show a + x.length + 0 + _ = a + (x.length + _)
    omega
theorem joinOk_flat (ps : List Str) (h : (ps.flatMap (·.cps.toList)).length ≤ 16777216) : JoinOk ⟨#[]⟩ ps = true := by
  unfold JoinOk
  rw [List.foldl_toArray' (h := rfl), fold_len]
  unfold Builtin.Str.tooLong
  rw [sizeLine_eq, Bool.not_eq_true', decide_eq_false_iff_not, Nat.zero_add]
  exact Nat.not_lt.mpr h
/-! ## the hue of a ballot: the floats of rgb_to_hls, and what they are -/
def flM (a : Int) : UInt64 := Float64.div (Float64.ofInt a) 0x4020000000000000
def fmax3 (a b c : UInt64) : UInt64 := let x := if Float64.cmp b a == some .gt then b else a; if Float64.cmp c x == some .gt then c else x
def fmin3 (a b c : UInt64) : UInt64 := let x := if Float64.cmp b a == some .lt then b else a; if Float64.cmp c x == some .lt then c else x
/-- the numerator of the hue in 5040ths; none for a grey -/
def placeZ (a b c : Int) : Option Int :=
  let hi := max a (max b c)
  let lo := min a (min b c)
  if hi = lo then none
  else if a = hi then some ((840 * (b - c) / (hi - lo)) % 5040)
  else if b = hi then some (1680 + 840 * (c - a) / (hi - lo))
  else some (3360 + 840 * (a - b) / (hi - lo))
def hueF (r g b : UInt64) : UInt64 :=
  let maxc := fmax3 r g b
  let minc := fmin3 r g b
  let rangec := Float64.sub maxc minc
  let rc := Float64.div (Float64.sub maxc r) rangec
  let gc := Float64.div (Float64.sub maxc g) rangec
  let bc := Float64.div (Float64.sub maxc b) rangec
  let h := if Float64.cmp r maxc == some .eq then Float64.sub bc gc
    else if Float64.cmp g maxc == some .eq then Float64.sub (Float64.add 0x4000000000000000 rc) bc
    else Float64.sub (Float64.add 0x4010000000000000 gc) rc
  (Float64.divmod (Float64.div h 0x4018000000000000) 0x3ff0000000000000).2
def placeF (a b c : Int) : Option Int :=
  let r := flM a; let g := flM b; let b := flM c
  if Float64.cmp (fmin3 r g b) (fmax3 r g b) == some .eq then none
  else match Float64.decode (Float64.add (Float64.mul (hueF r g b) 0x40b3b00000000000) 0x3fe0000000000000) with
    | .fin n m e => some (Float64.truncOf n m e)
    | _ => none
def lowF (r g b : UInt64) : Bool := Float64.cmp (Float64.div (Float64.add (fmax3 r g b) (fmin3 r g b)) 0x4000000000000000) 0x3fe0000000000000 == some .lt || Float64.cmp (Float64.div (Float64.add (fmax3 r g b) (fmin3 r g b)) 0x4000000000000000) 0x3fe0000000000000 == some .eq
def underF (r g b : UInt64) : UInt64 := if lowF r g b then Float64.add (fmax3 r g b) (fmin3 r g b) else Float64.sub (Float64.sub 0x4000000000000000 (fmax3 r g b)) (fmin3 r g b)
def satF (r g b : UInt64) : UInt64 := Float64.div (Float64.sub (fmax3 r g b) (fmin3 r g b)) (underF r g b)
def greyF (r g b : UInt64) : Bool := Float64.cmp (fmin3 r g b) (fmax3 r g b) == some .eq
def okF (r g b : UInt64) : Bool := greyF r g b || (!Float64.isZero (Float64.sub (fmax3 r g b) (fmin3 r g b)) && !Float64.isZero (underF r g b) && !(Float64.cmp (satF r g b) 0 == some .eq))
theorem okF_grey {r g b : UInt64} (h : okF r g b = true) (hg : greyF r g b = false) : Float64.isZero (Float64.sub (fmax3 r g b) (fmin3 r g b)) = false ∧ Float64.isZero (underF r g b) = false ∧ (Float64.cmp (satF r g b) 0 == some .eq) = false := by
  unfold okF at h
  rw [hg] at h
  simpa [and_assoc] using h
def numF (r g b : UInt64) : UInt64 := if Float64.cmp r (fmax3 r g b) == some .eq then Float64.sub (Float64.div (Float64.sub (fmax3 r g b) b) (Float64.sub (fmax3 r g b) (fmin3 r g b))) (Float64.div (Float64.sub (fmax3 r g b) g) (Float64.sub (fmax3 r g b) (fmin3 r g b)))
  else if Float64.cmp g (fmax3 r g b) == some .eq then Float64.sub (Float64.add 0x4000000000000000 (Float64.div (Float64.sub (fmax3 r g b) r) (Float64.sub (fmax3 r g b) (fmin3 r g b)))) (Float64.div (Float64.sub (fmax3 r g b) b) (Float64.sub (fmax3 r g b) (fmin3 r g b)))
  else Float64.sub (Float64.add 0x4010000000000000 (Float64.div (Float64.sub (fmax3 r g b) g) (Float64.sub (fmax3 r g b) (fmin3 r g b)))) (Float64.div (Float64.sub (fmax3 r g b) r) (Float64.sub (fmax3 r g b) (fmin3 r g b)))
theorem numF_r {r g b : UInt64} (h1 : (Float64.cmp r (fmax3 r g b) == some .eq) = true) : Float64.sub (Float64.div (Float64.sub (fmax3 r g b) b) (Float64.sub (fmax3 r g b) (fmin3 r g b))) (Float64.div (Float64.sub (fmax3 r g b) g) (Float64.sub (fmax3 r g b) (fmin3 r g b))) = numF r g b := by
  unfold numF; rw [if_pos h1]
theorem numF_g {r g b : UInt64} (h1 : (Float64.cmp r (fmax3 r g b) == some .eq) = false) (h2 : (Float64.cmp g (fmax3 r g b) == some .eq) = true) : Float64.sub (Float64.add 0x4000000000000000 (Float64.div (Float64.sub (fmax3 r g b) r) (Float64.sub (fmax3 r g b) (fmin3 r g b)))) (Float64.div (Float64.sub (fmax3 r g b) b) (Float64.sub (fmax3 r g b) (fmin3 r g b))) = numF r g b := by
  unfold numF; rw [if_neg (by rw [h1]; exact Bool.false_ne_true), if_pos h2]
theorem numF_b {r g b : UInt64} (h1 : (Float64.cmp r (fmax3 r g b) == some .eq) = false) (h2 : (Float64.cmp g (fmax3 r g b) == some .eq) = false) : Float64.sub (Float64.add 0x4010000000000000 (Float64.div (Float64.sub (fmax3 r g b) g) (Float64.sub (fmax3 r g b) (fmin3 r g b)))) (Float64.div (Float64.sub (fmax3 r g b) r) (Float64.sub (fmax3 r g b) (fmin3 r g b))) = numF r g b := by
  unfold numF; rw [if_neg (by rw [h1]; exact Bool.false_ne_true), if_neg (by rw [h2]; exact Bool.false_ne_true)]
theorem satF_lo {r g b : UInt64} (h : lowF r g b = true) : Float64.div (Float64.sub (fmax3 r g b) (fmin3 r g b)) (Float64.add (fmax3 r g b) (fmin3 r g b)) = satF r g b := by
  unfold satF underF; rw [if_pos h]
theorem satF_hi {r g b : UInt64} (h : lowF r g b = false) : Float64.div (Float64.sub (fmax3 r g b) (fmin3 r g b)) (Float64.sub (Float64.sub 0x4000000000000000 (fmax3 r g b)) (fmin3 r g b)) = satF r g b := by
  unfold satF underF; rw [if_neg (by rw [h]; exact Bool.false_ne_true)]
theorem ok_range {r g b : UInt64} (h : okF r g b = true) (hg : greyF r g b = false) (hz : Float64.isZero (Float64.sub (fmax3 r g b) (fmin3 r g b)) = true) : False := by
  rw [(okF_grey h hg).1] at hz; cases hz
theorem ok_lo {r g b : UInt64} (h : okF r g b = true) (hg : greyF r g b = false) (hl : lowF r g b = true) (hz : Float64.isZero (Float64.add (fmax3 r g b) (fmin3 r g b)) = true) : False := by
  have := (okF_grey h hg).2.1
  unfold underF at this
  rw [if_pos hl, hz] at this; cases this
theorem ok_hi {r g b : UInt64} (h : okF r g b = true) (hg : greyF r g b = false) (hl : lowF r g b = false) (hz : Float64.isZero (Float64.sub (Float64.sub 0x4000000000000000 (fmax3 r g b)) (fmin3 r g b)) = true) : False := by
  have := (okF_grey h hg).2.1
  unfold underF at this
  rw [if_neg (by rw [hl]; exact Bool.false_ne_true), hz] at this; cases this

theorem placeF_fin {a b c p : Int} (h : placeF a b c = some p) : ∃ n m e, Float64.decode (Float64.add (Float64.mul (hueF (flM a) (flM b) (flM c)) 0x40b3b00000000000) 0x3fe0000000000000) = .fin n m e ∧ Float64.truncOf n m e = p := by
  unfold placeF at h
  simp only at h
  split at h
  · cases h
  · split at h
    · rename_i n m e hd
      exact ⟨n, m, e, hd, Option.some.inj h⟩
    · cases h
/-! the floats of the marks, told once by the least table -/
theorem cmp_all : ∀ a b : Fin 9, Float64.cmp (flM a.val) (flM b.val) = some (compare a.val b.val) := by decide +kernel
theorem sub_all : ∀ a x : Fin 9, a.val + x.val < 9 → Float64.sub (flM ((a.val + x.val : Nat) : Int)) (flM a.val) = flM x.val := by decide +kernel
theorem cmp_gt {a b : Nat} (ha : a < 9) (hb : b < 9) : (Float64.cmp (flM a) (flM b) == some .gt) = decide (b < a) := by
  rw [show Float64.cmp (flM a) (flM b) = some (compare a b) from cmp_all ⟨a, ha⟩ ⟨b, hb⟩]
  rcases Nat.lt_trichotomy a b with h | h | h
  · rw [Nat.compare_eq_lt.mpr h, decide_eq_false (Nat.not_lt.mpr (Nat.le_of_lt h))]; rfl
  · subst h; rw [Nat.compare_eq_eq.mpr rfl, decide_eq_false (Nat.lt_irrefl a)]; rfl
  · rw [Nat.compare_eq_gt.mpr h, decide_eq_true h]; rfl
theorem cmp_lt {a b : Nat} (ha : a < 9) (hb : b < 9) : (Float64.cmp (flM a) (flM b) == some .lt) = decide (a < b) := by
  rw [show Float64.cmp (flM a) (flM b) = some (compare a b) from cmp_all ⟨a, ha⟩ ⟨b, hb⟩]
  rcases Nat.lt_trichotomy a b with h | h | h
  · rw [Nat.compare_eq_lt.mpr h, decide_eq_true h]; rfl
  · subst h; rw [Nat.compare_eq_eq.mpr rfl, decide_eq_false (Nat.lt_irrefl a)]; rfl
  · rw [Nat.compare_eq_gt.mpr h, decide_eq_false (Nat.not_lt.mpr (Nat.le_of_lt h))]; rfl
theorem cmp_eq {a b : Nat} (ha : a < 9) (hb : b < 9) : (Float64.cmp (flM a) (flM b) == some .eq) = decide (a = b) := by
  rw [show Float64.cmp (flM a) (flM b) = some (compare a b) from cmp_all ⟨a, ha⟩ ⟨b, hb⟩]
  rcases Nat.lt_trichotomy a b with h | h | h
  · rw [Nat.compare_eq_lt.mpr h, decide_eq_false (Nat.ne_of_lt h)]; rfl
  · subst h; rw [Nat.compare_eq_eq.mpr rfl, decide_eq_true rfl]; rfl
  · rw [Nat.compare_eq_gt.mpr h, decide_eq_false (Nat.ne_of_gt h)]; rfl
theorem fmax_fl {a b c : Nat} (ha : a < 9) (hb : b < 9) (hc : c < 9) : fmax3 (flM a) (flM b) (flM c) = flM ((max a (max b c) : Nat) : Int) := by
  unfold fmax3
  rw [cmp_gt hb ha]
  by_cases h : a < b
  · rw [decide_eq_true h, if_pos rfl]
    show (if (Float64.cmp (flM c) (flM b) == some .gt) = true then flM c else flM b) = _
    rw [cmp_gt hc hb]
    by_cases h2 : b < c
    · rw [decide_eq_true h2, if_pos rfl, Nat.max_eq_right (Nat.le_of_lt h2), Nat.max_eq_right (Nat.le_of_lt (Nat.lt_trans h h2))]
    · rw [decide_eq_false h2, if_neg Bool.false_ne_true, Nat.max_eq_left (Nat.not_lt.mp h2), Nat.max_eq_right (Nat.le_of_lt h)]
  · rw [decide_eq_false h, if_neg Bool.false_ne_true]
    show (if (Float64.cmp (flM c) (flM a) == some .gt) = true then flM c else flM a) = _
    rw [cmp_gt hc ha]
    by_cases h2 : a < c
    · rw [decide_eq_true h2, if_pos rfl, Nat.max_eq_right (Nat.le_trans (Nat.not_lt.mp h) (Nat.le_of_lt h2)), Nat.max_eq_right (Nat.le_of_lt h2)]
    · rw [decide_eq_false h2, if_neg Bool.false_ne_true, Nat.max_eq_left (Nat.max_le.mpr ⟨Nat.not_lt.mp h, Nat.not_lt.mp h2⟩)]
theorem fmin_fl {a b c : Nat} (ha : a < 9) (hb : b < 9) (hc : c < 9) : fmin3 (flM a) (flM b) (flM c) = flM ((min a (min b c) : Nat) : Int) := by
  unfold fmin3
  rw [cmp_lt hb ha]
  by_cases h : b < a
  · rw [decide_eq_true h, if_pos rfl]
    show (if (Float64.cmp (flM c) (flM b) == some .lt) = true then flM c else flM b) = _
    rw [cmp_lt hc hb]
    by_cases h2 : c < b
    · rw [decide_eq_true h2, if_pos rfl, Nat.min_eq_right (Nat.le_of_lt h2), Nat.min_eq_right (Nat.le_of_lt (Nat.lt_trans h2 h))]
    · rw [decide_eq_false h2, if_neg Bool.false_ne_true, Nat.min_eq_left (Nat.not_lt.mp h2), Nat.min_eq_right (Nat.le_of_lt h)]
  · rw [decide_eq_false h, if_neg Bool.false_ne_true]
    show (if (Float64.cmp (flM c) (flM a) == some .lt) = true then flM c else flM a) = _
    rw [cmp_lt hc ha]
    by_cases h2 : c < a
    · rw [decide_eq_true h2, if_pos rfl, Nat.min_eq_right (Nat.le_trans (Nat.le_of_lt h2) (Nat.not_lt.mp h)), Nat.min_eq_right (Nat.le_of_lt h2)]
    · rw [decide_eq_false h2, if_neg Bool.false_ne_true, Nat.min_eq_left (Nat.le_min.mpr ⟨Nat.not_lt.mp h, Nat.not_lt.mp h2⟩)]
def finF (h : UInt64) : Option Int := match Float64.decode (Float64.add (Float64.mul (Float64.divmod (Float64.div h 0x4018000000000000) 0x3ff0000000000000).2 0x40b3b00000000000) 0x3fe0000000000000) with
    | .fin n m e => some (Float64.truncOf n m e)
    | _ => none
def qF (p k : Nat) : UInt64 := Float64.div (flM p) (flM k)
theorem tab0 : ∀ k p q : Fin 9, 0 < k.val → p.val ≤ k.val → q.val ≤ k.val → (p.val = k.val ∨ q.val = k.val) → finF (Float64.sub (qF p.val k.val) (qF q.val k.val)) = some ((840 * ((p.val : Int) - q.val) / k.val) % 5040) := by decide +kernel
theorem tab1 : ∀ k p q : Fin 9, 0 < k.val → p.val ≤ k.val → q.val ≤ k.val → (p.val = k.val ∨ q.val = k.val) → finF (Float64.sub (Float64.add 0x4000000000000000 (qF p.val k.val)) (qF q.val k.val)) = some (1680 + 840 * ((p.val : Int) - q.val) / k.val) := by decide +kernel
theorem tab2 : ∀ k p q : Fin 9, 0 < k.val → p.val ≤ k.val → q.val ≤ k.val → (p.val = k.val ∨ q.val = k.val) → finF (Float64.sub (Float64.add 0x4010000000000000 (qF p.val k.val)) (qF q.val k.val)) = some (3360 + 840 * ((p.val : Int) - q.val) / k.val) := by decide +kernel
theorem sub_fl {a x M : Nat} (hM : M < 9) (h : a + x = M) : Float64.sub (flM M) (flM a) = flM x := by
  subst h
  exact sub_all ⟨a, Nat.lt_of_le_of_lt (Nat.le_add_right _ _) hM⟩ ⟨x, Nat.lt_of_le_of_lt (Nat.le_add_left _ _) hM⟩ hM
structure Parts (a b c M m x y z k : Nat) : Prop where
  ex : a + x = M
  ey : b + y = M
  ez : c + z = M
  ek : m + k = M
  lx : x ≤ k
  ly : y ≤ k
  lz : z ≤ k
  one : x = k ∨ y = k ∨ z = k
  top : x = 0 ∨ y = 0 ∨ z = 0
theorem parts_of (a b c : Nat) : Parts a b c (max a (max b c)) (min a (min b c)) (max a (max b c) - a) (max a (max b c) - b) (max a (max b c) - c) (max a (max b c) - min a (min b c)) := by
  have Ma : a ≤ max a (max b c) := Nat.le_max_left _ _
  have Mb : b ≤ max a (max b c) := Nat.le_trans (Nat.le_max_left _ _) (Nat.le_max_right _ _)
  have Mc : c ≤ max a (max b c) := Nat.le_trans (Nat.le_max_right _ _) (Nat.le_max_right _ _)
  have ma : min a (min b c) ≤ a := Nat.min_le_left _ _
  have mb : min a (min b c) ≤ b := Nat.le_trans (Nat.min_le_right _ _) (Nat.min_le_left _ _)
  have mc : min a (min b c) ≤ c := Nat.le_trans (Nat.min_le_right _ _) (Nat.min_le_right _ _)
  refine ⟨Nat.add_sub_of_le Ma, Nat.add_sub_of_le Mb, Nat.add_sub_of_le Mc, Nat.add_sub_of_le (Nat.le_trans ma Ma), Nat.sub_le_sub_left ma _, Nat.sub_le_sub_left mb _, Nat.sub_le_sub_left mc _, ?_, ?_⟩
  · rcases Nat.le_total a (min b c) with h | h
    · exact .inl (by rw [Nat.min_eq_left h])
    · rw [Nat.min_eq_right h]
      rcases Nat.le_total b c with h2 | h2
      · exact .inr (.inl (by rw [Nat.min_eq_left h2]))
      · exact .inr (.inr (by rw [Nat.min_eq_right h2]))
  · rcases Nat.le_total (max b c) a with h | h
    · exact .inl (by rw [Nat.max_eq_left h, Nat.sub_self])
    · rw [Nat.max_eq_right h]
      rcases Nat.le_total c b with h2 | h2
      · exact .inr (.inl (by rw [Nat.max_eq_left h2, Nat.sub_self]))
      · exact .inr (.inr (by rw [Nat.max_eq_right h2, Nat.sub_self]))
theorem dif_is {a x c z M : Nat} (hx : a + x = M) (hz : c + z = M) : (c : Int) - a = (x : Int) - z := by omega
theorem rng_is {m k M : Nat} (h : m + k = M) : (M : Int) - m = k := by omega
theorem no_dif {m k : Nat} (h : k ≠ 0) : ¬ m = m + k := fun e => h (Nat.add_left_cancel (e.symm.trans (Nat.add_zero m).symm))
theorem zero_of {a x M : Nat} (hx : a + x = M) (h : a = M) : x = 0 := Nat.add_left_cancel (hx.trans (h.symm.trans (Nat.add_zero a).symm))
theorem max_cast2 (a b : Nat) : max (a : Int) (b : Int) = ((max a b : Nat) : Int) := by omega
theorem max_cast (a b c : Nat) : max (a : Int) (max (b : Int) (c : Int)) = ((max a (max b c) : Nat) : Int) := by rw [max_cast2, max_cast2]
theorem min_cast2 (a b : Nat) : min (a : Int) (b : Int) = ((min a b : Nat) : Int) := by omega
theorem min_cast (a b c : Nat) : min (a : Int) (min (b : Int) (c : Int)) = ((min a (min b c) : Nat) : Int) := by rw [min_cast2, min_cast2]
theorem max_lt9 {a b c : Nat} (ha : a < 9) (hb : b < 9) (hc : c < 9) : max a (max b c) < 9 := Nat.max_lt.mpr ⟨ha, Nat.max_lt.mpr ⟨hb, hc⟩⟩
theorem min_lt9 {a b c : Nat} (ha : a < 9) : min a (min b c) < 9 := Nat.lt_of_le_of_lt (Nat.min_le_left _ _) ha
theorem place_core {a b c M m x y z k : Nat} (ha : a < 9) (hb : b < 9) (hc : c < 9) (hM : M < 9) (hm : m < 9) (eM : fmax3 (flM a) (flM b) (flM c) = flM (M : Int)) (em : fmin3 (flM a) (flM b) (flM c) = flM (m : Int)) (iM : max (a : Int) (max (b : Int) (c : Int)) = M) (im : min (a : Int) (min (b : Int) (c : Int)) = m) (p : Parts a b c M m x y z k) : placeF a b c = placeZ a b c := by
  unfold placeF
  simp only [eM, em, cmp_eq hm hM]
  unfold placeZ
  simp only [iM, im, rng_is p.ek]
  have lk : k < 9 := Nat.lt_of_le_of_lt (Nat.le_add_left k m) (p.ek ▸ hM)
  have hx9 := Nat.lt_of_le_of_lt p.lx lk
  have hy9 := Nat.lt_of_le_of_lt p.ly lk
  have hz9 := Nat.lt_of_le_of_lt p.lz lk
  by_cases h0 : m = M
  · rw [decide_eq_true h0, if_pos rfl, if_pos (by rw [h0])]
  rw [decide_eq_false h0, if_neg Bool.false_ne_true, if_neg (fun e => h0 (Int.ofNat_inj.mp e).symm)]
  have k0 : 0 < k := Nat.pos_of_ne_zero fun e => h0 (by have := p.ek; rw [e, Nat.add_zero] at this; exact this)
  have e : hueF (flM a) (flM b) (flM c) = (Float64.divmod (Float64.div (if decide (a = M) = true then Float64.sub (qF z k) (qF y k) else if decide (b = M) = true then Float64.sub (Float64.add 0x4000000000000000 (qF x k)) (qF z k) else Float64.sub (Float64.add 0x4010000000000000 (qF y k)) (qF x k)) 0x4018000000000000) 0x3ff0000000000000).2 := by
    unfold hueF qF
    simp only [eM, em, cmp_eq ha hM, cmp_eq hb hM, sub_fl hM p.ek, sub_fl hM p.ex, sub_fl hM p.ey, sub_fl hM p.ez]
  rw [e]
  by_cases h1 : a = M
  · rw [decide_eq_true h1, if_pos rfl, if_pos (by rw [h1])]
    have x0 := zero_of p.ex h1
    rw [dif_is p.ez p.ey]
    refine tab0 ⟨k, lk⟩ ⟨z, hz9⟩ ⟨y, hy9⟩ k0 p.lz p.ly ?_
    rcases p.one with h | h | h
    · exact absurd (x0.symm.trans h) (Nat.ne_of_lt k0)
    · exact .inr h
    · exact .inl h
  · rw [decide_eq_false h1, if_neg Bool.false_ne_true, if_neg (fun e => h1 (Int.ofNat_inj.mp e))]
    by_cases h2 : b = M
    · rw [decide_eq_true h2, if_pos rfl, if_pos (by rw [h2])]
      have y0 := zero_of p.ey h2
      rw [dif_is p.ex p.ez]
      refine tab1 ⟨k, lk⟩ ⟨x, hx9⟩ ⟨z, hz9⟩ k0 p.lx p.lz ?_
      rcases p.one with h | h | h
      · exact .inl h
      · exact absurd (y0.symm.trans h) (Nat.ne_of_lt k0)
      · exact .inr h
    · rw [decide_eq_false h2, if_neg Bool.false_ne_true, if_neg (fun e => h2 (Int.ofNat_inj.mp e))]
      have z0 : z = 0 := by
        rcases p.top with h | h | h
        · exact absurd (by have := p.ex; rw [h, Nat.add_zero] at this; exact this) h1
        · exact absurd (by have := p.ey; rw [h, Nat.add_zero] at this; exact this) h2
        · exact h
      rw [dif_is p.ey p.ex]
      refine tab2 ⟨k, lk⟩ ⟨y, hy9⟩ ⟨x, hx9⟩ k0 p.ly p.lx ?_
      rcases p.one with h | h | h
      · exact .inr h
      · exact .inl h
      · exact absurd (z0.symm.trans h) (Nat.ne_of_lt k0)
theorem place_fl {a b c : Nat} (ha : a < 9) (hb : b < 9) (hc : c < 9) : placeF a b c = placeZ a b c :=
  place_core ha hb hc (max_lt9 ha hb hc) (min_lt9 ha) (fmax_fl ha hb hc) (fmin_fl ha hb hc) (max_cast a b c) (min_cast a b c) (parts_of a b c)
theorem place_all (a b c : Fin 9) : placeF a.val b.val c.val = placeZ a.val b.val c.val := place_fl a.isLt b.isLt c.isLt
theorem ok_tab : ∀ M m : Fin 9, m.val ≤ M.val → (let x := flM M.val; let y := flM m.val; let u := if (Float64.cmp (Float64.div (Float64.add x y) 0x4000000000000000) 0x3fe0000000000000 == some .lt || Float64.cmp (Float64.div (Float64.add x y) 0x4000000000000000) 0x3fe0000000000000 == some .eq) then Float64.add x y else Float64.sub (Float64.sub 0x4000000000000000 x) y;
    (Float64.cmp y x == some .eq) || (!Float64.isZero (Float64.sub x y) && !Float64.isZero u && !(Float64.cmp (Float64.div (Float64.sub x y) u) 0 == some .eq))) = true := by decide +kernel
theorem ok_all (a b c : Fin 9) : okF (flM a.val) (flM b.val) (flM c.val) = true := by
  unfold okF greyF satF underF lowF
  rw [fmax_fl a.isLt b.isLt c.isLt, fmin_fl a.isLt b.isLt c.isLt]
  exact ok_tab ⟨max a.val (max b.val c.val), max_lt9 a.isLt b.isLt c.isLt⟩ ⟨min a.val (min b.val c.val), min_lt9 a.isLt⟩ (Nat.le_trans (Nat.min_le_left _ _) (Nat.le_max_left _ _))
theorem grey_all (a b c : Fin 9) : greyF (flM a.val) (flM b.val) (flM c.val) = (placeZ a.val b.val c.val).isNone := by
  unfold greyF
  rw [fmax_fl a.isLt b.isLt c.isLt, fmin_fl a.isLt b.isLt c.isLt, cmp_eq (min_lt9 a.isLt) (max_lt9 a.isLt b.isLt c.isLt)]
  unfold placeZ
  simp only [max_cast, min_cast]
  by_cases h : min a.val (min b.val c.val) = max a.val (max b.val c.val)
  · rw [decide_eq_true h, if_pos (by rw [h])]; rfl
  · rw [decide_eq_false h, if_neg (fun e => h (Int.ofNat_inj.mp e).symm)]
    split
    · rfl
    · split <;> rfl
theorem kw_6 : True := by
  w_top off
  k_with_none
  k_with "x mem" => (first | (with_reducible assumption) | (with_reducible exact List.mem_cons_self) | (refine' List.mem_cons_of_mem _ ?_; k_extra "x mem") | (refine' List.mem_append_left _ ?_; k_extra "x mem") | (refine' List.mem_append_right _ ?_; k_extra "x mem"))
  k_with "x enter" => ((
  refine' xc_def ?k6r37 ?k7r37 ?k8r37 (fun s => ?k9r37) ?kBr37 ?c5r37 ?c2r37 ?c3r37 ?c4r37 ?_
  (case k6r37 => k_is)
  (case k7r37 => k_is)
  (case k8r37 => decide)
  (case k9r37 => exact BindsTo.of_eq rfl)
  (case c5r37 => decide)
  (case kBr37 => exact locs rfl)
  (case c2r37 => exact rfl)
  (case c3r37 => exact rfl)
  (case c4r37 => exact rfl)
  intro loosezq meanzq mgzq mbzq dpzq unzq gdzq cnzq cszq Lzq azq ccdzq clzq outerzq basezq gzq L'zq h'zq gszq drzq oszq tkzq Ezq F'zq N'zq B'zq X'zq T'zq hpzq hdzq huzq
  (try dsimp only) 
  (try k_fold)))
  k_with "x sides" => ((
  (case k1 => k_asm)
  (case k2 => k_asm)
  (case k3 => k_asm)
  (case k4 => k_asm)
  (case k5 => k_asm)
  (case kK => first | exact rfl | assumption)
  (case kd => ktr_room)
  (case ku => ktr_units)))
  k_with "subscriptTail Name Constant ref int" => ((k_here; k_dflt ((with_reducible show wpAny _ _ (subscriptTail _ _ (Value.ref _) (Value.int _ _)) _ _ _); (with_unfolding_all refine' item_litK ?k1r39 ?k2r39 ?k3r39 ?k4r39 ?_ ?k6r39; (case k1r39 => is_list); (case k2r39 => decide); (case k3r39 => decide); (case k4r39 => rfl); (case k6r39 => with_unfolding_all rfl)))))
  k_with "subscriptTail Name BinOp ref int" => ((k_here; k_dflt ((with_reducible show wpAny _ _ (subscriptTail _ _ (Value.ref _) (Value.int _ _)) _ _ _); (with_unfolding_all refine' item_litK ?k1r40 ?k2r40 ?k3r40 ?k4r40 ?_ ?k6r40; (case k1r40 => is_list); (case k2r40 => decide); (case k3r40 => decide); (case k4r40 => rfl); (case k6r40 => with_unfolding_all rfl)))))
  k_with "subscriptTail Name Name ref int" => ((k_here; k_dflt ((with_reducible show wpAny _ _ (subscriptTail _ _ (Value.ref _) (Value.int _ _)) _ _ _); (with_unfolding_all refine' item_litK ?k1r41 ?k2r41 ?k3r41 ?k4r41 ?_ ?k6r41; (case k1r41 => is_list); (case k2r41 => decide); (case k3r41 => decide); (case k4r41 => rfl); (case k6r41 => with_unfolding_all rfl)))))
  k_with "eval Name" => ((k_here; dsimp only))
  trivial
section
variable {prog : Program} {w : World} {A : Around} {E : Value → Shared → Prop} {s : Shared} {h₀ : Heap} {L : Addr} {m : Str → Option Value} {news : List (Addr × Obj)}
def fAt (a b c : UInt64) : Nat → UInt64
  | 0 => a
  | 1 => b
  | _ => c
def fIs (a b c : UInt64) (i : Nat) (v : Value) : Prop := ∃ t, v = .float (fAt a b c i) t
theorem fIs_of {a b c : UInt64} {t u x : Tok} {i : Nat} {v : Value} (h : (#[Value.float a t, .float b u, .float c x] : Array Value)[i]? = some v) : fIs a b c i v := by
  match i with
  | 0 => exact ⟨t, by simpa [fAt] using h.symm⟩
  | 1 => exact ⟨u, by simpa [fAt] using h.symm⟩
  | 2 => exact ⟨x, by simpa [fAt] using h.symm⟩
  | n + 3 => simp at h
theorem fCmp {a b c : UInt64} : CmpOf prog w A .Gt (fIs a b c) (fun i j => Float64.cmp (fAt a b c i) (fAt a b c j) == some .gt) := fun i j vi vj s Q E hi hj h => by
  obtain ⟨t, rfl⟩ := hi
  obtain ⟨u, rfl⟩ := hj
  exact AutoFloatOps.gt_0 h
theorem fCmp' {a b c : UInt64} : CmpOf prog w A .Lt (fIs a b c) (fun i j => Float64.cmp (fAt a b c i) (fAt a b c j) == some .lt) := fun i j vi vj s Q E hi hj h => by
  obtain ⟨t, rfl⟩ := hi
  obtain ⟨u, rfl⟩ := hj
  exact AutoFloatOps.lt_0 h
theorem fmax3_at (a b c : UInt64) : fAt a b c (argBest (fun i j => Float64.cmp (fAt a b c i) (fAt a b c j) == some .gt) 2) = fmax3 a b c := by
  simp only [argBest, fAt, fmax3]
  by_cases h1 : (Float64.cmp b a == some .gt) = true
  · simp only [h1, if_true]
    by_cases h2 : (Float64.cmp c b == some .gt) = true <;> simp [h2]
  · simp only [h1]
    by_cases h2 : (Float64.cmp c a == some .gt) = true <;> simp [h2]
theorem fmin3_at (a b c : UInt64) : fAt a b c (argBest (fun i j => Float64.cmp (fAt a b c i) (fAt a b c j) == some .lt) 2) = fmin3 a b c := by
  simp only [argBest, fAt, fmin3]
  by_cases h1 : (Float64.cmp b a == some .lt) = true
  · simp only [h1, if_true]
    by_cases h2 : (Float64.cmp c b == some .lt) = true <;> simp [h2]
  · simp only [h1]
    by_cases h2 : (Float64.cmp c a == some .lt) = true <;> simp [h2]
theorem pushed3 {h : Heap} {h' : Heap} {o1 o2 : Obj} (hk : ∀ b o, b ∉ [(h.push o1).objs.size] → ((h.push o1).push o2).get? b = some o → h'.get? b = some o) : ∀ d o, h.get? d = some o → h'.get? d = some o := fun d o e => by
  refine hk d o (fun hm => ?_) (Heap.get?_push_of_some _ (Heap.get?_push_of_some _ e))
  rcases List.mem_cons.mp hm with e1 | hm
  · have := Heap.lt_size e; rw [e1, Heap.size_push] at this; exact Nat.lt_irrefl _ (Nat.lt_of_succ_lt this)
  · cases hm
theorem fmax_N {a b c : UInt64} {t u x : Tok} {Q : Value → Shared → Prop} (hh : A.handled = none) (F : Fr h₀ L s.heap m) (N : News h₀ L s.heap news)
    (h : ∀ h' tk y, Fr h₀ L h' m → News h₀ L h' news → Q (.float (fmax3 a b c) y) { s with heap := h', toks := tk }) :
    wpAny (model prog w) A (call (.builtin "max") [.float a t, .float b u, .float c x]) Q E s := by
  have hT : (s.heap.push { cls := .type "tuple", data := .seq #[.float a t, .float b u, .float c x] }).IsTuple s.heap.objs.size #[.float a t, .float b u, .float c x] := ⟨_, Heap.get?_push_size _ rfl, rfl, 0, rfl⟩
  refine call_max_three (wpAny_pyIter_tuple hT ?_)
  have hsz : (s.heap.push { cls := .type "tuple", data := .seq #[.float a t, .float b u, .float c x] }).objs.size = s.heap.objs.size + 1 := Heap.size_push ..
  refine ⟨_, [_, s.heap.objs.size], [_], _, _, _, _, rfl, Walks.tuple (A := A.in1) hh _ s.heap.objs.size (by rw [hsz]; exact Nat.ne_of_lt (Nat.lt_succ_self _)) #[.float a t, .float b u, .float c x],
    ⟨⟨_, Heap.get?_push_size _ rfl, rfl, rfl⟩, hT.push _⟩, fun d hd => ?_, by simp, fun i j vi vj s Q E hi hj h => fCmp (a := a) (b := b) (c := c) i j vi vj s Q E (fIs_of hi) (fIs_of hj) h, fun v h' tk hP hk => ?_⟩
  · show d < ((s.heap.push _).push _).objs.size
    rw [Heap.size_push, hsz]
    rcases List.mem_cons.mp hd with rfl | hd
    · rw [hsz]; exact Nat.lt_succ_self _
    · rcases List.mem_cons.mp hd with rfl | hd
      · exact Nat.lt_succ_of_lt (Nat.lt_succ_self _)
      · cases hd
  · obtain ⟨y, rfl⟩ := fIs_of hP
    have e : (#[Value.float a t, .float b u, .float c x] : Array Value).size - 1 = 2 := by simp
    rw [e, fmax3_at]
    exact h h' tk y (F.grownK (pushed3 hk)) (N.grown (pushed3 hk))
theorem fmin_N {a b c : UInt64} {t u x : Tok} {Q : Value → Shared → Prop} (hh : A.handled = none) (F : Fr h₀ L s.heap m) (N : News h₀ L s.heap news)
    (h : ∀ h' tk y, Fr h₀ L h' m → News h₀ L h' news → Q (.float (fmin3 a b c) y) { s with heap := h', toks := tk }) :
    wpAny (model prog w) A (call (.builtin "min") [.float a t, .float b u, .float c x]) Q E s := by
  have hT : (s.heap.push { cls := .type "tuple", data := .seq #[.float a t, .float b u, .float c x] }).IsTuple s.heap.objs.size #[.float a t, .float b u, .float c x] := ⟨_, Heap.get?_push_size _ rfl, rfl, 0, rfl⟩
  refine call_min_three (wpAny_pyIter_tuple hT ?_)
  have hsz : (s.heap.push { cls := .type "tuple", data := .seq #[.float a t, .float b u, .float c x] }).objs.size = s.heap.objs.size + 1 := Heap.size_push ..
  refine ⟨_, [_, s.heap.objs.size], [_], _, _, _, _, rfl, Walks.tuple (A := A.in1) hh _ s.heap.objs.size (by rw [hsz]; exact Nat.ne_of_lt (Nat.lt_succ_self _)) #[.float a t, .float b u, .float c x],
    ⟨⟨_, Heap.get?_push_size _ rfl, rfl, rfl⟩, hT.push _⟩, fun d hd => ?_, by simp, fun i j vi vj s Q E hi hj h => fCmp' (a := a) (b := b) (c := c) i j vi vj s Q E (fIs_of hi) (fIs_of hj) h, fun v h' tk hP hk => ?_⟩
  · show d < ((s.heap.push _).push _).objs.size
    rw [Heap.size_push, hsz]
    rcases List.mem_cons.mp hd with rfl | hd
    · rw [hsz]; exact Nat.lt_succ_self _
    · rcases List.mem_cons.mp hd with rfl | hd
      · exact Nat.lt_succ_of_lt (Nat.lt_succ_self _)
      · cases hd
  · obtain ⟨y, rfl⟩ := fIs_of hP
    have e : (#[Value.float a t, .float b u, .float c x] : Array Value).size - 1 = 2 := by simp
    rw [e, fmin3_at]
    exact h h' tk y (F.grownK (pushed3 hk)) (N.grown (pushed3 hk))
end
theorem kw_7 : True := by
  k_with "call builtin:max" => ((k_here; k_dflt ((with_reducible show wpAny _ _ (call _ [Value.float _ _, Value.float _ _, Value.float _ _]) _ _ _); (with_reducible rename Fr _ _ _ _ => kFzq); (with_reducible rename News _ _ _ _ => kNzq); (refine fmax_N (by rfl) kFzq kNzq ?_); clear kFzq kNzq; intro h'zq tk'zq y'zq F'zq N'zq; (try dsimp only))))
  k_with "call builtin:min" => ((k_here; k_dflt ((with_reducible show wpAny _ _ (call _ [Value.float _ _, Value.float _ _, Value.float _ _]) _ _ _); (with_reducible rename Fr _ _ _ _ => kFzq); (with_reducible rename News _ _ _ _ => kNzq); (refine fmin_N (by rfl) kFzq kNzq ?_); clear kFzq kNzq; intro h'zq tk'zq y'zq F'zq N'zq; (try dsimp only))))
  trivial
def HlsPost (r g b : UInt64) (tl : List (Addr × Obj)) (v : Value) : Prop :=
  ∃ T n u1 u2 u3 h l sv, v = .ref T ∧ (T, tupOf [Value.float h u1, .float l u2, .float sv u3].toArray n) ∈ tl ∧ ((greyF r g b = true ∧ sv = 0) ∨ (greyF r g b = false ∧ h = hueF r g b ∧ sv = satF r g b))
/-- two ways meet again with a float under a name -/
def XJF (h₀ : Heap) (L : Addr) (m : Str → Option Value) (news : List (Addr × Obj)) (x : Str) (b : UInt64) (s : Shared) (fl : Flow) (s' : Shared) : Prop :=
  ∃ u h' tk, fl = .next ∧ s' = { s with heap := h', toks := tk } ∧ Fr h₀ L h' (fun y => if y = x then some (.float b u) else m y) ∧ News h₀ L h' news
section
variable {prog : Program} {w : World} {A : Around} {E : Value → Shared → Prop} {s : Shared} {h₀ : Heap} {L : Addr} {m : Str → Option Value} {news : List (Addr × Obj)}
theorem XJF.mk {x : Str} {b b' : UInt64} {u : Tok} {h' : Heap} {tk : Nat} (F : Fr h₀ L h' (fun y => if y = x then some (.float b' u) else m y)) (N : News h₀ L h' news) (e : b' = b) : XJF h₀ L m news x b s .next ⟨h', s.gens, s.drawn, tk, s.os⟩ := by
  subst e; exact ⟨u, h', tk, rfl, rfl, F, N⟩
theorem x_joinSat {M : Model} {r g b : UInt64} {t : Sem Flow} {Q : Flow → Shared → Prop} (_ok : okF r g b = true) (_F : Fr h₀ L s.heap m) (_N : News h₀ L s.heap news) (h1 : wpAny M A t (XJF h₀ L m news (Str.ofString "s") (satF r g b) s) E s)
    (h2 : ∀ u h' tk, Fr h₀ L h' (fun y => if y = Str.ofString "s" then some (.float (satF r g b) u) else m y) → News h₀ L h' news → Q .next { s with heap := h', toks := tk }) : wpAny M A t Q E s :=
  wpAny_mono h1 (fun v s' ⟨u, h', tk, e1, e2, F', N'⟩ => by subst e1 e2; exact h2 u h' tk F' N') fun _ _ e => e
theorem x_joinNum {M : Model} {r g b : UInt64} {t : Sem Flow} {Q : Flow → Shared → Prop} (_ok : okF r g b = true) (_F : Fr h₀ L s.heap m) (_N : News h₀ L s.heap news) (h1 : wpAny M A t (XJF h₀ L m news (Str.ofString "h") (numF r g b) s) E s)
    (h2 : ∀ u h' tk, Fr h₀ L h' (fun y => if y = Str.ofString "h" then some (.float (numF r g b) u) else m y) → News h₀ L h' news → Q .next { s with heap := h', toks := tk }) : wpAny M A t Q E s :=
  wpAny_mono h1 (fun v s' ⟨u, h', tk, e1, e2, F', N'⟩ => by subst e1 e2; exact h2 u h' tk F' N') fun _ _ e => e
end
theorem kw_8 : True := by
  k_with "exec If" => ((k_here; (fail_if_success (with_reducible show wpAny _ _ _ (XJF _ _ _ _ _ _ _) _ _)); (with_reducible show wpAny _ _ (exec (PySem.Stmt.If _ [PySem.Stmt.Assign [PySem.Expr.Name (PySem.Str.ofString "s") _] _ _] _ _) _) _ _ _); (with_reducible rename Fr _ _ _ _ => kFzq); (with_reducible rename News _ _ _ _ => kNzq); k_dflt (refine' x_joinSat (by with_reducible assumption) kFzq kNzq ?_ ?_); rotate_left; (clear kFzq kNzq; intro u'zq h'zq tk'zq F'zq N'zq; (try dsimp only)); rotate_left))
  k_with "exec If" => ((k_here; (fail_if_success (with_reducible show wpAny _ _ _ (XJF _ _ _ _ _ _ _) _ _)); (with_reducible show wpAny _ _ (exec (PySem.Stmt.If (PySem.Expr.Compare (PySem.Expr.Name (PySem.Str.ofString "r") _) _ _ _) _ _ _) _) _ _ _); (with_reducible rename Fr _ _ _ _ => kFzq); (with_reducible rename News _ _ _ _ => kNzq); k_dflt (refine' x_joinNum (by with_reducible assumption) kFzq kNzq ?_ ?_); rotate_left; (clear kFzq kNzq; intro u'zq h'zq tk'zq F'zq N'zq; (try dsimp only)); rotate_left))
  trivial
set_option maxRecDepth 100000 in
set_option maxHeartbeats 8000000 in
theorem hls_c (w : World) (r g b : UInt64) (t1 t2 t3 : Tok) (ok : okF r g b = true) : XC w 38 1 [.float r t1, .float g t2, .float b t3] (fun _ => True) (HlsPost r g b) := by
  k_extra "x enter"
  k_steps
  all_goals first
    | exact (ok_range ok (by assumption) (by assumption)).elim
    | exact (ok_lo ok (by assumption) (by assumption) (by assumption)).elim
    | exact (ok_hi ok (by assumption) (by assumption) (by assumption)).elim
    | exact XJF.mk (by with_reducible assumption) (by with_reducible assumption) (satF_lo (by assumption))
    | exact XJF.mk (by with_reducible assumption) (by with_reducible assumption) (satF_hi (by assumption))
    | exact XJF.mk (by with_reducible assumption) (by with_reducible assumption) (numF_r (by assumption))
    | exact XJF.mk (by with_reducible assumption) (by with_reducible assumption) (numF_g (by assumption) (by assumption))
    | exact XJF.mk (by with_reducible assumption) (by with_reducible assumption) (numF_b (by assumption) (by assumption))
    | (refine (XEnd.mk (by with_reducible assumption) (by assumption) ?_ : XEnd _ _ _ _ _ _ _ _)
       first
        | exact ⟨_, _, _, _, _, _, _, _, rfl, List.mem_cons_self, .inl ⟨by assumption, rfl⟩⟩
        | exact ⟨_, _, _, _, _, _, _, _, rfl, List.mem_cons_self, .inr ⟨by assumption, rfl, rfl⟩⟩)
theorem kw_9 : True := by
  w_top off
  k_with_none
  k_with "x mem" => (first | (with_reducible assumption) | (with_reducible exact List.mem_cons_self) | (refine' List.mem_cons_of_mem _ ?_; k_extra "x mem") | (refine' List.mem_append_left _ ?_; k_extra "x mem") | (refine' List.mem_append_right _ ?_; k_extra "x mem"))
  k_with "x enter" => ((
  refine' xc_def ?k6r48 ?k7r48 ?k8r48 (fun s => ?k9r48) ?kBr48 ?c5r48 ?c2r48 ?c3r48 ?c4r48 ?_
  (case k6r48 => k_is)
  (case k7r48 => k_is)
  (case k8r48 => decide)
  (case k9r48 => exact BindsTo.of_eq rfl)
  (case c5r48 => decide)
  (case kBr48 => exact locs rfl)
  (case c2r48 => exact rfl)
  (case c3r48 => exact rfl)
  (case c4r48 => exact rfl)
  intro loosezq meanzq mgzq mbzq dpzq unzq gdzq cnzq cszq Lzq azq ccdzq clzq outerzq basezq gzq L'zq h'zq gszq drzq oszq tkzq Ezq F'zq N'zq B'zq X'zq T'zq hpzq hdzq huzq
  (try dsimp only) 
  (try k_fold)))
  k_with "x sides" => ((
  (case k1 => k_asm)
  (case k2 => k_asm)
  (case k3 => k_asm)
  (case k4 => k_asm)
  (case k5 => k_asm)
  (case kK => first | exact rfl | assumption)
  (case kd => ktr_room)
  (case ku => ktr_units)))
  k_with "subscriptTail Name Constant ref int" => ((k_here; k_dflt ((with_reducible show wpAny _ _ (subscriptTail _ _ (Value.ref _) (Value.int _ _)) _ _ _); (with_unfolding_all refine' item_litK ?k1r50 ?k2r50 ?k3r50 ?k4r50 ?_ ?k6r50; (case k1r50 => is_list); (case k2r50 => decide); (case k3r50 => decide); (case k4r50 => rfl); (case k6r50 => with_unfolding_all rfl)))))
  k_with "subscriptTail Name BinOp ref int" => ((k_here; k_dflt ((with_reducible show wpAny _ _ (subscriptTail _ _ (Value.ref _) (Value.int _ _)) _ _ _); (with_unfolding_all refine' item_litK ?k1r51 ?k2r51 ?k3r51 ?k4r51 ?_ ?k6r51; (case k1r51 => is_list); (case k2r51 => decide); (case k3r51 => decide); (case k4r51 => rfl); (case k6r51 => with_unfolding_all rfl)))))
  k_with "subscriptTail Name Name ref int" => ((k_here; k_dflt ((with_reducible show wpAny _ _ (subscriptTail _ _ (Value.ref _) (Value.int _ _)) _ _ _); (with_unfolding_all refine' item_litK ?k1r52 ?k2r52 ?k3r52 ?k4r52 ?_ ?k6r52; (case k1r52 => is_list); (case k2r52 => decide); (case k3r52 => decide); (case k4r52 => rfl); (case k6r52 => with_unfolding_all rfl)))))
  k_with "eval Name" => ((k_here; dsimp only))
  trivial
theorem okm {a b c : Int} (ha : 0 ≤ a ∧ a ≤ 8) (hb : 0 ≤ b ∧ b ≤ 8) (hc : 0 ≤ c ∧ c ≤ 8) : okF (flM a) (flM b) (flM c) = true := by
  have := ok_all ⟨a.toNat, by omega⟩ ⟨b.toNat, by omega⟩ ⟨c.toNat, by omega⟩
  simpa [Int.toNat_of_nonneg ha.1, Int.toNat_of_nonneg hb.1, Int.toNat_of_nonneg hc.1] using this
theorem placem {a b c : Int} (ha : 0 ≤ a ∧ a ≤ 8) (hb : 0 ≤ b ∧ b ≤ 8) (hc : 0 ≤ c ∧ c ≤ 8) : placeF a b c = placeZ a b c := by
  have := place_all ⟨a.toNat, by omega⟩ ⟨b.toNat, by omega⟩ ⟨c.toNat, by omega⟩
  simpa [Int.toNat_of_nonneg ha.1, Int.toNat_of_nonneg hb.1, Int.toNat_of_nonneg hc.1] using this
theorem greym {a b c : Int} (ha : 0 ≤ a ∧ a ≤ 8) (hb : 0 ≤ b ∧ b ≤ 8) (hc : 0 ≤ c ∧ c ≤ 8) : greyF (flM a) (flM b) (flM c) = (placeZ a b c).isNone := by
  have := grey_all ⟨a.toNat, by omega⟩ ⟨b.toNat, by omega⟩ ⟨c.toNat, by omega⟩
  simpa [Int.toNat_of_nonneg ha.1, Int.toNat_of_nonneg hb.1, Int.toNat_of_nonneg hc.1] using this
def PlacePost (a b c : Int) (r : Value) : Prop := match placeZ a b c with | none => r = .none | some p => ∃ u, r = .int p u
section
variable {a b c : Int} {hue sv : UInt64} (ha : 0 ≤ a ∧ a ≤ 8) (hb : 0 ≤ b ∧ b ≤ 8) (hc : 0 ≤ c ∧ c ≤ 8)
  (h : (greyF (flM a) (flM b) (flM c) = true ∧ sv = 0) ∨ (greyF (flM a) (flM b) (flM c) = false ∧ hue = hueF (flM a) (flM b) (flM c) ∧ sv = satF (flM a) (flM b) (flM c)))
include ha hb hc h
theorem place_none (hs : (Float64.cmp sv 0 == some .eq) = true) : PlacePost a b c .none := by
  have hg : greyF (flM a) (flM b) (flM c) = true := by
    rcases h with h | h
    · exact h.1
    · rw [h.2.2, (okF_grey (okm ha hb hc) h.1).2.2] at hs; cases hs
  have := greym ha hb hc
  rw [hg] at this
  unfold PlacePost
  cases q : placeZ a b c with
  | none => rfl
  | some p => rw [q] at this; cases this
theorem place_some (hs : (Float64.cmp sv 0 == some .eq) = false) : ∃ n m e, Float64.decode (Float64.add (Float64.mul hue 0x40b3b00000000000) 0x3fe0000000000000) = .fin n m e ∧ placeZ a b c = some (Float64.truncOf n m e) := by
  rcases h with h | h
  · rw [h.2] at hs; exact absurd hs (by decide +kernel)
  · obtain ⟨hg, rfl, _⟩ := h
    have := greym ha hb hc
    rw [hg] at this
    cases q : placeZ a b c with
    | none => rw [q] at this; cases this
    | some p =>
      obtain ⟨n, m, e, h1, h2⟩ := placeF_fin ((placem ha hb hc).trans q)
      exact ⟨n, m, e, h1, by rw [h2]⟩
theorem place_nan (hs : (Float64.cmp sv 0 == some .eq) = false) (hn : Float64.isNaN (Float64.add (Float64.mul hue 0x40b3b00000000000) 0x3fe0000000000000) = true) : False := by
  obtain ⟨n, m, e, hd, _⟩ := place_some ha hb hc h hs
  unfold Float64.isNaN at hn; rw [hd] at hn; cases hn
theorem place_inf (hs : (Float64.cmp sv 0 == some .eq) = false) (hn : Float64.isInf (Float64.add (Float64.mul hue 0x40b3b00000000000) 0x3fe0000000000000) = true) : False := by
  obtain ⟨n, m, e, hd, _⟩ := place_some ha hb hc h hs
  unfold Float64.isInf at hn; rw [hd] at hn; cases hn
theorem place_int (hs : (Float64.cmp sv 0 == some .eq) = false) (u : Tok) : PlacePost a b c (.int (Flt.toInt Float64.truncOf (Float64.add (Float64.mul hue 0x40b3b00000000000) 0x3fe0000000000000)) u) := by
  obtain ⟨n, m, e, hd, hp⟩ := place_some ha hb hc h hs
  unfold PlacePost
  rw [hp]
  refine ⟨u, ?_⟩
  unfold Flt.toInt; rw [hd]
end
section
variable {prog : Program} {w : World} {A : Around} {E : Value → Shared → Prop} {s : Shared}
theorem small_ofInt : ∀ n : Fin 9, Float64.isInf (Float64.ofInt n.val) = false := by decide +kernel
theorem div8 {b : Int} {t u : Tok} {Q : Value → Shared → Prop} (hb : 0 ≤ b ∧ b ≤ 8) (h : Q (.float (flM b) s.toks) { s with toks := s.toks + 1 }) :
    wpAny (model prog w) A (binaryOp .Div (.int b t) (.float 0x4020000000000000 u)) Q E s :=
  AutoFloatOps.truediv_if_2 (by have := small_ofInt ⟨b.toNat, by omega⟩; simp only [Int.toNat_of_nonneg hb.1] at this; rw [this]; exact Bool.false_ne_true) (by decide +kernel) h
end
section
variable {w : World} {E : Value → Shared → Prop} {s : Shared} {base h₀ : Heap} {L : Addr} {m : Str → Option Value} {news : List (Addr × Obj)} {f : Addr} {sz : Nat} {vs : List Value} {Pre : Heap → Prop}
  {loose : List Str} {mean : ExcName → Option Value} {mg mb : Str → Option Value} {dp un : Nat} {gd : Option (List Code)} {cn : Str} {cs : Scope} {a : Addr} {ccd : Value} {cl : List (Str × Addr)} {outer : List Env} {A₀ : Around} {Q : Value → Shared → Prop}
theorem hls_use {r g b : UInt64} (C : XC w f sz vs Pre (HlsPost r g b)) (B : Below A₀ base outer h₀) (F : Fr h₀ L s.heap m) (X : (Mine.hd.heap_39 w.params).In h₀) (N : News h₀ L s.heap news) (T : Top Mine.hd.view_39 loose mean mg mb h₀) (hk : cs.kind = .function) (hp : Pre s.heap) (hd : dp + sz < recursionLimit) (hu : un + 8 * sz < cLine)
    (ret : ∀ T n u1 u2 u3 h l sv h' tk', Fr h₀ L h' m → News h₀ L h' ((T, tupOf [Value.float h u1, .float l u2, .float sv u3].toArray n) :: news) → ((greyF r g b = true ∧ sv = 0) ∨ (greyF r g b = false ∧ h = hueF r g b ∧ sv = satF r g b)) → Q (.ref T) { s with heap := h', toks := tk' }) :
    wpAny (model PySem.Challenge.rw_xe0005_01.row.prog w) (ktrTop dp un gd cn cs L a ccd cl outer) (call (.ref f) vs) Q E s :=
  xc_use C B F X N T hk hp hd hu fun r tl h' tk' F' N' _ p => by obtain ⟨T, n, u1, u2, u3, h, l, sv, rfl, hm, hc⟩ := p; exact ret T n u1 u2 u3 h l sv h' tk' F' (News.pick N' hm) hc
end
theorem kw_10 : True := by
  k_with "binaryOp Div int float" => ((k_here; k_dflt (refine div8 (by assumption) ?_)))
  k_with "call ref" => ((k_here; (with_reducible show wpAny _ _ (call (Value.ref 38) [Value.float _ _, Value.float _ _, Value.float _ _]) _ _ _); k_dflt (
  (refine' hls_use (hls_c _ (flM _) (flM _) (flM _) _ _ _ (by assumption)) ?k1r55 ?k2r55 ?k3r55 ?k4r55 ?k5r55 ?kKr55 trivial ?kdr55 ?kur55 ?_)
  (
  (case k1r55 => k_asm)
  (case k2r55 => k_asm)
  (case k3r55 => k_asm)
  (case k4r55 => k_asm)
  (case k5r55 => k_asm)
  (case kKr55 => first | exact rfl | assumption)
  (case kdr55 => ktr_room)
  (case kur55 => ktr_units))
  intro T'zq n'zq u1'zq u2'zq u3'zq hue'zq l'zq sv'zq h'zq tk'zq F'zq N'zq hc'zq
  (try dsimp only))))
  trivial
set_option maxRecDepth 100000 in
set_option maxHeartbeats 8000000 in
theorem place_c (w : World) (l : Addr) (a b c : Int) (t1 t2 t3 : Tok) (ha : 0 ≤ a ∧ a ≤ 8) (hb : 0 ≤ b ∧ b ≤ 8) (hc : 0 ≤ c ∧ c ≤ 8) :
    XC w 110 2 [.ref l] (fun h => h.IsList l [.int a t1, .int b t2, .int c t3].toArray)
    (fun _ r => PlacePost a b c r) := by
  have ok := okm ha hb hc
  k_extra "x enter"
  k_steps
  all_goals first
    | exact (place_nan ha hb hc (by assumption) (by assumption) (by assumption)).elim
    | exact (place_inf ha hb hc (by assumption) (by assumption) (by assumption)).elim
    | (refine (XEnd.mk (by with_reducible assumption) (by assumption) ?_ : XEnd _ _ _ _ _ _ _ _); first | exact place_none ha hb hc (by assumption) (by assumption) | exact place_int ha hb hc (by assumption) (by assumption) _)
theorem kw_11 : True := by
  w_top off
  k_with_none
  k_with "x mem" => (first | (with_reducible assumption) | (with_reducible exact List.mem_cons_self) | (refine' List.mem_cons_of_mem _ ?_; k_extra "x mem") | (refine' List.mem_append_left _ ?_; k_extra "x mem") | (refine' List.mem_append_right _ ?_; k_extra "x mem"))
  k_with "x enter" => ((
  refine' xc_def ?k6r57 ?k7r57 ?k8r57 (fun s => ?k9r57) ?kBr57 ?c5r57 ?c2r57 ?c3r57 ?c4r57 ?_
  (case k6r57 => k_is)
  (case k7r57 => k_is)
  (case k8r57 => decide)
  (case k9r57 => exact BindsTo.of_eq rfl)
  (case c5r57 => decide)
  (case kBr57 => exact locs rfl)
  (case c2r57 => exact rfl)
  (case c3r57 => exact rfl)
  (case c4r57 => exact rfl)
  intro loosezq meanzq mgzq mbzq dpzq unzq gdzq cnzq cszq Lzq azq ccdzq clzq outerzq basezq gzq L'zq h'zq gszq drzq oszq tkzq Ezq F'zq N'zq B'zq X'zq T'zq hpzq hdzq huzq
  (try dsimp only) 
  (try k_fold)))
  k_with "x sides" => ((
  (case k1 => k_asm)
  (case k2 => k_asm)
  (case k3 => k_asm)
  (case k4 => k_asm)
  (case k5 => k_asm)
  (case kK => first | exact rfl | assumption)
  (case kd => ktr_room)
  (case ku => ktr_units)))
  k_with "subscriptTail Name Constant ref int" => ((k_here; k_dflt ((with_reducible show wpAny _ _ (subscriptTail _ _ (Value.ref _) (Value.int _ _)) _ _ _); (with_unfolding_all refine' item_litK ?k1r59 ?k2r59 ?k3r59 ?k4r59 ?_ ?k6r59; (case k1r59 => is_list); (case k2r59 => decide); (case k3r59 => decide); (case k4r59 => rfl); (case k6r59 => with_unfolding_all rfl)))))
  k_with "subscriptTail Name BinOp ref int" => ((k_here; k_dflt ((with_reducible show wpAny _ _ (subscriptTail _ _ (Value.ref _) (Value.int _ _)) _ _ _); (with_unfolding_all refine' item_litK ?k1r60 ?k2r60 ?k3r60 ?k4r60 ?_ ?k6r60; (case k1r60 => is_list); (case k2r60 => decide); (case k3r60 => decide); (case k4r60 => rfl); (case k6r60 => with_unfolding_all rfl)))))
  k_with "subscriptTail Name Name ref int" => ((k_here; k_dflt ((with_reducible show wpAny _ _ (subscriptTail _ _ (Value.ref _) (Value.int _ _)) _ _ _); (with_unfolding_all refine' item_litK ?k1r61 ?k2r61 ?k3r61 ?k4r61 ?_ ?k6r61; (case k1r61 => is_list); (case k2r61 => decide); (case k3r61 => decide); (case k4r61 => rfl); (case k6r61 => with_unfolding_all rfl)))))
  k_with "eval Name" => ((k_here; dsimp only))
  k_with "x enterK" => ((
  refine' xc_defK ?k6r63 ?k7r63 ?k8r63 ?k9r63 ?kBr63 ?c5r63 ?c2r63 ?c3r63 ?c4r63 ?_
  (case k6r63 => k_is)
  (case k7r63 => k_is)
  (case k8r63 => decide)
  (case k9r63 => exact fun _ => rfl)
  (case c5r63 => decide)
  (case kBr63 => exact locs rfl)
  (case c2r63 => exact rfl)
  (case c3r63 => exact rfl)
  (case c4r63 => exact rfl)
  intro loosezq meanzq mgzq mbzq dpzq unzq gdzq cnzq cszq Lzq azq ccdzq clzq outerzq basezq gzq L'zq h'zq gszq drzq oszq tkzq Ezq F'zq N'zq B'zq X'zq T'zq hpzq hdzq huzq
  (try dsimp only) 
  (try k_fold)))
  k_with "x enterC" => ((
  refine' xc_defC ?k6r64 ?k7r64 ?k8r64 ?k9r64 ?kBr64 ?kDr64 ?c2r64 ?c3r64 ?c4r64 ?_
  (case k6r64 => k_is)
  (case k7r64 => k_is)
  (case k8r64 => decide)
  (case k9r64 => exact fun _ => rfl)
  (case kBr64 => exact rfl)
  (case kDr64 => decide +kernel)
  (case c2r64 => exact rfl)
  (case c3r64 => exact rfl)
  (case c4r64 => exact rfl)
  intro loosezq meanzq mgzq mbzq dpzq unzq gdzq cnzq cszq Lzq azq ccdzq clzq outerzq basezq gzq L'zq h'zq gszq drzq oszq tkzq Ezq cells'zq F'zq N'zq Y'zq B'zq X'zq T'zq hpzq hdzq huzq
  k_cells Y'zq
  (try simp only [List.cons_append, List.nil_append] at N'zq)
  (try dsimp only) 
  (try k_fold)))
  k_with "x for" => ((k_here; (rename Fr _ _ _ _ => lF'zq); (with_unfolding_all refine' For_turns lF'zq ?_; k_whole)))
  k_with "x walk" => ((repeat' ((fail_if_success (with_reducible show wpAny _ _ (pyIter (Value.ref _)) (fun it s₂ => TurnsAt _ _ _ _ _ _ _ _ _ it s₂) _ _)); first | (k_unfold; (try dsimp only)) | (k_end; wrow_close) | walk1 | (dsimp only; walk1) | (leave1; walk_say "STEP leave1"; try dsimp only) | fail "no step")))
  k_with "x walkA" => ((repeat' ((fail_if_success (with_reducible show wpAny _ _ (pyIter (Value.ref _)) (fun it s₂ => TurnsAt _ _ _ _ _ _ _ _ _ it s₂) _ _)); (fail_if_success (with_reducible show wpAny _ _ (call (Value.builtin "list.append") _) _ _ _)); first | (k_unfold; (try dsimp only)) | (k_end; wrow_close) | walk1 | (dsimp only; walk1) | (leave1; walk_say "STEP leave1"; try dsimp only) | fail "no step")))
  k_with "x off2" => ((intro y'zq hy'zq; simp only [List.mem_cons, List.not_mem_nil, not_or, or_false] at hy'zq; obtain ⟨h1'zq, h2'zq⟩ := hy'zq; simp only [h1'zq, h2'zq, if_false]))
  k_with "x off3" => ((intro y'zq hy'zq; simp only [List.mem_cons, List.not_mem_nil, not_or, or_false] at hy'zq; obtain ⟨h1'zq, h2'zq, h3'zq⟩ := hy'zq; simp only [h1'zq, h2'zq, h3'zq, if_false]))
  k_with "x sel" => (((rename _ < 3 => kizq); k_dflt (first
  | ((refine' item_sel kizq ?k1r70 ?_ ?k6r70); (case k1r70 => is_list); (case k6r70 => with_unfolding_all rfl); intro t'zq)
  | ((refine' item_sel1 kizq ?k1r70 ?_ ?k6r70); (case k1r70 => is_list); (case k6r70 => with_unfolding_all rfl); intro t'zq)
  | ((refine' item_sel2 kizq ?k1r70 ?_ ?k6r70); (case k1r70 => is_list); (case k6r70 => with_unfolding_all rfl); intro t'zq))))
  k_with "x append" => (((refine' append_L ?k1r71 ?k2r71 ?k3r71 ?zr71 ?_; (case k1r71 => k_asm); (case k2r71 => k_asm); (case k3r71 => k_upd); (case zr71 => assumption)); intro h'zq F'zq N'zq; (try dsimp only)))
  trivial
inductive VsP : List Value → List (Option Int) → Prop
  | nil : VsP [] []
  | none {vs ds} : VsP vs ds → VsP (.none :: vs) (none :: ds)
  | int {vs ds} (p : Int) (t : Tok) : VsP vs ds → VsP (.int p t :: vs) (some p :: ds)
def bump (hn : List Int) (i : Nat) : List Int := hn.set i (hn.getD i 0 + 1)
def leftStep (hn : List Int) : Option Int → List Int
  | none => hn
  | some p => bump (bump hn (((p - 1).fdiv 840).fmod 6).toNat) ((p.fdiv 840).fmod 6).toNat
def heldL (ds : List (Option Int)) : List Int := ds.foldl leftStep (List.replicate 6 0)
def LeftInv (ds : List (Option Int)) (D : Addr) (M : Str → Option Value) (tail : List (Addr × Obj)) (rem : List Value) (m : Str → Option Value) (news : List (Addr × Obj)) : Prop :=
  ∃ ds' hv hn c, VsP rem ds' ∧ IntsAre hv hn ∧ hn.length = 6 ∧ ds'.foldl leftStep hn = heldL ds ∧ OffN [Str.ofString "place"] m M ∧ news = (D, W.listOf hv.toArray c) :: tail
theorem LeftInv.fin {ds : List (Option Int)} {D : Addr} {M m : Str → Option Value} {tail news : List (Addr × Obj)} {C : (Str → Option Value) → List (Addr × Obj) → Prop} (h : LeftInv ds D M tail [] m news)
    (q : ∀ hv c u, IntsAre hv (heldL ds) → (heldL ds).length = 6 → C (fun y => if y = Str.ofString "place" then u else M y) ((D, W.listOf hv.toArray c) :: tail)) : C m news := by
  obtain ⟨ds', hv, hn, c, hr, hi, hl, hf, hm, rfl⟩ := h
  cases hr
  have hf' : hn = heldL ds := hf
  subst hf'
  exact OffN.el1 (C := fun m => C m _) hm fun u => q hv c u hi hl
def LeftOn (ds : List (Option Int)) (D : Addr) (M : Str → Option Value) (tail : List (Addr × Obj)) (rem : List Value) (hn : List Int) (o : Option Int) : Prop :=
  ∀ m' hv c, OffN [Str.ofString "place"] m' M → IntsAre hv (leftStep hn o) → LeftInv ds D M tail rem m' ((D, W.listOf hv.toArray c) :: tail)
theorem leftStep_len {hn : List Int} (h : hn.length = 6) (o : Option Int) : (leftStep hn o).length = 6 := by
  cases o with
  | none => exact h
  | some p => simp [leftStep, bump, h]
theorem LeftInv.turn {ds : List (Option Int)} {D : Addr} {M m : Str → Option Value} {tail news : List (Addr × Obj)} {v : Value} {rem : List Value} {C : Value → (Str → Option Value) → List (Addr × Obj) → Prop} (h : LeftInv ds D M tail (v :: rem) m news)
    (q0 : ∀ hv hn c u, IntsAre hv hn → hn.length = 6 → LeftOn ds D M tail rem hn none → C .none (fun y => if y = Str.ofString "place" then u else M y) ((D, W.listOf hv.toArray c) :: tail))
    (q1 : ∀ p t hv hn c u, IntsAre hv hn → hn.length = 6 → LeftOn ds D M tail rem hn (some p) → C (.int p t) (fun y => if y = Str.ofString "place" then u else M y) ((D, W.listOf hv.toArray c) :: tail)) : C v m news := by
  obtain ⟨ds', hv, hn, c, hr, hi, hl, hf, hm, rfl⟩ := h
  cases hr with
  | none hr => exact OffN.el1 (C := fun m => C _ m _) hm fun u => q0 hv hn c u hi hl fun m' hv c hm hi => ⟨_, hv, _, c, hr, hi, leftStep_len hl _, hf, hm, rfl⟩
  | int p t hr => exact OffN.el1 (C := fun m => C _ m _) hm fun u => q1 p t hv hn c u hi hl fun m' hv c hm hi => ⟨_, hv, _, c, hr, hi, leftStep_len hl _, hf, hm, rfl⟩
theorem off1_twice {a : Str} {u v : Option Value} {M : Str → Option Value} : OffN [a] (fun y => if y = a then u else if y = a then v else M y) M := fun y hy => by
  have h : ¬ y = a := by simpa using hy
  show (if y = a then u else if y = a then v else M y) = M y
  rw [if_neg h, if_neg h]
set_option maxRecDepth 100000 in
set_option maxHeartbeats 8000000 in
theorem left_c (w : World) (l : Addr) (vs : List Value) (ds : List (Option Int)) (hv : VsP vs ds) : XC w 138 1 [.ref l] (fun h => h.IsList l vs.toArray) (fun tl r => ∃ l' n u1 u2 u3, r = .ref l' ∧ (l', W.listOf [Value.int ((heldL ds).getD 0 0 - (heldL ds).getD 3 0) u1, .int ((heldL ds).getD 2 0 - (heldL ds).getD 5 0) u2, .int ((heldL ds).getD 4 0 - (heldL ds).getD 1 0) u3].toArray n) ∈ tl) := by
  k_extra "x enter"
  k_steps
  k_extra "x for"
  k_steps
  (with_reducible rename Fr _ _ _ _ => kF)
  (with_reducible rename News _ _ _ _ => kN)
  refine iter_listV (LeftInv ds _ _ _) (by rfl) kF kN (by assumption) ⟨ds, _, _, 0, hv, (by assumption), rfl, rfl, OffN.refl, rfl⟩ ?hz ?hs
  all_goals (clear kF kN)
  case hz =>
    intro m news hi
    apply LeftInv.fin hi
    intro hv' c u hiv hl h tk F' N'
    try dsimp only
    k_steps
    refine (XEnd.mk (by with_reducible assumption) (by assumption) ?_ : XEnd _ _ _ _ _ _ _ _)
    exact ⟨_, _, _, _, _, rfl, List.mem_cons_self⟩
  case hs =>
    intro I l1 v r m news hi
    try k_lt l1
    apply LeftInv.turn hi
    · intro hv' hn c u hiv hl on h tk o F' N'
      try dsimp only
      k_steps
      exact on _ _ _ off1_twice hiv
    · intro p t hv' hn c u hiv hl on h tk o F' N'
      try dsimp only
      k_steps
      exact on _ _ _ off1_twice (by assumption)
theorem kw_12 : True := by
  w_top off
  k_with_none
  k_with "x mem" => (first | (with_reducible assumption) | (with_reducible exact List.mem_cons_self) | (refine' List.mem_cons_of_mem _ ?_; k_extra "x mem") | (refine' List.mem_append_left _ ?_; k_extra "x mem") | (refine' List.mem_append_right _ ?_; k_extra "x mem"))
  k_with "x enter" => ((
  refine' xc_def ?k6r73 ?k7r73 ?k8r73 (fun s => ?k9r73) ?kBr73 ?c5r73 ?c2r73 ?c3r73 ?c4r73 ?_
  (case k6r73 => k_is)
  (case k7r73 => k_is)
  (case k8r73 => decide)
  (case k9r73 => exact BindsTo.of_eq rfl)
  (case c5r73 => decide)
  (case kBr73 => exact locs rfl)
  (case c2r73 => exact rfl)
  (case c3r73 => exact rfl)
  (case c4r73 => exact rfl)
  intro loosezq meanzq mgzq mbzq dpzq unzq gdzq cnzq cszq Lzq azq ccdzq clzq outerzq basezq gzq L'zq h'zq gszq drzq oszq tkzq Ezq F'zq N'zq B'zq X'zq T'zq hpzq hdzq huzq
  (try dsimp only) 
  (try k_fold)))
  k_with "x sides" => ((
  (case k1 => k_asm)
  (case k2 => k_asm)
  (case k3 => k_asm)
  (case k4 => k_asm)
  (case k5 => k_asm)
  (case kK => first | exact rfl | assumption)
  (case kd => ktr_room)
  (case ku => ktr_units)))
  k_with "subscriptTail Name Constant ref int" => ((k_here; k_dflt ((with_reducible show wpAny _ _ (subscriptTail _ _ (Value.ref _) (Value.int _ _)) _ _ _); (with_unfolding_all refine' item_litK ?k1r75 ?k2r75 ?k3r75 ?k4r75 ?_ ?k6r75; (case k1r75 => is_list); (case k2r75 => decide); (case k3r75 => decide); (case k4r75 => rfl); (case k6r75 => with_unfolding_all rfl)))))
  k_with "subscriptTail Name BinOp ref int" => ((k_here; k_dflt ((with_reducible show wpAny _ _ (subscriptTail _ _ (Value.ref _) (Value.int _ _)) _ _ _); (with_unfolding_all refine' item_litK ?k1r76 ?k2r76 ?k3r76 ?k4r76 ?_ ?k6r76; (case k1r76 => is_list); (case k2r76 => decide); (case k3r76 => decide); (case k4r76 => rfl); (case k6r76 => with_unfolding_all rfl)))))
  k_with "subscriptTail Name Name ref int" => ((k_here; k_dflt ((with_reducible show wpAny _ _ (subscriptTail _ _ (Value.ref _) (Value.int _ _)) _ _ _); (with_unfolding_all refine' item_litK ?k1r77 ?k2r77 ?k3r77 ?k4r77 ?_ ?k6r77; (case k1r77 => is_list); (case k2r77 => decide); (case k3r77 => decide); (case k4r77 => rfl); (case k6r77 => with_unfolding_all rfl)))))
  k_with "eval Name" => ((k_here; dsimp only))
  k_with "x enterK" => ((
  refine' xc_defK ?k6r79 ?k7r79 ?k8r79 ?k9r79 ?kBr79 ?c5r79 ?c2r79 ?c3r79 ?c4r79 ?_
  (case k6r79 => k_is)
  (case k7r79 => k_is)
  (case k8r79 => decide)
  (case k9r79 => exact fun _ => rfl)
  (case c5r79 => decide)
  (case kBr79 => exact locs rfl)
  (case c2r79 => exact rfl)
  (case c3r79 => exact rfl)
  (case c4r79 => exact rfl)
  intro loosezq meanzq mgzq mbzq dpzq unzq gdzq cnzq cszq Lzq azq ccdzq clzq outerzq basezq gzq L'zq h'zq gszq drzq oszq tkzq Ezq F'zq N'zq B'zq X'zq T'zq hpzq hdzq huzq
  (try dsimp only) 
  (try k_fold)))
  k_with "x enterC" => ((
  refine' xc_defC ?k6r80 ?k7r80 ?k8r80 ?k9r80 ?kBr80 ?kDr80 ?c2r80 ?c3r80 ?c4r80 ?_
  (case k6r80 => k_is)
  (case k7r80 => k_is)
  (case k8r80 => decide)
  (case k9r80 => exact fun _ => rfl)
  (case kBr80 => exact rfl)
  (case kDr80 => decide +kernel)
  (case c2r80 => exact rfl)
  (case c3r80 => exact rfl)
  (case c4r80 => exact rfl)
  intro loosezq meanzq mgzq mbzq dpzq unzq gdzq cnzq cszq Lzq azq ccdzq clzq outerzq basezq gzq L'zq h'zq gszq drzq oszq tkzq Ezq cells'zq F'zq N'zq Y'zq B'zq X'zq T'zq hpzq hdzq huzq
  k_cells Y'zq
  (try simp only [List.cons_append, List.nil_append] at N'zq)
  (try dsimp only) 
  (try k_fold)))
  k_with "x for" => ((k_here; (rename Fr _ _ _ _ => lF'zq); (with_unfolding_all refine' For_turns lF'zq ?_; k_whole)))
  k_with "x walk" => ((repeat' ((fail_if_success (with_reducible show wpAny _ _ (pyIter (Value.ref _)) (fun it s₂ => TurnsAt _ _ _ _ _ _ _ _ _ it s₂) _ _)); first | (k_unfold; (try dsimp only)) | (k_end; wrow_close) | walk1 | (dsimp only; walk1) | (leave1; walk_say "STEP leave1"; try dsimp only) | fail "no step")))
  k_with "x walkA" => ((repeat' ((fail_if_success (with_reducible show wpAny _ _ (pyIter (Value.ref _)) (fun it s₂ => TurnsAt _ _ _ _ _ _ _ _ _ it s₂) _ _)); (fail_if_success (with_reducible show wpAny _ _ (call (Value.builtin "list.append") _) _ _ _)); first | (k_unfold; (try dsimp only)) | (k_end; wrow_close) | walk1 | (dsimp only; walk1) | (leave1; walk_say "STEP leave1"; try dsimp only) | fail "no step")))
  k_with "x off2" => ((intro y'zq hy'zq; simp only [List.mem_cons, List.not_mem_nil, not_or, or_false] at hy'zq; obtain ⟨h1'zq, h2'zq⟩ := hy'zq; simp only [h1'zq, h2'zq, if_false]))
  k_with "x off3" => ((intro y'zq hy'zq; simp only [List.mem_cons, List.not_mem_nil, not_or, or_false] at hy'zq; obtain ⟨h1'zq, h2'zq, h3'zq⟩ := hy'zq; simp only [h1'zq, h2'zq, h3'zq, if_false]))
  k_with "x sel" => (((rename _ < 3 => kizq); k_dflt (first
  | ((refine' item_sel kizq ?k1r86 ?_ ?k6r86); (case k1r86 => is_list); (case k6r86 => with_unfolding_all rfl); intro t'zq)
  | ((refine' item_sel1 kizq ?k1r86 ?_ ?k6r86); (case k1r86 => is_list); (case k6r86 => with_unfolding_all rfl); intro t'zq)
  | ((refine' item_sel2 kizq ?k1r86 ?_ ?k6r86); (case k1r86 => is_list); (case k6r86 => with_unfolding_all rfl); intro t'zq))))
  k_with "x append" => (((refine' append_L ?k1r87 ?k2r87 ?k3r87 ?zr87 ?_; (case k1r87 => k_asm); (case k2r87 => k_asm); (case k3r87 => k_upd); (case zr87 => assumption)); intro h'zq F'zq N'zq; (try dsimp only)))
  trivial
def signAt (a b c : Int) (k : Nat) : Int := Int.sign (selZ ((k + 1) % 3) a b c - selZ ((k + 2) % 3) a b c)
theorem kw_13 : True := by
  k_with "eval IfExp" => ((k_here; (fail_if_success (with_reducible show wpAny _ _ _ (XJ _ _) _ _)); k_dflt ((with_reducible rename Fr _ _ _ _ => kFzq); (refine' x_join_of (f := Int.sign) (x := Str.ofString "step") kFzq ?xvr88 ?xar88 ?_); (case xvr88 => exact rfl); (case xar88 => ((try dsimp only); k_steps; all_goals (refine XJ.mk ?_; first | exact (Int.sign_eq_one_of_pos (by assumption)).symm | exact (Int.sign_eq_neg_one_of_neg (by assumption)).symm | (rw [eq_comm, Int.sign_eq_zero_iff_zero]; omega)))); intro u'zq tk'zq; (try dsimp only))))
  k_with "exec For Name Call" => (k_extra "x for")
  k_with "exec For Name Call cons nil" => (k_extra "x for")
  k_with "subscriptTail Name BinOp ref int" => ((k_here; k_extra "x sel"))
  k_with "call builtin:list.append" => ((k_here; k_dflt (k_extra "x append")))
  trivial
set_option maxRecDepth 100000 in
set_option maxHeartbeats 8000000 in
theorem signs_c (w : World) (l : Addr) (a b c : Int) (t1 t2 t3 : Tok) : XC w 124 1 [.ref l] (fun h => h.IsList l [.int a t1, .int b t2, .int c t3].toArray)
    (fun tl r => ∃ l' n u1 u2 u3, r = .ref l' ∧ (l', W.listOf [Value.int (Int.sign (b - c)) u1, .int (Int.sign (c - a)) u2, .int (Int.sign (a - b)) u3].toArray n) ∈ tl) := by
  k_extra "x enter"
  k_extra "x walk"
  (with_reducible rename Fr _ _ _ _ => kF)
  (with_reducible rename News _ _ _ _ => kN)
  (with_reducible rename IsRange _ _ _ _ _ _ _ _ => kI)
  refine range_loopI (n := 3) (FillInv (signAt a b c) [Str.ofString "half", Str.ofString "step"] _ _) (by rfl) kF kN (by exact kI) (by decide) (by rfl) (fun I hI => FillInv.start hI) ?hz ?hs
  all_goals (clear kF kN)
  case hz =>
    intro I m news h tk hi
    apply FillInv.fin hi
    intro t0' t1' t2' c' u' v' F' N'
    try dsimp only
    k_steps
    refine (XEnd.mk (by with_reducible assumption) (by assumption) ?_ : XEnd _ _ _ _ _ _ _ _)
    exact ⟨_, _, _, _, _, rfl, List.mem_cons_self⟩
  case hs =>
    intro k t I it m news h tk hk hi
    apply FillInv.turn hi hk
    intro ys c u v l1 iy zy F' N'
    try dsimp only
    k_steps
    (with_reducible rename Fr _ _ _ _ => kF)
    (with_reducible rename News _ _ _ _ => kN)
    exact FillInv.done kF kN l1 iy (by k_extra "x off2") rfl
theorem kw_14 : True := by
  w_top off
  k_with_none
  k_with "x mem" => (first | (with_reducible assumption) | (with_reducible exact List.mem_cons_self) | (refine' List.mem_cons_of_mem _ ?_; k_extra "x mem") | (refine' List.mem_append_left _ ?_; k_extra "x mem") | (refine' List.mem_append_right _ ?_; k_extra "x mem"))
  k_with "x enter" => ((
  refine' xc_def ?k6r94 ?k7r94 ?k8r94 (fun s => ?k9r94) ?kBr94 ?c5r94 ?c2r94 ?c3r94 ?c4r94 ?_
  (case k6r94 => k_is)
  (case k7r94 => k_is)
  (case k8r94 => decide)
  (case k9r94 => exact BindsTo.of_eq rfl)
  (case c5r94 => decide)
  (case kBr94 => exact locs rfl)
  (case c2r94 => exact rfl)
  (case c3r94 => exact rfl)
  (case c4r94 => exact rfl)
  intro loosezq meanzq mgzq mbzq dpzq unzq gdzq cnzq cszq Lzq azq ccdzq clzq outerzq basezq gzq L'zq h'zq gszq drzq oszq tkzq Ezq F'zq N'zq B'zq X'zq T'zq hpzq hdzq huzq
  (try dsimp only) 
  (try k_fold)))
  k_with "x sides" => ((
  (case k1 => k_asm)
  (case k2 => k_asm)
  (case k3 => k_asm)
  (case k4 => k_asm)
  (case k5 => k_asm)
  (case kK => first | exact rfl | assumption)
  (case kd => ktr_room)
  (case ku => ktr_units)))
  k_with "subscriptTail Name Constant ref int" => ((k_here; k_dflt ((with_reducible show wpAny _ _ (subscriptTail _ _ (Value.ref _) (Value.int _ _)) _ _ _); (with_unfolding_all refine' item_litK ?k1r96 ?k2r96 ?k3r96 ?k4r96 ?_ ?k6r96; (case k1r96 => is_list); (case k2r96 => decide); (case k3r96 => decide); (case k4r96 => rfl); (case k6r96 => with_unfolding_all rfl)))))
  k_with "subscriptTail Name BinOp ref int" => ((k_here; k_dflt ((with_reducible show wpAny _ _ (subscriptTail _ _ (Value.ref _) (Value.int _ _)) _ _ _); (with_unfolding_all refine' item_litK ?k1r97 ?k2r97 ?k3r97 ?k4r97 ?_ ?k6r97; (case k1r97 => is_list); (case k2r97 => decide); (case k3r97 => decide); (case k4r97 => rfl); (case k6r97 => with_unfolding_all rfl)))))
  k_with "subscriptTail Name Name ref int" => ((k_here; k_dflt ((with_reducible show wpAny _ _ (subscriptTail _ _ (Value.ref _) (Value.int _ _)) _ _ _); (with_unfolding_all refine' item_litK ?k1r98 ?k2r98 ?k3r98 ?k4r98 ?_ ?k6r98; (case k1r98 => is_list); (case k2r98 => decide); (case k3r98 => decide); (case k4r98 => rfl); (case k6r98 => with_unfolding_all rfl)))))
  k_with "eval Name" => ((k_here; dsimp only))
  k_with "x enterK" => ((
  refine' xc_defK ?k6r100 ?k7r100 ?k8r100 ?k9r100 ?kBr100 ?c5r100 ?c2r100 ?c3r100 ?c4r100 ?_
  (case k6r100 => k_is)
  (case k7r100 => k_is)
  (case k8r100 => decide)
  (case k9r100 => exact fun _ => rfl)
  (case c5r100 => decide)
  (case kBr100 => exact locs rfl)
  (case c2r100 => exact rfl)
  (case c3r100 => exact rfl)
  (case c4r100 => exact rfl)
  intro loosezq meanzq mgzq mbzq dpzq unzq gdzq cnzq cszq Lzq azq ccdzq clzq outerzq basezq gzq L'zq h'zq gszq drzq oszq tkzq Ezq F'zq N'zq B'zq X'zq T'zq hpzq hdzq huzq
  (try dsimp only) 
  (try k_fold)))
  k_with "x enterC" => ((
  refine' xc_defC ?k6r101 ?k7r101 ?k8r101 ?k9r101 ?kBr101 ?kDr101 ?c2r101 ?c3r101 ?c4r101 ?_
  (case k6r101 => k_is)
  (case k7r101 => k_is)
  (case k8r101 => decide)
  (case k9r101 => exact fun _ => rfl)
  (case kBr101 => exact rfl)
  (case kDr101 => decide +kernel)
  (case c2r101 => exact rfl)
  (case c3r101 => exact rfl)
  (case c4r101 => exact rfl)
  intro loosezq meanzq mgzq mbzq dpzq unzq gdzq cnzq cszq Lzq azq ccdzq clzq outerzq basezq gzq L'zq h'zq gszq drzq oszq tkzq Ezq cells'zq F'zq N'zq Y'zq B'zq X'zq T'zq hpzq hdzq huzq
  k_cells Y'zq
  (try simp only [List.cons_append, List.nil_append] at N'zq)
  (try dsimp only) 
  (try k_fold)))
  k_with "x for" => ((k_here; (rename Fr _ _ _ _ => lF'zq); (with_unfolding_all refine' For_turns lF'zq ?_; k_whole)))
  k_with "x walk" => ((repeat' ((fail_if_success (with_reducible show wpAny _ _ (pyIter (Value.ref _)) (fun it s₂ => TurnsAt _ _ _ _ _ _ _ _ _ it s₂) _ _)); first | (k_unfold; (try dsimp only)) | (k_end; wrow_close) | walk1 | (dsimp only; walk1) | (leave1; walk_say "STEP leave1"; try dsimp only) | fail "no step")))
  k_with "x walkA" => ((repeat' ((fail_if_success (with_reducible show wpAny _ _ (pyIter (Value.ref _)) (fun it s₂ => TurnsAt _ _ _ _ _ _ _ _ _ it s₂) _ _)); (fail_if_success (with_reducible show wpAny _ _ (call (Value.builtin "list.append") _) _ _ _)); first | (k_unfold; (try dsimp only)) | (k_end; wrow_close) | walk1 | (dsimp only; walk1) | (leave1; walk_say "STEP leave1"; try dsimp only) | fail "no step")))
  k_with "x off2" => ((intro y'zq hy'zq; simp only [List.mem_cons, List.not_mem_nil, not_or, or_false] at hy'zq; obtain ⟨h1'zq, h2'zq⟩ := hy'zq; simp only [h1'zq, h2'zq, if_false]))
  k_with "x off3" => ((intro y'zq hy'zq; simp only [List.mem_cons, List.not_mem_nil, not_or, or_false] at hy'zq; obtain ⟨h1'zq, h2'zq, h3'zq⟩ := hy'zq; simp only [h1'zq, h2'zq, h3'zq, if_false]))
  k_with "x sel" => (((rename _ < 3 => kizq); k_dflt (first
  | ((refine' item_sel kizq ?k1r107 ?_ ?k6r107); (case k1r107 => is_list); (case k6r107 => with_unfolding_all rfl); intro t'zq)
  | ((refine' item_sel1 kizq ?k1r107 ?_ ?k6r107); (case k1r107 => is_list); (case k6r107 => with_unfolding_all rfl); intro t'zq)
  | ((refine' item_sel2 kizq ?k1r107 ?_ ?k6r107); (case k1r107 => is_list); (case k6r107 => with_unfolding_all rfl); intro t'zq))))
  k_with "x append" => (((refine' append_L ?k1r108 ?k2r108 ?k3r108 ?zr108 ?_; (case k1r108 => k_asm); (case k2r108 => k_asm); (case k3r108 => k_upd); (case zr108 => assumption)); intro h'zq F'zq N'zq; (try dsimp only)))
  trivial
def sideZ (p k : Int) : Int := if ((p - 1680 * k).fmod 5040).fmod 2520 = 0 then 0 else if (p - 1680 * k).fmod 5040 < 2520 then 1 else -1
theorem side0 {p k : Int} (h : ((p - 1680 * k).fmod 5040).fmod 2520 = 0) : 0 = sideZ p k := (if_pos h).symm
theorem side1 {p k : Int} (h : ¬ ((p - 1680 * k).fmod 5040).fmod 2520 = 0) (h2 : (p - 1680 * k).fmod 5040 < 2520) : 1 = sideZ p k := by unfold sideZ; rw [if_neg h, if_pos h2]
theorem side2 {p k : Int} (h : ¬ ((p - 1680 * k).fmod 5040).fmod 2520 = 0) (h2 : ¬ (p - 1680 * k).fmod 5040 < 2520) : -1 = sideZ p k := by unfold sideZ; rw [if_neg h, if_neg h2]
theorem kw_15 : True := by
  k_with "exec For Name Call" => (k_extra "x for")
  k_with "exec For Name Call cons nil" => (k_extra "x for")
  k_with "call builtin:list.append" => ((k_here; k_dflt (k_extra "x append")))
  trivial
set_option maxRecDepth 100000 in
set_option maxHeartbeats 8000000 in
theorem sides_c (w : World) (p : Int) (t : Tok) : XC w 117 1 [.int p t] (fun _ => True) (fun tl r => ∃ l' n u1 u2 u3, r = .ref l' ∧ (l', W.listOf [Value.int (sideZ p 0) u1, .int (sideZ p 1) u2, .int (sideZ p 2) u3].toArray n) ∈ tl) := by
  k_extra "x enter"
  k_extra "x walk"
  (with_reducible rename Fr _ _ _ _ => kF)
  (with_reducible rename News _ _ _ _ => kN)
  (with_reducible rename IsRange _ _ _ _ _ _ _ _ => kI)
  refine range_loopI (n := 3) (FillInv (fun k => sideZ p k) [Str.ofString "half", Str.ofString "turned"] _ _) (by rfl) kF kN (by exact kI) (by decide) (by rfl) (fun I hI => FillInv.start hI) ?hz ?hs
  all_goals (clear kF kN)
  case hz =>
    intro I m news h tk hi
    apply FillInv.fin hi
    intro t0' t1' t2' c' u' v' F' N'
    try dsimp only
    k_steps
    refine (XEnd.mk (by with_reducible assumption) (by assumption) ?_ : XEnd _ _ _ _ _ _ _ _)
    exact ⟨_, _, _, _, _, rfl, List.mem_cons_self⟩
  case hs =>
    intro k t I it m news h tk hk hi
    apply FillInv.turn hi hk
    intro ys c u v l1 iy zy F' N'
    try dsimp only
    k_steps
    all_goals (with_reducible rename Fr _ _ _ _ => kF)
    all_goals (with_reducible rename News _ _ _ _ => kN)
    all_goals first
      | exact FillInv.done kF kN l1 iy (by k_extra "x off2") (side0 (by assumption))
      | exact FillInv.done kF kN l1 iy (by k_extra "x off2") (side1 (by assumption) (by assumption))
      | exact FillInv.done kF kN l1 iy (by k_extra "x off2") (side2 (by assumption) (by assumption))
theorem kw_16 : True := by
  w_top off
  k_with_none
  k_with "x mem" => (first | (with_reducible assumption) | (with_reducible exact List.mem_cons_self) | (refine' List.mem_cons_of_mem _ ?_; k_extra "x mem") | (refine' List.mem_append_left _ ?_; k_extra "x mem") | (refine' List.mem_append_right _ ?_; k_extra "x mem"))
  k_with "x enter" => ((
  refine' xc_def ?k6r113 ?k7r113 ?k8r113 (fun s => ?k9r113) ?kBr113 ?c5r113 ?c2r113 ?c3r113 ?c4r113 ?_
  (case k6r113 => k_is)
  (case k7r113 => k_is)
  (case k8r113 => decide)
  (case k9r113 => exact BindsTo.of_eq rfl)
  (case c5r113 => decide)
  (case kBr113 => exact locs rfl)
  (case c2r113 => exact rfl)
  (case c3r113 => exact rfl)
  (case c4r113 => exact rfl)
  intro loosezq meanzq mgzq mbzq dpzq unzq gdzq cnzq cszq Lzq azq ccdzq clzq outerzq basezq gzq L'zq h'zq gszq drzq oszq tkzq Ezq F'zq N'zq B'zq X'zq T'zq hpzq hdzq huzq
  (try dsimp only) 
  (try k_fold)))
  k_with "x sides" => ((
  (case k1 => k_asm)
  (case k2 => k_asm)
  (case k3 => k_asm)
  (case k4 => k_asm)
  (case k5 => k_asm)
  (case kK => first | exact rfl | assumption)
  (case kd => ktr_room)
  (case ku => ktr_units)))
  k_with "subscriptTail Name Constant ref int" => ((k_here; k_dflt ((with_reducible show wpAny _ _ (subscriptTail _ _ (Value.ref _) (Value.int _ _)) _ _ _); (with_unfolding_all refine' item_litK ?k1r115 ?k2r115 ?k3r115 ?k4r115 ?_ ?k6r115; (case k1r115 => is_list); (case k2r115 => decide); (case k3r115 => decide); (case k4r115 => rfl); (case k6r115 => with_unfolding_all rfl)))))
  k_with "subscriptTail Name BinOp ref int" => ((k_here; k_dflt ((with_reducible show wpAny _ _ (subscriptTail _ _ (Value.ref _) (Value.int _ _)) _ _ _); (with_unfolding_all refine' item_litK ?k1r116 ?k2r116 ?k3r116 ?k4r116 ?_ ?k6r116; (case k1r116 => is_list); (case k2r116 => decide); (case k3r116 => decide); (case k4r116 => rfl); (case k6r116 => with_unfolding_all rfl)))))
  k_with "subscriptTail Name Name ref int" => ((k_here; k_dflt ((with_reducible show wpAny _ _ (subscriptTail _ _ (Value.ref _) (Value.int _ _)) _ _ _); (with_unfolding_all refine' item_litK ?k1r117 ?k2r117 ?k3r117 ?k4r117 ?_ ?k6r117; (case k1r117 => is_list); (case k2r117 => decide); (case k3r117 => decide); (case k4r117 => rfl); (case k6r117 => with_unfolding_all rfl)))))
  k_with "eval Name" => ((k_here; dsimp only))
  trivial
theorem ints3 {v : List Value} {n : List Int} (hv : IntsAre v n) (hn : n.length = 3) : ∃ x y z t0 t1 t2, n = [x, y, z] ∧ v = [.int x t0, .int y t1, .int z t2] := by
  match n, hn with
  | [x, y, z], _ =>
    rcases hv with _ | ⟨_, t0, hv⟩
    rcases hv with _ | ⟨_, t1, hv⟩
    rcases hv with _ | ⟨_, t2, hv⟩
    cases hv
    exact ⟨_, _, _, _, _, _, rfl, rfl⟩
theorem perm_sum {x y z a b c : Int} (h : [x, y, z].Perm [a, b, c]) : x + y + z = a + b + c := by
  have := h.foldl_eq' (f := fun (s x : Int) => s + x) (by intros; omega) 0
  simp only [List.foldl_cons, List.foldl_nil] at this
  omega
def mid3 (a b c : Int) : Int := a + b + c - max a (max b c) - min a (min b c)
def fitsB (a b c : Int) : Bool := match placeZ a b c with
  | none => max a (max b c) == min a (min b c)
  | some p => decide (0 ≤ p) && decide (p < 5040) && ((if 1680 - p.fmod 1680 < p.fmod 1680 then 1680 - p.fmod 1680 else p.fmod 1680) * (max a (max b c) - min a (min b c)) == 840 * (mid3 a b c - min a (min b c))) && sideZ p 0 == Int.sign (b - c) && sideZ p 1 == Int.sign (c - a) && sideZ p 2 == Int.sign (a - b)
theorem fits_all : ∀ a b c : Fin 9, fitsB a.val b.val c.val = true := by decide +kernel
theorem fitsm {a b c : Int} (ha : 0 ≤ a ∧ a ≤ 8) (hb : 0 ≤ b ∧ b ≤ 8) (hc : 0 ≤ c ∧ c ≤ 8) : fitsB a b c = true := by
  have := fits_all ⟨a.toNat, by omega⟩ ⟨b.toNat, by omega⟩ ⟨c.toNat, by omega⟩
  simpa [Int.toNat_of_nonneg ha.1, Int.toNat_of_nonneg hb.1, Int.toNat_of_nonneg hc.1] using this
theorem mem3 {x a b c : Int} {p : Int → Prop} (h : x ∈ [a, b, c]) (ha : p a) (hb : p b) (hc : p c) : p x := by
  simp only [List.mem_cons, List.not_mem_nil, or_false] at h
  rcases h with rfl | rfl | rfl
  · exact ha
  · exact hb
  · exact hc
theorem min3_is {x a b c : Int} (h : x ∈ [a, b, c]) (ha : x ≤ a) (hb : x ≤ b) (hc : x ≤ c) : x = min a (min b c) :=
  Int.le_antisymm (Int.le_min.mpr ⟨ha, Int.le_min.mpr ⟨hb, hc⟩⟩) (mem3 (p := fun y => min a (min b c) ≤ y) h (Int.min_le_left _ _) (Int.le_trans (Int.min_le_right _ _) (Int.min_le_left _ _)) (Int.le_trans (Int.min_le_right _ _) (Int.min_le_right _ _)))
theorem max3_is {x a b c : Int} (h : x ∈ [a, b, c]) (ha : a ≤ x) (hb : b ≤ x) (hc : c ≤ x) : x = max a (max b c) :=
  Int.le_antisymm (mem3 (p := fun y => y ≤ max a (max b c)) h (Int.le_max_left _ _) (Int.le_trans (Int.le_max_left _ _) (Int.le_max_right _ _)) (Int.le_trans (Int.le_max_right _ _) (Int.le_max_right _ _))) (Int.max_le.mpr ⟨ha, Int.max_le.mpr ⟨hb, hc⟩⟩)
theorem sort3 {x y z a b c : Int} (h : [x, y, z].Perm [a, b, c]) (h1 : x ≤ y) (h2 : y ≤ z) : x = min a (min b c) ∧ y = mid3 a b c ∧ z = max a (max b c) := by
  have hs := perm_sum h
  have h3 := Int.le_trans h1 h2
  have lo : ∀ v ∈ [a, b, c], x ≤ v := fun v hv => mem3 (p := fun v => x ≤ v) (h.mem_iff.mpr hv) (Int.le_refl x) h1 h3
  have hi : ∀ v ∈ [a, b, c], v ≤ z := fun v hv => mem3 (p := fun v => v ≤ z) (h.mem_iff.mpr hv) h3 h2 (Int.le_refl z)
  have ex := min3_is (h.mem_iff.mp (List.mem_cons_self)) (lo a (by simp)) (lo b (by simp)) (lo c (by simp))
  have ez := max3_is (x := z) (h.mem_iff.mp (by simp)) (hi a (by simp)) (hi b (by simp)) (hi c (by simp))
  refine ⟨ex, ?_, ez⟩
  unfold mid3
  rw [← ex, ← ez]
  omega
theorem sorted3 {ys : List Value} {ns : List Int} {a b c : Int} {C : List Value → Prop} (hP : ns.Perm [a, b, c]) (hI : IntsAre ys ns) (hL : ns.length = 3) (hS : ns.Pairwise (fun x y => x ≤ y))
    (k : ∀ t1 t2 t3, C [.int (min a (min b c)) t1, .int (mid3 a b c) t2, .int (max a (max b c)) t3]) : C ys := by
  obtain ⟨x, y, z, tx, ty, tz, e1, e2⟩ := ints3 hI hL
  subst e1 e2
  simp only [List.pairwise_cons, List.mem_cons, List.not_mem_nil, or_false] at hS
  obtain ⟨hx, hy, hz⟩ := sort3 hP (hS.1 y (.inl rfl)) (hS.2.1 z rfl)
  subst hx hy hz
  exact k tx ty tz
theorem fits_some {a b c p : Int} (ha : 0 ≤ a ∧ a ≤ 8) (hb : 0 ≤ b ∧ b ≤ 8) (hc : 0 ≤ c ∧ c ≤ 8) (h : placeZ a b c = some p) : (0 ≤ p ∧ p < 5040) ∧ (if 1680 - p.fmod 1680 < p.fmod 1680 then 1680 - p.fmod 1680 else p.fmod 1680) * (max a (max b c) - min a (min b c)) = 840 * (mid3 a b c - min a (min b c)) ∧ sideZ p 0 = Int.sign (b - c) ∧ sideZ p 1 = Int.sign (c - a) ∧ sideZ p 2 = Int.sign (a - b) := by
  have := fitsm ha hb hc
  unfold fitsB at this
  rw [h] at this
  simp only [Bool.and_eq_true, decide_eq_true_eq, beq_iff_eq] at this
  obtain ⟨⟨⟨⟨⟨h1, h2⟩, h3⟩, h4⟩, h5⟩, h6⟩ := this
  exact ⟨⟨h1, h2⟩, h3, h4, h5, h6⟩
theorem fits_none {a b c : Int} (ha : 0 ≤ a ∧ a ≤ 8) (hb : 0 ≤ b ∧ b ≤ 8) (hc : 0 ≤ c ∧ c ≤ 8) (h : placeZ a b c = none) : max a (max b c) = min a (min b c) := by
  have := fitsm ha hb hc
  unfold fitsB at this
  rw [h] at this
  simpa using this
theorem kw_17 : True := by
  k_with "call ref" => ((k_here; (with_reducible show wpAny _ _ (call (Value.ref 117) [Value.int _ _]) _ _ _); k_dflt (
  (refine' xc_use_l3 (sides_c _ _ _) ?k1r119 ?k2r119 ?k3r119 ?k4r119 ?k5r119 ?kKr119 trivial ?kdr119 ?kur119 ?_); (
  (case k1r119 => k_asm)
  (case k2r119 => k_asm)
  (case k3r119 => k_asm)
  (case k4r119 => k_asm)
  (case k5r119 => k_asm)
  (case kKr119 => first | exact rfl | assumption)
  (case kdr119 => ktr_room)
  (case kur119 => ktr_units)); intro l'zq n'zq u1'zq u2'zq u3'zq h'zq tk'zq F'zq N'zq a'zq; clear a'zq; (try dsimp only))))
  k_with "call ref" => ((k_here; (with_reducible show wpAny _ _ (call (Value.ref 124) [Value.ref _]) _ _ _); k_dflt (
  (refine' xc_use_l3 (signs_c _ _ _ _ _ _ _ _) ?k1r120 ?k2r120 ?k3r120 ?k4r120 ?k5r120 ?kKr120 ?kpr120 ?kdr120 ?kur120 ?_); (case kpr120 => is_list); (
  (case k1r120 => k_asm)
  (case k2r120 => k_asm)
  (case k3r120 => k_asm)
  (case k4r120 => k_asm)
  (case k5r120 => k_asm)
  (case kKr120 => first | exact rfl | assumption)
  (case kdr120 => ktr_room)
  (case kur120 => ktr_units)); intro l'zq n'zq u1'zq u2'zq u3'zq h'zq tk'zq F'zq N'zq a'zq; clear a'zq; (try dsimp only))))
  k_with "x sorted" => ((
  (rename List.Perm _ _ => kPzq)
  (rename IntsAre _ _ => kIzq)
  (rename List.length _ = _ => kLzq)
  (rename List.Pairwise _ _ => kSzq)
  (with_reducible rename News _ _ _ _ => kNzq)
  (revert kNzq)
  (apply sorted3 kPzq kIzq kLzq kSzq)
  (clear kPzq kIzq kLzq kSzq)
  intro txzq tyzq tzzq N'zq))
  trivial
set_option maxRecDepth 100000 in
set_option maxHeartbeats 8000000 in
theorem fits_c (w : World) (p : Int) (t : Tok) (l : Addr) (a b c : Int) (t1 t2 t3 : Tok) (ha : 0 ≤ a ∧ a ≤ 8) (hb : 0 ≤ b ∧ b ≤ 8) (hc : 0 ≤ c ∧ c ≤ 8) (hq : placeZ a b c = some p) : XC w 131 12 [.int p t, .ref l] (fun h => h.IsList l [.int a t1, .int b t2, .int c t3].toArray) (fun _ r => r = .bool true) := by
  obtain ⟨h0, e1, e2, e3, e4⟩ := fits_some ha hb hc hq
  k_extra "x enter"
  k_steps
  k_extra "x sorted"
  k_steps
  · exact absurd e1 (by assumption)
  · refine (XEnd.mk (by with_reducible assumption) (by assumption) ?_ : XEnd _ _ _ _ _ _ _ _)
    rw [e2, e3, e4]
    simp
set_option maxRecDepth 100000 in
set_option maxHeartbeats 8000000 in
theorem fitsN_c (w : World) (l : Addr) (a b c : Int) (t1 t2 t3 : Tok) (ha : 0 ≤ a ∧ a ≤ 8) (hb : 0 ≤ b ∧ b ≤ 8) (hc : 0 ≤ c ∧ c ≤ 8) (hq : placeZ a b c = none) : XC w 131 12 [.none, .ref l] (fun h => h.IsList l [.int a t1, .int b t2, .int c t3].toArray) (fun _ r => r = .bool true) := by
  have e1 := fits_none ha hb hc hq
  k_extra "x enter"
  k_steps
  k_extra "x sorted"
  rw [e1] at *
  k_steps
  refine (XEnd.mk (by with_reducible assumption) (by assumption) ?_ : XEnd _ _ _ _ _ _ _ _)
  simp
theorem kw_18 : True := by
  w_top off
  k_with_none
  k_with "x mem" => (first | (with_reducible assumption) | (with_reducible exact List.mem_cons_self) | (refine' List.mem_cons_of_mem _ ?_; k_extra "x mem") | (refine' List.mem_append_left _ ?_; k_extra "x mem") | (refine' List.mem_append_right _ ?_; k_extra "x mem"))
  k_with "x enter" => ((
  refine' xc_def ?k6r123 ?k7r123 ?k8r123 (fun s => ?k9r123) ?kBr123 ?c5r123 ?c2r123 ?c3r123 ?c4r123 ?_
  (case k6r123 => k_is)
  (case k7r123 => k_is)
  (case k8r123 => decide)
  (case k9r123 => exact BindsTo.of_eq rfl)
  (case c5r123 => decide)
  (case kBr123 => exact locs rfl)
  (case c2r123 => exact rfl)
  (case c3r123 => exact rfl)
  (case c4r123 => exact rfl)
  intro loosezq meanzq mgzq mbzq dpzq unzq gdzq cnzq cszq Lzq azq ccdzq clzq outerzq basezq gzq L'zq h'zq gszq drzq oszq tkzq Ezq F'zq N'zq B'zq X'zq T'zq hpzq hdzq huzq
  (try dsimp only) 
  (try k_fold)))
  k_with "x sides" => ((
  (case k1 => k_asm)
  (case k2 => k_asm)
  (case k3 => k_asm)
  (case k4 => k_asm)
  (case k5 => k_asm)
  (case kK => first | exact rfl | assumption)
  (case kd => ktr_room)
  (case ku => ktr_units)))
  k_with "subscriptTail Name Constant ref int" => ((k_here; k_dflt ((with_reducible show wpAny _ _ (subscriptTail _ _ (Value.ref _) (Value.int _ _)) _ _ _); (with_unfolding_all refine' item_litK ?k1r125 ?k2r125 ?k3r125 ?k4r125 ?_ ?k6r125; (case k1r125 => is_list); (case k2r125 => decide); (case k3r125 => decide); (case k4r125 => rfl); (case k6r125 => with_unfolding_all rfl)))))
  k_with "subscriptTail Name BinOp ref int" => ((k_here; k_dflt ((with_reducible show wpAny _ _ (subscriptTail _ _ (Value.ref _) (Value.int _ _)) _ _ _); (with_unfolding_all refine' item_litK ?k1r126 ?k2r126 ?k3r126 ?k4r126 ?_ ?k6r126; (case k1r126 => is_list); (case k2r126 => decide); (case k3r126 => decide); (case k4r126 => rfl); (case k6r126 => with_unfolding_all rfl)))))
  k_with "subscriptTail Name Name ref int" => ((k_here; k_dflt ((with_reducible show wpAny _ _ (subscriptTail _ _ (Value.ref _) (Value.int _ _)) _ _ _); (with_unfolding_all refine' item_litK ?k1r127 ?k2r127 ?k3r127 ?k4r127 ?_ ?k6r127; (case k1r127 => is_list); (case k2r127 => decide); (case k3r127 => decide); (case k4r127 => rfl); (case k6r127 => with_unfolding_all rfl)))))
  k_with "eval Name" => ((k_here; dsimp only))
  k_with "x enterK" => ((
  refine' xc_defK ?k6r129 ?k7r129 ?k8r129 ?k9r129 ?kBr129 ?c5r129 ?c2r129 ?c3r129 ?c4r129 ?_
  (case k6r129 => k_is)
  (case k7r129 => k_is)
  (case k8r129 => decide)
  (case k9r129 => exact fun _ => rfl)
  (case c5r129 => decide)
  (case kBr129 => exact locs rfl)
  (case c2r129 => exact rfl)
  (case c3r129 => exact rfl)
  (case c4r129 => exact rfl)
  intro loosezq meanzq mgzq mbzq dpzq unzq gdzq cnzq cszq Lzq azq ccdzq clzq outerzq basezq gzq L'zq h'zq gszq drzq oszq tkzq Ezq F'zq N'zq B'zq X'zq T'zq hpzq hdzq huzq
  (try dsimp only) 
  (try k_fold)))
  k_with "x enterC" => ((
  refine' xc_defC ?k6r130 ?k7r130 ?k8r130 ?k9r130 ?kBr130 ?kDr130 ?c2r130 ?c3r130 ?c4r130 ?_
  (case k6r130 => k_is)
  (case k7r130 => k_is)
  (case k8r130 => decide)
  (case k9r130 => exact fun _ => rfl)
  (case kBr130 => exact rfl)
  (case kDr130 => decide +kernel)
  (case c2r130 => exact rfl)
  (case c3r130 => exact rfl)
  (case c4r130 => exact rfl)
  intro loosezq meanzq mgzq mbzq dpzq unzq gdzq cnzq cszq Lzq azq ccdzq clzq outerzq basezq gzq L'zq h'zq gszq drzq oszq tkzq Ezq cells'zq F'zq N'zq Y'zq B'zq X'zq T'zq hpzq hdzq huzq
  k_cells Y'zq
  (try simp only [List.cons_append, List.nil_append] at N'zq)
  (try dsimp only) 
  (try k_fold)))
  k_with "x for" => ((k_here; (rename Fr _ _ _ _ => lF'zq); (with_unfolding_all refine' For_turns lF'zq ?_; k_whole)))
  k_with "x walk" => ((repeat' ((fail_if_success (with_reducible show wpAny _ _ (pyIter (Value.ref _)) (fun it s₂ => TurnsAt _ _ _ _ _ _ _ _ _ it s₂) _ _)); first | (k_unfold; (try dsimp only)) | (k_end; wrow_close) | walk1 | (dsimp only; walk1) | (leave1; walk_say "STEP leave1"; try dsimp only) | fail "no step")))
  k_with "x walkA" => ((repeat' ((fail_if_success (with_reducible show wpAny _ _ (pyIter (Value.ref _)) (fun it s₂ => TurnsAt _ _ _ _ _ _ _ _ _ it s₂) _ _)); (fail_if_success (with_reducible show wpAny _ _ (call (Value.builtin "list.append") _) _ _ _)); first | (k_unfold; (try dsimp only)) | (k_end; wrow_close) | walk1 | (dsimp only; walk1) | (leave1; walk_say "STEP leave1"; try dsimp only) | fail "no step")))
  k_with "x off2" => ((intro y'zq hy'zq; simp only [List.mem_cons, List.not_mem_nil, not_or, or_false] at hy'zq; obtain ⟨h1'zq, h2'zq⟩ := hy'zq; simp only [h1'zq, h2'zq, if_false]))
  k_with "x off3" => ((intro y'zq hy'zq; simp only [List.mem_cons, List.not_mem_nil, not_or, or_false] at hy'zq; obtain ⟨h1'zq, h2'zq, h3'zq⟩ := hy'zq; simp only [h1'zq, h2'zq, h3'zq, if_false]))
  k_with "x sel" => (((rename _ < 3 => kizq); k_dflt (first
  | ((refine' item_sel kizq ?k1r136 ?_ ?k6r136); (case k1r136 => is_list); (case k6r136 => with_unfolding_all rfl); intro t'zq)
  | ((refine' item_sel1 kizq ?k1r136 ?_ ?k6r136); (case k1r136 => is_list); (case k6r136 => with_unfolding_all rfl); intro t'zq)
  | ((refine' item_sel2 kizq ?k1r136 ?_ ?k6r136); (case k1r136 => is_list); (case k6r136 => with_unfolding_all rfl); intro t'zq))))
  k_with "x append" => (((refine' append_L ?k1r137 ?k2r137 ?k3r137 ?zr137 ?_; (case k1r137 => k_asm); (case k2r137 => k_asm); (case k3r137 => k_upd); (case zr137 => assumption)); intro h'zq F'zq N'zq; (try dsimp only)))
  trivial
/-! ## ballots on a heap -/
abbrev Ballot := (Int × Int × Int) × Int
inductive BallotsV (g : Heap) : List Value → List Ballot → Prop
  | nil : BallotsV g [] []
  | cons {vs ds} (T M : Addr) (a b c h : Int) (t0 t1 t2 t3 : Tok) : IsTup g T #[.ref M, .int h t0] → g.IsList M [.int a t1, .int b t2, .int c t3].toArray → 0 ≤ a ∧ a ≤ 8 → 0 ≤ b ∧ b ≤ 8 → 0 ≤ c ∧ c ≤ 8 → 0 ≤ h ∧ h ≤ 9 → BallotsV g vs ds → BallotsV g (.ref T :: vs) (((a, b, c), h) :: ds)
section
variable {prog : Program} {w : World} {A : Around} {E : Value → Shared → Prop} {s : Shared} {env : Env} {h₀ : Heap} {target : PySem.Expr} {body : List Stmt} {Q : Flow → Shared → Prop}
theorem iter_listInvL {ax : Addr} {lo : Obj} {vs : List Value} {n : Nat} {m₀ : Str → Option Value} {news : List (Addr × Obj)} (Inv : List Itm → (Str → Option Value) → List (Addr × Obj) → Prop)
    (hh : A.handled = none) (F : Fr h₀ env.locals s.heap m₀) (N : News h₀ env.locals s.heap news) (hm : (ax, lo) ∈ news) (hc : lo.cls = .type "list") (hd : lo.data = .seq vs.toArray n) (h0 : Inv (vs.map .val) m₀ news)
    (hz : ∀ m news, Inv [] m news → ∀ h tk, Fr h₀ env.locals h m → News h₀ env.locals h news → Q .next { s with heap := h, toks := tk })
    (hs : ∀ (I : Addr), (∀ p ∈ news, p.1 < I) → ∀ a r m news, Inv (a :: r) m news → ∀ v h tk, a.Is v h → Fr h₀ env.locals h m → AllObj [(I, "list_iterator")] (fun its => News h₀ env.locals h (its ++ news) →
      wpAny (model prog w) A (assign target env v) (fun _ s₂ => wpAny (model prog w) A (execs body env) (UnrPostW h₀ env.locals { s with heap := h, toks := tk } its (fun m' n' => SubL [(ax, lo)] n' ∧ Inv r m' n') Q) E s₂) E { s with heap := h, toks := tk })) :
    wpAny (model prog w) A (pyIter (.ref ax)) (fun it s₂ => TurnsAt prog w A h₀ env target body Q E it s₂) E s :=
  iter_listTurns hh F N hm hc hd fun I hl => rest_ind Inv hz (hs I hl) _ _ _ h0
end
theorem kw_19 : True := by
  w_top off
  k_with_none
  k_with "x mem" => (first | (with_reducible assumption) | (with_reducible exact List.mem_cons_self) | (refine' List.mem_cons_of_mem _ ?_; k_extra "x mem") | (refine' List.mem_append_left _ ?_; k_extra "x mem") | (refine' List.mem_append_right _ ?_; k_extra "x mem"))
  k_with "x enter" => ((
  refine' xc_def ?k6r139 ?k7r139 ?k8r139 (fun s => ?k9r139) ?kBr139 ?c5r139 ?c2r139 ?c3r139 ?c4r139 ?_
  (case k6r139 => k_is)
  (case k7r139 => k_is)
  (case k8r139 => decide)
  (case k9r139 => exact BindsTo.of_eq rfl)
  (case c5r139 => decide)
  (case kBr139 => exact locs rfl)
  (case c2r139 => exact rfl)
  (case c3r139 => exact rfl)
  (case c4r139 => exact rfl)
  intro loosezq meanzq mgzq mbzq dpzq unzq gdzq cnzq cszq Lzq azq ccdzq clzq outerzq basezq gzq L'zq h'zq gszq drzq oszq tkzq Ezq F'zq N'zq B'zq X'zq T'zq hpzq hdzq huzq
  (try dsimp only) 
  (try k_fold)))
  k_with "x sides" => ((
  (case k1 => k_asm)
  (case k2 => k_asm)
  (case k3 => k_asm)
  (case k4 => k_asm)
  (case k5 => k_asm)
  (case kK => first | exact rfl | assumption)
  (case kd => ktr_room)
  (case ku => ktr_units)))
  k_with "subscriptTail Name Constant ref int" => ((k_here; k_dflt ((with_reducible show wpAny _ _ (subscriptTail _ _ (Value.ref _) (Value.int _ _)) _ _ _); (with_unfolding_all refine' item_litK ?k1r141 ?k2r141 ?k3r141 ?k4r141 ?_ ?k6r141; (case k1r141 => is_list); (case k2r141 => decide); (case k3r141 => decide); (case k4r141 => rfl); (case k6r141 => with_unfolding_all rfl)))))
  k_with "subscriptTail Name BinOp ref int" => ((k_here; k_dflt ((with_reducible show wpAny _ _ (subscriptTail _ _ (Value.ref _) (Value.int _ _)) _ _ _); (with_unfolding_all refine' item_litK ?k1r142 ?k2r142 ?k3r142 ?k4r142 ?_ ?k6r142; (case k1r142 => is_list); (case k2r142 => decide); (case k3r142 => decide); (case k4r142 => rfl); (case k6r142 => with_unfolding_all rfl)))))
  k_with "subscriptTail Name Name ref int" => ((k_here; k_dflt ((with_reducible show wpAny _ _ (subscriptTail _ _ (Value.ref _) (Value.int _ _)) _ _ _); (with_unfolding_all refine' item_litK ?k1r143 ?k2r143 ?k3r143 ?k4r143 ?_ ?k6r143; (case k1r143 => is_list); (case k2r143 => decide); (case k3r143 => decide); (case k4r143 => rfl); (case k6r143 => with_unfolding_all rfl)))))
  k_with "eval Name" => ((k_here; dsimp only))
  k_with "x enterK" => ((
  refine' xc_defK ?k6r145 ?k7r145 ?k8r145 ?k9r145 ?kBr145 ?c5r145 ?c2r145 ?c3r145 ?c4r145 ?_
  (case k6r145 => k_is)
  (case k7r145 => k_is)
  (case k8r145 => decide)
  (case k9r145 => exact fun _ => rfl)
  (case c5r145 => decide)
  (case kBr145 => exact locs rfl)
  (case c2r145 => exact rfl)
  (case c3r145 => exact rfl)
  (case c4r145 => exact rfl)
  intro loosezq meanzq mgzq mbzq dpzq unzq gdzq cnzq cszq Lzq azq ccdzq clzq outerzq basezq gzq L'zq h'zq gszq drzq oszq tkzq Ezq F'zq N'zq B'zq X'zq T'zq hpzq hdzq huzq
  (try dsimp only) 
  (try k_fold)))
  k_with "x enterC" => ((
  refine' xc_defC ?k6r146 ?k7r146 ?k8r146 ?k9r146 ?kBr146 ?kDr146 ?c2r146 ?c3r146 ?c4r146 ?_
  (case k6r146 => k_is)
  (case k7r146 => k_is)
  (case k8r146 => decide)
  (case k9r146 => exact fun _ => rfl)
  (case kBr146 => exact rfl)
  (case kDr146 => decide +kernel)
  (case c2r146 => exact rfl)
  (case c3r146 => exact rfl)
  (case c4r146 => exact rfl)
  intro loosezq meanzq mgzq mbzq dpzq unzq gdzq cnzq cszq Lzq azq ccdzq clzq outerzq basezq gzq L'zq h'zq gszq drzq oszq tkzq Ezq cells'zq F'zq N'zq Y'zq B'zq X'zq T'zq hpzq hdzq huzq
  k_cells Y'zq
  (try simp only [List.cons_append, List.nil_append] at N'zq)
  (try dsimp only) 
  (try k_fold)))
  k_with "x for" => ((k_here; (rename Fr _ _ _ _ => lF'zq); (with_unfolding_all refine' For_turns lF'zq ?_; k_whole)))
  k_with "x walk" => ((repeat' ((fail_if_success (with_reducible show wpAny _ _ (pyIter (Value.ref _)) (fun it s₂ => TurnsAt _ _ _ _ _ _ _ _ _ it s₂) _ _)); first | (k_unfold; (try dsimp only)) | (k_end; wrow_close) | walk1 | (dsimp only; walk1) | (leave1; walk_say "STEP leave1"; try dsimp only) | fail "no step")))
  k_with "x walkA" => ((repeat' ((fail_if_success (with_reducible show wpAny _ _ (pyIter (Value.ref _)) (fun it s₂ => TurnsAt _ _ _ _ _ _ _ _ _ it s₂) _ _)); (fail_if_success (with_reducible show wpAny _ _ (call (Value.builtin "list.append") _) _ _ _)); first | (k_unfold; (try dsimp only)) | (k_end; wrow_close) | walk1 | (dsimp only; walk1) | (leave1; walk_say "STEP leave1"; try dsimp only) | fail "no step")))
  k_with "x off2" => ((intro y'zq hy'zq; simp only [List.mem_cons, List.not_mem_nil, not_or, or_false] at hy'zq; obtain ⟨h1'zq, h2'zq⟩ := hy'zq; simp only [h1'zq, h2'zq, if_false]))
  k_with "x off3" => ((intro y'zq hy'zq; simp only [List.mem_cons, List.not_mem_nil, not_or, or_false] at hy'zq; obtain ⟨h1'zq, h2'zq, h3'zq⟩ := hy'zq; simp only [h1'zq, h2'zq, h3'zq, if_false]))
  k_with "x sel" => (((rename _ < 3 => kizq); k_dflt (first
  | ((refine' item_sel kizq ?k1r152 ?_ ?k6r152); (case k1r152 => is_list); (case k6r152 => with_unfolding_all rfl); intro t'zq)
  | ((refine' item_sel1 kizq ?k1r152 ?_ ?k6r152); (case k1r152 => is_list); (case k6r152 => with_unfolding_all rfl); intro t'zq)
  | ((refine' item_sel2 kizq ?k1r152 ?_ ?k6r152); (case k1r152 => is_list); (case k6r152 => with_unfolding_all rfl); intro t'zq))))
  k_with "x append" => (((refine' append_L ?k1r153 ?k2r153 ?k3r153 ?zr153 ?_; (case k1r153 => k_asm); (case k2r153 => k_asm); (case k3r153 => k_upd); (case zr153 => assumption)); intro h'zq F'zq N'zq; (try dsimp only)))
  trivial
/-! ## comprehensions: a filter over a list of any length; one whose own variable is captured by an inner one -/
inductive All2 (R : Value → Value → Prop) : List Value → List Value → Prop
  | nil : All2 R [] []
  | cons {v y vs ys} : R v y → All2 R vs ys → All2 R (v :: vs) (y :: ys)
theorem All2.snoc {R : Value → Value → Prop} {v y : Value} (hb : R v y) : ∀ {a b : List Value}, All2 R a b → All2 R (a ++ [v]) (b ++ [y])
  | _, _, .nil => .cons hb .nil
  | _, _, .cons h1 r => .cons h1 (All2.snoc hb r)
section
variable {prog : Program} {w : World} {A : Around} {E : Value → Shared → Prop} {s : Shared} {h₀ : Heap} {L : Addr} {m : Str → Option Value} {env : Env}
/-- what was there is there -/
def StillEnd (h₀ : Heap) (L : Addr) (m : Str → Option Value) (s : Shared) (news : List (Addr × Obj)) (s' : Shared) : Prop :=
  ∃ h' tk', s' = { s with heap := h', toks := tk' } ∧ Fr h₀ L h' m ∧ News h₀ L h' news
def TestEnd (b₀ : Bool) (h₀ : Heap) (L : Addr) (m : Str → Option Value) (s : Shared) (news : List (Addr × Obj)) (b : Bool) (s' : Shared) : Prop := b = b₀ ∧ StillEnd h₀ L m s news s'
def EltEnd (R : Value → Prop) (h₀ : Heap) (L : Addr) (m : Str → Option Value) (s : Shared) (news : List (Addr × Obj)) (y : Value) (s' : Shared) : Prop := R y ∧ StillEnd h₀ L m s news s'
theorem TestEnd.mk {b b₀ : Bool} {all news : List (Addr × Obj)} {h' : Heap} {tk : Nat} (F : Fr h₀ L h' m) (N : News h₀ L h' all) (sub : ∀ p ∈ news, p ∈ all) (e : b = b₀) : TestEnd b₀ h₀ L m s news b { s with heap := h', toks := tk } := ⟨e, h', tk, rfl, F, fun p hp => N p (sub p hp)⟩
theorem EltEnd.mk {R : Value → Prop} {y : Value} {all news : List (Addr × Obj)} {h' : Heap} {tk : Nat} (F : Fr h₀ L h' m) (N : News h₀ L h' all) (sub : ∀ p ∈ news, p ∈ all) (e : R y) : EltEnd R h₀ L m s news y { s with heap := h', toks := tk } := ⟨e, h', tk, rfl, F, fun p hp => N p (sub p hp)⟩
theorem filter_rest {vs : List Value} {n : Nat} {ct : PySem.Expr} {x : Str} {px : Pos} {scope : Scope} {cl : List (Str × Addr)} {S : List (Addr × Obj) → Prop} {Fin : List Value → List (Addr × Obj) → Prop} {news : List (Addr × Obj)} (p : Value → Bool) (hn : n = vs.length)
    (hk : scope.kind = .function) (hl : scope.names.lookup x = some .local) (hd : (x == ("__debug__" : Str)) = false) (hS : S news)
    (turn : ∀ v, v ∈ vs → ∀ I oI C oC D m₂ ys h tk (E' : Value → Shared → Prop), LCg.NsObj oC m₂ → m₂ x = some v → Fr h₀ L h m → News h₀ L h ((I, oI) :: (C, oC) :: (D, LCg.lst ys) :: news) →
      wpAny (model prog w) A (isTrue ct (compEnvC scope cl C env) (eval ct (compEnvC scope cl C env))) (TestEnd (p v) h₀ L m { s with heap := h, toks := tk } ((I, oI) :: (C, oC) :: (D, LCg.lst ys) :: news)) E' { s with heap := h, toks := tk })
    (fin : Fin (vs.filter p) news) : LCt.CompRestT prog w A h₀ L m env ct (.Name x px) x scope cl s S (fun i v => vs.toArray[i]? = some v) Fin n 0 [] news := by
  subst hn
  have key : ∀ (j i : Nat) (ys : List Value), i + j = vs.length → ys = (vs.take i).filter p → LCt.CompRestT prog w A h₀ L m env ct (.Name x px) x scope cl s S (fun i v => vs.toArray[i]? = some v) Fin j i ys news := by
    intro j
    induction j with
    | zero =>
      intro i ys hi hy
      have : i = vs.length := by omega
      subst this
      rw [List.take_length] at hy
      exact LCt.CompRestT.zero (hy ▸ fin)
    | succ j ih =>
      intro i ys hi hy
      refine LCt.CompRestT.succ ?_
      intro v I oI C oC D m₂ h tk E' hv hC hx F N off ne
      have hv' : vs[i]? = some v := by simpa using hv
      have hs : vs.take (i + 1) = vs.take i ++ [v] := by rw [List.take_add_one, hv']; rfl
      refine wpAny_mono (turn v (List.mem_of_getElem? hv') I oI C oC D m₂ ys h tk E' hC hx F N) (fun b s₂ hq => ?_) fun _ _ e => e
      obtain ⟨hb, h', tk', e, F', N'⟩ := hq
      subst e
      cases hp : p v with
      | true =>
        rw [hp] at hb
        subst hb
        simp only [if_true]
        refine ldVarK (hC.ns (N' _ (List.mem_cons_of_mem _ List.mem_cons_self)).1) hx ?_ hk (lookup_relabel_local hl) hd
        refine ⟨h', tk', news, rfl, F', N', off, hS, ih (i + 1) _ (by omega) ?_⟩
        rw [hs, List.filter_append, hy, List.filter_cons, hp]; rfl
      | false =>
        rw [hp] at hb
        subst hb
        simp only [Bool.false_eq_true, if_false]
        refine ⟨h', tk', news, rfl, F', N', off, hS, ih (i + 1) _ (by omega) ?_⟩
        rw [hs, List.filter_append, hy, List.filter_cons, hp]; simp
  exact key vs.length 0 [] (by omega) rfl
theorem map_rest {vs : List Value} {n : Nat} {elt : PySem.Expr} {x : Str} {scope : Scope} {cl : List (Str × Addr)} {S : List (Addr × Obj) → Prop} {Fin : List Value → List (Addr × Obj) → Prop} {news : List (Addr × Obj)} (R : Value → Value → Prop) (hn : n = vs.length) (hS : S news)
    (turn : ∀ v, v ∈ vs → ∀ I oI C oC D m₂ ys h tk (E' : Value → Shared → Prop), LCg.NsObj oC m₂ → m₂ x = some v → Fr h₀ L h m → News h₀ L h ((I, oI) :: (C, oC) :: (D, LCg.lst ys) :: news) →
      wpAny (model prog w) A (eval elt (compEnvC scope cl C env)) (EltEnd (R v) h₀ L m { s with heap := h, toks := tk } ((I, oI) :: (C, oC) :: (D, LCg.lst ys) :: news)) E' { s with heap := h, toks := tk })
    (fin : ∀ ys, All2 R vs ys → Fin ys news) : LCg.CompRest prog w A h₀ L m env elt x scope cl s S (fun i v => vs.toArray[i]? = some v) Fin n 0 [] news := by
  subst hn
  have key : ∀ (j i : Nat) (ys : List Value), i + j = vs.length → All2 R (vs.take i) ys → LCg.CompRest prog w A h₀ L m env elt x scope cl s S (fun i v => vs.toArray[i]? = some v) Fin j i ys news := by
    intro j
    induction j with
    | zero =>
      intro i ys hi hy
      have : i = vs.length := by omega
      subst this
      rw [List.take_length] at hy
      exact LCg.CompRest.zero (fin ys hy)
    | succ j ih =>
      intro i ys hi hy
      refine LCg.CompRest.succ ?_
      intro v I oI C oC D m₂ h tk E' hv hC hx F N off ne
      have hv' : vs[i]? = some v := by simpa using hv
      have hs : vs.take (i + 1) = vs.take i ++ [v] := by rw [List.take_add_one, hv']; rfl
      refine wpAny_mono (turn v (List.mem_of_getElem? hv') I oI C oC D m₂ ys h tk E' hC hx F N) (fun y s₂ hq => ?_) fun _ _ e => e
      obtain ⟨hb, h', tk', e, F', N'⟩ := hq
      subst e
      refine ⟨h', tk', news, rfl, F', N', off, hS, ih (i + 1) _ (by omega) ?_⟩
      rw [hs]
      exact All2.snoc hb hy
  exact key vs.length 0 [] (by omega) .nil
theorem newEnv_cell {scope : Scope} {globals : Addr} {cl : List (Str × Addr)} {qual : Str} {x : Str} {Q : Env → Shared → Prop} (hc : ∀ n, cellsFrom n scope.names cl = (x, n) :: cl) (hp : ∀ h : Heap, pushCells h scope.names = h.push { cls := .type "cell", data := .cell none })
    (hQ : Q { scope := scope, locals := s.heap.objs.size, globals := globals, cells := (x, s.heap.objs.size + 1) :: cl, qual := qual, func := none, code := env.code, frame := env.frame, builtins := env.builtins }
      { s with heap := (s.heap.push { cls := .type "dict", data := .dict #[] }).push { cls := .type "cell", data := .cell none } }) :
    wpAny (model prog w) A (newFunctionEnv scope globals cl [] qual none .none (some env)) Q E s := by
  simp only [newFunctionEnv, Option.isSome_some, if_true]
  refine wpAny_bind (wpAny_alloc ?_)
  refine wpAny_bind (wpAny_layCells _ (fun name kind cells => by cases hkc : kind == NameKind.cell <;> simp [hkc]) _ _ _ _ ?_)
  rw [hc, hp]
  rw [show ({ s with heap := s.heap.push { cls := .type "dict", data := .dict #[] } } : Shared).heap.objs.size = s.heap.objs.size + 1 from Heap.size_push ..]
  exact wpAny_bind (wpAny_pure (wpAny_pure hQ))
/-- the block of a comprehension over a range, its own variable a cell -/
theorem block_C {elt iter : PySem.Expr} {x : Str} {px : Pos} {scope : Scope} {cl : List (Str × Addr)} {pos : Pos} {s₂ : Shared} {I : Addr} {a : Int} {n : Nat} {news : List (Addr × Obj)} (R : Nat → List Value → Prop)
    {RR : Value → Addr → Result → Shared → Prop}
    (hh : A.handled = none) (hsz : n ≤ sizeLine) (hc : ∀ n, cellsFrom n scope.names cl = (x, n) :: cl) (hp : ∀ h : Heap, pushCells h scope.names = h.push { cls := .type "cell", data := .cell none })
    (hkind : scope.kind = .function) (hx : (relabel scope env).names.lookup x = some .cell) (hst : IsRangeIter s₂.heap I (a + (0 : Nat) * 1) ((n : Int) - (0 : Nat)) 1) (hfp : I < s₂.heap.objs.size)
    (F : Fr h₀ L s₂.heap m) (N : News h₀ L s₂.heap news) (hIL : L ≠ I) (hI₀ : h₀.get? I = none) (off : ∀ p ∈ news, p.1 ≠ I)
    (R0 : R 0 [])
    (turn : ∀ i v I oI C oC c oc D ys h tk (E' : Value → Shared → Prop), i < n → R i ys → (∃ t, v = .int (a + (i : Int)) t) → oc.data = .cell (some v) → Fr h₀ L h m → News h₀ L h ((I, oI) :: (C, oC) :: (D, LCg.lst ys) :: (c, oc) :: news) →
      LCg.Off3 I C D ((c, oc) :: news) → ((@Ne Nat I C) ∧ (@Ne Nat I D) ∧ (@Ne Nat C D)) →
      wpAny (model prog w) A (eval elt (compEnvC scope ((x, c) :: cl) C env)) (EltEnd (fun y => R (i + 1) (ys ++ [y])) h₀ L m { s₂ with heap := h, toks := tk } ((I, oI) :: (C, oC) :: (D, LCg.lst ys) :: (c, oc) :: news)) E' { s₂ with heap := h, toks := tk })
    (hRR : ∀ D C h tk ys, Fr h₀ L h m → News h₀ L h ((D, LCg.lst ys) :: news) → LCg.Off1 D news → h.Ns C (fun _ => none) → h₀.get? C = none → h₀.get? D = none → C ≠ L → D ≠ L → C ≠ D → (∀ p ∈ news, p.1 ≠ C) → R n ys → RR (.ref D) C (.ok .next) { s₂ with heap := h, toks := tk }) :
    wpAny (model prog w) A (newList []) (fun acc s₃ => wpAny (model prog w) A (newFunctionEnv scope env.globals cl [] env.qual none .none (some env)) (fun cenv s₄ =>
      codeAny (model prog w) A (.compStart (.ListComp elt [⟨.Name x px, iter, [], 0⟩] scope pos) 0 (.ref I) acc { cenv with scope := relabel scope env }) (RR acc cenv.locals) s₄) E s₃) E s₂ := by
  have W := LCg.range_walks (prog := prog) (w := w) (A := A) (I := I) hh a n
  refine wpAny_newObj_type (newEnv_cell hc hp ?_)
  dsimp only
  generalize hH2 : s₂.heap.push { cls := .type "list", dict := none, data := .seq ([] : List Value).toArray } = H2
  have hDs : H2.objs.size = s₂.heap.objs.size + 1 := by rw [← hH2, Heap.size_push]
  generalize hH3 : H2.push { cls := .type "dict", data := .dict #[] } = H3
  have hCs : H3.objs.size = s₂.heap.objs.size + 2 := by rw [← hH3, Heap.size_push, hDs]
  generalize hH4 : H3.push { cls := .type "cell", data := .cell none } = H4
  generalize hD : s₂.heap.objs.size = D
  generalize hC : H2.objs.size = C
  rw [hD] at hDs hCs hfp
  rw [hC] at hDs
  have up2 : ∀ b o, s₂.heap.get? b = some o → H2.get? b = some o := fun b o e => hH2 ▸ Heap.get?_push_of_some _ e
  have up3 : ∀ b o, H2.get? b = some o → H3.get? b = some o := fun b o e => hH3 ▸ Heap.get?_push_of_some _ e
  have up4 : ∀ b o, H3.get? b = some o → H4.get? b = some o := fun b o e => hH4 ▸ Heap.get?_push_of_some _ e
  have old : ∀ b o, s₂.heap.get? b = some o → H4.get? b = some o := fun b o e => up4 _ _ (up3 _ _ (up2 _ _ e))
  have hDC : D ≠ C := by omega
  have hcc : (C + 1) = H3.objs.size := by rw [hCs, hDs]
  have hCc : C ≠ C + 1 := by omega
  have hDc : D ≠ C + 1 := by omega
  have hfp' : @LT.lt Nat _ I D := hfp
  have hIC : I ≠ C := Nat.ne_of_lt (by omega)
  have hID : I ≠ D := Nat.ne_of_lt (by omega)
  have hIc : I ≠ C + 1 := Nat.ne_of_lt (by omega)
  have hacc : H4.get? D = some (LCg.lst []) := up4 _ _ (up3 _ _ (by rw [← hD, ← hH2]; exact Heap.get?_push_size _ rfl))
  have hcell : H4.IsCell (C + 1) none := ⟨_, by rw [hcc, ← hH4]; exact Heap.get?_push_size _ rfl, rfl⟩
  have hns : H4.Ns C (fun _ => none) := by
    have z := (Heap.Ns.new H2 (.type "dict")).keeps (h' := H4) (fun b o e => up4 _ _ (hH3 ▸ e))
    rw [hC] at z; exact z
  have fresh : ∀ b, D ≤ b → s₂.heap.get? b = none := fun b hb => by
    cases e : s₂.heap.get? b with
    | none => rfl
    | some o' => exact absurd (Heap.lt_size e) (by rw [hD]; exact Nat.not_lt.mpr hb)
  have fresh₀ : ∀ b, D ≤ b → h₀.get? b = none := fun b hb => by
    cases e : h₀.get? b with
    | none => rfl
    | some o' => have := F.keep b o' e; rw [fresh b hb] at this; cases this
  have hD₀ : h₀.get? D = none := fresh₀ _ (Nat.le_refl _)
  have hC₀ : h₀.get? C = none := fresh₀ _ (by omega)
  have hc₀ : h₀.get? (C + 1) = none := fresh₀ _ (by omega)
  have hLlt : @LT.lt Nat _ L D := by rw [← hD]; exact F.ns.lt
  have hDL : D ≠ L := Nat.ne_of_gt (by omega)
  have hCL : C ≠ L := Nat.ne_of_gt (by omega)
  have hcL : C + 1 ≠ L := Nat.ne_of_gt (by omega)
  have below : ∀ p ∈ news, p.1 ≠ C ∧ p.1 ≠ D ∧ p.1 ≠ C + 1 := fun p hp => by
    have h1 : @LT.lt Nat _ p.1 D := hD ▸ Heap.lt_size (N p hp).1
    exact ⟨Nat.ne_of_lt (by omega), Nat.ne_of_lt h1, Nat.ne_of_lt (by omega)⟩
  have hst₁ : IsRangeIter H4 I (a + (0 : Nat) * 1) ((n : Int) - (0 : Nat)) 1 := W.frame 0 _ _ hst fun b _ o e => old b o e
  have loop : ∀ s₃ : Shared, s₃ = { s₂ with heap := H4 } →
      codeAny (model prog w) A (.compLoop (.ListComp elt [⟨.Name x px, iter, [], 0⟩] scope pos) 0 (.ref I) (.ref D) (compEnvC scope ((x, C + 1) :: cl) C env)) (RR (.ref D) C) s₃ := by
    rintro s₃ rfl
    refine codeAny_compLoop_tests
      (fun k s' => ∃ h' tk i ys cv, s' = { s₂ with heap := h', toks := tk } ∧ i ≤ n ∧ k = n + 1 - i ∧ ys.length = i ∧ IsRangeIter h' I (a + (i : Nat) * 1) ((n : Int) - (i : Nat)) 1 ∧ Fr h₀ L h' m ∧ h'.Ns C (fun _ => none) ∧ h'.IsCell (C + 1) cv ∧ News h₀ L h' ((D, LCg.lst ys) :: news) ∧ R i ys) ?_ (n + 1)
      ⟨H4, _, 0, [], none, rfl, Nat.zero_le _, rfl, rfl, hst₁, F.keeps old, hns, hcell, fun p hp => ?_, R0⟩
    · rintro k s' ⟨h', tk, i, ys, cv, rfl, hi, rfl, hyl, hst', F', hn', hc', N', R'⟩
      by_cases hlt : i < n
      · refine W.item i _ _ _ hlt hst' fun v h₂ tk₂ hPv hst₂ hk₂ => ?_
        have hc₂ : h₂.IsCell (C + 1) cv := by obtain ⟨o, e, hd⟩ := hc'; exact ⟨o, hk₂ _ o (by simpa using Ne.symm hIc) e, hd⟩
        refine wpAny_assign_Name (wpAny_storeName_cell (by exact hkind) hx (by simp [compEnvC]) hc₂ fun h₃ hc₃ hs₃ => ?_)
        refine wpAny_tests_nil ?_
        simp only [if_true]
        have hst₃ : IsRangeIter h₃ I (a + ((i + 1 : Nat) : Int) * 1) ((n : Int) - ((i + 1 : Nat) : Int)) 1 := W.frame (i + 1) _ _ hst₂ fun b hb o e => hs₃.extBut b o (by rw [List.mem_singleton.mp hb]; exact hIc) e
        have hn₃ : h₃.Ns C (fun _ => none) := (hn'.at' fun o e => hk₂ _ o (by simpa using Ne.symm hIC) e).sameBut hs₃ hCc
        obtain ⟨oC, heC, hoC⟩ := LCg.ns_obj hn₃
        obtain ⟨oc, hec, hoc⟩ := hc₃
        have heI : h₃.get? I = some _ := hst₃
        have F₃ : Fr h₀ L h₃ m := (LCg.fr_but F' hk₂ hIL hI₀).change hs₃ hcL hc₀
        have N₂ : News h₀ L h₂ ((D, LCg.lst ys) :: news) := LCg.news_but N' hk₂ fun p hp => by
          rcases List.mem_cons.mp hp with rfl | hp
          · exact Ne.symm hID
          · exact off p hp
        have N₃ : News h₀ L h₃ ((I, _) :: (C, oC) :: (D, LCg.lst ys) :: (C + 1, oc) :: news) := fun p hp => by
          rcases List.mem_cons.mp hp with rfl | hp
          · exact ⟨heI, Ne.symm hIL, hI₀⟩
          rcases List.mem_cons.mp hp with rfl | hp
          · exact ⟨heC, hCL, hC₀⟩
          rcases List.mem_cons.mp hp with rfl | hp
          · have z := N₂ (D, LCg.lst ys) List.mem_cons_self
            exact ⟨hs₃.extBut _ _ hDc z.1, z.2⟩
          rcases List.mem_cons.mp hp with rfl | hp
          · exact ⟨hec, hcL, hc₀⟩
          · have z := N₂ p (List.mem_cons_of_mem _ hp)
            exact ⟨hs₃.extBut _ _ (below p hp).2.2 z.1, z.2⟩
        refine wpAny_mono (turn i v I _ C oC (C + 1) oc D ys h₃ _ _ hlt R' hPv hoc F₃ N₃ (LCg.Off3.of fun p hp => ?_) ⟨hIC, hID, Ne.symm hDC⟩) (fun y s₄ h₄ => ?_) fun _ _ e => e
        · rcases List.mem_cons.mp hp with rfl | hp
          · exact ⟨Ne.symm hIc, Ne.symm hCc, Ne.symm hDc⟩
          · exact ⟨off p hp, (below p hp).1, (below p hp).2.1⟩
        obtain ⟨R₄, h₄, tk₄, e₄, F₄, N₄⟩ := h₄
        subst e₄
        have zI := (N₄ _ List.mem_cons_self).1
        have zC := (N₄ (C, oC) (List.mem_cons_of_mem _ List.mem_cons_self)).1
        have zD := (N₄ (D, LCg.lst ys) (List.mem_cons_of_mem _ (List.mem_cons_of_mem _ List.mem_cons_self))).1
        have zc := (N₄ (C + 1, oc) (List.mem_cons_of_mem _ (List.mem_cons_of_mem _ (List.mem_cons_of_mem _ List.mem_cons_self)))).1
        have hst₄ : IsRangeIter h₄ I (a + ((i + 1 : Nat) : Int) * 1) ((n : Int) - ((i + 1 : Nat) : Int)) 1 := zI
        refine append_at (hsz := by show ys.toArray.size ≤ sizeLine; rw [List.size_toArray, hyl]; exact Nat.le_trans hi hsz) zD fun h₅ hs₅ hD₅ => ?_
        refine ⟨n + 1 - (i + 1), by omega, h₅, tk₄, i + 1, ys ++ [y], some v, rfl, hlt, rfl, by rw [List.length_append, List.length_singleton, hyl], W.frame (i + 1) _ _ hst₄ fun b hb o e => hs₅.extBut b o (by rw [List.mem_singleton.mp hb]; exact hID) e, F₄.change hs₅ hDL hD₀,
          (hoC.ns zC).sameBut hs₅ (Ne.symm hDC), Heap.IsCell.sameBut ⟨oc, zc, hoc⟩ hs₅ (Ne.symm hDc), fun p hp => ?_, R₄⟩
        rcases List.mem_cons.mp hp with rfl | hp
        · exact ⟨hD₅.trans (congrArg some (LCg.lst_snoc ys y)), hDL, hD₀⟩
        · exact ⟨hs₅.extBut _ _ (below p hp).2.1 (N₄ p (List.mem_cons_of_mem _ (List.mem_cons_of_mem _ (List.mem_cons_of_mem _ (List.mem_cons_of_mem _ hp))))).1, (N p hp).2⟩
      · obtain rfl : i = n := Nat.le_antisymm hi (Nat.not_lt.mp hlt)
        refine W.done _ _ _ hst' fun h₂ tk₂ hk₂ => ?_
        exact hRR _ _ h₂ tk₂ ys (LCg.fr_but F' hk₂ hIL hI₀) (LCg.news_but N' hk₂ fun p hp => by
          rcases List.mem_cons.mp hp with rfl | hp
          · exact Ne.symm hID
          · exact off p hp) (LCg.Off3.one (LCg.Off3.of fun p hp => ⟨off p hp, (below p hp).1, (below p hp).2.1⟩)) (hn'.at' fun o e => hk₂ _ o (by simpa using Ne.symm hIC) e) hC₀ hD₀ hCL hDL (Ne.symm hDC) (fun p hp => (below p hp).1) R'
    · rcases List.mem_cons.mp hp with rfl | hp
      · exact ⟨hacc, hDL, hD₀⟩
      · exact ⟨old _ _ (N p hp).1, (N p hp).2⟩
  refine codeAny_compStart_list ?_ (W.self 0 _ _ _ hst₁ ?_)
  all_goals exact loop _ (by rfl)
/-- a range, what a turn makes of it, and the end -/
def RSrc (prog : Program) (w : World) (A : Around) (h₀ : Heap) (L : Addr) (m : Str → Option Value) (env : Env) (elt : PySem.Expr) (x : Str) (scope : Scope) (cl : List (Str × Addr)) (y : Str) (Q : Flow → Shared → Prop) (R : Nat → List Value → Prop) (xv : Value) (s₁ : Shared) : Prop :=
  ∃ r a b t u v n news, xv = .ref r ∧ A.handled = none ∧ Fr h₀ L s₁.heap m ∧ News h₀ L s₁.heap news ∧ IsRange s₁.heap r a b 1 t u v ∧ Builtin.Range.small a b 1 = true ∧ Builtin.Range.rangeSize a b 1 = ((n : Nat) : Int) ∧ n ≤ sizeLine ∧ R 0 [] ∧
    (∀ i v I oI C oC c oc D ys h tk (E' : Value → Shared → Prop), i < n → R i ys → (∃ t, v = .int (a + (i : Int)) t) → oc.data = .cell (some v) → Fr h₀ L h m → News h₀ L h ((I, oI) :: (C, oC) :: (D, LCg.lst ys) :: (c, oc) :: news) →
      LCg.Off3 I C D ((c, oc) :: news) → ((@Ne Nat I C) ∧ (@Ne Nat I D) ∧ (@Ne Nat C D)) →
      wpAny (model prog w) A (eval elt (compEnvC scope ((x, c) :: cl) C env)) (EltEnd (fun y => R (i + 1) (ys ++ [y])) h₀ L m { s₁ with heap := h, toks := tk } ((I, oI) :: (C, oC) :: (D, LCg.lst ys) :: (c, oc) :: news)) E' { s₁ with heap := h, toks := tk }) ∧
    (∀ D h tk ys, R n ys → Fr h₀ L h (fun z => if z = y then some (.ref D) else m z) → News h₀ L h ((D, LCg.lst ys) :: news) → LCg.Off1 D news → Q .next { s₁ with heap := h, toks := tk })
theorem RSrc.mk {elt : PySem.Expr} {x y : Str} {scope : Scope} {cl : List (Str × Addr)} {Q : Flow → Shared → Prop} {R : Nat → List Value → Prop} {r : Addr} {n : Nat} {t u v : Tok} {news : List (Addr × Obj)} (hh : A.handled = none) (F : Fr h₀ L s.heap m) (N : News h₀ L s.heap news) (hr : IsRange s.heap r 0 (n : Int) 1 t u v)
    (hsm : Builtin.Range.small 0 (n : Int) 1 = true) (hn : Builtin.Range.rangeSize 0 (n : Int) 1 = ((n : Nat) : Int)) (hz : n ≤ sizeLine) (R0 : R 0 [])
    (turn : ∀ i t I oI C oC c oc D ys h tk (E' : Value → Shared → Prop), i < n → R i ys → oc.data = .cell (some (.int (i : Int) t)) → Fr h₀ L h m → News h₀ L h ((I, oI) :: (C, oC) :: (D, LCg.lst ys) :: (c, oc) :: news) →
      LCg.Off3 I C D ((c, oc) :: news) → ((@Ne Nat I C) ∧ (@Ne Nat I D) ∧ (@Ne Nat C D)) →
      wpAny (model prog w) A (eval elt (compEnvC scope ((x, c) :: cl) C env)) (EltEnd (fun y => R (i + 1) (ys ++ [y])) h₀ L m { s with heap := h, toks := tk } ((I, oI) :: (C, oC) :: (D, LCg.lst ys) :: (c, oc) :: news)) E' { s with heap := h, toks := tk })
    (fin : ∀ D h tk ys, R n ys → Fr h₀ L h (fun z => if z = y then some (.ref D) else m z) → News h₀ L h ((D, LCg.lst ys) :: news) → LCg.Off1 D news → Q .next { s with heap := h, toks := tk }) :
    RSrc prog w A h₀ L m env elt x scope cl y Q R (.ref r) s :=
  ⟨r, 0, (n : Int), t, u, v, n, news, rfl, hh, F, N, hr, hsm, hn, hz, R0, fun i v' I oI C oC c oc D ys h tk E' hi hR hv hd F' N' ho hne => by
    obtain ⟨t', rfl⟩ := hv
    rw [Int.zero_add] at hd
    exact turn i t' I oI C oC c oc D ys h tk E' hi hR hd F' N' ho hne, fin⟩
theorem Assign_C {elt iter : PySem.Expr} {x y : Str} {px py : Pos} {scope : Scope} {cl : List (Str × Addr)} {pos spos : Pos} {Q : Flow → Shared → Prop} (R : Nat → List Value → Prop) (_F₀ : Fr h₀ L s.heap m) (hLe : env.locals = L)
    (hsw : swapsWith (.ListComp elt [⟨.Name x px, iter, [], 0⟩] scope pos) (some (.Name y py)) spos.line env = pure true)
    (hclos : closureFor scope env = pure cl) (hc : ∀ n, cellsFrom n scope.names cl = (x, n) :: cl) (hp : ∀ h : Heap, pushCells h scope.names = h.push { cls := .type "cell", data := .cell none })
    (hkind : scope.kind = .function) (hnames : ∀ z ∈ scope.names, z.2 = .local → scope.names.lookup z.1 = some .local) (hx : (relabel scope env).names.lookup x = some .cell)
    (hy : env.kindOf y = some .local) (hq : (env.scope.kind == .class || (env.scope.kind == .module && env.locals != env.globals)) = false)
    (h : wpAny (model prog w) A (eval iter env) (RSrc prog w A h₀ L m env elt x scope cl y Q R) E s)
    (hs : ∀ x, foldedSetIterable iter env x = pure x := by intro _; rfl) :
    wpAny (model prog w) A (exec (.Assign [.Name y py] (.ListComp elt [⟨.Name x px, iter, [], 0⟩] scope pos) spos) env) Q E s := by
  subst hLe
  rw [exec_Assign_Name_used _ _ _ _ hsw]
  refine wpAny_bind (wpAny_standAt (wpAny_bind ?_))
  show wpAny _ A (do let _ ← comprehension (.ListComp elt [⟨.Name x px, iter, [], 0⟩] scope pos) scope env _ (newList []) false (eval iter env) (some (assign (.Name y py) env))) _ _ s
  refine wpAny_bind (wpAny_mono (wpAny_comprehension_free (use := some (assign (.Name y py) env)) (Q := fun _ s' => Q .next s') rfl hs hclos hkind hnames
    (wpAny_mono h (fun xv s₁ h₁ => ?_) fun _ _ e => e)) (fun _ s' hq => wpAny_pure (wpAny_pure hq)) fun _ _ e => e)
  obtain ⟨r, a, b, t, u, v, n, news, rfl, hh, F, N, hr, hsm, hn, hsz, R0, turn, fin⟩ := h₁
  refine wpAny_pyIter_range hr hsm ?_
  refine block_C (a := a) (n := n) (news := news) R hh hsz hc hp hkind hx (by show IsRangeIter _ _ _ _ _; rw [hn]; simpa using Heap.get?_push_size _ rfl) (by rw [Heap.size_push]; exact Nat.lt_succ_self _)
      (F.keeps fun _ _ e => Heap.get?_push_of_some _ e) (N.grown fun _ _ e => Heap.get?_push_of_some _ e) (Nat.ne_of_lt F.ns.lt) (next_is_new F) (fun p hp => Nat.ne_of_lt (Heap.lt_size (N p hp).1)) R0 turn ?_
  intro D C h' tk ys F' N' o1 hn hC₀ hD₀ hCL hDL hCD offC hR
  show wpAny _ A (assign (.Name y py) env (.ref D)) _ _ _
  refine wpAny_assign_Name (wpAny_storeName_local hy F'.ns (fun h₂ hn₂ hs₂ => ?_) hq)
  have hL₀ : h₀.get? env.locals = none := Heap.get?_none_of_le F'.above
  have F₂ : Fr h₀ env.locals h₂ (fun z => if z = y then some (.ref D) else m z) := ⟨hn₂, fun b o e => hs₂.extBut b o (fun q => by rw [q, hL₀] at e; cases e) (F'.keep b o e), F'.above⟩
  refine ⟨_, hn.sameBut hs₂ hCL, fun h'' hs'' => fin D h'' _ ys hR (F₂.change hs'' hCL hC₀) (fun p hp => ?_) o1⟩
  have z : h₂.get? p.1 = some p.2 := hs₂.extBut _ _ (N' p hp).2.1 (N' p hp).1
  refine ⟨hs''.extBut _ _ ?_ z, (N' p hp).2⟩
  rcases List.mem_cons.mp hp with rfl | hp
  · exact Ne.symm hCD
  · exact offC p hp
end
/-! ## a comprehension whose elements are made anew -/
section
variable {prog : Program} {w : World} {A : Around} {E : Value → Shared → Prop} {s : Shared} {h₀ : Heap} {L : Addr} {m : Str → Option Value} {env : Env}
def BuiltEnd (h₀ : Heap) (L : Addr) (m : Str → Option Value) (s : Shared) (led : List (Addr × Obj)) (I C D : Addr) (K : Value → List (Addr × Obj) → Prop) (y : Value) (s' : Shared) : Prop :=
  ∃ os h' tk', s' = { s with heap := h', toks := tk' } ∧ Fr h₀ L h' m ∧ News h₀ L h' (os ++ led) ∧ (∀ p ∈ os, p.1 ≠ I ∧ p.1 ≠ C ∧ p.1 ≠ D) ∧ K y os
theorem BuiltEnd.mk2 {led : List (Addr × Obj)} {I C D T M : Addr} {oT oM : Obj} {K : Value → List (Addr × Obj) → Prop} {y : Value} {h' : Heap} {tk : Nat} (F : Fr h₀ L h' m) (N : News h₀ L h' ((T, oT) :: (M, oM) :: led)) (t : @LT.lt Nat _ I T ∧ @LT.lt Nat _ C T ∧ @LT.lt Nat _ D T) (u : @LT.lt Nat _ I M ∧ @LT.lt Nat _ C M ∧ @LT.lt Nat _ D M)
    (k : K y [(T, oT), (M, oM)]) : BuiltEnd h₀ L m s led I C D K y { s with heap := h', toks := tk } :=
  ⟨[(T, oT), (M, oM)], h', tk, rfl, F, N, fun p hp => by
    rcases List.mem_cons.mp hp with rfl | hp
    · exact ⟨Nat.ne_of_gt t.1, Nat.ne_of_gt t.2.1, Nat.ne_of_gt t.2.2⟩
    · rw [List.mem_singleton.mp hp]
      exact ⟨Nat.ne_of_gt u.1, Nat.ne_of_gt u.2.1, Nat.ne_of_gt u.2.2⟩, k⟩
theorem build_rest {vs : List Value} {n : Nat} {elt : PySem.Expr} {x : Str} {scope : Scope} {cl : List (Str × Addr)} {S : List (Addr × Obj) → Prop} {Fin : List Value → List (Addr × Obj) → Prop} {news : List (Addr × Obj)} (J : Nat → List Value → List (Addr × Obj) → Prop) (hn : n = vs.length) (hS : ∀ own, S (own ++ news)) (J0 : J 0 [] [])
    (turn : ∀ i v, vs[i]? = some v → ∀ I oI C oC D m₂ ys own h tk (E' : Value → Shared → Prop), J i ys own → LCg.NsObj oC m₂ → m₂ x = some v → Fr h₀ L h m → News h₀ L h ((I, oI) :: (C, oC) :: (D, LCg.lst ys) :: (own ++ news)) →
      wpAny (model prog w) A (eval elt (compEnvC scope cl C env)) (BuiltEnd h₀ L m { s with heap := h, toks := tk } ((I, oI) :: (C, oC) :: (D, LCg.lst ys) :: (own ++ news)) I C D (fun y os => J (i + 1) (ys ++ [y]) (os ++ own))) E' { s with heap := h, toks := tk })
    (fin : ∀ ys own, J n ys own → Fin ys (own ++ news)) : LCg.CompRest prog w A h₀ L m env elt x scope cl s S (fun i v => vs.toArray[i]? = some v) Fin n 0 [] news := by
  subst hn
  have key : ∀ (j i : Nat) (ys : List Value) (own : List (Addr × Obj)), i + j = vs.length → J i ys own → LCg.CompRest prog w A h₀ L m env elt x scope cl s S (fun i v => vs.toArray[i]? = some v) Fin j i ys (own ++ news) := by
    intro j
    induction j with
    | zero =>
      intro i ys own hi hy
      have : i = vs.length := by omega
      subst this
      exact LCg.CompRest.zero (fin ys own hy)
    | succ j ih =>
      intro i ys own hi hy
      refine LCg.CompRest.succ ?_
      intro v I oI C oC D m₂ h tk E' hv hC hx F N off ne
      have hv' : vs[i]? = some v := by simpa using hv
      refine wpAny_mono (turn i v hv' I oI C oC D m₂ ys own h tk E' hy hC hx F N) (fun y s₂ hq => ?_) fun _ _ e => e
      obtain ⟨os, h', tk', e, F', N', ho, hk⟩ := hq
      subst e
      refine ⟨h', tk', (os ++ own) ++ news, rfl, F', fun p hp => N' p ?_, LCg.Off3.of fun p hp => ?_, hS _, ih (i + 1) _ _ (by omega) hk⟩
      · rw [List.append_assoc] at hp
        simp only [List.mem_cons, List.mem_append] at hp ⊢
        rcases hp with h1 | h1 | h1 | h1 | h1 | h1
        · exact .inr (.inl h1)
        · exact .inr (.inr (.inl h1))
        · exact .inr (.inr (.inr (.inl h1)))
        · exact .inl h1
        · exact .inr (.inr (.inr (.inr (.inl h1))))
        · exact .inr (.inr (.inr (.inr (.inr h1))))
      · rw [List.append_assoc] at hp
        rcases List.mem_append.mp hp with h1 | h1
        · exact ho p h1
        · exact off.mem p h1
  exact key vs.length 0 [] [] (by omega) J0
end
/-! ## a comprehension that counts -/
section
variable {prog : Program} {w : World} {A : Around} {E : Value → Shared → Prop} {s : Shared} {h₀ : Heap} {L : Addr} {m : Str → Option Value} {env : Env}
theorem count_rest {vs : List Value} {ns : List Int} {n : Nat} {ct elt : PySem.Expr} {x : Str} {scope : Scope} {cl : List (Str × Addr)} {S : List (Addr × Obj) → Prop} {Fin : List Value → List (Addr × Obj) → Prop} {news : List (Addr × Obj)} (p : Int → Bool) (hi : IntsAre vs ns) (hn : n = vs.length) (hS : S news)
    (turn : ∀ (k : Int) t I oI C oC D m₂ ys h tk (E' : Value → Shared → Prop), LCg.NsObj oC m₂ → m₂ x = some (.int k t) → Fr h₀ L h m → News h₀ L h ((I, oI) :: (C, oC) :: (D, LCg.lst ys) :: news) →
      wpAny (model prog w) A (isTrue ct (compEnvC scope cl C env) (eval ct (compEnvC scope cl C env))) (TestEnd (p k) h₀ L m { s with heap := h, toks := tk } ((I, oI) :: (C, oC) :: (D, LCg.lst ys) :: news)) E' { s with heap := h, toks := tk })
    (one : ∀ I oI C oC D ys h tk (E' : Value → Shared → Prop), Fr h₀ L h m → News h₀ L h ((I, oI) :: (C, oC) :: (D, LCg.lst ys) :: news) →
      wpAny (model prog w) A (eval elt (compEnvC scope cl C env)) (EltEnd (fun _ => True) h₀ L m { s with heap := h, toks := tk } ((I, oI) :: (C, oC) :: (D, LCg.lst ys) :: news)) E' { s with heap := h, toks := tk })
    (fin : ∀ ys, ys.length = (ns.filter p).length → Fin ys news) : LCt.CompRestT prog w A h₀ L m env ct elt x scope cl s S (fun i v => vs.toArray[i]? = some v) Fin n 0 [] news := by
  subst hn
  have key : ∀ (j i : Nat) (ys : List Value), i + j = vs.length → ys.length = ((ns.take i).filter p).length → LCt.CompRestT prog w A h₀ L m env ct elt x scope cl s S (fun i v => vs.toArray[i]? = some v) Fin j i ys news := by
    intro j
    induction j with
    | zero =>
      intro i ys hi' hy
      have : i = ns.length := by rw [← hi.length]; omega
      subst this
      rw [List.take_length] at hy
      exact LCt.CompRestT.zero (fin ys hy)
    | succ j ih =>
      intro i ys hi' hy
      refine LCt.CompRestT.succ ?_
      intro v I oI C oC D m₂ h tk E' hv hC hx F N off ne
      obtain ⟨z, t, hz, ez⟩ := IntsAre.at hi i v (by simpa using hv)
      subst hz
      have hs : ns.take (i + 1) = ns.take i ++ [z] := by rw [List.take_add_one, ez]; rfl
      refine wpAny_mono (turn z t I oI C oC D m₂ ys h tk E' hC hx F N) (fun b s₂ hq => ?_) fun _ _ e => e
      obtain ⟨hb, h', tk', e, F', N'⟩ := hq
      subst e
      cases hp : p z with
      | true =>
        rw [hp] at hb
        subst hb
        simp only [if_true]
        refine wpAny_mono (one I oI C oC D ys h' tk' E' F' N') (fun y s₃ hr => ?_) fun _ _ e => e
        obtain ⟨_, h2, tk2, e2, F2, N2⟩ := hr
        subst e2
        refine ⟨h2, tk2, news, rfl, F2, N2, off, hS, ih (i + 1) _ (by omega) ?_⟩
        rw [hs, List.filter_append, List.length_append, List.length_append, hy, List.filter_cons, hp]; rfl
      | false =>
        rw [hp] at hb
        subst hb
        simp only [Bool.false_eq_true, if_false]
        refine ⟨h', tk', news, rfl, F', N', off, hS, ih (i + 1) _ (by omega) ?_⟩
        rw [hs, List.filter_append, List.length_append, hy, List.filter_cons, hp]; simp
  exact key vs.length 0 [] (by omega) rfl
theorem len_cnt {l : Addr} {ys : List Value} {n : Int} {Q : Value → Shared → Prop} (e : (ys.length : Int) = n) (h3 : ys.length ≤ 3) (hl : s.heap.IsList l ys.toArray) (h : ∀ t tk, Q (.int n t) { s with toks := tk }) : wpAny (model prog w) A (call (.builtin "len") [.ref l]) Q E s :=
  kun_lenL hl (by rw [List.size_toArray, e]) (by omega) (h _ _)
end
theorem kw_20 : True := by
  w_top off
  k_with_none
  k_with "x mem" => (first | (with_reducible assumption) | (with_reducible exact List.mem_cons_self) | (refine' List.mem_cons_of_mem _ ?_; k_extra "x mem") | (refine' List.mem_append_left _ ?_; k_extra "x mem") | (refine' List.mem_append_right _ ?_; k_extra "x mem"))
  k_with "x enter" => ((
  refine' xc_def ?k6r155 ?k7r155 ?k8r155 (fun s => ?k9r155) ?kBr155 ?c5r155 ?c2r155 ?c3r155 ?c4r155 ?_
  (case k6r155 => k_is)
  (case k7r155 => k_is)
  (case k8r155 => decide)
  (case k9r155 => exact BindsTo.of_eq rfl)
  (case c5r155 => decide)
  (case kBr155 => exact locs rfl)
  (case c2r155 => exact rfl)
  (case c3r155 => exact rfl)
  (case c4r155 => exact rfl)
  intro loosezq meanzq mgzq mbzq dpzq unzq gdzq cnzq cszq Lzq azq ccdzq clzq outerzq basezq gzq L'zq h'zq gszq drzq oszq tkzq Ezq F'zq N'zq B'zq X'zq T'zq hpzq hdzq huzq
  (try dsimp only) 
  (try k_fold)))
  k_with "x sides" => ((
  (case k1 => k_asm)
  (case k2 => k_asm)
  (case k3 => k_asm)
  (case k4 => k_asm)
  (case k5 => k_asm)
  (case kK => first | exact rfl | assumption)
  (case kd => ktr_room)
  (case ku => ktr_units)))
  k_with "subscriptTail Name Constant ref int" => ((k_here; k_dflt ((with_reducible show wpAny _ _ (subscriptTail _ _ (Value.ref _) (Value.int _ _)) _ _ _); (with_unfolding_all refine' item_litK ?k1r157 ?k2r157 ?k3r157 ?k4r157 ?_ ?k6r157; (case k1r157 => is_list); (case k2r157 => decide); (case k3r157 => decide); (case k4r157 => rfl); (case k6r157 => with_unfolding_all rfl)))))
  k_with "subscriptTail Name BinOp ref int" => ((k_here; k_dflt ((with_reducible show wpAny _ _ (subscriptTail _ _ (Value.ref _) (Value.int _ _)) _ _ _); (with_unfolding_all refine' item_litK ?k1r158 ?k2r158 ?k3r158 ?k4r158 ?_ ?k6r158; (case k1r158 => is_list); (case k2r158 => decide); (case k3r158 => decide); (case k4r158 => rfl); (case k6r158 => with_unfolding_all rfl)))))
  k_with "subscriptTail Name Name ref int" => ((k_here; k_dflt ((with_reducible show wpAny _ _ (subscriptTail _ _ (Value.ref _) (Value.int _ _)) _ _ _); (with_unfolding_all refine' item_litK ?k1r159 ?k2r159 ?k3r159 ?k4r159 ?_ ?k6r159; (case k1r159 => is_list); (case k2r159 => decide); (case k3r159 => decide); (case k4r159 => rfl); (case k6r159 => with_unfolding_all rfl)))))
  k_with "eval Name" => ((k_here; dsimp only))
  k_with "x enterK" => ((
  refine' xc_defK ?k6r161 ?k7r161 ?k8r161 ?k9r161 ?kBr161 ?c5r161 ?c2r161 ?c3r161 ?c4r161 ?_
  (case k6r161 => k_is)
  (case k7r161 => k_is)
  (case k8r161 => decide)
  (case k9r161 => exact fun _ => rfl)
  (case c5r161 => decide)
  (case kBr161 => exact locs rfl)
  (case c2r161 => exact rfl)
  (case c3r161 => exact rfl)
  (case c4r161 => exact rfl)
  intro loosezq meanzq mgzq mbzq dpzq unzq gdzq cnzq cszq Lzq azq ccdzq clzq outerzq basezq gzq L'zq h'zq gszq drzq oszq tkzq Ezq F'zq N'zq B'zq X'zq T'zq hpzq hdzq huzq
  (try dsimp only) 
  (try k_fold)))
  k_with "x enterC" => ((
  refine' xc_defC ?k6r162 ?k7r162 ?k8r162 ?k9r162 ?kBr162 ?kDr162 ?c2r162 ?c3r162 ?c4r162 ?_
  (case k6r162 => k_is)
  (case k7r162 => k_is)
  (case k8r162 => decide)
  (case k9r162 => exact fun _ => rfl)
  (case kBr162 => exact rfl)
  (case kDr162 => decide +kernel)
  (case c2r162 => exact rfl)
  (case c3r162 => exact rfl)
  (case c4r162 => exact rfl)
  intro loosezq meanzq mgzq mbzq dpzq unzq gdzq cnzq cszq Lzq azq ccdzq clzq outerzq basezq gzq L'zq h'zq gszq drzq oszq tkzq Ezq cells'zq F'zq N'zq Y'zq B'zq X'zq T'zq hpzq hdzq huzq
  k_cells Y'zq
  (try simp only [List.cons_append, List.nil_append] at N'zq)
  (try dsimp only) 
  (try k_fold)))
  k_with "x for" => ((k_here; (rename Fr _ _ _ _ => lF'zq); (with_unfolding_all refine' For_turns lF'zq ?_; k_whole)))
  k_with "x walk" => ((repeat' ((fail_if_success (with_reducible show wpAny _ _ (pyIter (Value.ref _)) (fun it s₂ => TurnsAt _ _ _ _ _ _ _ _ _ it s₂) _ _)); first | (k_unfold; (try dsimp only)) | (k_end; wrow_close) | walk1 | (dsimp only; walk1) | (leave1; walk_say "STEP leave1"; try dsimp only) | fail "no step")))
  k_with "x walkA" => ((repeat' ((fail_if_success (with_reducible show wpAny _ _ (pyIter (Value.ref _)) (fun it s₂ => TurnsAt _ _ _ _ _ _ _ _ _ it s₂) _ _)); (fail_if_success (with_reducible show wpAny _ _ (call (Value.builtin "list.append") _) _ _ _)); first | (k_unfold; (try dsimp only)) | (k_end; wrow_close) | walk1 | (dsimp only; walk1) | (leave1; walk_say "STEP leave1"; try dsimp only) | fail "no step")))
  k_with "x off2" => ((intro y'zq hy'zq; simp only [List.mem_cons, List.not_mem_nil, not_or, or_false] at hy'zq; obtain ⟨h1'zq, h2'zq⟩ := hy'zq; simp only [h1'zq, h2'zq, if_false]))
  k_with "x off3" => ((intro y'zq hy'zq; simp only [List.mem_cons, List.not_mem_nil, not_or, or_false] at hy'zq; obtain ⟨h1'zq, h2'zq, h3'zq⟩ := hy'zq; simp only [h1'zq, h2'zq, h3'zq, if_false]))
  k_with "x sel" => (((rename _ < 3 => kizq); k_dflt (first
  | ((refine' item_sel kizq ?k1r168 ?_ ?k6r168); (case k1r168 => is_list); (case k6r168 => with_unfolding_all rfl); intro t'zq)
  | ((refine' item_sel1 kizq ?k1r168 ?_ ?k6r168); (case k1r168 => is_list); (case k6r168 => with_unfolding_all rfl); intro t'zq)
  | ((refine' item_sel2 kizq ?k1r168 ?_ ?k6r168); (case k1r168 => is_list); (case k6r168 => with_unfolding_all rfl); intro t'zq))))
  k_with "x append" => (((refine' append_L ?k1r169 ?k2r169 ?k3r169 ?zr169 ?_; (case k1r169 => k_asm); (case k2r169 => k_asm); (case k3r169 => k_upd); (case zr169 => assumption)); intro h'zq F'zq N'zq; (try dsimp only)))
  trivial
/-- ballots on a ledger -/
inductive BallotsN (ld : List (Addr × Obj)) : List Value → List Ballot → Prop
  | nil : BallotsN ld [] []
  | cons {vs ds} (T M : Addr) (n k : Nat) (a b c h : Int) (t0 t1 t2 t3 : Tok) : (T, tupOf #[.ref M, .int h t0] k) ∈ ld → (M, W.listOf [Value.int a t1, .int b t2, .int c t3].toArray n) ∈ ld → 0 ≤ a ∧ a ≤ 8 → 0 ≤ b ∧ b ≤ 8 → 0 ≤ c ∧ c ≤ 8 → 0 ≤ h ∧ h ≤ 9 → BallotsN ld vs ds → BallotsN ld (.ref T :: vs) (((a, b, c), h) :: ds)
def BallotsPost (tl : List (Addr × Obj)) (r : Value) : Prop := ∃ l' n T0 T1 T2 T3 T4 d0 d1 d2 d3 d4, r = .ref l' ∧ (l', W.listOf [Value.ref T0, .ref T1, .ref T2, .ref T3, .ref T4].toArray n) ∈ tl ∧ BallotsN tl [.ref T0, .ref T1, .ref T2, .ref T3, .ref T4] [d0, d1, d2, d3, d4]
theorem fm9 (x : Int) : 0 ≤ x.fmod 9 ∧ x.fmod 9 ≤ 8 := by
  have h1 := Int.fmod_nonneg_of_pos x (show (0 : Int) < 9 by decide)
  have h2 := Int.fmod_lt_of_pos x (show (0 : Int) < 9 by decide)
  omega
theorem fm10 (x : Int) : 0 ≤ x.fmod 10 ∧ x.fmod 10 ≤ 9 := by
  have h1 := Int.fmod_nonneg_of_pos x (show (0 : Int) < 10 by decide)
  have h2 := Int.fmod_lt_of_pos x (show (0 : Int) < 10 by decide)
  omega
theorem BallotsN.mk {ld : List (Addr × Obj)} {vs : List Value} {ds : List Ballot} (T M : Addr) (n k : Nat) (a b c h : Int) (t0 t1 t2 t3 : Tok) (h1 : (T, tupOf #[.ref M, .int (h.fmod 10) t0] k) ∈ ld) (h2 : (M, W.listOf [Value.int (a.fmod 9) t1, .int (b.fmod 9) t2, .int (c.fmod 9) t3].toArray n) ∈ ld)
    (hr : BallotsN ld vs ds) : BallotsN ld (.ref T :: vs) (((a.fmod 9, b.fmod 9, c.fmod 9), h.fmod 10) :: ds) :=
  .cons T M n k _ _ _ _ _ _ _ _ h1 h2 (fm9 _) (fm9 _) (fm9 _) (fm10 _) hr
theorem ballots_post {tl : List (Addr × Obj)} {l' : Addr} {n : Nat} {T0 T1 T2 T3 T4 : Addr} {d0 d1 d2 d3 d4 : Ballot} (h1 : (l', W.listOf [Value.ref T0, .ref T1, .ref T2, .ref T3, .ref T4].toArray n) ∈ tl) (h2 : BallotsN tl [.ref T0, .ref T1, .ref T2, .ref T3, .ref T4] [d0, d1, d2, d3, d4]) : BallotsPost tl (.ref l') :=
  ⟨_, _, _, _, _, _, _, _, _, _, _, _, rfl, h1, h2⟩
def CellInv (D : Addr) (lo : Obj) (l' : Addr) (M : Str → Option Value) (_i : Nat) (rem : List Value) (m : Str → Option Value) (news : List (Addr × Obj)) : Prop :=
  ∃ ns cv cn c, IntsAre rem ns ∧ IntsAre cv cn ∧ cn.length = 5 ∧ OffN [Str.ofString "at", Str.ofString "number"] m M ∧ news = [(D, lo), (l', W.listOf cv.toArray c)]
theorem CellInv.fin {D : Addr} {lo : Obj} {l' : Addr} {M m : Str → Option Value} {i : Nat} {news : List (Addr × Obj)} {C : (Str → Option Value) → List (Addr × Obj) → Prop} (h : CellInv D lo l' M i [] m news)
    (q : ∀ cv cn c u v, IntsAre cv cn → cn.length = 5 → C (fun y => if y = Str.ofString "at" then u else if y = Str.ofString "number" then v else M y) [(D, lo), (l', W.listOf cv.toArray c)]) : C m news := by
  obtain ⟨ns, cv, cn, c, hr, hv, hn, hm, rfl⟩ := h
  exact OffN.el2 (C := fun m => C m _) hm fun u v => q cv cn c u v hv hn
def CellOn (D : Addr) (lo : Obj) (l' : Addr) (M : Str → Option Value) (i : Nat) (r : List Value) : Prop :=
  ∀ m' cv cn c, IntsAre cv cn → cn.length = 5 → OffN [Str.ofString "at", Str.ofString "number"] m' M → CellInv D lo l' M i r m' [(D, lo), (l', W.listOf cv.toArray c)]
theorem CellInv.turn {D : Addr} {lo : Obj} {l' : Addr} {M m : Str → Option Value} {i : Nat} {x : Value} {r : List Value} {news : List (Addr × Obj)} {C : Value → (Str → Option Value) → List (Addr × Obj) → Prop} (h : CellInv D lo l' M i (x :: r) m news)
    (q : ∀ n t cv cn c u v, IntsAre cv cn → cn.length = 5 → CellOn D lo l' M (i + 1) r → C (.int n t) (fun y => if y = Str.ofString "at" then u else if y = Str.ofString "number" then v else M y) [(D, lo), (l', W.listOf cv.toArray c)]) : C x m news := by
  obtain ⟨ns, cv, cn, c, hr, hv, hn, hm, rfl⟩ := h
  cases hr with
  | cons n t hr => exact OffN.el2 (C := fun m => C _ m _) hm fun u v => q n t cv cn c u v hv hn fun m' cv cn c hv hn hm => ⟨_, cv, cn, c, hr, hv, hn, hm, rfl⟩
section
variable {prog : Program} {w : World} {A : Around} {E : Value → Shared → Prop} {s : Shared} {env : Env} {h₀ : Heap} {target : PySem.Expr} {body : List Stmt} {Q : Flow → Shared → Prop}
theorem iter_enumV {elts : List PySem.Expr} {k : Nat} {pos : Pos} {l : Addr} {lo : Obj} {vs : List Value} {n : Nat} {m₀ : Str → Option Value} {news : List (Addr × Obj)} (Inv : Nat → List Value → (Str → Option Value) → List (Addr × Obj) → Prop)
    (hh : A.handled = none) (F : Fr h₀ env.locals s.heap m₀) (N : News h₀ env.locals s.heap news) (hm : (l, lo) ∈ news) (hc : lo.cls = .type "list") (hd : lo.data = .seq vs.toArray n) (h0 : Inv 0 vs m₀ news)
    (hz : ∀ i m news, Inv i [] m news → ∀ h tk, Fr h₀ env.locals h m → News h₀ env.locals h news → Q .next { s with heap := h, toks := tk })
    (hs : ∀ (I : Addr), (∀ p ∈ news, p.1 < I) → ∀ i x r m news, Inv i (x :: r) m news → ∀ T t h tk o1 o2, IsTup h T #[.int ((i : Nat) : Int) t, x] → Fr h₀ env.locals h m → News h₀ env.locals h ((I + 1, o1) :: (I, o2) :: news) →
      wpAny (model prog w) A (assign (.Tuple elts k pos) env (.ref T)) (fun _ s₂ => wpAny (model prog w) A (execs body env) (UnrPostW h₀ env.locals { s with heap := h, toks := tk } [(I + 1, o1), (I, o2)] (fun m' n' => SubL [(l, lo)] n' ∧ Inv (i + 1) r m' n') Q) E s₂) E { s with heap := h, toks := tk }) :
    wpAny (model prog w) A (call (.type "enumerate") [.ref l]) (fun xv s₁ => wpAny (model prog w) A (pyIter xv) (fun it s₂ => TurnsAt prog w A h₀ env (.Tuple elts k pos) body Q E it s₂) E s₁) E s := by
  refine ktu_enum hh F N hm hc hd rfl fun I hl => rest_ind (fun xs m news => ∃ i r, xs = enumItems i r ∧ Inv i r m news) ?_ ?_ _ _ _ ⟨0, vs, rfl, h0⟩
  · rintro m news ⟨i, r, e, hi⟩ h tk F N
    cases r with
    | nil => exact hz i m news hi h tk F N
    | cons _ _ => cases e
  · rintro a xs m news ⟨i, r, e, hi⟩ v h tk ha F
    cases r with
    | nil => cases e
    | cons x r =>
      obtain ⟨rfl, rfl⟩ := List.cons.inj e
      obtain ⟨T, t, rfl, hT⟩ := ha
      intro o1 _ o2 _ N
      refine wpAny_mono (hs I hl i x r m news hi T t h tk o1 o2 hT F N) (fun _ s₂ h₂ => wpAny_mono h₂ (fun f s₃ p => ?_) fun _ _ e => e) fun _ _ e => e
      have fin : UnrEndW h₀ env.locals { s with heap := h, toks := tk } [(I + 1, o1), (I, o2)] (fun m' n' => SubL [(l, lo)] n' ∧ Inv (i + 1) r m' n') s₃ → UnrEndW h₀ env.locals { s with heap := h, toks := tk } [(I + 1, o1), (I, o2)] (fun m' n' => SubL [(l, lo)] n' ∧ ∃ i' r', enumItems (i + 1) r = enumItems i' r' ∧ Inv i' r' m' n') s₃ := by
        rintro ⟨h2, tk2, m2, news2, e2, F2, N2, ho2, hk2, hi2⟩
        exact ⟨h2, tk2, m2, news2, e2, F2, N2, ho2, hk2, i + 1, r, rfl, hi2⟩
      cases f with
      | ret v => exact p
      | brk => exact p
      | next => exact fin p
      | cont => exact fin p
end
def ballotZ (k : Int) : Ballot := ((k.fmod 9, (k.fdiv 9).fmod 9, (k.fdiv 81).fmod 9), (k.fdiv 729).fmod 10)
theorem BallotsN.mono {a b : List (Addr × Obj)} (hs : ∀ p ∈ a, p ∈ b) : ∀ {vs ds}, BallotsN a vs ds → BallotsN b vs ds
  | _, _, .nil => .nil
  | _, _, .cons T M n k x y z h t0 t1 t2 t3 m1 m2 i1 i2 i3 i4 r => .cons T M n k x y z h t0 t1 t2 t3 (hs _ m1) (hs _ m2) i1 i2 i3 i4 (BallotsN.mono hs r)
theorem BallotsN.snoc {ld : List (Addr × Obj)} {v : Value} {d : Ballot} : ∀ {vs ds}, BallotsN ld vs ds → BallotsN ld [v] [d] → BallotsN ld (vs ++ [v]) (ds ++ [d])
  | _, _, .nil, h => h
  | _, _, .cons T M n k x y z e t0 t1 t2 t3 m1 m2 i1 i2 i3 i4 r, h => .cons T M n k x y z e t0 t1 t2 t3 m1 m2 i1 i2 i3 i4 (BallotsN.snoc r h)
theorem BallotsN.ref {ld : List (Addr × Obj)} : ∀ {vs ds}, BallotsN ld vs ds → ∃ Ts : List Addr, vs = Ts.map Value.ref ∧ Ts.length = ds.length
  | _, _, .nil => ⟨[], rfl, rfl⟩
  | _, _, .cons T _ _ _ _ _ _ _ _ _ _ _ _ _ _ _ _ _ r => by
    obtain ⟨Ts, rfl, e⟩ := BallotsN.ref r
    exact ⟨T :: Ts, rfl, congrArg (· + 1) e⟩
theorem five_of {α : Type} {l : List α} (h : l.length = 5) : ∃ a b c d e, l = [a, b, c, d, e] := by
  match l, h with
  | [a, b, c, d, e], _ => exact ⟨a, b, c, d, e, rfl⟩
theorem BallotsN.five {ld : List (Addr × Obj)} {vs : List Value} {ds : List Ballot} (h : BallotsN ld vs ds) (h5 : ds.length = 5) : ∃ T0 T1 T2 T3 T4 d0 d1 d2 d3 d4, vs = [.ref T0, .ref T1, .ref T2, .ref T3, .ref T4] ∧ ds = [d0, d1, d2, d3, d4] := by
  obtain ⟨Ts, rfl, e⟩ := h.ref
  obtain ⟨T0, T1, T2, T3, T4, rfl⟩ := five_of (e.trans h5)
  obtain ⟨d0, d1, d2, d3, d4, rfl⟩ := five_of h5
  exact ⟨_, _, _, _, _, _, _, _, _, _, rfl, rfl⟩
theorem ballots_out {tl : List (Addr × Obj)} {l' : Addr} {n : Nat} {vs : List Value} {ds : List Ballot} (h5 : ds.length = 5) (h1 : (l', W.listOf vs.toArray n) ∈ tl) (h2 : BallotsN tl vs ds) : BallotsPost tl (.ref l') := by
  obtain ⟨T0, T1, T2, T3, T4, d0, d1, d2, d3, d4, ey, ed⟩ := h2.five h5
  subst ey ed
  exact ballots_post h1 h2
section
variable {prog : Program} {w : World} {A : Around} {E : Value → Shared → Prop} {s : Shared} {h₀ : Heap} {L : Addr} {m : Str → Option Value} {env : Env}
theorem cells_src {elt : PySem.Expr} {x : Str} {scope : Scope} {cl : List (Str × Addr)} {Fin : Shared → List Value → List (Addr × Obj) → Prop} {ax : Addr} {cv : List Value} {cn : List Int} {k : Nat} {news : List (Addr × Obj)}
    (hi : IntsAre cv cn) (h5 : cn.length = 5) (hh : A.handled = none) (F : Fr h₀ L s.heap m) (N : News h₀ L s.heap news) (hm : (ax, W.listOf cv.toArray k) ∈ news)
    (turn : ∀ (k : Int) t g I oI C oC D m₂ ys own h tk (E' : Value → Shared → Prop), LCg.NsObj oC m₂ → m₂ x = some (.int k t) → Fr h₀ L h m → News h₀ L h ((I, oI) :: (C, oC) :: (D, LCg.lst ys) :: (own ++ news)) →
      wpAny (model prog w) A (eval elt (compEnvC scope cl C env)) (BuiltEnd h₀ L m { s with heap := h, toks := tk } ((I, oI) :: (C, oC) :: (D, LCg.lst ys) :: (own ++ news)) I C D
        (fun y os => ∃ T M n n' u0 u1 u2 u3, y = .ref T ∧ os = [(T, tupOf #[.ref M, .int ((k.fdiv 729).fmod 10) u0] n), (M, W.listOf [Value.int (k.fmod 9) u1, .int ((k.fdiv 9).fmod 9) u2, .int ((k.fdiv 81).fmod 9) u3].toArray n')])) E' { ({ s with heap := g } : Shared) with heap := h, toks := tk })
    (fin : ∀ g ys own, BallotsN own ys (cn.map ballotZ) → Fin { s with heap := g } ys (own ++ news)) : LCg.CompSrc prog w A h₀ L m env elt x scope cl Fin (.ref ax) s := by
  have hl : cv.length = 5 := by rw [hi.length, h5]
  refine LCg.CompSrc.ledger (its := cv.toArray) (k := k) hh F N hm (by rw [List.size_toArray, sizeLine_eq]; omega) fun g => ?_
  refine build_rest (fun i ys own => BallotsN own ys ((cn.take i).map ballotZ)) (by rw [List.size_toArray]) (fun own => .inr ⟨_, List.mem_append_right own hm, rfl, _, rfl⟩) .nil ?_ (fun ys own hb => fin g ys own ?_)
  · intro i v hv I oI C oC D m₂ ys own h tk E' hb hC hx F' N'
    obtain ⟨z, t, hz, ez⟩ := IntsAre.at hi i v hv
    subst hz
    refine wpAny_mono (turn _ _ g I oI C oC D m₂ ys own h tk E' hC hx F' N') (fun y s' hq => ?_) fun _ _ e => e
    obtain ⟨os, h', tk', e, F2, N2, ho, T, M, n, n', u0, u1, u2, u3, ey, eo⟩ := hq
    subst ey eo
    refine ⟨_, h', tk', e, F2, N2, ho, ?_⟩
    have e2 : (cn.take (i + 1)).map ballotZ = (cn.take i).map ballotZ ++ [ballotZ z] := by
      rw [List.take_add_one, ez, List.map_append]; rfl
    show BallotsN _ _ ((cn.take (i + 1)).map ballotZ)
    rw [e2]
    exact (hb.mono fun p hp => List.mem_append_right _ hp).snoc (BallotsN.mk T M _ _ _ _ _ _ _ _ _ _ (.head _) (.tail _ (.head _)) .nil)
  · rw [List.size_toArray, hl, ← h5, List.take_length] at hb
    exact hb
end
theorem kw_21 : True := by
  k_with "CompSrc" => ((k_here; (with_reducible rename IntsAre _ _ => kIzq); k_dflt (refine cells_src kIzq (by assumption) (by rfl) (by k_asm) (by k_asm) (by k_mem) (fun k'zq t'zq g'zq I'zq oI'zq C'zq oC'zq D'zq m'zq ys'zq own'zq h'zq tk'zq E'zq hC'zq hx'zq F'zq N'zq => ?_) (fun g'zq ys'zq own'zq hb'zq => ?_))))
  k_with "BuiltEnd" => ((refine BuiltEnd.mk2 (by with_reducible assumption) (by with_reducible assumption) ⟨by with_reducible assumption, by with_reducible assumption, by with_reducible assumption⟩ ⟨by with_reducible assumption, by with_reducible assumption, by with_reducible assumption⟩ ⟨_, _, _, _, _, _, _, _, rfl, rfl⟩))
  k_with "exec For Tuple Call" => (k_extra "x for")
  trivial
set_option maxRecDepth 100000 in
set_option maxHeartbeats 8000000 in
theorem ballots_c (w : World) (l : Addr) (vs : List Value) (ns : List Int) (hi : IntsAre vs ns) (hlen : ns.length ≤ 63) : XC w 75 2 [.ref l] (fun h => h.IsList l vs.toArray) BallotsPost := by
  k_extra "x enter"
  k_steps
  (with_reducible rename Fr _ _ _ _ => kF)
  (with_reducible rename News _ _ _ _ => kN)
  (rename IntsAre _ (List.take 40 ns) => kI)
  refine iter_enumV (lo := W.listOf _ _) (CellInv _ (W.listOf _ _) _ _) (by rfl) kF kN (by k_mem) (by rfl) (by rfl) ⟨_, _, _, _, kI, .cons _ _ (.cons _ _ (.cons _ _ (.cons _ _ (.cons _ _ .nil)))), rfl, OffN.refl, rfl⟩ ?hz ?hs
  all_goals (clear kF kN)
  case hz =>
    intro i m news hi
    apply CellInv.fin hi
    intro cv cn c u v hv hn h tk F' N'
    try dsimp only
    k_steps
    refine (XEnd.mk (by with_reducible assumption) (by assumption) ?_ : XEnd _ _ _ _ _ _ _ _)
    (with_reducible rename BallotsN _ _ _ => hb)
    exact ballots_out (by rw [List.length_map]; assumption) List.mem_cons_self (hb.mono fun p hp => List.mem_cons_of_mem _ (List.mem_append_left _ hp))
  case hs =>
    intro I l1 i x r m news hi
    try k_lt l1
    apply CellInv.turn hi
    intro n t cv cn c u v hv hn on T' t' h tk o1 o2 hT' F' N'
    try dsimp only
    k_steps
    exact on _ _ _ _ (by assumption) (by rw [List.length_set]; assumption) (by k_extra "x off2")
theorem kw_22 : True := by
  w_top off
  k_with_none
  k_with "x mem" => (first | (with_reducible assumption) | (with_reducible exact List.mem_cons_self) | (refine' List.mem_cons_of_mem _ ?_; k_extra "x mem") | (refine' List.mem_append_left _ ?_; k_extra "x mem") | (refine' List.mem_append_right _ ?_; k_extra "x mem"))
  k_with "x enter" => ((
  refine' xc_def ?k6r174 ?k7r174 ?k8r174 (fun s => ?k9r174) ?kBr174 ?c5r174 ?c2r174 ?c3r174 ?c4r174 ?_
  (case k6r174 => k_is)
  (case k7r174 => k_is)
  (case k8r174 => decide)
  (case k9r174 => exact BindsTo.of_eq rfl)
  (case c5r174 => decide)
  (case kBr174 => exact locs rfl)
  (case c2r174 => exact rfl)
  (case c3r174 => exact rfl)
  (case c4r174 => exact rfl)
  intro loosezq meanzq mgzq mbzq dpzq unzq gdzq cnzq cszq Lzq azq ccdzq clzq outerzq basezq gzq L'zq h'zq gszq drzq oszq tkzq Ezq F'zq N'zq B'zq X'zq T'zq hpzq hdzq huzq
  (try dsimp only) 
  (try k_fold)))
  k_with "x sides" => ((
  (case k1 => k_asm)
  (case k2 => k_asm)
  (case k3 => k_asm)
  (case k4 => k_asm)
  (case k5 => k_asm)
  (case kK => first | exact rfl | assumption)
  (case kd => ktr_room)
  (case ku => ktr_units)))
  k_with "subscriptTail Name Constant ref int" => ((k_here; k_dflt ((with_reducible show wpAny _ _ (subscriptTail _ _ (Value.ref _) (Value.int _ _)) _ _ _); (with_unfolding_all refine' item_litK ?k1r176 ?k2r176 ?k3r176 ?k4r176 ?_ ?k6r176; (case k1r176 => is_list); (case k2r176 => decide); (case k3r176 => decide); (case k4r176 => rfl); (case k6r176 => with_unfolding_all rfl)))))
  k_with "subscriptTail Name BinOp ref int" => ((k_here; k_dflt ((with_reducible show wpAny _ _ (subscriptTail _ _ (Value.ref _) (Value.int _ _)) _ _ _); (with_unfolding_all refine' item_litK ?k1r177 ?k2r177 ?k3r177 ?k4r177 ?_ ?k6r177; (case k1r177 => is_list); (case k2r177 => decide); (case k3r177 => decide); (case k4r177 => rfl); (case k6r177 => with_unfolding_all rfl)))))
  k_with "subscriptTail Name Name ref int" => ((k_here; k_dflt ((with_reducible show wpAny _ _ (subscriptTail _ _ (Value.ref _) (Value.int _ _)) _ _ _); (with_unfolding_all refine' item_litK ?k1r178 ?k2r178 ?k3r178 ?k4r178 ?_ ?k6r178; (case k1r178 => is_list); (case k2r178 => decide); (case k3r178 => decide); (case k4r178 => rfl); (case k6r178 => with_unfolding_all rfl)))))
  k_with "eval Name" => ((k_here; dsimp only))
  trivial
section
open PySem.Builtin.Re
variable {prog : Program} {w : World} {A : Around} {E : Value → Shared → Prop} {h : Heap} {g : Array GenState} {d : Drawn} {t : Nat} {os : OsState} {P C : Addr} {x pt : Str} {u u1 u2 : Tok} {fl : Int} {cs : Array Value}
abbrev patObj (pt : Str) (u1 : Tok) (fl : Int) (u2 : Tok) (C : Addr) : Obj := { cls := .type "re.Pattern", data := .fields #[.str pt u1, .int fl u2, .int 0 0, .none, .none, .ref C, .int 0 0] }
theorem named_search : reNamed "re.Pattern.search" "search" ["string", "pos", "endpos"] 1 [.str x u] [] = pure [some (.str x u), none, none] := by rfl
theorem target_rule {Q : ReTarget → Shared → Prop} (hP : h.get? P = some (patObj pt u1 fl u2 C)) (hC : h.get? C = some { cls := .type "tuple", data := .seq cs }) (hx : x.cps.size ≤ 2 ^ 24)
    (hq : Q { pattern := .ref P, string := .str x u, code := (cs.map reRawOf).map (·.toNat), text := x.cps, kind := 0, groups := 0, pos := 0, lim := x.cps.size } ⟨h, g, d, t, os⟩) :
    wpAny (model prog w) A (reTarget "re.Pattern.search" "search" ⟨[.ref P, .str x u], []⟩) Q E ⟨h, g, d, t, os⟩ := by
  show wpAny _ _ (reNamed "re.Pattern.search" "search" ["string", "pos", "endpos"] 1 [.str x u] [] >>= _) _ _ _
  rw [named_search]
  repeat (any_goals (first | assumption | wp_step))
  have e : (fun (i : Int) => min i.toNat x.cps.size) (2 ^ 63 - 1) = x.cps.size := by
    show min ((2 ^ 63 - 1 : Int)).toNat x.cps.size = x.cps.size
    omega
  have e0 : (fun (i : Int) => min i.toNat x.cps.size) 0 = 0 := by
    show min ((0 : Int)).toNat x.cps.size = 0
    omega
  rw [e, e0]
  exact hq
def ipVals : Array Value := #[.int 14 0, .int 8 0, .int 1 0, .int 2 0, .int 4294967295 0, .int 1 0, .int 1 0, .int 46 0, .int 0 0, .int 16 0, .int 46 0, .int 24 0, .int 9 0, .int 1 0, .int 4294967295 0, .int 13 0, .int 4 0, .int 8 0, .int 0 0, .int 0 0, .int 1 0, .int 6 0, .int 5 0, .int 1 0]
theorem ipVals_code : (ipVals.map reRawOf).map (·.toNat) = ipCode := by decide +kernel
theorem reRun_at {M : Model} {m₀ m : Sre.M} {N : Nat} {s : Shared} {Q : Option Sre.M → Shared → Prop} (hN : N ≤ 2 ^ 60) (h0 : 0 < N) (e : Sre.M.runFor N m₀ = m) (ho : m.outcome = some .matched) (hq : Q (some m) s) : wpAny M A (reRunToEnd m₀) Q E s := by
  subst e
  exact reRun_found hN h0 ho hq
theorem search_none {Q : Value → Shared → Prop} (hP : h.get? P = some (patObj pt u1 fl u2 C)) (hC : h.get? C = some { cls := .type "tuple", data := .seq ipVals }) (hx : x.cps.size < 1048576)
    (hlast : x.cps.getD (x.cps.size - 1) 0 ≠ 10) (hno : ∀ j, j < x.cps.size → ¬ ipEnd x.cps x.cps.size j) (hq : Q .none ⟨h, g, d, t, os⟩) :
    wpAny (model prog w) A (call (.builtin "re.Pattern.search") [.ref P, .str x u]) Q E ⟨h, g, d, t, os⟩ := by
  refine wpAny_call (codeAny_call_builtin RF.slot_search.plain RF.entry_search (RF.slot_search.check _ _ _ _ _ _ _ _ ⟨_, hP, rfl⟩ (RF.args_search _ _) ?_))
  refine wpAny_bind (target_rule hP hC (by omega) ?_)
  rw [ipVals_code]
  obtain ⟨N, h1, h2, h3⟩ := ip_none x.cps x.cps.size hlast hx hno
  refine wpAny_bind (reRun_none h1 h2 h3 ?_)
  exact wpAny_pure hq
theorem search_found {Q : Value → Shared → Prop} (hP : h.get? P = some (patObj pt u1 fl u2 C)) (hC : h.get? C = some { cls := .type "tuple", data := .seq ipVals }) (hx : x.cps.size < 1048576)
    (hlast : x.cps.getD (x.cps.size - 1) 0 ≠ 10) (s : Nat) (hs : s < x.cps.size) (hy : ipEnd x.cps x.cps.size s) (hno : ∀ j, j < s → ¬ ipEnd x.cps x.cps.size j)
    (hq : Q (.ref (h.objs.size + 1)) ⟨(h.push (tupOf #[.int s 0, .int x.cps.size 0] 0)).push (matObj x u (.ref P) h.objs.size x.cps.size), g, d, t, os⟩) :
    wpAny (model prog w) A (call (.builtin "re.Pattern.search") [.ref P, .str x u]) Q E ⟨h, g, d, t, os⟩ := by
  refine wpAny_call (codeAny_call_builtin RF.slot_search.plain RF.entry_search (RF.slot_search.check _ _ _ _ _ _ _ _ ⟨_, hP, rfl⟩ (RF.args_search _ _) ?_))
  refine wpAny_bind (target_rule hP hC (by omega) ?_)
  rw [ipVals_code]
  obtain ⟨N, m, h1, h2, h3, h4, h5, h6, h7, h8, h9⟩ := ip_found x.cps x.cps.size hlast hx s hs hy hno
  refine wpAny_bind (reRun_at h1 h2 h3 h4 ?_)
  repeat (any_goals (first | assumption | wp_step))
  show Q (.ref (h.push { cls := .type "tuple", data := .seq [rawInt m.start, rawInt m.handed].toArray }).objs.size) ⟨(h.push { cls := .type "tuple", data := .seq [rawInt m.start, rawInt m.handed].toArray }).push { cls := .type "re.Match", data := .fields #[.str x u, .ref P, rawInt 0, rawInt x.cps.size, rawInt m.lastindex, .ref h.objs.size] }, g, d, t, os⟩
  rw [h5, h6, h8, Heap.size_push]
  exact hq
theorem group_call {a T : Addr} {pat : Value} {lim : Int} {b e n : Nat} {u0 : Tok} {Q : Value → Shared → Prop} (hx : h.get? a = some (matObj x u pat T lim)) (hT : h.get? T = some (tupOf #[.int b 0, .int e 0] n)) (hz : x.cps.size ≤ 2 ^ 24)
    (hq : Q (.str ⟨x.cps.extract b e⟩ t) ⟨h, g, d, t + 1, os⟩) :
    wpAny (model prog w) A (call (.builtin "re.Match.group") [.ref a, .int 0 u0]) Q E ⟨h, g, d, t, os⟩ := by
  refine wpAny_call (codeAny_call_builtin RF.slot_group.plain RF.entry_group (RF.slot_group.check _ _ _ _ _ _ _ _ ⟨_, hx, rfl⟩ (RF.args_group _ _) ?_))
  unfold Builtin.«re.Match.group»
  repeat (any_goals (first | assumption | wp_step))
  have er : Array.map reRawOf ((some #[Value.int (b : Int) 0, Value.int (e : Int) 0]).getD #[]) = #[(b : Int), (e : Int)] := by simp [reRawOf]
  rw [er]
  apply wpAny_ite_false
  · show decide ((decide ((b : Int) < 0) || decide ((e : Int) < 0)) = true) = false
    simp
  repeat (any_goals (first | assumption | wp_step))
  apply wpAny_ite_false
  · show decide ((x.cps.extract b e).size > 2 ^ 24) = false
    have : (x.cps.extract b e).size ≤ x.cps.size := by rw [Array.size_extract]; omega
    exact decide_eq_false (by omega)
  repeat (any_goals (first | assumption | wp_step))
end
section
variable {prog : Program} {w : World} {A : Around} {E : Value → Shared → Prop} {s : Shared} {h₀ : Heap} {L : Addr} {m : Str → Option Value} {news : List (Addr × Obj)}
/-- the dot-number's pattern, as the top left it -/
structure IpPat (h₀ : Heap) : Prop where
  pat : ∃ pt u1 fl u2, h₀.get? 63 = some (patObj pt u1 fl u2 62)
  code : h₀.get? 62 = some { cls := .type "tuple", data := .seq ipVals }
def ipNo (x : Str) : Prop := x.cps.size < 1048576 ∧ x.cps.getD (x.cps.size - 1) 0 ≠ 10 ∧ ∀ j, j < x.cps.size → ¬ ipEnd x.cps x.cps.size j
def ipYes (x : Str) (i : Nat) : Prop := x.cps.size < 1048576 ∧ x.cps.getD (x.cps.size - 1) 0 ≠ 10 ∧ i < x.cps.size ∧ ipEnd x.cps x.cps.size i ∧ ∀ j, j < i → ¬ ipEnd x.cps x.cps.size j
theorem search_noN {x : Str} {u : Tok} {Q : Value → Shared → Prop} (F : Fr h₀ L s.heap m) (I : IpPat h₀) (hx : ipNo x) (hq : Q .none s) : wpAny (model prog w) A (call (.builtin "re.Pattern.search") [.ref 63, .str x u]) Q E s := by
  obtain ⟨pt, u1, fl, u2, hp⟩ := I.pat
  exact search_none (F.keep _ _ hp) (F.keep _ _ I.code) hx.1 hx.2.1 hx.2.2 hq
theorem search_yesN {x : Str} {u : Tok} {i : Nat} {Q : Value → Shared → Prop} (F : Fr h₀ L s.heap m) (N : News h₀ L s.heap news) (I : IpPat h₀) (hx : ipYes x i)
    (hq : ∀ a T h', Fr h₀ L h' m → News h₀ L h' ((a, matObj x u (.ref 63) T x.cps.size) :: (T, tupOf #[.int i 0, .int x.cps.size 0] 0) :: news) → (∀ p ∈ news, p.1 < T) → T < a → Q (.ref a) { s with heap := h' }) :
    wpAny (model prog w) A (call (.builtin "re.Pattern.search") [.ref 63, .str x u]) Q E s := by
  obtain ⟨pt, u1, fl, u2, hp⟩ := I.pat
  refine search_found (F.keep _ _ hp) (F.keep _ _ I.code) hx.1 hx.2.1 i hx.2.2.1 hx.2.2.2.1 hx.2.2.2.2 ?_
  have N1 := N.push F (tupOf #[.int i 0, .int x.cps.size 0] 0)
  have F1 := F.push (tupOf #[.int i 0, .int x.cps.size 0] 0)
  have N2 := N1.push F1 (matObj x u (.ref 63) s.heap.objs.size x.cps.size)
  rw [Heap.size_push] at N2
  exact hq _ _ _ (F1.push _) N2 (fun p hp => Heap.lt_size (N p hp).1) (Nat.lt_succ_self _)
theorem span_N {x : Str} {u u0 : Tok} {pat : Value} {a T : Addr} {lim b e : Int} {n : Nat} {Q : Value → Shared → Prop} (F : Fr h₀ L s.heap m) (N : News h₀ L s.heap news) (h1 : s.heap.get? a = some (matObj x u pat T lim)) (h2 : s.heap.get? T = some (tupOf #[.int b 0, .int e 0] n))
    (hq : ∀ c h' t1 t2 tk, Fr h₀ L h' m → News h₀ L h' ((c, tupOf [Value.int b t1, .int e t2].toArray 0) :: news) → (∀ p ∈ news, p.1 < c) → Q (.ref c) { s with heap := h', toks := tk }) :
    wpAny (model prog w) A (call (.builtin "re.Match.span") [.ref a, .int 0 u0]) Q E s :=
  span_call h1 h2 (hq _ _ _ _ _ (F.push _) (N.push F _) fun p hp => Heap.lt_size (N p hp).1)
theorem group_N {x : Str} {u u0 : Tok} {pat : Value} {a T : Addr} {lim : Int} {b e n : Nat} {Q : Value → Shared → Prop} (h1 : s.heap.get? a = some (matObj x u pat T lim)) (h2 : s.heap.get? T = some (tupOf #[.int b 0, .int e 0] n)) (hz : x.cps.size ≤ 2 ^ 24)
    (hq : ∀ t tk, Q (.str ⟨x.cps.extract b e⟩ t) { s with toks := tk }) :
    wpAny (model prog w) A (call (.builtin "re.Match.group") [.ref a, .int 0 u0]) Q E s :=
  group_call h1 h2 hz (hq _ _)
theorem string_N {x : Str} {u : Tok} {pat : Value} {a T : Addr} {lim : Int} {expr : Bool} {Q : Value → Shared → Prop} (h1 : s.heap.get? a = some (matObj x u pat T lim)) (hq : ∀ tk, Q (.str x u) { s with toks := tk }) :
    wpAny (model prog w) A (getAttr (.ref a) "string" expr) Q E s :=
  mstr_attr h1 rfl rfl rfl rfl (hq _)
theorem search_meth {pl : Sem Bool} {Q : Value × List Value → Shared → Prop} (F : Fr h₀ L s.heap m) (I : IpPat h₀) (hq : Q (.builtin "re.Pattern.search", [.ref 63]) s) : wpAny (model prog w) A (getMethod (.ref 63) "search" pl) Q E s := by
  obtain ⟨pt, u1, fl, u2, hp⟩ := I.pat
  exact getMethod_builtin ⟨_, F.keep _ _ hp, rfl⟩ RF.plainAttrs_pat RF.slot_search RF.type_search (fun a e => by cases e; exact ⟨_, F.keep _ _ hp, rfl⟩) hq
theorem span_meth {x : Str} {u : Tok} {pat : Value} {a T : Addr} {lim : Int} {pl : Sem Bool} {Q : Value × List Value → Shared → Prop} (h1 : s.heap.get? a = some (matObj x u pat T lim)) (hq : Q (.builtin "re.Match.span", [.ref a]) s) : wpAny (model prog w) A (getMethod (.ref a) "span" pl) Q E s :=
  getMethod_builtin ⟨_, h1, rfl⟩ RF.plainAttrs_mat RF.slot_span RF.type_span (fun a e => by cases e; exact ⟨_, h1, rfl⟩) hq
theorem group_meth {x : Str} {u : Tok} {pat : Value} {a T : Addr} {lim : Int} {pl : Sem Bool} {Q : Value × List Value → Shared → Prop} (h1 : s.heap.get? a = some (matObj x u pat T lim)) (hq : Q (.builtin "re.Match.group", [.ref a]) s) : wpAny (model prog w) A (getMethod (.ref a) "group" pl) Q E s :=
  getMethod_builtin ⟨_, h1, rfl⟩ RF.plainAttrs_mat RF.slot_group RF.type_group (fun a e => by cases e; exact ⟨_, h1, rfl⟩) hq
end
theorem kw_23 : True := by
  w_top off
  k_with_none
  k_with "x mem" => (first | (with_reducible assumption) | (with_reducible exact List.mem_cons_self) | (refine' List.mem_cons_of_mem _ ?_; k_extra "x mem") | (refine' List.mem_append_left _ ?_; k_extra "x mem") | (refine' List.mem_append_right _ ?_; k_extra "x mem"))
  k_with "x enter" => ((
  refine' xc_def ?k6r181 ?k7r181 ?k8r181 (fun s => ?k9r181) ?kBr181 ?c5r181 ?c2r181 ?c3r181 ?c4r181 ?_
  (case k6r181 => k_is)
  (case k7r181 => k_is)
  (case k8r181 => decide)
  (case k9r181 => exact BindsTo.of_eq rfl)
  (case c5r181 => decide)
  (case kBr181 => exact locs rfl)
  (case c2r181 => exact rfl)
  (case c3r181 => exact rfl)
  (case c4r181 => exact rfl)
  intro loosezq meanzq mgzq mbzq dpzq unzq gdzq cnzq cszq Lzq azq ccdzq clzq outerzq basezq gzq L'zq h'zq gszq drzq oszq tkzq Ezq F'zq N'zq B'zq X'zq T'zq hpzq hdzq huzq
  (try dsimp only) 
  (try k_fold)))
  k_with "x sides" => ((
  (case k1 => k_asm)
  (case k2 => k_asm)
  (case k3 => k_asm)
  (case k4 => k_asm)
  (case k5 => k_asm)
  (case kK => first | exact rfl | assumption)
  (case kd => ktr_room)
  (case ku => ktr_units)))
  k_with "subscriptTail Name Constant ref int" => ((k_here; k_dflt ((with_reducible show wpAny _ _ (subscriptTail _ _ (Value.ref _) (Value.int _ _)) _ _ _); (with_unfolding_all refine' item_litK ?k1r183 ?k2r183 ?k3r183 ?k4r183 ?_ ?k6r183; (case k1r183 => is_list); (case k2r183 => decide); (case k3r183 => decide); (case k4r183 => rfl); (case k6r183 => with_unfolding_all rfl)))))
  k_with "subscriptTail Name BinOp ref int" => ((k_here; k_dflt ((with_reducible show wpAny _ _ (subscriptTail _ _ (Value.ref _) (Value.int _ _)) _ _ _); (with_unfolding_all refine' item_litK ?k1r184 ?k2r184 ?k3r184 ?k4r184 ?_ ?k6r184; (case k1r184 => is_list); (case k2r184 => decide); (case k3r184 => decide); (case k4r184 => rfl); (case k6r184 => with_unfolding_all rfl)))))
  k_with "subscriptTail Name Name ref int" => ((k_here; k_dflt ((with_reducible show wpAny _ _ (subscriptTail _ _ (Value.ref _) (Value.int _ _)) _ _ _); (with_unfolding_all refine' item_litK ?k1r185 ?k2r185 ?k3r185 ?k4r185 ?_ ?k6r185; (case k1r185 => is_list); (case k2r185 => decide); (case k3r185 => decide); (case k4r185 => rfl); (case k6r185 => with_unfolding_all rfl)))))
  k_with "eval Name" => ((k_here; dsimp only))
  trivial
section
open PySem.Builtin.Re
variable {prog : Program} {w : World} {A : Around} {E : Value → Shared → Prop} {h : Heap} {g : Array GenState} {d : Drawn} {t : Nat} {os : OsState} {P C D : Addr} {x pt r : Str} {u u1 u2 ur : Tok} {fl : Int} {cs : Array Value}
def twVals : Array Value := #[.int 14 0, .int 4 0, .int 0 0, .int 0 0, .int 0 0, .int 6 0, .int 1 0, .int 5 0, .int 5 0, .int 0 0, .int 6 0, .int 6 0, .int 1 0, .int 1 0]
theorem twVals_code : (twVals.map reRawOf).map (·.toNat) = twCode := by decide +kernel
theorem whole_rule {Q : ReTarget → Shared → Prop} (hP : h.get? P = some (patObj pt u1 fl u2 C)) (hC : h.get? C = some { cls := .type "tuple", data := .seq cs })
    (hq : Q { pattern := .ref P, string := .str x u, code := (cs.map reRawOf).map (·.toNat), text := x.cps, kind := 0, groups := 0, pos := 0, lim := x.cps.size } ⟨h, g, d, t, os⟩) :
    wpAny (model prog w) A (reWholeTarget (.ref P) (.str x u)) Q E ⟨h, g, d, t, os⟩ := by
  unfold reWholeTarget
  repeat (any_goals (first | assumption | wp_step))
theorem push_rule {y : Str} {ty : Tok} {ps : List (Str × Tok)} {m : Nat} {Q : Unit → Shared → Prop} (hd : h.get? D = some { cls := .type "list", data := .seq (strValues ps).toArray m }) (hl : ps.length ≤ 1000000)
    (hq : ∀ h' m', h'.get? D = some { cls := .type "list", data := .seq (strValues (ps ++ [(y, ty)])).toArray m' } → (∀ b o, b ≠ D → h.get? b = some o → h'.get? b = some o) → Q () ⟨h', g, d, t, os⟩) :
    wpAny (model prog w) A (updateSeq D (·.push (.str y ty))) Q E ⟨h, g, d, t, os⟩ := by
  have hsz : (strValues ps).toArray.size ≤ 1000000 := by simpa [strValues] using hl
  refine wpAny_updateSeq hd rfl (hq _ (m + 1) ?_ ?_) (by rw [sizeLine_eq]; omega) (by rw [sizeLine_eq, Array.size_push]; omega)
  · rw [Heap.get?_update_self _ hd rfl]
    simp [Obj.mapSeq, strValues]
  · intro b o hb e
    exact (Heap.get?_update_ne _ _ _ _ hb).trans e
theorem sub_loop (sp : List Nat) (T : List Nat) (hr : r.cps.toList = sp) (hx : x.cps.size < 100000) (hT : T.length ≤ 16777216) (hP : P ≠ D) (hC : C ≠ D) {R : Result → Shared → Prop} :
    ∀ (k s : Nat) (must : Bool) (h : Heap) (t : Nat) (n : Int) (ps : List (Str × Tok)) (m : Nat),
      2 * (x.cps.size - s) + (if must then 0 else 1) < k → s ≤ x.cps.size → (must = true → s < x.cps.size) → ps.length ≤ 2 * s + (if must then 1 else 0) →
      h.get? P = some (patObj pt u1 fl u2 C) → h.get? C = some { cls := .type "tuple", data := .seq twVals } → h.get? D = some { cls := .type "list", data := .seq (strValues ps).toArray m } →
      (ps.flatMap (·.1.cps.toList)) ++ remI sp x.cps.toList s must = T →
      (∀ h' t' tk, (∀ b o, b ≠ D → h.get? b = some o → h'.get? b = some o) → R (.ok (.ret (.str ⟨T.toArray⟩ t'))) ⟨h', g, d, tk, os⟩) →
      codeAny (model prog w) A (.builtin "re.Pattern.sub.loop" ⟨[.ref P, .str x u, .str r ur, rawInt 0, rawInt 0, rawInt n, rawInt s, rawInt s, .bool must, .ref D, .bool false], []⟩) R ⟨h, g, d, t, os⟩ := by
  intro k
  induction k with
  | zero => intro s must h t n ps m hk; omega
  | succ k ih =>
    intro s must h t n ps m hk hs hm hl hp hc hd hrem hR
    have hlen : x.cps.toList.length = x.cps.size := Array.length_toList
    have hl' : ps.length ≤ 200000 := by split at hl <;> omega
    refine codeAny_builtin RF.entry_subloop ?_
    rw [Around.under_plainId (by decide +kernel) _]
    unfold Builtin.«re.Pattern.sub.loop»
    refine wpAny_bind (whole_rule hp hc ?_)
    rw [twVals_code]
    repeat ((fail_if_success (with_reducible show wpAny _ _ (reNextFound _ _ _ >>= _) _ _ _)); (fail_if_success (with_reducible show wpAny _ _ (reNextFound _ _ _) _ _ _)); wp_step)
    rcases next_line x.cps.toList s must (by omega) with ⟨i, hi1, hi2, hi3, hi4, hi5⟩ | hno
    · have hi2' : i < x.cps.size := by omega
      obtain ⟨N, m', h1, h2, h3, h4, h5, h6, h7, h8, h9⟩ := tw_found x.cps x.cps.size s must i hi1 (by omega) (by omega) (by rw [lineAt_L]; exact hi3) hi4 (fun j a b => by rw [lineAt_L]; exact hi5 j a b)
      have hf := remI_found sp x.cps.toList s i must hi1 hi2 hi3 hi4 hi5
      refine reRun_at (s := ⟨h, g, d, t, os⟩) h1 h2 h3 h4 ?_
      dsimp only
      rw [h5, h6]
      by_cases hlt : s < i
      · rw [if_pos (show (s : Int).toNat < i from hlt)]
        refine wpAny_bind (wpAny_mkStr' ?_ (by rw [sizeLine_eq]; show (x.cps.extract _ _).size ≤ _; rw [Array.size_extract]; omega))
        refine wpAny_bind (push_rule hd (by omega) fun hA mA hdA hkA => ?_)
        rw [if_pos (by rfl)]
        refine wpAny_bind (wpAny_pure ?_)
        rw [if_pos (by rfl)]
        refine wpAny_bind (push_rule hdA (by rw [List.length_append]; show ps.length + 1 ≤ _; omega) fun hB mB hdB hkB => ?_)
        refine wpAny_pure ⟨Code.quiet_builtin _ (by decide +kernel), ?_⟩
        rw [show (i == i) = true by simp]
        refine ih i true hB _ _ _ mB ?_ (by omega) (fun _ => hi2') ?_ (hkB _ _ hP (hkA _ _ hP hp)) (hkB _ _ hC (hkA _ _ hC hc)) hdB ?_ (fun h' t' tk hk' => hR h' t' tk fun b o hb e => hk' b o hb (hkB b o hb (hkA b o hb e)))
        · simp only [if_true]; split at hk <;> omega
        · simp only [List.length_append, List.length_cons, List.length_nil, if_true]; cases must <;> simp at hl hi4 ⊢ <;> omega
        · rw [← hrem, hf, extract_L]
          simp [List.flatMap_append, hr]
      · rw [if_neg (show ¬ (s : Int).toNat < i from hlt)]
        rw [if_pos (by rfl)]
        refine wpAny_bind (wpAny_pure ?_)
        rw [if_pos (by rfl)]
        refine wpAny_bind (push_rule hd (by omega) fun hB mB hdB hkB => ?_)
        refine wpAny_pure ⟨Code.quiet_builtin _ (by decide +kernel), ?_⟩
        rw [show (i == i) = true by simp]
        have hmf : must = false := by
          cases hq : must with
          | false => rfl
          | true => exact absurd (hi4 hq) hlt
        have hsi : s = i := by omega
        refine ih i true hB _ _ _ mB ?_ (by omega) (fun _ => hi2') ?_ (hkB _ _ hP hp) (hkB _ _ hC hc) hdB ?_ (fun h' t' tk hk' => hR h' t' tk fun b o hb e => hk' b o hb (hkB b o hb e))
        · rw [hmf] at hk; simp at hk ⊢; omega
        · rw [hmf] at hl; simp at hl ⊢; omega
        · rw [← hrem, hf, hsi]
          simp [List.flatMap_append, hr]
    · obtain ⟨N, h1, h2, h3⟩ := tw_none x.cps x.cps.size s must hs (by omega) (fun j a b => by rw [lineAt_L]; exact hno j a (by omega))
      have hf := remI_none sp x.cps.toList s must (by omega) (by omega) hno
      refine reRun_none (s := ⟨h, g, d, t, os⟩) h1 h2 h3 ?_
      dsimp only
      by_cases hlt : s < x.cps.size
      · rw [if_pos (show (s : Int).toNat < x.cps.size from hlt)]
        refine wpAny_bind (wpAny_mkStr' ?_ (by rw [sizeLine_eq]; show (x.cps.extract _ _).size ≤ _; rw [Array.size_extract]; omega))
        refine wpAny_bind (push_rule hd (by omega) fun hA mA hdA hkA => ?_)
        refine wpAny_bind (wpAny_mkStr' ?_ (by rw [sizeLine_eq]; show (x.cps.extract _ _).size ≤ _; rw [Array.size_extract]; omega))
        refine wpAny_bind (wpAny_seqItems hdA rfl ?_)
        rw [if_neg (by simp [strValues])]
        refine wpAny_bind ?_
        have hT' : T = (ps ++ [(({ cps := x.cps.extract (s : Int).toNat x.cps.size } : Str), t)]).flatMap (·.1.cps.toList) := by
          rw [← hrem, hf, extract_L, List.take_of_length_le (by rw [List.length_drop]; show _ ≤ x.cps.size - s; omega)]
          simp [List.flatMap_append]
        rw [show x.cps.extract 0 0 = #[] by simp]
        refine SC.join (l := ps ++ [(({ cps := x.cps.extract (s : Int).toNat x.cps.size } : Str), t)]) ⟨_, hdA, rfl, _, rfl⟩ rfl (joinOk_flat _ ?_) fun t' tk => ?_
        · rw [List.flatMap_map, ← hT']; exact hT
        · rw [join_flat, List.flatMap_map, ← hT', if_neg Bool.false_ne_true]
          exact wpAny_pure (hR hA t' tk hkA)
      · rw [if_neg (show ¬ (s : Int).toNat < x.cps.size from hlt)]
        refine wpAny_bind (wpAny_mkStr' ?_ (by rw [sizeLine_eq]; show (x.cps.extract _ _).size ≤ _; rw [Array.size_extract]; omega))
        refine wpAny_bind (wpAny_seqItems hd rfl ?_)
        have hT' : T = ps.flatMap (·.1.cps.toList) := by
          rw [← hrem, hf, List.drop_of_length_le (by omega), List.append_nil]
        rw [show x.cps.extract 0 0 = #[] by simp]
        cases hps : ps with
        | nil =>
          rw [if_pos (by simp [strValues])]
          refine wpAny_bind (wpAny_pure ?_)
          rw [if_neg Bool.false_ne_true]
          rw [hps] at hT'
          have hT0 : T = [] := by rw [hT']; rfl
          have := hR h t (t + 1) (fun _ _ _ e => e)
          rw [hT0] at this
          exact wpAny_pure this
        | cons p ps' =>
          rw [if_neg (by simp [strValues])]
          refine wpAny_bind ?_
          refine SC.join (l := ps) ⟨_, hd, rfl, _, rfl⟩ rfl (joinOk_flat _ ?_) fun t' tk => ?_
          · rw [List.flatMap_map, ← hT']; exact hT
          · rw [join_flat, List.flatMap_map, ← hT', if_neg Bool.false_ne_true]
            exact wpAny_pure (hR h t' tk (fun _ _ _ e => e))
theorem str_nocall : typeLookup (.type "str") "__call__" = pure none := by rw [typeLookup_type, builtinLookup_eq_fast]; kernel_rfl
theorem named_sub : reNamed "re.Pattern.sub" "sub" ["repl", "string", "count"] 2 [.str r ur, .str x u] [] = pure [some (.str r ur), some (.str x u), none] := by rfl
theorem sub_call {Q : Value → Shared → Prop} (hp : h.get? P = some (patObj pt u1 fl u2 C)) (hc : h.get? C = some { cls := .type "tuple", data := .seq twVals }) (hr : r.cps.contains 92 = false) (hx : x.cps.size < 100000) (hT : (ind r.cps.toList true x.cps.toList).length ≤ 16777216)
    (hq : ∀ h' t' tk, (∀ b o, h.get? b = some o → h'.get? b = some o) → Q (.str ⟨(ind r.cps.toList true x.cps.toList).toArray⟩ t') ⟨h', g, d, tk, os⟩) :
    wpAny (model prog w) A (call (.builtin "re.Pattern.sub") [.ref P, .str r ur, .str x u]) Q E ⟨h, g, d, t, os⟩ := by
  refine wpAny_call (codeAny_call_builtin RF.slot_sub.plain RF.entry_sub (RF.slot_sub.check _ _ _ _ _ _ _ _ ⟨_, hp, rfl⟩ (RF.args_sub _ _ _) ?_))
  show wpAny _ _ (reNamed "re.Pattern.sub" "sub" ["repl", "string", "count"] 2 [.str r ur, .str x u] [] >>= _) _ _ _
  rw [named_sub]
  repeat ((fail_if_success (with_reducible show wpAny _ _ (reWholeTarget _ _ >>= _) _ _ _)); (fail_if_success (with_reducible show wpAny _ _ (reWholeTarget _ _) _ _ _)); wp_step)
  refine wpAny_of_eq str_nocall ?_
  repeat ((fail_if_success (with_reducible show wpAny _ _ (reWholeTarget _ _ >>= _) _ _ _)); (fail_if_success (with_reducible show wpAny _ _ (reWholeTarget _ _) _ _ _)); wp_step)
  rw [if_pos (by rw [hr]; rfl)]
  refine wpAny_bind (wpAny_pure ?_)
  refine wpAny_bind (wpAny_holding (whole_rule hp hc ?_))
  rw [if_neg (by decide)]
  refine wpAny_bind (wpAny_newList ?_)
  refine wpAny_pure ⟨Code.quiet_builtin _ (by decide +kernel), ?_⟩
  have hne : ∀ a o, h.get? a = some o → a ≠ h.objs.size := fun a o e q => absurd (Heap.lt_size e) (by rw [q]; exact Nat.lt_irrefl _)
  refine sub_loop (T := ind r.cps.toList true x.cps.toList) r.cps.toList rfl hx hT (hne _ _ hp) (hne _ _ hc) (2 * x.cps.size + 2) 0 false _ _ 0 [] 0 ?_ (Nat.zero_le _) (fun e => nomatch e) (Nat.zero_le _) (Heap.get?_push_of_some _ hp) (Heap.get?_push_of_some _ hc) (Heap.get?_push_size _ rfl) rfl fun h' t' tk hk => ?_
  · simp
  · exact hq h' t' tk fun b o e => hk b o (hne _ _ e) (Heap.get?_push_of_some _ e)
end
section
variable {prog : Program} {w : World} {A : Around} {E : Value → Shared → Prop} {s : Shared} {h₀ : Heap} {L : Addr} {m : Str → Option Value} {news : List (Addr × Obj)}
/-- the line pattern, as the top left it -/
structure TwPat (h₀ : Heap) : Prop where
  pat : ∃ pt u1 fl u2, h₀.get? 43 = some (patObj pt u1 fl u2 42)
  code : h₀.get? 42 = some { cls := .type "tuple", data := .seq twVals }
theorem sub_meth {pl : Sem Bool} {Q : Value × List Value → Shared → Prop} (F : Fr h₀ L s.heap m) (I : TwPat h₀) (hq : Q (.builtin "re.Pattern.sub", [.ref 43]) s) : wpAny (model prog w) A (getMethod (.ref 43) "sub" pl) Q E s := by
  obtain ⟨pt, u1, fl, u2, hp⟩ := I.pat
  exact getMethod_builtin ⟨_, F.keep _ _ hp, rfl⟩ RF.plainAttrs_pat RF.slot_sub RF.type_sub (fun a e => by cases e; exact ⟨_, F.keep _ _ hp, rfl⟩) hq
theorem sub_N {x r : Str} {u ur : Tok} {Q : Value → Shared → Prop} (F : Fr h₀ L s.heap m) (N : News h₀ L s.heap news) (I : TwPat h₀) (hr : r.cps.contains 92 = false) (hx : x.cps.size < 100000) (hT : (ind r.cps.toList true x.cps.toList).length ≤ 16777216)
    (hq : ∀ h' t' tk, Fr h₀ L h' m → News h₀ L h' news → Q (.str ⟨(ind r.cps.toList true x.cps.toList).toArray⟩ t') { s with heap := h', toks := tk }) :
    wpAny (model prog w) A (call (.builtin "re.Pattern.sub") [.ref 43, .str r ur, .str x u]) Q E s := by
  obtain ⟨pt, u1, fl, u2, hp⟩ := I.pat
  exact sub_call (F.keep _ _ hp) (F.keep _ _ I.code) hr hx hT fun h' t' tk hk => hq h' t' tk (F.grownK hk) (N.grown hk)
end
theorem twPat_of {w : World} {h : Heap} (X : (Mine.hd.heap_39 w.params).In h) : TwPat h := by
  refine ⟨⟨Str.ofString "(?m)^(?!$)", 306, 40, 323, X _ _ ?_⟩, X _ _ ?_⟩
  · k_is
  · k_is
theorem kw_24 : True := by
  w_top off
  k_with_none
  k_with "x mem" => (first | (with_reducible assumption) | (with_reducible exact List.mem_cons_self) | (refine' List.mem_cons_of_mem _ ?_; k_extra "x mem") | (refine' List.mem_append_left _ ?_; k_extra "x mem") | (refine' List.mem_append_right _ ?_; k_extra "x mem"))
  k_with "x enter" => ((
  refine' xc_def ?k6r188 ?k7r188 ?k8r188 (fun s => ?k9r188) ?kBr188 ?c5r188 ?c2r188 ?c3r188 ?c4r188 ?_
  (case k6r188 => k_is)
  (case k7r188 => k_is)
  (case k8r188 => decide)
  (case k9r188 => exact BindsTo.of_eq rfl)
  (case c5r188 => decide)
  (case kBr188 => exact locs rfl)
  (case c2r188 => exact rfl)
  (case c3r188 => exact rfl)
  (case c4r188 => exact rfl)
  intro loosezq meanzq mgzq mbzq dpzq unzq gdzq cnzq cszq Lzq azq ccdzq clzq outerzq basezq gzq L'zq h'zq gszq drzq oszq tkzq Ezq F'zq N'zq B'zq X'zq T'zq hpzq hdzq huzq
  (try dsimp only) 
  (try k_fold)))
  k_with "x sides" => ((
  (case k1 => k_asm)
  (case k2 => k_asm)
  (case k3 => k_asm)
  (case k4 => k_asm)
  (case k5 => k_asm)
  (case kK => first | exact rfl | assumption)
  (case kd => ktr_room)
  (case ku => ktr_units)))
  k_with "subscriptTail Name Constant ref int" => ((k_here; k_dflt ((with_reducible show wpAny _ _ (subscriptTail _ _ (Value.ref _) (Value.int _ _)) _ _ _); (with_unfolding_all refine' item_litK ?k1r190 ?k2r190 ?k3r190 ?k4r190 ?_ ?k6r190; (case k1r190 => is_list); (case k2r190 => decide); (case k3r190 => decide); (case k4r190 => rfl); (case k6r190 => with_unfolding_all rfl)))))
  k_with "subscriptTail Name BinOp ref int" => ((k_here; k_dflt ((with_reducible show wpAny _ _ (subscriptTail _ _ (Value.ref _) (Value.int _ _)) _ _ _); (with_unfolding_all refine' item_litK ?k1r191 ?k2r191 ?k3r191 ?k4r191 ?_ ?k6r191; (case k1r191 => is_list); (case k2r191 => decide); (case k3r191 => decide); (case k4r191 => rfl); (case k6r191 => with_unfolding_all rfl)))))
  k_with "subscriptTail Name Name ref int" => ((k_here; k_dflt ((with_reducible show wpAny _ _ (subscriptTail _ _ (Value.ref _) (Value.int _ _)) _ _ _); (with_unfolding_all refine' item_litK ?k1r192 ?k2r192 ?k3r192 ?k4r192 ?_ ?k6r192; (case k1r192 => is_list); (case k2r192 => decide); (case k3r192 => decide); (case k4r192 => rfl); (case k6r192 => with_unfolding_all rfl)))))
  k_with "eval Name" => ((k_here; dsimp only))
  k_with "x enterK" => ((
  refine' xc_defK ?k6r194 ?k7r194 ?k8r194 ?k9r194 ?kBr194 ?c5r194 ?c2r194 ?c3r194 ?c4r194 ?_
  (case k6r194 => k_is)
  (case k7r194 => k_is)
  (case k8r194 => decide)
  (case k9r194 => exact fun _ => rfl)
  (case c5r194 => decide)
  (case kBr194 => exact locs rfl)
  (case c2r194 => exact rfl)
  (case c3r194 => exact rfl)
  (case c4r194 => exact rfl)
  intro loosezq meanzq mgzq mbzq dpzq unzq gdzq cnzq cszq Lzq azq ccdzq clzq outerzq basezq gzq L'zq h'zq gszq drzq oszq tkzq Ezq F'zq N'zq B'zq X'zq T'zq hpzq hdzq huzq
  (try dsimp only) 
  (try k_fold)))
  k_with "x enterC" => ((
  refine' xc_defC ?k6r195 ?k7r195 ?k8r195 ?k9r195 ?kBr195 ?kDr195 ?c2r195 ?c3r195 ?c4r195 ?_
  (case k6r195 => k_is)
  (case k7r195 => k_is)
  (case k8r195 => decide)
  (case k9r195 => exact fun _ => rfl)
  (case kBr195 => exact rfl)
  (case kDr195 => decide +kernel)
  (case c2r195 => exact rfl)
  (case c3r195 => exact rfl)
  (case c4r195 => exact rfl)
  intro loosezq meanzq mgzq mbzq dpzq unzq gdzq cnzq cszq Lzq azq ccdzq clzq outerzq basezq gzq L'zq h'zq gszq drzq oszq tkzq Ezq cells'zq F'zq N'zq Y'zq B'zq X'zq T'zq hpzq hdzq huzq
  k_cells Y'zq
  (try simp only [List.cons_append, List.nil_append] at N'zq)
  (try dsimp only) 
  (try k_fold)))
  k_with "x for" => ((k_here; (rename Fr _ _ _ _ => lF'zq); (with_unfolding_all refine' For_turns lF'zq ?_; k_whole)))
  k_with "x walk" => ((repeat' ((fail_if_success (with_reducible show wpAny _ _ (pyIter (Value.ref _)) (fun it s₂ => TurnsAt _ _ _ _ _ _ _ _ _ it s₂) _ _)); first | (k_unfold; (try dsimp only)) | (k_end; wrow_close) | walk1 | (dsimp only; walk1) | (leave1; walk_say "STEP leave1"; try dsimp only) | fail "no step")))
  k_with "x walkA" => ((repeat' ((fail_if_success (with_reducible show wpAny _ _ (pyIter (Value.ref _)) (fun it s₂ => TurnsAt _ _ _ _ _ _ _ _ _ it s₂) _ _)); (fail_if_success (with_reducible show wpAny _ _ (call (Value.builtin "list.append") _) _ _ _)); first | (k_unfold; (try dsimp only)) | (k_end; wrow_close) | walk1 | (dsimp only; walk1) | (leave1; walk_say "STEP leave1"; try dsimp only) | fail "no step")))
  k_with "x off2" => ((intro y'zq hy'zq; simp only [List.mem_cons, List.not_mem_nil, not_or, or_false] at hy'zq; obtain ⟨h1'zq, h2'zq⟩ := hy'zq; simp only [h1'zq, h2'zq, if_false]))
  k_with "x off3" => ((intro y'zq hy'zq; simp only [List.mem_cons, List.not_mem_nil, not_or, or_false] at hy'zq; obtain ⟨h1'zq, h2'zq, h3'zq⟩ := hy'zq; simp only [h1'zq, h2'zq, h3'zq, if_false]))
  k_with "x sel" => (((rename _ < 3 => kizq); k_dflt (first
  | ((refine' item_sel kizq ?k1r201 ?_ ?k6r201); (case k1r201 => is_list); (case k6r201 => with_unfolding_all rfl); intro t'zq)
  | ((refine' item_sel1 kizq ?k1r201 ?_ ?k6r201); (case k1r201 => is_list); (case k6r201 => with_unfolding_all rfl); intro t'zq)
  | ((refine' item_sel2 kizq ?k1r201 ?_ ?k6r201); (case k1r201 => is_list); (case k6r201 => with_unfolding_all rfl); intro t'zq))))
  k_with "x append" => (((refine' append_L ?k1r202 ?k2r202 ?k3r202 ?zr202 ?_; (case k1r202 => k_asm); (case k2r202 => k_asm); (case k3r202 => k_upd); (case zr202 => assumption)); intro h'zq F'zq N'zq; (try dsimp only)))
  trivial
theorem kw_25 : True := by
  k_with "getMethod ref" => ((k_here; k_dflt ((with_reducible show wpAny _ _ (getMethod (Value.ref 43) (PySem.Str.ofString "sub") _) _ _ _); (with_reducible rename Fr _ _ _ _ => kFzq); (refine sub_meth kFzq (twPat_of (by assumption)) ?_))))
  trivial
theorem ind_len (sp : List Nat) : ∀ (b : Bool) (l : List Nat), (ind sp b l).length ≤ l.length * (sp.length + 1)
  | _, [] => Nat.zero_le _
  | b, c :: r => by
    have := ind_len sp (c == 10) r
    rw [ind, List.length_append, List.length_cons, List.length_cons, Nat.succ_mul]
    split
    · omega
    · simp; omega
section
variable {prog : Program} {w : World} {A : Around} {E : Value → Shared → Prop} {s : Shared}
theorem mul_blanks {n : Int} {t u : Tok} {Q : Value → Shared → Prop} (hn : 0 ≤ n ∧ n ≤ 4) (h : ∀ t' k, Q (.str ⟨(List.replicate n.toNat 32).toArray⟩ t') { s with toks := k }) : wpAny (model prog w) A (binaryOp .Mult (.int n u) (.str (Str.ofString " ") t)) Q E s := by
  have hcs : n = 0 ∨ n = 1 ∨ n = 2 ∨ n = 3 ∨ n = 4 := by omega
  have hm : Txt.mul (Str.ofString " ") n = ⟨(List.replicate n.toNat 32).toArray⟩ := by
    rcases hcs with rfl | rfl | rfl | rfl | rfl <;> decide +kernel
  have hok : MulOk (Str.ofString " ") n := by
    have e1 : (Str.ofString " ").length = 1 := by decide +kernel
    refine ⟨by simp; omega, fun h1 _ => ?_, fun h1 _ => ?_⟩
    · rw [e1]; rcases hcs with rfl | rfl | rfl | rfl | rfl <;> first | exact absurd (by decide) h1 | decide
    · rw [e1]; rcases hcs with rfl | rfl | rfl | rfl | rfl <;> first | exact absurd (by decide) h1 | decide +kernel
  refine lm_binaryOp_repeat_right (T := "str") (U := "int") (by decide) (fun s' => typeIs_int s' n u) (typeIs_str s _ t) F.fills_int_mul noFill_str_mul F.slot_int_mul lm_noRepeat_int repeat_str F.slot_int_index.lookup
    (call_gives F.slot_int_mul (typeIs_int s n u) F.entry_int_mul (F.args_int_mul_2 _ _) (AutoIntG3.int___mul___int_str_0 n u _ t)
      ⟨rfl, typeIs_str _ _ t, call_gives F.slot_str_mul (typeIs_str s _ t) F.entry_str_mul (F.args_str_mul_2 _ _) (gives_str_mul _ n t u hok.1 hok.2.1 hok.2.2) ?_⟩)
  rw [← hm] at h
  unfold Txt.mul at h
  by_cases h1 : n < 1
  · rw [if_pos h1]; have h' := h s.toks (s.toks + 1); rw [if_pos h1] at h'; exact ⟨by decide, h'⟩
  · rw [if_neg h1]; refine post_val_or_made (fun hc => fits_reps (hok.2.2 h1 (by simpa using hc))) fun t' k => ?_
    have h' := h t' k; rw [if_neg h1] at h'; exact h'
end
def moveS (k : Int) (x : Str) : Str := ⟨(ind (List.replicate k.toNat 32) true x.cps.toList).toArray⟩
theorem blanks_no (k : Nat) : (⟨(List.replicate k 32).toArray⟩ : Str).cps.contains 92 = false := by
  simp
theorem kw_26 : True := by
  k_with "binaryOp Mult int str" => ((k_here; k_dflt ((refine' mul_blanks ?k1r204 ?_); (case k1r204 => assumption); intro t'zq tk'zq; (try dsimp only))))
  k_with "call builtin:re.Pattern.sub" => ((k_here; k_dflt ((with_reducible rename Fr _ _ _ _ => kFzq); (with_reducible rename News _ _ _ _ => kNzq); (refine' sub_N kFzq kNzq (twPat_of (by assumption)) ?k1r205 ?k2r205 ?k3r205 ?_); (case k1r205 => exact blanks_no _); (case k2r205 => assumption); (case k3r205 => assumption); clear kFzq kNzq; intro h'zq t'zq tk'zq F'zq N'zq; (try dsimp only))))
  trivial
set_option maxRecDepth 100000 in
set_option maxHeartbeats 8000000 in
theorem indent_c (w : World) (x : Str) (t u : Tok) (k : Int) (hk : 0 ≤ k ∧ k ≤ 4) (hx : x.cps.size < 100000) : XC w 51 1 [.str x t, .int k u] (fun _ => True) (fun tl r => ∃ t, r = .str (moveS k x) t) := by
  have hT : (ind (⟨(List.replicate k.toNat 32).toArray⟩ : Str).cps.toList true x.cps.toList).length ≤ 16777216 := by
    have := ind_len (List.replicate k.toNat 32) true x.cps.toList
    have e1 : (List.replicate k.toNat 32).length + 1 ≤ 5 := by simp; omega
    have e2 : x.cps.toList.length = x.cps.size := Array.length_toList
    have := Nat.mul_le_mul_left x.cps.toList.length e1
    show (ind (List.replicate k.toNat 32) true x.cps.toList).length ≤ _
    omega
  k_extra "x enterK"
  k_steps
  refine (XEnd.mk (by with_reducible assumption) (by assumption) ?_ : XEnd _ _ _ _ _ _ _ _)
  exact ⟨_, rfl⟩
theorem kw_27 : True := by
  w_top off
  k_with_none
  k_with "x mem" => (first | (with_reducible assumption) | (with_reducible exact List.mem_cons_self) | (refine' List.mem_cons_of_mem _ ?_; k_extra "x mem") | (refine' List.mem_append_left _ ?_; k_extra "x mem") | (refine' List.mem_append_right _ ?_; k_extra "x mem"))
  k_with "x enter" => ((
  refine' xc_def ?k6r207 ?k7r207 ?k8r207 (fun s => ?k9r207) ?kBr207 ?c5r207 ?c2r207 ?c3r207 ?c4r207 ?_
  (case k6r207 => k_is)
  (case k7r207 => k_is)
  (case k8r207 => decide)
  (case k9r207 => exact BindsTo.of_eq rfl)
  (case c5r207 => decide)
  (case kBr207 => exact locs rfl)
  (case c2r207 => exact rfl)
  (case c3r207 => exact rfl)
  (case c4r207 => exact rfl)
  intro loosezq meanzq mgzq mbzq dpzq unzq gdzq cnzq cszq Lzq azq ccdzq clzq outerzq basezq gzq L'zq h'zq gszq drzq oszq tkzq Ezq F'zq N'zq B'zq X'zq T'zq hpzq hdzq huzq
  (try dsimp only) 
  (try k_fold)))
  k_with "x sides" => ((
  (case k1 => k_asm)
  (case k2 => k_asm)
  (case k3 => k_asm)
  (case k4 => k_asm)
  (case k5 => k_asm)
  (case kK => first | exact rfl | assumption)
  (case kd => ktr_room)
  (case ku => ktr_units)))
  k_with "subscriptTail Name Constant ref int" => ((k_here; k_dflt ((with_reducible show wpAny _ _ (subscriptTail _ _ (Value.ref _) (Value.int _ _)) _ _ _); (with_unfolding_all refine' item_litK ?k1r209 ?k2r209 ?k3r209 ?k4r209 ?_ ?k6r209; (case k1r209 => is_list); (case k2r209 => decide); (case k3r209 => decide); (case k4r209 => rfl); (case k6r209 => with_unfolding_all rfl)))))
  k_with "subscriptTail Name BinOp ref int" => ((k_here; k_dflt ((with_reducible show wpAny _ _ (subscriptTail _ _ (Value.ref _) (Value.int _ _)) _ _ _); (with_unfolding_all refine' item_litK ?k1r210 ?k2r210 ?k3r210 ?k4r210 ?_ ?k6r210; (case k1r210 => is_list); (case k2r210 => decide); (case k3r210 => decide); (case k4r210 => rfl); (case k6r210 => with_unfolding_all rfl)))))
  k_with "subscriptTail Name Name ref int" => ((k_here; k_dflt ((with_reducible show wpAny _ _ (subscriptTail _ _ (Value.ref _) (Value.int _ _)) _ _ _); (with_unfolding_all refine' item_litK ?k1r211 ?k2r211 ?k3r211 ?k4r211 ?_ ?k6r211; (case k1r211 => is_list); (case k2r211 => decide); (case k3r211 => decide); (case k4r211 => rfl); (case k6r211 => with_unfolding_all rfl)))))
  k_with "eval Name" => ((k_here; dsimp only))
  k_with "x enterK" => ((
  refine' xc_defK ?k6r213 ?k7r213 ?k8r213 ?k9r213 ?kBr213 ?c5r213 ?c2r213 ?c3r213 ?c4r213 ?_
  (case k6r213 => k_is)
  (case k7r213 => k_is)
  (case k8r213 => decide)
  (case k9r213 => exact fun _ => rfl)
  (case c5r213 => decide)
  (case kBr213 => exact locs rfl)
  (case c2r213 => exact rfl)
  (case c3r213 => exact rfl)
  (case c4r213 => exact rfl)
  intro loosezq meanzq mgzq mbzq dpzq unzq gdzq cnzq cszq Lzq azq ccdzq clzq outerzq basezq gzq L'zq h'zq gszq drzq oszq tkzq Ezq F'zq N'zq B'zq X'zq T'zq hpzq hdzq huzq
  (try dsimp only) 
  (try k_fold)))
  k_with "x enterC" => ((
  refine' xc_defC ?k6r214 ?k7r214 ?k8r214 ?k9r214 ?kBr214 ?kDr214 ?c2r214 ?c3r214 ?c4r214 ?_
  (case k6r214 => k_is)
  (case k7r214 => k_is)
  (case k8r214 => decide)
  (case k9r214 => exact fun _ => rfl)
  (case kBr214 => exact rfl)
  (case kDr214 => decide +kernel)
  (case c2r214 => exact rfl)
  (case c3r214 => exact rfl)
  (case c4r214 => exact rfl)
  intro loosezq meanzq mgzq mbzq dpzq unzq gdzq cnzq cszq Lzq azq ccdzq clzq outerzq basezq gzq L'zq h'zq gszq drzq oszq tkzq Ezq cells'zq F'zq N'zq Y'zq B'zq X'zq T'zq hpzq hdzq huzq
  k_cells Y'zq
  (try simp only [List.cons_append, List.nil_append] at N'zq)
  (try dsimp only) 
  (try k_fold)))
  k_with "x for" => ((k_here; (rename Fr _ _ _ _ => lF'zq); (with_unfolding_all refine' For_turns lF'zq ?_; k_whole)))
  k_with "x walk" => ((repeat' ((fail_if_success (with_reducible show wpAny _ _ (pyIter (Value.ref _)) (fun it s₂ => TurnsAt _ _ _ _ _ _ _ _ _ it s₂) _ _)); first | (k_unfold; (try dsimp only)) | (k_end; wrow_close) | walk1 | (dsimp only; walk1) | (leave1; walk_say "STEP leave1"; try dsimp only) | fail "no step")))
  k_with "x walkA" => ((repeat' ((fail_if_success (with_reducible show wpAny _ _ (pyIter (Value.ref _)) (fun it s₂ => TurnsAt _ _ _ _ _ _ _ _ _ it s₂) _ _)); (fail_if_success (with_reducible show wpAny _ _ (call (Value.builtin "list.append") _) _ _ _)); first | (k_unfold; (try dsimp only)) | (k_end; wrow_close) | walk1 | (dsimp only; walk1) | (leave1; walk_say "STEP leave1"; try dsimp only) | fail "no step")))
  k_with "x off2" => ((intro y'zq hy'zq; simp only [List.mem_cons, List.not_mem_nil, not_or, or_false] at hy'zq; obtain ⟨h1'zq, h2'zq⟩ := hy'zq; simp only [h1'zq, h2'zq, if_false]))
  k_with "x off3" => ((intro y'zq hy'zq; simp only [List.mem_cons, List.not_mem_nil, not_or, or_false] at hy'zq; obtain ⟨h1'zq, h2'zq, h3'zq⟩ := hy'zq; simp only [h1'zq, h2'zq, h3'zq, if_false]))
  k_with "x sel" => (((rename _ < 3 => kizq); k_dflt (first
  | ((refine' item_sel kizq ?k1r220 ?_ ?k6r220); (case k1r220 => is_list); (case k6r220 => with_unfolding_all rfl); intro t'zq)
  | ((refine' item_sel1 kizq ?k1r220 ?_ ?k6r220); (case k1r220 => is_list); (case k6r220 => with_unfolding_all rfl); intro t'zq)
  | ((refine' item_sel2 kizq ?k1r220 ?_ ?k6r220); (case k1r220 => is_list); (case k6r220 => with_unfolding_all rfl); intro t'zq))))
  k_with "x append" => (((refine' append_L ?k1r221 ?k2r221 ?k3r221 ?zr221 ?_; (case k1r221 => k_asm); (case k2r221 => k_asm); (case k3r221 => k_upd); (case zr221 => assumption)); intro h'zq F'zq N'zq; (try dsimp only)))
  trivial
inductive RowsV (g : Heap) : List Value → List (Option (Int × Int × Int)) → Prop
  | nil : RowsV g [] []
  | none {vs ds} : RowsV g vs ds → RowsV g (.none :: vs) (none :: ds)
  | some {vs ds} (q : Addr) (x y z : Int) (t1 t2 t3 : Tok) : g.IsList q [.int x t1, .int y t2, .int z t3].toArray → -1 ≤ x ∧ x ≤ 1 → -1 ≤ y ∧ y ≤ 1 → -1 ≤ z ∧ z ≤ 1 → RowsV g vs ds → RowsV g (.ref q :: vs) (some (x, y, z) :: ds)
def colS : Nat → Str
  | 0 => Str.ofString "r"
  | 1 => Str.ofString "g"
  | _ => Str.ofString "b"
def depthZ (c : Nat) (r : Int × Int × Int) : Int := match c with
  | 0 => 2 - r.2.2 + r.2.1
  | 1 => 2 - r.1 + r.2.2
  | _ => 2 - r.2.1 + r.1
def sheetStep (c : Nat) (s : Str) : Option (Int × Int × Int) → Str
  | none => s ++ Str.ofString "\n"
  | some r => moveS (depthZ c r) (s ++ colS c ++ Str.ofString "\n")
def sheetS (c : Nat) (ds : List (Option (Int × Int × Int))) : Str := ds.foldl (sheetStep c) (Str.ofString "")
/-- three texts in one list, the first k of them after a turn, the others before it -/
def mixS (S S' : Nat → Str) (k i : Nat) : Str := if i < k then S' i else S i
abbrev strs3 (X : Nat → Str) (t0 t1 t2 : Tok) : List Value := [Value.str (X 0) t0, .str (X 1) t1, .str (X 2) t2]
def SheetInv (g : Heap) (ds : List (Option (Int × Int × Int))) (D : Addr) (M : Str → Option Value) (rem : List Value) (m : Str → Option Value) (news : List (Addr × Obj)) : Prop :=
  ∃ ds' S t0 t1 t2 c k, RowsV g rem ds' ∧ k + ds'.length ≤ 5 ∧ (∀ i, 2 * (S i).length + 5 ≤ 5 ^ (k + 1)) ∧ (∀ i, ds'.foldl (sheetStep i) (S i) = sheetS i ds) ∧
    OffN [Str.ofString "signs", Str.ofString "colour", Str.ofString "depth"] m M ∧ news = [(D, W.listOf (strs3 S t0 t1 t2).toArray c)]
def RowInv (S S' : Nat → Str) (D O : Addr) (o : Obj) (M : Str → Option Value) (I : Addr) (k : Nat) (m : Str → Option Value) (news : List (Addr × Obj)) : Prop :=
  ∃ t0 t1 t2 c, (@LT.lt Nat _ D I ∧ @LT.lt Nat _ O I) ∧ OffN [Str.ofString "colour", Str.ofString "depth"] m M ∧ news = [(O, o), (D, W.listOf (strs3 (mixS S S' k) t0 t1 t2).toArray c)]
theorem nl_len : (Str.ofString "\n").length = 1 := by decide +kernel
theorem pow_small {k n : Nat} (hk : k ≤ 5) (h : 2 * n + 5 ≤ 5 ^ (k + 1)) : n ≤ 8000 := by
  have := Nat.pow_le_pow_right (show 0 < 5 by decide) (show k + 1 ≤ 6 by omega)
  have e : 5 ^ 6 = 15625 := by decide
  omega
theorem move_len {k : Int} (hk : 0 ≤ k ∧ k ≤ 4) (x : Str) : (moveS k x).length ≤ x.length * 5 := by
  have := ind_len (List.replicate k.toNat 32) true x.cps.toList
  have e1 : (List.replicate k.toNat 32).length + 1 ≤ 5 := by simp; omega
  have e2 : x.cps.toList.length = x.length := Array.length_toList
  have := Nat.mul_le_mul_left x.cps.toList.length e1
  show (ind (List.replicate k.toNat 32) true x.cps.toList).toArray.size ≤ _
  rw [List.size_toArray]
  omega
theorem size_none {s : Str} {k : Nat} (h : 2 * s.length + 5 ≤ 5 ^ (k + 1)) : 2 * (s ++ Str.ofString "\n").length + 5 ≤ 5 ^ (k + 1 + 1) := by
  rw [Str.length_append, nl_len, Nat.pow_succ 5 (k + 1)]; omega
theorem size_some {s i : Str} {d : Int} {k : Nat} (hd : 0 ≤ d ∧ d ≤ 4) (hi : i.length = 1) (h : 2 * s.length + 5 ≤ 5 ^ (k + 1)) : 2 * (moveS d (s ++ i ++ Str.ofString "\n")).length + 5 ≤ 5 ^ (k + 1 + 1) := by
  have := move_len hd (s ++ i ++ Str.ofString "\n")
  rw [Str.length_append, Str.length_append, nl_len, hi] at this
  rw [Nat.pow_succ 5 (k + 1)]; omega
theorem colS_len : ∀ c : Nat, (colS c).length = 1
  | 0 => by decide +kernel
  | 1 => by decide +kernel
  | _ + 2 => by show (Str.ofString "b").length = 1; decide +kernel
theorem rgb_item {k : Nat} (hk : k < 3) : Txt.item (Str.ofString "rgb") (k : Int) = colS k := by
  rcases (show k = 0 ∨ k = 1 ∨ k = 2 by omega) with rfl | rfl | rfl <;> decide +kernel
theorem step_size {S : Str} {k i : Nat} {r : Option (Int × Int × Int)} (hr : ∀ x, r = some x → 0 ≤ depthZ i x ∧ depthZ i x ≤ 4) (h : 2 * S.length + 5 ≤ 5 ^ (k + 1)) : 2 * (sheetStep i S r).length + 5 ≤ 5 ^ (k + 1 + 1) := by
  cases r with
  | none => exact size_none h
  | some x => exact size_some (hr x rfl) (colS_len i) h
theorem depth_bd (i : Nat) {x y z : Int} (hx : -1 ≤ x ∧ x ≤ 1) (hy : -1 ≤ y ∧ y ≤ 1) (hz : -1 ≤ z ∧ z ≤ 1) : 0 ≤ depthZ i (x, y, z) ∧ depthZ i (x, y, z) ≤ 4 := by
  match i with
  | 0 => show 0 ≤ 2 - z + y ∧ 2 - z + y ≤ 4; omega
  | 1 => show 0 ≤ 2 - x + z ∧ 2 - x + z ≤ 4; omega
  | _ + 2 => show 0 ≤ 2 - y + x ∧ 2 - y + x ≤ 4; omega
theorem depth_at {k : Nat} (hk : k < 3) (x y z : Int) : 2 - selZ ((k + 2) % 3) x y z + selZ ((k + 1) % 3) x y z = depthZ k (x, y, z) :=
  three (P := fun k => 2 - selZ ((k + 2) % 3) x y z + selZ ((k + 1) % 3) x y z = depthZ k (x, y, z)) hk rfl rfl rfl
theorem sheet_next {g : Heap} {ds ds' : List (Option (Int × Int × Int))} {r : Option (Int × Int × Int)} {D : Addr} {M m' : Str → Option Value} {vs : List Value} {S : Nat → Str} {t0 t1 t2 : Tok} {c k : Nat} (hx : ∀ i x, r = some x → 0 ≤ depthZ i x ∧ depthZ i x ≤ 4) (hr : RowsV g vs ds') (hk : k + (r :: ds').length ≤ 5)
    (hb : ∀ i, 2 * (S i).length + 5 ≤ 5 ^ (k + 1)) (hf : ∀ i, (r :: ds').foldl (sheetStep i) (S i) = sheetS i ds) (hm : OffN [Str.ofString "signs", Str.ofString "colour", Str.ofString "depth"] m' M) :
    SheetInv g ds D M vs m' [(D, W.listOf (strs3 (fun i => sheetStep i (S i) r) t0 t1 t2).toArray c)] :=
  ⟨ds', fun i => sheetStep i (S i) r, _, _, _, _, k + 1, hr, by rw [List.length_cons] at hk; omega, fun i => step_size (hx i) (hb i), fun i => hf i, hm, rfl⟩
theorem SheetInv.start {g : Heap} {ds : List (Option (Int × Int × Int))} {D : Addr} {M : Str → Option Value} {vs : List Value} {c : Nat} {t0 t1 t2 : Tok} (h : RowsV g vs ds) (hlen : ds.length ≤ 5) : SheetInv g ds D M vs M [(D, W.listOf [Value.str (Str.ofString "") t0, .str (Str.ofString "") t1, .str (Str.ofString "") t2].toArray c)] :=
  ⟨ds, fun _ => Str.ofString "", t0, t1, t2, c, 0, h, by omega, fun _ => by show 2 * (Str.ofString "").length + 5 ≤ 5 ^ (0 + 1); decide +kernel, fun _ => rfl, OffN.refl, rfl⟩
theorem SheetInv.fin {g : Heap} {ds : List (Option (Int × Int × Int))} {D : Addr} {M m : Str → Option Value} {news : List (Addr × Obj)} {C : (Str → Option Value) → List (Addr × Obj) → Prop} (h : SheetInv g ds D M [] m news)
    (q : ∀ t0 t1 t2 c u v w, C (fun y => if y = Str.ofString "signs" then u else if y = Str.ofString "colour" then v else if y = Str.ofString "depth" then w else M y) [(D, W.listOf [Value.str (sheetS 0 ds) t0, .str (sheetS 1 ds) t1, .str (sheetS 2 ds) t2].toArray c)]) : C m news := by
  obtain ⟨ds', S, t0, t1, t2, c, k, hr, hk, hb, hf, hm, rfl⟩ := h
  cases hr
  have e : ∀ i, S i = sheetS i ds := hf
  unfold strs3
  rw [e 0, e 1, e 2]
  exact OffN.el3 (C := fun m => C m _) hm fun u v w => q t0 t1 t2 c u v w
/-- a turn's way on -/
def SheetOn (g : Heap) (ds : List (Option (Int × Int × Int))) (D : Addr) (M : Str → Option Value) (vs : List Value) (S : Nat → Str) (r : Option (Int × Int × Int)) : Prop :=
  ∀ m' t0 t1 t2 c, OffN [Str.ofString "signs", Str.ofString "colour", Str.ofString "depth"] m' M → SheetInv g ds D M vs m' [(D, W.listOf (strs3 (fun i => sheetStep i (S i) r) t0 t1 t2).toArray c)]
theorem SheetInv.turn {g : Heap} {ds : List (Option (Int × Int × Int))} {D : Addr} {M m : Str → Option Value} {v : Value} {vs : List Value} {news : List (Addr × Obj)} {C : Value → (Str → Option Value) → List (Addr × Obj) → Prop} (h : SheetInv g ds D M (v :: vs) m news)
    (q0 : ∀ S t0 t1 t2 c u v w, (∀ i, (S i).length ≤ 8000) → SheetOn g ds D M vs S none → C .none (fun y => if y = Str.ofString "signs" then u else if y = Str.ofString "colour" then v else if y = Str.ofString "depth" then w else M y) [(D, W.listOf (strs3 S t0 t1 t2).toArray c)])
    (q1 : ∀ q x y z t1' t2' t3' S t0 t1 t2 c u v w, g.IsList q [.int x t1', .int y t2', .int z t3'].toArray → (∀ i, (S i).length ≤ 8000) → (∀ i, 0 ≤ depthZ i (x, y, z) ∧ depthZ i (x, y, z) ≤ 4) → SheetOn g ds D M vs S (some (x, y, z)) → C (.ref q) (fun y => if y = Str.ofString "signs" then u else if y = Str.ofString "colour" then v else if y = Str.ofString "depth" then w else M y) [(D, W.listOf (strs3 S t0 t1 t2).toArray c)]) : C v m news := by
  obtain ⟨ds', S, t0, t1, t2, c, k, hr, hk, hb, hf, hm, rfl⟩ := h
  have z := fun i => pow_small (by omega) (hb i)
  cases hr with
  | none hr => exact OffN.el3 (C := fun m => C _ m _) hm fun u v w => q0 S t0 t1 t2 c u v w z fun m' t0 t1 t2 c hm => sheet_next (fun _ _ h => nomatch h) hr hk hb hf hm
  | some q x y z' t1' t2' t3' hq hx hy hz hr =>
    have bd := fun i => depth_bd i hx hy hz
    exact OffN.el3 (C := fun m => C _ m _) hm fun u v w => q1 q x y z' t1' t2' t3' S t0 t1 t2 c u v w hq z bd fun m' t0 t1 t2 c hm => sheet_next (fun i _ h => by cases h; exact bd i) hr hk hb hf hm
theorem RowInv.start {S S' : Nat → Str} {D O : Addr} {o : Obj} {M : Str → Option Value} {I : Addr} {t0 t1 t2 : Tok} {c : Nat} (h : ∀ p ∈ [(O, o), (D, W.listOf (strs3 S t0 t1 t2).toArray c)], p.1 < I) : RowInv S S' D O o M I 0 M [(O, o), (D, W.listOf (strs3 S t0 t1 t2).toArray c)] :=
  ⟨t0, t1, t2, c, ⟨h _ (List.mem_cons_of_mem _ List.mem_cons_self), h _ List.mem_cons_self⟩, OffN.refl, rfl⟩
theorem RowInv.fin {S S' : Nat → Str} {D O : Addr} {o : Obj} {M m : Str → Option Value} {I : Addr} {news : List (Addr × Obj)} {k : Nat} {C : (Str → Option Value) → List (Addr × Obj) → Prop} (h : RowInv S S' D O o M I k m news)
    (q : ∀ t0 t1 t2 c u v, (@LT.lt Nat _ D I ∧ @LT.lt Nat _ O I) → C (fun y => if y = Str.ofString "colour" then u else if y = Str.ofString "depth" then v else M y) [(O, o), (D, W.listOf (strs3 (mixS S S' k) t0 t1 t2).toArray c)]) : C m news := by
  obtain ⟨t0, t1, t2, c, hd, hm, rfl⟩ := h
  exact OffN.el2 (C := fun m => C m _) hm fun u v => q t0 t1 t2 c u v hd
theorem RowInv.done {S S' : Nat → Str} {h₀ h' : Heap} {L : Addr} {s₁ : Shared} {tk : Nat} {it : Obj} {D O : Addr} {o : Obj} {M m : Str → Option Value} {I : Addr} {k : Nat} {t0 t1 t2 : Tok} {c : Nat} (F : Fr h₀ L h' m)
    (N : News h₀ L h' [(I, it), (O, o), (D, W.listOf (strs3 (mixS S S' (k + 1)) t0 t1 t2).toArray c)]) (hd : @LT.lt Nat _ D I ∧ @LT.lt Nat _ O I) (hm : OffN [Str.ofString "colour", Str.ofString "depth"] m M) :
    UnrEndW h₀ L s₁ [(I, it)] (fun m' n' => RowInv S S' D O o M I (k + 1) m' n') { s₁ with heap := h', toks := tk } :=
  ⟨h', tk, m, _, rfl, F, N, fun p hp q hq => by
    rw [List.mem_singleton.mp hq]
    rcases List.mem_cons.mp hp with rfl | hp
    · exact Nat.ne_of_lt hd.2
    · rw [List.mem_singleton.mp hp]; exact Nat.ne_of_lt hd.1, t0, t1, t2, c, hd, hm, rfl⟩
section
variable {prog : Program} {w : World} {A : Around} {E : Value → Shared → Prop} {s : Shared} {h₀ : Heap} {L : Addr} {m : Str → Option Value}
theorem item_mix {value slice : PySem.Expr} {D : Addr} {S S' : Nat → Str} {t1 t2 t3 u : Tok} {k : Nat} {Q : Value → Shared → Prop} (hk : k < 3) (hl : s.heap.IsList D (strs3 (mixS S S' k) t1 t2 t3).toArray) (h : ∀ t, Q (.str (S k) t) s)
    (hs : subscripted slice false (.ref D) (.int (k : Int) u) = operate [.ref D, .int (k : Int) u] (getItem (.ref D) (.int (k : Int) u)) := by with_unfolding_all rfl) : wpAny (model prog w) A (subscriptTail value slice (.ref D) (.int (k : Int) u)) Q E s := by
  rcases (show k = 0 ∨ k = 1 ∨ k = 2 by omega) with rfl | rfl | rfl <;> exact item_litK hl (by decide) (by decide) rfl (h _) hs
theorem set_mix {S S' : Nat → Str} {k : Nat} {x : Str} {t u t0 t1 t2 : Tok} {D I O : Addr} {it o : Obj} {c : Nat} {Q : Unit → Shared → Prop} (hk : k < 3) (F : Fr h₀ L s.heap m) (N : News h₀ L s.heap [(I, it), (O, o), (D, W.listOf (strs3 (mixS S S' k) t0 t1 t2).toArray c)])
    (hd : @LT.lt Nat _ D I ∧ @LT.lt Nat _ O I) (hO : @LT.lt Nat _ D O) (e : x = S' k)
    (h : ∀ t0 t1 t2 h', Fr h₀ L h' m → News h₀ L h' [(I, it), (O, o), (D, W.listOf (strs3 (mixS S S' (k + 1)) t0 t1 t2).toArray c)] → Q () { s with heap := h' }) : wpAny (model prog w) A (setItem (.ref D) (.int (k : Int) u) (.str x t)) Q E s := by
  subst e
  have U : ∀ o1 o2, Upd D o1 o2 [(I, it), (O, o), (D, o1)] [(I, it), (O, o), (D, o2)] := fun _ _ => .tail (Nat.ne_of_gt hd.1) (.tail (Nat.ne_of_gt hO) (.head fun _ hp => nomatch hp))
  rcases (show k = 0 ∨ k = 1 ∨ k = 2 by omega) with rfl | rfl | rfl
  · exact ki_set (q := strs3 (mixS S S' 1) t t1 t2) F N (by decide) (by decide) rfl (U _ _) fun h' F' N' => h t t1 t2 h' F' N'
  · exact ki_set (q := strs3 (mixS S S' 2) t0 t t2) F N (by decide) (by decide) rfl (U _ _) fun h' F' N' => h t0 t t2 h' F' N'
  · exact ki_set (q := strs3 (mixS S S' 3) t0 t1 t) F N (by decide) (by decide) rfl (U _ _) fun h' F' N' => h t0 t1 t h' F' N'
end
theorem kw_28 : True := by
  k_with "binaryOp Add str str" => ((k_here; k_dflt ((refine' add_str ?_ ?ksr222); (case ksr222 => (rw [sizeLine_eq]; simp only [Str.length_append, nl_len, colS_len]; omega)); intro t'zq tk'zq; (try dsimp only))))
  k_with "call ref" => ((k_here; (with_reducible show wpAny _ _ (call (Value.ref 51) [Value.str _ _, Value.int _ _]) _ _ _); k_dflt (
  (refine' xc_use_str (indent_c _ _ _ _ _ ?a1r223 ?a2r223) ?k1r223 ?k2r223 ?k3r223 ?k4r223 ?k5r223 ?kKr223 trivial ?kdr223 ?kur223 ?_); (case a1r223 => (rw [depth_at (by assumption)]; with_reducible solve_by_elim)); (case a2r223 => (show Str.length _ < _; simp only [Str.length_append, nl_len, colS_len]; omega)); (
  (case k1r223 => k_asm)
  (case k2r223 => k_asm)
  (case k3r223 => k_asm)
  (case k4r223 => k_asm)
  (case k5r223 => k_asm)
  (case kKr223 => first | exact rfl | assumption)
  (case kdr223 => ktr_room)
  (case kur223 => ktr_units)); intro t'zq h'zq tk'zq F'zq N'zq; (try dsimp only))))
  k_with "exec For Name Call" => (k_extra "x for")
  k_with "exec For Name Call cons nil" => (k_extra "x for")
  k_with "subscriptTail Name BinOp ref int" => ((k_here; k_extra "x sel"))
  k_with "subscriptTail Name Name ref int" => ((k_here; (rename _ < 3 => kizq); k_dflt ((refine' item_mix kizq ?k1r227 ?_ ?k6r227); (case k1r227 => is_list); (case k6r227 => with_unfolding_all rfl); intro t'zq)))
  k_with "setItem ref int" => ((k_here; (rename _ < 3 => kizq); (with_reducible rename Fr _ _ _ _ => kFzq); (with_reducible rename News _ _ _ _ => kNzq); k_dflt ((refine' set_mix kizq kFzq kNzq ?hdr228 ?hOr228 ?er228 ?_); (case hdr228 => with_reducible assumption); (case hOr228 => with_reducible assumption); (case er228 => first | exact rfl | (rw [depth_at (by with_reducible assumption), rgb_item (by with_reducible assumption)]; rfl)); (clear kFzq kNzq); intro t0'zq t1'zq t2'zq h'zq F'zq N'zq; (try dsimp only))))
  trivial
set_option maxRecDepth 100000 in
set_option maxHeartbeats 8000000 in
theorem sheets_c (w : World) (l : Addr) (vs : List Value) (ds : List (Option (Int × Int × Int))) (hlen : ds.length ≤ 5) : XC w 145 3 [.ref l] (fun h => h.IsList l vs.toArray ∧ RowsV h vs ds)
    (fun tl r => ∃ l' n u1 u2 u3, r = .ref l' ∧ (l', W.listOf [Value.str (sheetS 0 ds) u1, .str (sheetS 1 ds) u2, .str (sheetS 2 ds) u3].toArray n) ∈ tl) := by
  k_extra "x enter"
  rename (_ ∧ _) => hp
  have hp1 := hp.1
  have hp2 := hp.2
  clear hp
  k_steps
  k_extra "x for"
  k_steps
  (with_reducible rename Fr _ _ _ _ => kF)
  (with_reducible rename News _ _ _ _ => kN)
  refine iter_listV (SheetInv _ ds _ _) (by rfl) kF kN (by assumption) (SheetInv.start hp2 hlen) ?hz ?hs
  all_goals (clear kF kN)
  case hz =>
    intro m news hi
    apply SheetInv.fin hi
    intro t0' t1' t2' c' u' v' w' h' tk' F' N'
    try dsimp only
    k_steps
    refine (XEnd.mk (by with_reducible assumption) (by assumption) ?_ : XEnd _ _ _ _ _ _ _ _)
    exact ⟨_, _, _, _, _, rfl, List.mem_cons_self⟩
  case hs =>
    intro I hI v r m news hi
    have lD : @LT.lt Nat _ _ _ := hI _ List.mem_cons_self
    dsimp only at lD
    clear hI
    apply SheetInv.turn hi
    · intro S t0' t1' t2' c' u' v' w' zS on h' tk' o' F' N'
      try dsimp only
      k_extra "x walk"
      (with_reducible rename Fr _ _ _ _ => kF)
      (with_reducible rename News _ _ _ _ => kN)
      (with_reducible rename IsRange _ _ _ _ _ _ _ _ => kI)
      refine range_loopI (n := 3) (RowInv S (fun i => sheetStep i (S i) none) _ _ _ _) (by rfl) kF kN (by exact kI) (by decide) (by rfl) (fun I hI => RowInv.start hI) ?hz0 ?hs0
      all_goals (clear kF kN)
      case hz0 =>
        intro I m news h tk hi
        apply RowInv.fin hi
        intro t0' t1' t2' c' u' v' hd' F' N'
        try dsimp only
        k_steps
        exact on _ _ _ _ _ (by k_extra "x off3")
      case hs0 =>
        intro k t I it m news h tk hk hi
        have zk := zS k
        apply RowInv.fin hi
        intro t0' t1' t2' c' u' v' hd' F' N'
        try dsimp only
        k_steps
        (with_reducible rename Fr _ _ _ _ => kF)
        (with_reducible rename News _ _ _ _ => kN)
        exact RowInv.done kF kN hd' (by k_extra "x off2")
    · intro q x y z ta' tb' tc' S t0' t1' t2' c' u' v' w' hq zS hdz on h' tk' o' F' N'
      try dsimp only
      k_extra "x walk"
      (with_reducible rename Fr _ _ _ _ => kF)
      (with_reducible rename News _ _ _ _ => kN)
      (with_reducible rename IsRange _ _ _ _ _ _ _ _ => kI)
      refine range_loopI (n := 3) (RowInv S (fun i => sheetStep i (S i) (some (x, y, z))) _ _ _ _) (by rfl) kF kN (by exact kI) (by decide) (by rfl) (fun I hI => RowInv.start hI) ?hz1 ?hs1
      all_goals (clear kF kN)
      case hz1 =>
        intro I m news h tk hi
        apply RowInv.fin hi
        intro t0' t1' t2' c' u' v' hd' F' N'
        try dsimp only
        k_steps
        exact on _ _ _ _ _ (by k_extra "x off3")
      case hs1 =>
        intro k t I it m news h tk hk hi
        have zk := zS k
        have dk := hdz k
        apply RowInv.fin hi
        intro t0' t1' t2' c' u' v' hd' F' N'
        try dsimp only
        k_steps
        (with_reducible rename Fr _ _ _ _ => kF)
        (with_reducible rename News _ _ _ _ => kN)
        exact RowInv.done kF kN hd' (by k_extra "x off2")
theorem kw_29 : True := by
  w_top off
  k_with_none
  k_with "x mem" => (first | (with_reducible assumption) | (with_reducible exact List.mem_cons_self) | (refine' List.mem_cons_of_mem _ ?_; k_extra "x mem") | (refine' List.mem_append_left _ ?_; k_extra "x mem") | (refine' List.mem_append_right _ ?_; k_extra "x mem"))
  k_with "x enter" => ((
  refine' xc_def ?k6r230 ?k7r230 ?k8r230 (fun s => ?k9r230) ?kBr230 ?c5r230 ?c2r230 ?c3r230 ?c4r230 ?_
  (case k6r230 => k_is)
  (case k7r230 => k_is)
  (case k8r230 => decide)
  (case k9r230 => exact BindsTo.of_eq rfl)
  (case c5r230 => decide)
  (case kBr230 => exact locs rfl)
  (case c2r230 => exact rfl)
  (case c3r230 => exact rfl)
  (case c4r230 => exact rfl)
  intro loosezq meanzq mgzq mbzq dpzq unzq gdzq cnzq cszq Lzq azq ccdzq clzq outerzq basezq gzq L'zq h'zq gszq drzq oszq tkzq Ezq F'zq N'zq B'zq X'zq T'zq hpzq hdzq huzq
  (try dsimp only) 
  (try k_fold)))
  k_with "x sides" => ((
  (case k1 => k_asm)
  (case k2 => k_asm)
  (case k3 => k_asm)
  (case k4 => k_asm)
  (case k5 => k_asm)
  (case kK => first | exact rfl | assumption)
  (case kd => ktr_room)
  (case ku => ktr_units)))
  k_with "subscriptTail Name Constant ref int" => ((k_here; k_dflt ((with_reducible show wpAny _ _ (subscriptTail _ _ (Value.ref _) (Value.int _ _)) _ _ _); (with_unfolding_all refine' item_litK ?k1r232 ?k2r232 ?k3r232 ?k4r232 ?_ ?k6r232; (case k1r232 => is_list); (case k2r232 => decide); (case k3r232 => decide); (case k4r232 => rfl); (case k6r232 => with_unfolding_all rfl)))))
  k_with "subscriptTail Name BinOp ref int" => ((k_here; k_dflt ((with_reducible show wpAny _ _ (subscriptTail _ _ (Value.ref _) (Value.int _ _)) _ _ _); (with_unfolding_all refine' item_litK ?k1r233 ?k2r233 ?k3r233 ?k4r233 ?_ ?k6r233; (case k1r233 => is_list); (case k2r233 => decide); (case k3r233 => decide); (case k4r233 => rfl); (case k6r233 => with_unfolding_all rfl)))))
  k_with "subscriptTail Name Name ref int" => ((k_here; k_dflt ((with_reducible show wpAny _ _ (subscriptTail _ _ (Value.ref _) (Value.int _ _)) _ _ _); (with_unfolding_all refine' item_litK ?k1r234 ?k2r234 ?k3r234 ?k4r234 ?_ ?k6r234; (case k1r234 => is_list); (case k2r234 => decide); (case k3r234 => decide); (case k4r234 => rfl); (case k6r234 => with_unfolding_all rfl)))))
  k_with "eval Name" => ((k_here; dsimp only))
  trivial
theorem ipPat_of {w : World} {h : Heap} (X : (Mine.hd.heap_39 w.params).In h) : IpPat h := by
  refine ⟨⟨Str.ofString "\\.\\d+$", 346, 256, 373, X _ _ ?_⟩, X _ _ ?_⟩
  · k_is
  · k_is
theorem mat_nobool : typeLookup (.type "re.Match") "__bool__" = pure none := by rw [typeLookup_type, builtinLookup_eq_fast]; kernel_rfl
theorem mat_nolen : typeLookup (.type "re.Match") "__len__" = pure none := by rw [typeLookup_type, builtinLookup_eq_fast]; kernel_rfl
section
variable {prog : Program} {w : World} {A : Around} {E : Value → Shared → Prop} {h : Heap} {g : Array GenState} {d : Drawn} {t : Nat} {os : OsState}
theorem truthy_mat {x : Str} {u : Tok} {pat : Value} {a T : Addr} {lim : Int} {Q : Bool → Shared → Prop} (h1 : h.get? a = some (matObj x u pat T lim)) (hq : ∀ tk, Q true ⟨h, g, d, tk, os⟩) : wpAny (model prog w) A (truthy (.ref a)) Q E ⟨h, g, d, t, os⟩ := by
  have hT : (⟨h, g, d, t, os⟩ : Shared).TypeIs (.ref a) "re.Match" := ⟨_, h1, rfl⟩
  have f1 := mat_nobool
  have f2 := mat_nolen
  have hq0 := hq t
  have hq1 := hq (t + 1)
  have hq2 := hq (t + 1 + 1)
  repeat (any_goals (first | assumption | wp_step))
end
theorem kw_30 : True := by
  w_top off
  k_with_none
  k_with "x mem" => (first | (with_reducible assumption) | (with_reducible exact List.mem_cons_self) | (refine' List.mem_cons_of_mem _ ?_; k_extra "x mem") | (refine' List.mem_append_left _ ?_; k_extra "x mem") | (refine' List.mem_append_right _ ?_; k_extra "x mem"))
  k_with "x enter" => ((
  refine' xc_def ?k6r237 ?k7r237 ?k8r237 (fun s => ?k9r237) ?kBr237 ?c5r237 ?c2r237 ?c3r237 ?c4r237 ?_
  (case k6r237 => k_is)
  (case k7r237 => k_is)
  (case k8r237 => decide)
  (case k9r237 => exact BindsTo.of_eq rfl)
  (case c5r237 => decide)
  (case kBr237 => exact locs rfl)
  (case c2r237 => exact rfl)
  (case c3r237 => exact rfl)
  (case c4r237 => exact rfl)
  intro loosezq meanzq mgzq mbzq dpzq unzq gdzq cnzq cszq Lzq azq ccdzq clzq outerzq basezq gzq L'zq h'zq gszq drzq oszq tkzq Ezq F'zq N'zq B'zq X'zq T'zq hpzq hdzq huzq
  (try dsimp only) 
  (try k_fold)))
  k_with "x sides" => ((
  (case k1 => k_asm)
  (case k2 => k_asm)
  (case k3 => k_asm)
  (case k4 => k_asm)
  (case k5 => k_asm)
  (case kK => first | exact rfl | assumption)
  (case kd => ktr_room)
  (case ku => ktr_units)))
  k_with "subscriptTail Name Constant ref int" => ((k_here; k_dflt ((with_reducible show wpAny _ _ (subscriptTail _ _ (Value.ref _) (Value.int _ _)) _ _ _); (with_unfolding_all refine' item_litK ?k1r239 ?k2r239 ?k3r239 ?k4r239 ?_ ?k6r239; (case k1r239 => is_list); (case k2r239 => decide); (case k3r239 => decide); (case k4r239 => rfl); (case k6r239 => with_unfolding_all rfl)))))
  k_with "subscriptTail Name BinOp ref int" => ((k_here; k_dflt ((with_reducible show wpAny _ _ (subscriptTail _ _ (Value.ref _) (Value.int _ _)) _ _ _); (with_unfolding_all refine' item_litK ?k1r240 ?k2r240 ?k3r240 ?k4r240 ?_ ?k6r240; (case k1r240 => is_list); (case k2r240 => decide); (case k3r240 => decide); (case k4r240 => rfl); (case k6r240 => with_unfolding_all rfl)))))
  k_with "subscriptTail Name Name ref int" => ((k_here; k_dflt ((with_reducible show wpAny _ _ (subscriptTail _ _ (Value.ref _) (Value.int _ _)) _ _ _); (with_unfolding_all refine' item_litK ?k1r241 ?k2r241 ?k3r241 ?k4r241 ?_ ?k6r241; (case k1r241 => is_list); (case k2r241 => decide); (case k3r241 => decide); (case k4r241 => rfl); (case k6r241 => with_unfolding_all rfl)))))
  k_with "eval Name" => ((k_here; dsimp only))
  k_with "getMethod ref" => ((k_here; k_dflt ((with_reducible show wpAny _ _ (getMethod (Value.ref 63) (PySem.Str.ofString "search") _) _ _ _); (with_reducible rename Fr _ _ _ _ => kFzq); (refine search_meth kFzq (ipPat_of (by assumption)) ?_))))
  k_with "getMethod ref" => ((k_here; k_dflt ((with_reducible show wpAny _ _ (getMethod (Value.ref _) (PySem.Str.ofString "span") _) _ _ _); (with_reducible rename Fr _ _ _ _ => kFzq); (refine' span_meth ?k1r244 ?_); (case k1r244 => first | exact Fr.keep kFzq _ _ (by assumption) | (refine (News.get (by assumption) ?_); k_extra "x mem")))))
  k_with "getMethod ref" => ((k_here; k_dflt ((with_reducible show wpAny _ _ (getMethod (Value.ref _) (PySem.Str.ofString "group") _) _ _ _); (with_reducible rename Fr _ _ _ _ => kFzq); (refine' group_meth ?k1r245 ?_); (case k1r245 => first | exact Fr.keep kFzq _ _ (by assumption) | (refine (News.get (by assumption) ?_); k_extra "x mem")))))
  k_with "call builtin:re.Pattern.search" => ((k_here; k_dflt (first
  | ((with_reducible rename Fr _ _ _ _ => kFzq); (refine search_noN kFzq (ipPat_of (by assumption)) (by assumption) ?_))
  | ((with_reducible rename Fr _ _ _ _ => kFzq); (with_reducible rename News _ _ _ _ => kNzq); (refine search_yesN kFzq kNzq (ipPat_of (by assumption)) (by assumption) ?_); clear kFzq kNzq; intro a'zq T'zq h'zq F'zq N'zq l1zq l2zq; (try k_lt l1zq); (try k_lt2 l2zq); (try dsimp only)))))
  k_with "call builtin:re.Match.span" => ((k_here; k_dflt ((with_reducible rename Fr _ _ _ _ => kFzq); (with_reducible rename News _ _ _ _ => kNzq); (refine' span_N kFzq kNzq ?k1r247 ?k2r247 ?_); (case k1r247 => first | exact Fr.keep kFzq _ _ (by assumption) | (refine (News.get kNzq ?_); k_extra "x mem")); (case k2r247 => first | exact Fr.keep kFzq _ _ (by assumption) | (refine (News.get kNzq ?_); k_extra "x mem")); clear kFzq kNzq; intro c'zq h'zq t1'zq t2'zq tk'zq F'zq N'zq l1zq; (try k_lt l1zq); (try dsimp only))))
  k_with "call builtin:re.Match.group" => ((k_here; k_dflt ((with_reducible rename Fr _ _ _ _ => kFzq); (with_reducible rename News _ _ _ _ => kNzq); (refine' group_N ?k1r248 ?k2r248 ?k3r248 ?_); (case k1r248 => first | exact Fr.keep kFzq _ _ (by assumption) | (refine (News.get kNzq ?_); k_extra "x mem")); (case k2r248 => first | exact Fr.keep kFzq _ _ (by assumption) | (refine (News.get kNzq ?_); k_extra "x mem")); (case k3r248 => first | assumption | omega); intro t'zq tk'zq; (try dsimp only))))
  k_with "getAttr ref" => ((k_here; k_dflt ((with_reducible show wpAny _ _ (getAttr (Value.ref _) (PySem.Str.ofString "string") _) _ _ _); (with_reducible rename Fr _ _ _ _ => kFzq); (refine' string_N ?k1r249 ?_); (case k1r249 => first | exact Fr.keep kFzq _ _ (by assumption) | (refine (News.get (by assumption) ?_); k_extra "x mem")); intro tk'zq; (try dsimp only))))
  k_with "truthy ref" => ((k_here; k_dflt ((with_reducible rename Fr _ _ _ _ => kFzq); (refine' truthy_mat ?k1r250 ?_); (case k1r250 => first | exact Fr.keep kFzq _ _ (by assumption) | (refine (News.get (by assumption) ?_); k_extra "x mem")); intro tk'zq; (try dsimp only))))
  trivial
set_option maxRecDepth 100000 in
set_option maxHeartbeats 8000000 in
theorem hdn_yes (w : World) (x : Str) (u : Tok) (i : Nat) (hy : ipYes x i) : XC w 70 1 [.str x u] (fun _ => True) (fun _ r => r = .bool false) := by
  k_extra "x enter"
  k_steps
  all_goals (refine (XEnd.mk (by with_reducible assumption) (by assumption) ?_ : XEnd _ _ _ _ _ _ _ _); exact rfl)
def hdnV (x : Str) : Bool := !(x == "") && (!(Txt.item x 0 == ".") && !(Txt.item x (-1) == "."))
set_option maxRecDepth 100000 in
set_option maxHeartbeats 8000000 in
theorem hdn_no (w : World) (x : Str) (u : Tok) (hn : ipNo x) : XC w 70 1 [.str x u] (fun _ => True) (fun _ r => r = .bool (hdnV x)) := by
  k_extra "x enter"
  k_steps
  all_goals (refine (XEnd.mk (by with_reducible assumption) (by assumption) ?_ : XEnd _ _ _ _ _ _ _ _); (show Value.bool _ = Value.bool _); unfold hdnV; simp only [*, Bool.not_true, Bool.not_false, Bool.false_and, Bool.and_false, Bool.true_and, Bool.and_self])
theorem kw_31 : True := by
  k_with "binaryOp Add str str" => ((k_here; k_dflt ((refine' add_str ?_ ?ksr251); (case ksr251 => (rw [sizeLine_eq]; first | assumption | omega)); intro t'zq tk'zq; (try dsimp only))))
  trivial
set_option maxRecDepth 100000 in
set_option maxHeartbeats 8000000 in
theorem unm_c (w : World) (x : Str) (u : Tok) (i : Nat) (a T : Addr) (hz : x.cps.size < 1048576) (hi : i ≤ x.cps.size) :
    XC w 58 1 [.ref a] (fun h => h.get? a = some (matObj x u (.ref 63) T x.cps.size) ∧ h.get? T = some (tupOf #[.int i 0, .int x.cps.size 0] 0)) (fun _ r => ∃ t, r = .str ⟨(x.cps.toList.take i).toArray⟩ t) := by
  have hz' : x.length < 1048576 := hz
  k_extra "x enter"
  rename (_ ∧ _) => hp
  obtain ⟨hp1, hp2⟩ := hp
  k_steps
  refine (XEnd.mk (by with_reducible assumption) (by assumption) ?_ : XEnd _ _ _ _ _ _ _ _)
  rw [slice_take (x := x) (i := i) hi, slice_drop (x := x) (i := x.cps.size) (Nat.le_refl _), List.drop_of_length_le (by simp), add_lists, List.append_nil]
  exact ⟨_, rfl⟩
structure Peel (x : Str) (i : Nat) (y : Str) (n : Int) : Prop where
  yes : ipYes x i
  rest : y = ⟨(x.cps.toList.take i).toArray⟩
  num : PySem.intText? (Txt.slice ⟨x.cps.extract i x.cps.size⟩ (some 1) none) = some n
  short : (Txt.slice ⟨x.cps.extract i x.cps.size⟩ (some 1) none).length ≤ 640
theorem Peel.size {x y : Str} {i : Nat} {n : Int} (P : Peel x i y n) : x.cps.size ≤ 2 ^ 24 := by have := P.yes.1; omega
theorem Peel.cut {x y : Str} {i : Nat} {n : Int} (P : Peel x i y n) : (⟨x.cps.extract i x.cps.size⟩ : Str).length ≤ 1048576 := by
  show (x.cps.extract i x.cps.size).size ≤ 1048576
  rw [Array.size_extract]; have := P.yes.1; omega
theorem unm_p (w : World) {x y : Str} {n : Int} {u : Tok} {i : Nat} {a T : Addr} (P : Peel x i y n) :
    XC w 58 1 [.ref a] (fun h => h.get? a = some (matObj x u (.ref 63) T x.cps.size) ∧ h.get? T = some (tupOf #[.int i 0, .int x.cps.size 0] 0)) (fun _ r => ∃ t, r = .str y t) := by
  rw [P.rest]
  exact unm_c w x u i a T P.yes.1 (Nat.le_of_lt P.yes.2.2.1)
theorem kw_32 : True := by
  w_top off
  k_with_none
  k_with "x mem" => (first | (with_reducible assumption) | (with_reducible exact List.mem_cons_self) | (refine' List.mem_cons_of_mem _ ?_; k_extra "x mem") | (refine' List.mem_append_left _ ?_; k_extra "x mem") | (refine' List.mem_append_right _ ?_; k_extra "x mem"))
  k_with "x enter" => ((
  refine' xc_def ?k6r253 ?k7r253 ?k8r253 (fun s => ?k9r253) ?kBr253 ?c5r253 ?c2r253 ?c3r253 ?c4r253 ?_
  (case k6r253 => k_is)
  (case k7r253 => k_is)
  (case k8r253 => decide)
  (case k9r253 => exact BindsTo.of_eq rfl)
  (case c5r253 => decide)
  (case kBr253 => exact locs rfl)
  (case c2r253 => exact rfl)
  (case c3r253 => exact rfl)
  (case c4r253 => exact rfl)
  intro loosezq meanzq mgzq mbzq dpzq unzq gdzq cnzq cszq Lzq azq ccdzq clzq outerzq basezq gzq L'zq h'zq gszq drzq oszq tkzq Ezq F'zq N'zq B'zq X'zq T'zq hpzq hdzq huzq
  (try dsimp only) 
  (try k_fold)))
  k_with "x sides" => ((
  (case k1 => k_asm)
  (case k2 => k_asm)
  (case k3 => k_asm)
  (case k4 => k_asm)
  (case k5 => k_asm)
  (case kK => first | exact rfl | assumption)
  (case kd => ktr_room)
  (case ku => ktr_units)))
  k_with "subscriptTail Name Constant ref int" => ((k_here; k_dflt ((with_reducible show wpAny _ _ (subscriptTail _ _ (Value.ref _) (Value.int _ _)) _ _ _); (with_unfolding_all refine' item_litK ?k1r255 ?k2r255 ?k3r255 ?k4r255 ?_ ?k6r255; (case k1r255 => is_list); (case k2r255 => decide); (case k3r255 => decide); (case k4r255 => rfl); (case k6r255 => with_unfolding_all rfl)))))
  k_with "subscriptTail Name BinOp ref int" => ((k_here; k_dflt ((with_reducible show wpAny _ _ (subscriptTail _ _ (Value.ref _) (Value.int _ _)) _ _ _); (with_unfolding_all refine' item_litK ?k1r256 ?k2r256 ?k3r256 ?k4r256 ?_ ?k6r256; (case k1r256 => is_list); (case k2r256 => decide); (case k3r256 => decide); (case k4r256 => rfl); (case k6r256 => with_unfolding_all rfl)))))
  k_with "subscriptTail Name Name ref int" => ((k_here; k_dflt ((with_reducible show wpAny _ _ (subscriptTail _ _ (Value.ref _) (Value.int _ _)) _ _ _); (with_unfolding_all refine' item_litK ?k1r257 ?k2r257 ?k3r257 ?k4r257 ?_ ?k6r257; (case k1r257 => is_list); (case k2r257 => decide); (case k3r257 => decide); (case k4r257 => rfl); (case k6r257 => with_unfolding_all rfl)))))
  k_with "eval Name" => ((k_here; dsimp only))
  k_with "x enterK" => ((
  refine' xc_defK ?k6r259 ?k7r259 ?k8r259 ?k9r259 ?kBr259 ?c5r259 ?c2r259 ?c3r259 ?c4r259 ?_
  (case k6r259 => k_is)
  (case k7r259 => k_is)
  (case k8r259 => decide)
  (case k9r259 => exact fun _ => rfl)
  (case c5r259 => decide)
  (case kBr259 => exact locs rfl)
  (case c2r259 => exact rfl)
  (case c3r259 => exact rfl)
  (case c4r259 => exact rfl)
  intro loosezq meanzq mgzq mbzq dpzq unzq gdzq cnzq cszq Lzq azq ccdzq clzq outerzq basezq gzq L'zq h'zq gszq drzq oszq tkzq Ezq F'zq N'zq B'zq X'zq T'zq hpzq hdzq huzq
  (try dsimp only) 
  (try k_fold)))
  k_with "x enterC" => ((
  refine' xc_defC ?k6r260 ?k7r260 ?k8r260 ?k9r260 ?kBr260 ?kDr260 ?c2r260 ?c3r260 ?c4r260 ?_
  (case k6r260 => k_is)
  (case k7r260 => k_is)
  (case k8r260 => decide)
  (case k9r260 => exact fun _ => rfl)
  (case kBr260 => exact rfl)
  (case kDr260 => decide +kernel)
  (case c2r260 => exact rfl)
  (case c3r260 => exact rfl)
  (case c4r260 => exact rfl)
  intro loosezq meanzq mgzq mbzq dpzq unzq gdzq cnzq cszq Lzq azq ccdzq clzq outerzq basezq gzq L'zq h'zq gszq drzq oszq tkzq Ezq cells'zq F'zq N'zq Y'zq B'zq X'zq T'zq hpzq hdzq huzq
  k_cells Y'zq
  (try simp only [List.cons_append, List.nil_append] at N'zq)
  (try dsimp only) 
  (try k_fold)))
  k_with "x for" => ((k_here; (rename Fr _ _ _ _ => lF'zq); (with_unfolding_all refine' For_turns lF'zq ?_; k_whole)))
  k_with "x walk" => ((repeat' ((fail_if_success (with_reducible show wpAny _ _ (pyIter (Value.ref _)) (fun it s₂ => TurnsAt _ _ _ _ _ _ _ _ _ it s₂) _ _)); first | (k_unfold; (try dsimp only)) | (k_end; wrow_close) | walk1 | (dsimp only; walk1) | (leave1; walk_say "STEP leave1"; try dsimp only) | fail "no step")))
  k_with "x walkA" => ((repeat' ((fail_if_success (with_reducible show wpAny _ _ (pyIter (Value.ref _)) (fun it s₂ => TurnsAt _ _ _ _ _ _ _ _ _ it s₂) _ _)); (fail_if_success (with_reducible show wpAny _ _ (call (Value.builtin "list.append") _) _ _ _)); first | (k_unfold; (try dsimp only)) | (k_end; wrow_close) | walk1 | (dsimp only; walk1) | (leave1; walk_say "STEP leave1"; try dsimp only) | fail "no step")))
  k_with "x off2" => ((intro y'zq hy'zq; simp only [List.mem_cons, List.not_mem_nil, not_or, or_false] at hy'zq; obtain ⟨h1'zq, h2'zq⟩ := hy'zq; simp only [h1'zq, h2'zq, if_false]))
  k_with "x off3" => ((intro y'zq hy'zq; simp only [List.mem_cons, List.not_mem_nil, not_or, or_false] at hy'zq; obtain ⟨h1'zq, h2'zq, h3'zq⟩ := hy'zq; simp only [h1'zq, h2'zq, h3'zq, if_false]))
  k_with "x sel" => (((rename _ < 3 => kizq); k_dflt (first
  | ((refine' item_sel kizq ?k1r266 ?_ ?k6r266); (case k1r266 => is_list); (case k6r266 => with_unfolding_all rfl); intro t'zq)
  | ((refine' item_sel1 kizq ?k1r266 ?_ ?k6r266); (case k1r266 => is_list); (case k6r266 => with_unfolding_all rfl); intro t'zq)
  | ((refine' item_sel2 kizq ?k1r266 ?_ ?k6r266); (case k1r266 => is_list); (case k6r266 => with_unfolding_all rfl); intro t'zq))))
  k_with "x append" => (((refine' append_L ?k1r267 ?k2r267 ?k3r267 ?zr267 ?_; (case k1r267 => k_asm); (case k2r267 => k_asm); (case k3r267 => k_upd); (case zr267 => assumption)); intro h'zq F'zq N'zq; (try dsimp only)))
  k_with "getMethod ref" => ((k_here; k_dflt ((with_reducible show wpAny _ _ (getMethod (Value.ref 63) (PySem.Str.ofString "search") _) _ _ _); (with_reducible rename Fr _ _ _ _ => kFzq); (refine search_meth kFzq (ipPat_of (by assumption)) ?_))))
  k_with "getMethod ref" => ((k_here; k_dflt ((with_reducible show wpAny _ _ (getMethod (Value.ref _) (PySem.Str.ofString "span") _) _ _ _); (with_reducible rename Fr _ _ _ _ => kFzq); (refine' span_meth ?k1r269 ?_); (case k1r269 => first | exact Fr.keep kFzq _ _ (by assumption) | (refine (News.get (by assumption) ?_); k_extra "x mem")))))
  k_with "getMethod ref" => ((k_here; k_dflt ((with_reducible show wpAny _ _ (getMethod (Value.ref _) (PySem.Str.ofString "group") _) _ _ _); (with_reducible rename Fr _ _ _ _ => kFzq); (refine' group_meth ?k1r270 ?_); (case k1r270 => first | exact Fr.keep kFzq _ _ (by assumption) | (refine (News.get (by assumption) ?_); k_extra "x mem")))))
  k_with "call builtin:re.Pattern.search" => ((k_here; k_dflt (first
  | ((with_reducible rename Fr _ _ _ _ => kFzq); (refine search_noN kFzq (ipPat_of (by assumption)) (by assumption) ?_))
  | ((with_reducible rename Fr _ _ _ _ => kFzq); (with_reducible rename News _ _ _ _ => kNzq); (refine search_yesN kFzq kNzq (ipPat_of (by assumption)) (by assumption) ?_); clear kFzq kNzq; intro a'zq T'zq h'zq F'zq N'zq l1zq l2zq; (try k_lt l1zq); (try k_lt2 l2zq); (try dsimp only)))))
  k_with "call builtin:re.Match.span" => ((k_here; k_dflt ((with_reducible rename Fr _ _ _ _ => kFzq); (with_reducible rename News _ _ _ _ => kNzq); (refine' span_N kFzq kNzq ?k1r272 ?k2r272 ?_); (case k1r272 => first | exact Fr.keep kFzq _ _ (by assumption) | (refine (News.get kNzq ?_); k_extra "x mem")); (case k2r272 => first | exact Fr.keep kFzq _ _ (by assumption) | (refine (News.get kNzq ?_); k_extra "x mem")); clear kFzq kNzq; intro c'zq h'zq t1'zq t2'zq tk'zq F'zq N'zq l1zq; (try k_lt l1zq); (try dsimp only))))
  k_with "call builtin:re.Match.group" => ((k_here; k_dflt ((with_reducible rename Fr _ _ _ _ => kFzq); (with_reducible rename News _ _ _ _ => kNzq); (refine' group_N ?k1r273 ?k2r273 ?k3r273 ?_); (case k1r273 => first | exact Fr.keep kFzq _ _ (by assumption) | (refine (News.get kNzq ?_); k_extra "x mem")); (case k2r273 => first | exact Fr.keep kFzq _ _ (by assumption) | (refine (News.get kNzq ?_); k_extra "x mem")); (case k3r273 => first | assumption | omega); intro t'zq tk'zq; (try dsimp only))))
  k_with "getAttr ref" => ((k_here; k_dflt ((with_reducible show wpAny _ _ (getAttr (Value.ref _) (PySem.Str.ofString "string") _) _ _ _); (with_reducible rename Fr _ _ _ _ => kFzq); (refine' string_N ?k1r274 ?_); (case k1r274 => first | exact Fr.keep kFzq _ _ (by assumption) | (refine (News.get (by assumption) ?_); k_extra "x mem")); intro tk'zq; (try dsimp only))))
  k_with "truthy ref" => ((k_here; k_dflt ((with_reducible rename Fr _ _ _ _ => kFzq); (refine' truthy_mat ?k1r275 ?_); (case k1r275 => first | exact Fr.keep kFzq _ _ (by assumption) | (refine (News.get (by assumption) ?_); k_extra "x mem")); intro tk'zq; (try dsimp only))))
  trivial
theorem kw_33 : True := by
  k_with "call ref" => ((k_here; (with_reducible show wpAny _ _ (call (Value.ref 70) [Value.str _ _]) _ _ _); k_dflt (first
  | ((refine' xc_use_val (hdn_yes _ _ _ _ (by assumption)) ?k1r276 ?k2r276 ?k3r276 ?k4r276 ?k5r276 ?kKr276 trivial ?kdr276 ?kur276 ?_); (
  (case k1r276 => k_asm)
  (case k2r276 => k_asm)
  (case k3r276 => k_asm)
  (case k4r276 => k_asm)
  (case k5r276 => k_asm)
  (case kKr276 => first | exact rfl | assumption)
  (case kdr276 => ktr_room)
  (case kur276 => ktr_units)); intro h'zq tk'zq F'zq N'zq; (try dsimp only))
  | ((refine' xc_use_val (hdn_no _ _ _ (by assumption)) ?k1r276 ?k2r276 ?k3r276 ?k4r276 ?k5r276 ?kKr276 trivial ?kdr276 ?kur276 ?_); (
  (case k1r276 => k_asm)
  (case k2r276 => k_asm)
  (case k3r276 => k_asm)
  (case k4r276 => k_asm)
  (case k5r276 => k_asm)
  (case kKr276 => first | exact rfl | assumption)
  (case kdr276 => ktr_room)
  (case kur276 => ktr_units)); intro h'zq tk'zq F'zq N'zq; (try dsimp only)))))
  k_with "call ref" => ((k_here; (with_reducible show wpAny _ _ (call (Value.ref 58) [Value.ref _]) _ _ _); k_dflt (
  (refine' xc_use_str (unm_p _ ?Pr277) ?k1r277 ?k2r277 ?k3r277 ?k4r277 ?k5r277 ?kKr277 ?kpr277 ?kdr277 ?kur277 ?_); (case kpr277 => (constructor; (refine News.get (by assumption) ?_; k_extra "x mem"); (refine News.get (by assumption) ?_; k_extra "x mem"))); (case Pr277 => assumption); (
  (case k1r277 => k_asm)
  (case k2r277 => k_asm)
  (case k3r277 => k_asm)
  (case k4r277 => k_asm)
  (case k5r277 => k_asm)
  (case kKr277 => first | exact rfl | assumption)
  (case kdr277 => ktr_room)
  (case kur277 => ktr_units)); intro t'zq h'zq tk'zq F'zq N'zq; (try dsimp only))))
  k_with "call type:int" => ((k_here; k_dflt (refine KIN.call_text (Peel.num (by assumption)) (Peel.short (by assumption)) ?_)))
  trivial
/-- numbers that come off a text one by one, and what is left -/
inductive Peels : Str → List Int → Str → Prop
  | nil {z : Str} : ipNo z → Peels z [] z
  | cons {x y z : Str} {i : Nat} {n : Int} {ns : List Int} : Peel x i y n → Peels y ns z → Peels x (n :: ns) z
theorem Peels.no : ∀ {x z : Str} {ns : List Int}, Peels x ns z → ipNo z
  | _, _, _, .nil h => h
  | _, _, _, .cons _ r => Peels.no r
/-- what a search found -/
def FoundIs (x z : Str) (ns : List Int) (v : Value) (own : List (Addr × Obj)) : Prop :=
  (ns = [] ∧ z = x ∧ v = .none ∧ own = []) ∨ ∃ n ns' i y a T u, ns = n :: ns' ∧ Peel x i y n ∧ Peels y ns' z ∧ v = .ref a ∧ own = [(a, matObj x u (.ref 63) T x.cps.size), (T, tupOf #[.int i 0, .int x.cps.size 0] 0)]
section
variable {prog : Program} {w : World} {A : Around} {E : Value → Shared → Prop} {s : Shared} {h₀ : Heap} {L : Addr} {m : Str → Option Value} {news : List (Addr × Obj)}
theorem search_P {x z : Str} {ns : List Int} {u : Tok} {Q : Value → Shared → Prop} (F : Fr h₀ L s.heap m) (N : News h₀ L s.heap news) (I : IpPat h₀) (hP : Peels x ns z)
    (hq : ∀ v own h', Fr h₀ L h' m → News h₀ L h' (own ++ news) → (∀ p ∈ own, ∀ q ∈ news, @LT.lt Nat _ q.1 p.1) → FoundIs x z ns v own → Q v { s with heap := h' }) :
    wpAny (model prog w) A (call (.builtin "re.Pattern.search") [.ref 63, .str x u]) Q E s := by
  cases hP with
  | nil h => exact search_noN F I h (hq .none [] s.heap F N (fun _ h => nomatch h) (.inl ⟨rfl, rfl, rfl, rfl⟩))
  | cons p r =>
    refine search_yesN F N I p.yes fun a T h' F' N' l1 l2 => hq _ _ h' F' N' (fun p hp q hq => ?_) (.inr ⟨_, _, _, _, a, T, u, rfl, p, r, rfl, rfl⟩)
    rcases List.mem_cons.mp hp with rfl | hp
    · exact Nat.lt_trans (l1 q hq) l2
    · rw [List.mem_singleton.mp hp]; exact l1 q hq
end
def PeelInv (z : Str) (all : List Int) (D : Addr) (M : Str → Option Value) (k : Nat) (m : Str → Option Value) (news : List (Addr × Obj)) : Prop :=
  ∃ x ns done ys t v own c, k = ns.length ∧ IntsAre ys done ∧ done ++ ns = all ∧ FoundIs x z ns v own ∧ (∀ p ∈ own, @LT.lt Nat _ D p.1) ∧ m (Str.ofString "rest") = some (.str x t) ∧ m (Str.ofString "found") = some v ∧
    OffN [Str.ofString "rest", Str.ofString "found"] m M ∧ news = own ++ [(D, W.listOf ys.toArray c)]
theorem PeelInv.turn {z : Str} {all : List Int} {D : Addr} {M m : Str → Option Value} {k : Nat} {news : List (Addr × Obj)} {C : (Str → Option Value) → List (Addr × Obj) → Prop} (h : PeelInv z all D M k m news)
    (q0 : ∀ ys t c, IntsAre ys all → C (fun y => if y = Str.ofString "rest" then some (.str z t) else if y = Str.ofString "found" then some .none else M y) [(D, W.listOf ys.toArray c)])
    (q1 : ∀ x y i n ns done ys t a T u c, k = ns.length + 1 → Peel x i y n → Peels y ns z → IntsAre ys done → (done ++ [n]) ++ ns = all → @LT.lt Nat _ D a → @LT.lt Nat _ D T →
      C (fun y => if y = Str.ofString "rest" then some (.str x t) else if y = Str.ofString "found" then some (.ref a) else M y) [(a, matObj x u (.ref 63) T x.cps.size), (T, tupOf #[.int i 0, .int x.cps.size 0] 0), (D, W.listOf ys.toArray c)]) : C m news := by
  obtain ⟨x, ns, done, ys, t, v, own, c, hk, hy, ha, hf, ho, h1, h2, hm, rfl⟩ := h
  have em := OffN.map2 hm
  rw [h1, h2] at em
  rw [em]
  rcases hf with ⟨rfl, rfl, rfl, rfl⟩ | ⟨n, ns', i, y, a, T, u, rfl, hp, hps, rfl, rfl⟩
  · rw [List.append_nil] at ha
    exact q0 ys t c (ha ▸ hy)
  · exact q1 x y i n ns' done ys t a T u c hk hp hps hy (by rw [List.append_assoc]; exact ha) (ho _ List.mem_cons_self) (ho _ (List.mem_cons_of_mem _ List.mem_cons_self))
theorem peel_on {z x : Str} {all ns done : List Int} {D L : Addr} {M m : Str → Option Value} {h₀ h' : Heap} {s : Shared} {tk k : Nat} {Q : Flow → Shared → Prop} {ys : List Value} {t : Tok} {v : Value} {own news : List (Addr × Obj)} {c : Nat} (F : Fr h₀ L h' m) (N : News h₀ L h' (own ++ news)) (hD : (D, W.listOf ys.toArray c) ∈ news) (ho : ∀ p ∈ own, ∀ q ∈ news, @LT.lt Nat _ q.1 p.1)
    (hk : k = ns.length + 1) (hf : FoundIs x z ns v own) (hy : IntsAre ys done) (ha : done ++ ns = all) (h1 : m (Str.ofString "rest") = some (.str x t)) (h2 : m (Str.ofString "found") = some v) (hm : OffN [Str.ofString "rest", Str.ofString "found"] m M) :
    WhileStep2 h₀ L s (PeelInv z all D M) Q k .next { s with heap := h', toks := tk } :=
  ⟨h', tk, m, own ++ [(D, W.listOf ys.toArray c)], ns.length, rfl, F, (fun p hp => by
    rcases List.mem_append.mp hp with hp | hp
    · exact N p (List.mem_append_left _ hp)
    · rw [List.mem_singleton.mp hp]; exact N _ (List.mem_append_right _ hD)), by omega, x, ns, done, ys, t, v, own, c, rfl, hy, ha, hf, (fun p hp => ho p hp _ hD), h1, h2, hm, rfl⟩
theorem peel_start {z x : Str} {ns : List Int} {D : Addr} {M : Str → Option Value} {t : Tok} {v : Value} {own : List (Addr × Obj)} {c : Nat} (ho : ∀ p ∈ own, ∀ q ∈ [(D, W.listOf #[] c)], @LT.lt Nat _ q.1 p.1) (hf : FoundIs x z ns v own) :
    PeelInv z ns D M ns.length (fun y => if y = Str.ofString "found" then some v else if y = Str.ofString "rest" then some (.str x t) else M y) (own ++ [(D, W.listOf #[] c)]) :=
  ⟨x, ns, [], [], t, v, own, c, rfl, .nil, rfl, hf, fun p hp => ho p hp _ List.mem_cons_self, rfl, rfl, fun y hy => by
    simp only [List.mem_cons, List.not_mem_nil, not_or, or_false] at hy
    show (if y = Str.ofString "found" then _ else if y = Str.ofString "rest" then _ else M y) = M y
    rw [if_neg hy.2, if_neg hy.1], rfl⟩
theorem ints_rpl {G : Addr → Obj → Prop} : ∀ {ws : List Value} {zs : List Int}, IntsAre ws zs → RpL G ws (zs.map .int)
  | _, _, .nil => .nil
  | _, _, .cons _ _ r => .cons (.int _ _) (ints_rpl r)
theorem peel_len {ys : List Value} {done ns all : List Int} {n : Int} (hy : IntsAre ys done) (ha : (done ++ [n]) ++ ns = all) (hl : all.length ≤ 4) : ys.length ≤ 1000000 := by
  have e := hy.length
  have := congrArg List.length ha
  simp only [List.length_append] at this
  omega
theorem peel_len' {ys : List Value} {all : List Int} (hy : IntsAre ys all) (hl : all.length ≤ 4) : ys.length ≤ 1000000 := by
  have e := hy.length
  omega
theorem kw_34 : True := by
  k_with "call builtin:re.Pattern.search" => ((k_here; (with_reducible rename Fr _ _ _ _ => kFzq); (with_reducible rename News _ _ _ _ => kNzq); k_dflt (refine search_P kFzq kNzq (ipPat_of (by assumption)) (by with_reducible assumption) ?_); clear kFzq kNzq; intro v'zq own'zq h'zq F'zq N'zq o'zq f'zq; (try dsimp only)))
  k_with "call builtin:list.append" => ((k_here; k_dflt (k_extra "x append")))
  k_with "x walkW" => ((repeat' ((fail_if_success (with_reducible show wpAny _ _ (exec (PySem.Stmt.While _ _ _ _) _) _ _ _)); first | (k_unfold; (try dsimp only)) | (k_end; wrow_close) | walk1 | (dsimp only; walk1) | (leave1; walk_say "STEP leave1"; try dsimp only) | fail "no step")))
  k_with "x off2r" => ((intro y'zq hy'zq; simp only [List.mem_cons, List.not_mem_nil, not_or, or_false] at hy'zq; obtain ⟨h1'zq, h2'zq⟩ := hy'zq; simp only [h1'zq, h2'zq, if_false]))
  trivial
set_option maxRecDepth 100000 in
set_option maxHeartbeats 8000000 in
theorem peeled_c (w : World) (x y z : Str) (u : Tok) (i : Nat) (n : Int) (ns : List Int) (P0 : Peel x i y n) (Ps : Peels y ns z) (hl : (n :: ns).length ≤ 4) :
    XC w 103 3 [.str x u] (fun _ => True) (fun tl r => Rp (LG tl) r (.tuple [.list ((n :: ns).reverse.map .int), .bool (hdnV z), .str z])) := by
  have y0 := P0.yes
  have hno := Ps.no
  have Pa : Peels x (n :: ns) z := .cons P0 Ps
  k_extra "x enter"
  k_extra "x walkW"
  (with_reducible rename Fr _ _ _ _ => kF)
  (with_reducible rename News _ _ _ _ => kN)
  refine While_inv2 (PeelInv z (n :: ns) _ _) kF kN (peel_start (by assumption) (by assumption)) ?turn
  case turn =>
    clear kF kN
    intro k m news h tk F N hJ
    revert F N
    apply PeelInv.turn hJ
    · intro ys t c hy F' N'
      have hz := peel_len' hy hl
      try dsimp only
      k_steps
      all_goals first
        | (exfalso; cases hq : hdnV z <;> simp_all; done)
        | (refine (XEnd.mk (by with_reducible assumption) (by assumption) ?_ : XEnd _ _ _ _ _ _ _ _); exact Rp.tuple (vs := [_, _, _]) List.mem_cons_self (.cons (.list (List.mem_cons_of_mem _ List.mem_cons_self) (ints_rpl (by assumption))) (.cons (.bool _) (.cons (.str _ _) .nil))))
    · intro x' y' i' n' ns' done ys t a T u c hk P1 Q1 hy ha la lT F' N'
      have y1 := P1.yes
      have z1 := P1.size
      have c1 := P1.cut
      have hz := peel_len hy ha hl
      try dsimp only
      k_steps
      (with_reducible rename Fr _ _ _ _ => kF)
      (with_reducible rename News _ _ _ _ => kN)
      exact peel_on kF kN (by k_extra "x mem") (by assumption) hk (by assumption) (IntsAre.append hy (.cons _ _ .nil)) ha (by rfl) (by rfl) (by k_extra "x off2r")
theorem peeled3 (w : World) (x0 x1 x2 x3 : Str) (u : Tok) (i0 i1 i2 : Nat) (n0 n1 n2 : Int) (P0 : Peel x0 i0 x1 n0) (P1 : Peel x1 i1 x2 n1) (P2 : Peel x2 i2 x3 n2) (hno : ipNo x3) :
    XC w 103 3 [.str x0 u] (fun _ => True) (fun tl r => Rp (LG tl) r (.tuple [.list [.int n2, .int n1, .int n0], .bool (hdnV x3), .str x3])) :=
  peeled_c w x0 x1 x3 u i0 n0 [n1, n2] P0 (.cons P1 (.cons P2 (.nil hno))) (show 3 ≤ 4 by decide)
theorem peeled4 (w : World) (x0 x1 x2 x3 x4 : Str) (u : Tok) (i0 i1 i2 i3 : Nat) (n0 n1 n2 n3 : Int) (P0 : Peel x0 i0 x1 n0) (P1 : Peel x1 i1 x2 n1) (P2 : Peel x2 i2 x3 n2) (P3 : Peel x3 i3 x4 n3) (hno : ipNo x4) :
    XC w 103 3 [.str x0 u] (fun _ => True) (fun tl r => Rp (LG tl) r (.tuple [.list [.int n3, .int n2, .int n1, .int n0], .bool (hdnV x4), .str x4])) :=
  peeled_c w x0 x1 x4 u i0 n0 [n1, n2, n3] P0 (.cons P1 (.cons P2 (.cons P3 (.nil hno)))) (show 4 ≤ 4 by decide)
theorem kw_35 : True := by
  w_top off
  k_with_none
  k_with "x mem" => (first | (with_reducible assumption) | (with_reducible exact List.mem_cons_self) | (refine' List.mem_cons_of_mem _ ?_; k_extra "x mem") | (refine' List.mem_append_left _ ?_; k_extra "x mem") | (refine' List.mem_append_right _ ?_; k_extra "x mem"))
  k_with "x enter" => ((
  refine' xc_def ?k6r284 ?k7r284 ?k8r284 (fun s => ?k9r284) ?kBr284 ?c5r284 ?c2r284 ?c3r284 ?c4r284 ?_
  (case k6r284 => k_is)
  (case k7r284 => k_is)
  (case k8r284 => decide)
  (case k9r284 => exact BindsTo.of_eq rfl)
  (case c5r284 => decide)
  (case kBr284 => exact locs rfl)
  (case c2r284 => exact rfl)
  (case c3r284 => exact rfl)
  (case c4r284 => exact rfl)
  intro loosezq meanzq mgzq mbzq dpzq unzq gdzq cnzq cszq Lzq azq ccdzq clzq outerzq basezq gzq L'zq h'zq gszq drzq oszq tkzq Ezq F'zq N'zq B'zq X'zq T'zq hpzq hdzq huzq
  (try dsimp only) 
  (try k_fold)))
  k_with "x sides" => ((
  (case k1 => k_asm)
  (case k2 => k_asm)
  (case k3 => k_asm)
  (case k4 => k_asm)
  (case k5 => k_asm)
  (case kK => first | exact rfl | assumption)
  (case kd => ktr_room)
  (case ku => ktr_units)))
  k_with "subscriptTail Name Constant ref int" => ((k_here; k_dflt ((with_reducible show wpAny _ _ (subscriptTail _ _ (Value.ref _) (Value.int _ _)) _ _ _); (with_unfolding_all refine' item_litK ?k1r286 ?k2r286 ?k3r286 ?k4r286 ?_ ?k6r286; (case k1r286 => is_list); (case k2r286 => decide); (case k3r286 => decide); (case k4r286 => rfl); (case k6r286 => with_unfolding_all rfl)))))
  k_with "subscriptTail Name BinOp ref int" => ((k_here; k_dflt ((with_reducible show wpAny _ _ (subscriptTail _ _ (Value.ref _) (Value.int _ _)) _ _ _); (with_unfolding_all refine' item_litK ?k1r287 ?k2r287 ?k3r287 ?k4r287 ?_ ?k6r287; (case k1r287 => is_list); (case k2r287 => decide); (case k3r287 => decide); (case k4r287 => rfl); (case k6r287 => with_unfolding_all rfl)))))
  k_with "subscriptTail Name Name ref int" => ((k_here; k_dflt ((with_reducible show wpAny _ _ (subscriptTail _ _ (Value.ref _) (Value.int _ _)) _ _ _); (with_unfolding_all refine' item_litK ?k1r288 ?k2r288 ?k3r288 ?k4r288 ?_ ?k6r288; (case k1r288 => is_list); (case k2r288 => decide); (case k3r288 => decide); (case k4r288 => rfl); (case k6r288 => with_unfolding_all rfl)))))
  k_with "eval Name" => ((k_here; dsimp only))
  trivial
def fmtS : Str := ⟨[46, 37, 100, 46, 37, 48, 50, 100, 46, 37, 100].toArray⟩
theorem fmtS_eq : Str.ofString ".%d.%02d.%d" = fmtS := by decide +kernel
section
open Builtin Builtin.Str
variable {prog : Program} {w : World} {A : Around} {E : Value → Shared → Prop} {h : Heap} {g : Array GenState} {d : Drawn} {tk : Nat} {os : OsState} {D : Addr} {a b c : Int} {t t1 t2 t3 : Tok} {n : Nat}
def padS (b : Int) : Str := ⟨#[48, 48 + b.toNat]⟩
theorem pf_gen {β : Type} {M : Model} {s : Shared} {l : List Nat} {b : β} {f : Nat → β → Sem (ForInStep β)} {Q : β → Shared → Prop} (h : ∀ f', f' = f → wpAny M A (forIn l b f') Q E s) : wpAny M A (forIn l b f) Q E s := h f rfl
theorem pf_use {β : Type} {M : Model} {s : Shared} {x : Nat} {b : β} {f f' : Nat → β → Sem (ForInStep β)} {Q : ForInStep β → Shared → Prop} (hf : f' = f) (h : wpAny M A (f x b) Q E s) : wpAny M A (f' x b) Q E s := by subst hf; exact h
set_option maxRecDepth 100000 in
set_option maxHeartbeats 8000000 in
theorem pf_run_o {o : Obj} {Q : Fin → Shared → Prop} (ha : 0 ≤ a) (ha' : a < 10 ^ 10) (hc : 0 ≤ c) (hc' : c < 10 ^ 10) (hla : a.natAbs.log2 < 1920) (hla' : ((a.natAbs : Nat) : Int).natAbs.log2 < 1920) (hlc : c.natAbs.log2 < 1920) (hlc' : ((c.natAbs : Nat) : Int).natAbs.log2 < 1920) (hlb' : ((b.natAbs : Nat) : Int).natAbs.log2 < 1920) (hb : 0 ≤ b ∧ b ≤ 8)
    (hD : h.get? D = some o) (hcl : o.cls = .type "tuple") (hda : o.data = .seq #[.int a t1, .int b t2, .int c t3] n)
    (hq : ∀ t' k, Q (.done (.ret (.str (Str.ofString "." ++ Str.ofString (toString a) ++ Str.ofString "." ++ padS b ++ Str.ofString "." ++ Str.ofString (toString c)) t'))) ⟨h, g, d, k, os⟩) :
    wpAny (model prog w) A (percentFormat (.str fmtS t) fmtS (.ref D)) Q E ⟨h, g, d, tk, os⟩ := by
  have hT : (⟨h, g, d, tk, os⟩ : Shared).TypeIs (.ref D) "tuple" := ⟨_, hD, hcl⟩
  unfold percentFormat
  refine wpAny_bind (wpAny_isInstance hT KPt.sub_tt ?_)
  refine wpAny_bind (KPt.asStr_ref hD hda ?_)
  refine wpAny_bind (KPt.fills_ref hT fun bb => ?_)
  refine wpAny_ite (KPc.ite_yes rfl ?_)
  refine wpAny_bind (wpAny_seqItems hD hda ?_)
  refine wpAny_bind (wpAny_pure ?_)
  refine wpAny_bind ?_
  rw [KPc.range_list]
  refine KPc.start ?_
  intro w0 g0
  refine pf_gen fun f' hf => ?_
  refine KPc.turn ?_; refine pf_use hf ?_; kpc_check; (repeat kpc_if); refine wpAny_pure ?_
  show wpAny _ _ (forIn _ ([Value.int a t1, .int b t2, .int c t3], Writer.add w0 ⟨#[46]⟩ none, [37, 100, 46, 37, 48, 50, 100, 46, 37, 100]) f') _ _ ⟨h, g, d, _, os⟩
  refine KPc.after_add0 (y := Str.ofString ".") g0 (by decide +kernel) (KPc.obj_none rfl) ?_
  intro w1 g1
  refine KPc.turn ?_; refine pf_use hf ?_; kpc_check; (repeat kpc_if); (refine wpAny_bind ?_; refine wpAny_holding ?_; (repeat kpc_if); kpc_conv; refine wpAny_pure ?_; refine wpAny_pure ?_)
  show wpAny _ _ (forIn _ ([Value.int b t2, .int c t3], Writer.add w1 ⟨(percentInt _ (decide (a < 0)) _).toArray⟩ none, [46, 37, 48, 50, 100, 46, 37, 100]) f') _ _ ⟨h, g, d, _, os⟩
  refine KPc.after_int g1 rfl (by kpc_kind) rfl ha ha' rfl (by kpc_none) ?_
  intro w2 g2
  refine KPc.turn ?_; refine pf_use hf ?_; kpc_check; (repeat kpc_if); refine wpAny_pure ?_
  show wpAny _ _ (forIn _ ([Value.int b t2, .int c t3], Writer.add w2 ⟨#[46]⟩ none, [37, 48, 50, 100, 46, 37, 100]) f') _ _ ⟨h, g, d, _, os⟩
  refine KPc.after_add (y := Str.ofString ".") g2 (by decide +kernel) (KPc.obj_none rfl) ?_
  intro w3 g3
  refine KPc.turn ?_; refine pf_use hf ?_; kpc_check; (repeat kpc_if); (refine wpAny_bind ?_; refine wpAny_holding ?_; (repeat kpc_if); kpc_conv; refine wpAny_pure ?_)
  have hb9 : b = 0 ∨ b = 1 ∨ b = 2 ∨ b = 3 ∨ b = 4 ∨ b = 5 ∨ b = 6 ∨ b = 7 ∨ b = 8 := by omega
  have e1 : decide (b < 0) = false := decide_eq_false (by omega)
  have e2 : (Str.ofString (toString ((b.natAbs : Nat) : Int))).cps.toList = [48 + b.toNat] := by clear hf hq hD hcl hda; rcases hb9 with rfl | rfl | rfl | rfl | rfl | rfl | rfl | rfl | rfl <;> decide +kernel
  rw [e1, e2]
  refine wpAny_pure ?_
  show wpAny _ _ (forIn _ ([Value.int c t3], Writer.add w3 _ none, [46, 37, 100]) f') _ _ ⟨h, g, d, _, os⟩
  refine KPc.after_add (y := padS b) g3 (by clear hf hq hD hcl hda e1 e2; rcases hb9 with rfl | rfl | rfl | rfl | rfl | rfl | rfl | rfl | rfl <;> decide +kernel) (KPc.obj_none rfl) ?_
  intro w4 g4
  have hpl : (padS b).length = 2 := rfl
  rw [hpl] at g4
  refine KPc.turn ?_; refine pf_use hf ?_; kpc_check; (repeat kpc_if); refine wpAny_pure ?_
  show wpAny _ _ (forIn _ ([Value.int c t3], Writer.add w4 ⟨#[46]⟩ none, [37, 100]) f') _ _ ⟨h, g, d, _, os⟩
  refine KPc.after_add (y := Str.ofString ".") g4 (by decide +kernel) (KPc.obj_none rfl) ?_
  intro w5 g5
  refine KPc.turn ?_; refine pf_use hf ?_; kpc_check; (repeat kpc_if); (refine wpAny_bind ?_; refine wpAny_holding ?_; (repeat kpc_if); kpc_conv; refine wpAny_pure ?_; refine wpAny_pure ?_)
  show wpAny _ _ (forIn _ (([] : List Value), Writer.add w5 ⟨(percentInt _ (decide (c < 0)) _).toArray⟩ none, []) f') _ _ ⟨h, g, d, _, os⟩
  refine KPc.after_int g5 rfl (by kpc_kind) rfl hc hc' rfl (by kpc_none) ?_
  intro w6 g6
  refine KPc.turn ?_; refine pf_use hf ?_; kpc_check; (repeat kpc_if)
  kpc_close
end
section
variable {prog : Program} {w : World} {A : Around} {E : Value → Shared → Prop} {s : Shared} {h₀ : Heap} {L : Addr} {news : List (Addr × Obj)}
def marksS (a b c : Int) : Str := Str.ofString "." ++ Str.ofString (toString a) ++ Str.ofString "." ++ padS b ++ Str.ofString "." ++ Str.ofString (toString c)
theorem small_log9 : ∀ k : Fin 9, (k.val : Int).natAbs.log2 < 1920 := by decide +kernel
theorem small_log {a : Int} (h : 0 ≤ a ∧ a ≤ 8) : a.natAbs.log2 < 1920 := by
  obtain ⟨n, rfl⟩ := Int.eq_ofNat_of_zero_le h.1
  exact small_log9 ⟨n, Int.ofNat_lt.mp (Int.lt_add_one_of_le h.2)⟩
theorem ten_big {a : Int} (h : 0 ≤ a ∧ a ≤ 8) : a < 10 ^ 10 := Int.lt_of_le_of_lt h.2 (by decide)
theorem pf_mod {D : Addr} {a b c : Int} {t t1 t2 t3 : Tok} {n : Nat} {Q : Value → Shared → Prop} (N : News h₀ L s.heap news)
    (hD : (D, tupOf [Value.int a t1, .int b t2, .int c t3].toArray n) ∈ news) (ha : 0 ≤ a ∧ a ≤ 8) (hb : 0 ≤ b ∧ b ≤ 8) (hc : 0 ≤ c ∧ c ≤ 8)
    (hq : ∀ t' tk, Q (.str (marksS a b c) t') { s with toks := tk }) :
    wpAny (model prog w) A (binaryOp .Mod (.str (Str.ofString ".%d.%02d.%d") t) (.ref D)) Q E s := by
  refine KPt.mod_tuple N hD fmtS_eq (KPt.meets_tup ?_) hq
  intro prog w A s Q E hT hq
  rw [KPt.entry_is_r]
  obtain ⟨o, hg, hcl, n, hda⟩ := hT
  exact pf_run_o ha.1 (ten_big ha) hc.1 (ten_big hc) (small_log ha) (KPt.hd2 (small_log ha)) (small_log hc) (KPt.hd2 (small_log hc)) (KPt.hd2 (n := b) (small_log hb)) hb hg hcl hda fun t' k => hq t' k
end
theorem kw_36 : True := by
  w_top off
  k_with_none
  k_with "x mem" => (first | (with_reducible assumption) | (with_reducible exact List.mem_cons_self) | (refine' List.mem_cons_of_mem _ ?_; k_extra "x mem") | (refine' List.mem_append_left _ ?_; k_extra "x mem") | (refine' List.mem_append_right _ ?_; k_extra "x mem"))
  k_with "x enter" => ((
  refine' xc_def ?k6r291 ?k7r291 ?k8r291 (fun s => ?k9r291) ?kBr291 ?c5r291 ?c2r291 ?c3r291 ?c4r291 ?_
  (case k6r291 => k_is)
  (case k7r291 => k_is)
  (case k8r291 => decide)
  (case k9r291 => exact BindsTo.of_eq rfl)
  (case c5r291 => decide)
  (case kBr291 => exact locs rfl)
  (case c2r291 => exact rfl)
  (case c3r291 => exact rfl)
  (case c4r291 => exact rfl)
  intro loosezq meanzq mgzq mbzq dpzq unzq gdzq cnzq cszq Lzq azq ccdzq clzq outerzq basezq gzq L'zq h'zq gszq drzq oszq tkzq Ezq F'zq N'zq B'zq X'zq T'zq hpzq hdzq huzq
  (try dsimp only) 
  (try k_fold)))
  k_with "x sides" => ((
  (case k1 => k_asm)
  (case k2 => k_asm)
  (case k3 => k_asm)
  (case k4 => k_asm)
  (case k5 => k_asm)
  (case kK => first | exact rfl | assumption)
  (case kd => ktr_room)
  (case ku => ktr_units)))
  k_with "subscriptTail Name Constant ref int" => ((k_here; k_dflt ((with_reducible show wpAny _ _ (subscriptTail _ _ (Value.ref _) (Value.int _ _)) _ _ _); (with_unfolding_all refine' item_litK ?k1r293 ?k2r293 ?k3r293 ?k4r293 ?_ ?k6r293; (case k1r293 => is_list); (case k2r293 => decide); (case k3r293 => decide); (case k4r293 => rfl); (case k6r293 => with_unfolding_all rfl)))))
  k_with "subscriptTail Name BinOp ref int" => ((k_here; k_dflt ((with_reducible show wpAny _ _ (subscriptTail _ _ (Value.ref _) (Value.int _ _)) _ _ _); (with_unfolding_all refine' item_litK ?k1r294 ?k2r294 ?k3r294 ?k4r294 ?_ ?k6r294; (case k1r294 => is_list); (case k2r294 => decide); (case k3r294 => decide); (case k4r294 => rfl); (case k6r294 => with_unfolding_all rfl)))))
  k_with "subscriptTail Name Name ref int" => ((k_here; k_dflt ((with_reducible show wpAny _ _ (subscriptTail _ _ (Value.ref _) (Value.int _ _)) _ _ _); (with_unfolding_all refine' item_litK ?k1r295 ?k2r295 ?k3r295 ?k4r295 ?_ ?k6r295; (case k1r295 => is_list); (case k2r295 => decide); (case k3r295 => decide); (case k4r295 => rfl); (case k6r295 => with_unfolding_all rfl)))))
  k_with "eval Name" => ((k_here; dsimp only))
  trivial
def heads : List Str := [Str.ofString "v", Str.ofString "v", Str.ofString "v", Str.ofString "w.v", Str.ofString "v.1w", Str.ofString "v.0-", Str.ofString "", Str.ofString "v.", Str.ofString ".v", Str.ofString "v.7"]
def headS (h : Int) : Str := heads.getD h.toNat (Str.ofString "")
section
variable {prog : Program} {w : World} {A : Around} {E : Value → Shared → Prop} {s : Shared} {h₀ : Heap} {L : Addr} {news : List (Addr × Obj)}
theorem item_heads {value slice : PySem.Expr} {D : Addr} {n : Nat} {k : Int} {u t0 t1 t2 t3 t4 t5 t6 t7 t8 t9 : Tok} {Q : Value → Shared → Prop} (N : News h₀ L s.heap news)
    (hm : (D, tupOf [Value.str (Str.ofString "v") t0, .str (Str.ofString "v") t1, .str (Str.ofString "v") t2, .str (Str.ofString "w.v") t3, .str (Str.ofString "v.1w") t4, .str (Str.ofString "v.0-") t5, .str (Str.ofString "") t6, .str (Str.ofString "v.") t7, .str (Str.ofString ".v") t8, .str (Str.ofString "v.7") t9].toArray n) ∈ news)
    (hk : 0 ≤ k ∧ k ≤ 9) (h : ∀ t, Q (.str (headS k) t) s)
    (hs : subscripted slice false (.ref D) (.int k u) = operate [.ref D, .int k u] (getItem (.ref D) (.int k u)) := by with_unfolding_all rfl) :
    wpAny (model prog w) A (subscriptTail value slice (.ref D) (.int k u)) Q E s := by
  have ht := News.isTup N hm
  obtain ⟨n, rfl⟩ := Int.eq_ofNat_of_zero_le hk.1
  have hn : n < 10 := Int.ofNat_lt.mp (Int.lt_add_one_of_le hk.2)
  match n, hn with
  | 0, _ | 1, _ | 2, _ | 3, _ | 4, _ | 5, _ | 6, _ | 7, _ | 8, _ | 9, _ => exact item_tupleT ht (by decide) (by decide) rfl rfl (h _) hs
end
theorem kw_37 : True := by
  k_with "subscriptTail Name Name ref int" => ((k_here; k_dflt ((refine' item_heads ?k0r297 ?k1r297 ?k2r297 ?_ ?k6r297); (case k0r297 => k_asm); (case k1r297 => k_extra "x mem"); (case k2r297 => assumption); (case k6r297 => with_unfolding_all rfl); intro t'zq)))
  trivial
set_option maxRecDepth 100000 in
set_option maxHeartbeats 8000000 in
theorem head_c (w : World) (h : Int) (t : Tok) (h0 : 0 ≤ h ∧ h ≤ 9) : XC w 82 1 [.int h t] (fun _ => True) (fun _ r => ∃ u, r = .str (headS h) u) := by
  k_extra "x enter"
  k_steps
  refine (XEnd.mk (by with_reducible assumption) (by assumption) ?_ : XEnd _ _ _ _ _ _ _ _)
  exact ⟨_, rfl⟩
theorem kw_38 : True := by
  k_with "call ref" => ((k_here; (with_reducible show wpAny _ _ (call (Value.ref 82) [Value.int _ _]) _ _ _); k_dflt (
  (refine' xc_use_str (head_c _ _ _ (by assumption)) ?k1r298 ?k2r298 ?k3r298 ?k4r298 ?k5r298 ?kKr298 trivial ?kdr298 ?kur298 ?_); (
  (case k1r298 => k_asm)
  (case k2r298 => k_asm)
  (case k3r298 => k_asm)
  (case k4r298 => k_asm)
  (case k5r298 => k_asm)
  (case kKr298 => first | exact rfl | assumption)
  (case kdr298 => ktr_room)
  (case kur298 => ktr_units)); intro t'zq h'zq tk'zq F'zq N'zq; (try dsimp only))))
  trivial
set_option maxRecDepth 100000 in
set_option maxHeartbeats 8000000 in
theorem due_c (w : World) (l : Addr) (a b c : Int) (t1 t2 t3 : Tok) (h : Int) (t : Tok) (h0 : 0 ≤ h ∧ h ≤ 9) : XC w 96 2 [.ref l, .int h t] (fun h => h.IsList l [.int a t1, .int b t2, .int c t3].toArray)
    (fun tl r => ∃ T l' v x u n, r = .ref T ∧ (T, tupOf [Value.ref l', .bool v, .str x u].toArray n) ∈ tl ∧ ((h ≠ 9 ∧ l' = l ∧ v = decide (h < 6) ∧ x = headS h) ∨ (h = 9 ∧ v = true ∧ x = Str.ofString "v" ∧ ∃ u7 n', (l', W.listOf [Value.int 7 u7, .int a t1, .int b t2, .int c t3].toArray n') ∈ tl))) := by
  k_extra "x enter"
  k_steps
  all_goals (refine (XEnd.mk (by with_reducible assumption) (by assumption) ?_ : XEnd _ _ _ _ _ _ _ _); first
    | exact ⟨_, _, _, _, _, _, rfl, List.mem_cons_self, .inl ⟨by assumption, rfl, rfl, rfl⟩⟩
    | exact ⟨_, _, _, _, _, _, rfl, List.mem_cons_self, .inr ⟨by assumption, rfl, rfl, _, _, List.mem_cons_of_mem _ List.mem_cons_self⟩⟩)
theorem kw_39 : True := by
  k_with "binaryOp Mod str ref" => ((k_here; k_dflt ((refine' pf_mod ?k0r299 ?k1r299 ?k2r299 ?k3r299 ?k4r299 ?_); (case k0r299 => k_asm); (case k1r299 => k_extra "x mem"); (case k2r299 => assumption); (case k3r299 => assumption); (case k4r299 => assumption); intro t'zq tk'zq; (try dsimp only))))
  trivial
def wroteS (h a b c : Int) : Str := headS h ++ marksS a b c
theorem headS_len (h : Int) : (headS h).length ≤ 4 := by
  unfold headS
  match h.toNat with
  | 0 => decide +kernel
  | 1 => decide +kernel
  | 2 => decide +kernel
  | 3 => decide +kernel
  | 4 => decide +kernel
  | 5 => decide +kernel
  | 6 => decide +kernel
  | 7 => decide +kernel
  | 8 => decide +kernel
  | 9 => decide +kernel
  | n + 10 => exact Nat.zero_le _
theorem fig_is {a : Int} (h : 0 ≤ a ∧ a ≤ 8) : Str.ofString (toString a) = ⟨[48 + a.toNat].toArray⟩ := by
  have : a = 0 ∨ a = 1 ∨ a = 2 ∨ a = 3 ∨ a = 4 ∨ a = 5 ∨ a = 6 ∨ a = 7 ∨ a = 8 := by omega
  rcases this with rfl | rfl | rfl | rfl | rfl | rfl | rfl | rfl | rfl <;> decide +kernel
theorem dot_is : Str.ofString "." = ⟨[46].toArray⟩ := by decide +kernel
theorem marksS_is {a b c : Int} (ha : 0 ≤ a ∧ a ≤ 8) (hc : 0 ≤ c ∧ c ≤ 8) : marksS a b c = ⟨[46, 48 + a.toNat, 46, 48, 48 + b.toNat, 46, 48 + c.toNat].toArray⟩ := by
  unfold marksS padS
  rw [fig_is ha, fig_is hc, dot_is, show (⟨#[48, 48 + b.toNat]⟩ : Str) = ⟨[48, 48 + b.toNat].toArray⟩ from rfl]
  simp only [add_lists, List.cons_append, List.nil_append]
theorem wrote_fits {h a b c : Int} (ha : 0 ≤ a ∧ a ≤ 8) (hc : 0 ≤ c ∧ c ≤ 8) : (headS h).length + (marksS a b c).length ≤ sizeLine := by
  rw [marksS_is ha hc, sizeLine_eq]
  have := headS_len h
  have e : (⟨[46, 48 + a.toNat, 46, 48, 48 + b.toNat, 46, 48 + c.toNat].toArray⟩ : Str).length = 7 := rfl
  omega
theorem kw_40 : True := by
  k_with "binaryOp Add str str" => ((k_here; k_dflt ((refine' add_str ?_ ?ksr300); (case ksr300 => exact wrote_fits (by assumption) (by assumption)); intro t'zq tk'zq; (try dsimp only))))
  trivial
set_option maxRecDepth 100000 in
set_option maxHeartbeats 8000000 in
theorem written_c (w : World) (l : Addr) (a b c : Int) (t1 t2 t3 : Tok) (h : Int) (t : Tok) (h0 : 0 ≤ h ∧ h ≤ 9) (ha : 0 ≤ a ∧ a ≤ 8) (hb : 0 ≤ b ∧ b ≤ 8) (hc : 0 ≤ c ∧ c ≤ 8) : XC w 89 2 [.ref l, .int h t] (fun h => h.IsList l [.int a t1, .int b t2, .int c t3].toArray) (fun _ r => ∃ u, r = .str (wroteS h a b c) u) := by
  k_extra "x enter"
  k_steps
  refine (XEnd.mk (by with_reducible assumption) (by assumption) ?_ : XEnd _ _ _ _ _ _ _ _)
  exact ⟨_, rfl⟩
/-! ## what is peeled of a ballot as it is written -/
theorem ipNo_of {x : Str} (h1 : x.cps.size < 1048576) (h2 : Sre.isDigit (x.cps.getD (x.cps.size - 1) 0) = false) (h3 : x.cps.getD (x.cps.size - 1) 0 ≠ 10) : ipNo x :=
  ⟨h1, h3, fun j hj he => by
    have := he.2.2 (x.cps.size - 1) (by have := he.1; omega) (by omega)
    rw [h2] at this; cases this⟩
theorem getD_list (l : List Nat) (i : Nat) : (⟨l⟩ : Array Nat).getD i 0 = l.getD i 0 := by
  simp [Array.getD_eq_getD_getElem?, List.getD_eq_getElem?_getD]
/-- a text that ends in a dot and figures -/
theorem peel_of (P D : List Nat) (n : Int) (hD : D ≠ []) (hd : ∀ c ∈ D, Sre.isDigit c = true) (hs : P.length + 1 + D.length < 100) (hn : PySem.intText? ⟨D.toArray⟩ = some n) : Peel ⟨(P ++ 46 :: D).toArray⟩ P.length ⟨P.toArray⟩ n := by
  have hsz : (⟨(P ++ 46 :: D).toArray⟩ : Str).cps.size = P.length + 1 + D.length := by simp; omega
  have hD0 : 0 < D.length := List.length_pos_iff.mpr hD
  have gd : ∀ j, (⟨(P ++ 46 :: D).toArray⟩ : Str).cps.getD j 0 = (P ++ 46 :: D).getD j 0 := fun j => getD_list _ _
  have at0 : (P ++ 46 :: D).getD P.length 0 = 46 := by simp [List.getD_eq_getElem?_getD]
  have atD : ∀ j, P.length < j → j < P.length + 1 + D.length → Sre.isDigit ((P ++ 46 :: D).getD j 0) = true := fun j h1 h2 => by
    obtain ⟨k, rfl⟩ : ∃ k, j = P.length + (k + 1) := ⟨j - P.length - 1, by omega⟩
    rw [List.getD_eq_getElem?_getD, List.getElem?_append_right (by omega), show P.length + (k + 1) - P.length = k + 1 by omega, List.getElem?_cons_succ, List.getElem?_eq_getElem (by omega)]
    exact hd _ (List.getElem_mem _)
  have ex : (⟨(⟨(P ++ 46 :: D).toArray⟩ : Str).cps.extract P.length (⟨(P ++ 46 :: D).toArray⟩ : Str).cps.size⟩ : Str) = ⟨(46 :: D).toArray⟩ := by
    rw [hsz]
    congr 1
    simp
    rw [show P.length + 1 + D.length - P.length = D.length + 1 by omega]
    simp
  have sl : Txt.slice (⟨(46 :: D).toArray⟩ : Str) (some 1) none = ⟨D.toArray⟩ := by
    have := slice_drop (x := ⟨(46 :: D).toArray⟩) (i := 1) (by show 1 ≤ (46 :: D).toArray.size; simp)
    simpa using this
  refine ⟨⟨by rw [hsz]; omega, ?_, by rw [hsz]; omega, ⟨by rw [hsz]; omega, by rw [gd]; exact at0, fun j h1 h2 => by rw [gd]; exact atD j h1 (by rw [hsz] at h2; exact h2)⟩, fun j hj he => ?_⟩, by simp, ?_, ?_⟩
  · rw [gd, hsz]
    intro e
    have := atD (P.length + 1 + D.length - 1) (by omega) (by omega)
    rw [e] at this
    exact absurd this (by decide +kernel)
  · have := he.2.2 P.length hj (by rw [hsz]; omega)
    rw [gd, at0] at this
    exact absurd this (by decide +kernel)
  · rw [ex, sl]; exact hn
  · rw [ex, sl]
    show D.toArray.size ≤ 640
    simp; omega
theorem fig_digit {a : Int} (h : 0 ≤ a ∧ a ≤ 8) : Sre.isDigit (48 + a.toNat) = true ∧ PySem.intText? ⟨[48 + a.toNat].toArray⟩ = some a ∧ PySem.intText? ⟨[48, 48 + a.toNat].toArray⟩ = some a := by
  have : a = 0 ∨ a = 1 ∨ a = 2 ∨ a = 3 ∨ a = 4 ∨ a = 5 ∨ a = 6 ∨ a = 7 ∨ a = 8 := by omega
  rcases this with rfl | rfl | rfl | rfl | rfl | rfl | rfl | rfl | rfl <;> decide +kernel
def headL (h : Int) : List Nat := (headS h).cps.toList
theorem headL_is (h : Int) : headS h = ⟨(headL h).toArray⟩ := by unfold headL; cases headS h; simp
theorem headL_len (h : Int) : (headL h).length ≤ 4 := by have := headS_len h; unfold headL; rw [Array.length_toList]; exact this
section
variable {h a b c : Int} (ha : 0 ≤ a ∧ a ≤ 8) (hb : 0 ≤ b ∧ b ≤ 8) (hc : 0 ≤ c ∧ c ≤ 8)
include ha hb hc
theorem wrote_peels : ∃ x1 x2 i0 i1 i2, Peel (wroteS h a b c) i0 x1 c ∧ Peel x1 i1 x2 b ∧ Peel x2 i2 (headS h) a := by
  have e0 : wroteS h a b c = ⟨((headL h ++ [46, 48 + a.toNat, 46, 48, 48 + b.toNat]) ++ 46 :: [48 + c.toNat]).toArray⟩ := by
    unfold wroteS; rw [marksS_is ha hc, headL_is, add_lists]; simp
  have l0 := headL_len h
  have f0 := peel_of (headL h ++ [46, 48 + a.toNat, 46, 48, 48 + b.toNat]) [48 + c.toNat] c (by simp) (by simp [(fig_digit hc).1]) (by simp; omega) (fig_digit hc).2.1
  have f1 := peel_of (headL h ++ [46, 48 + a.toNat]) [48, 48 + b.toNat] b (by simp) (by simp [(fig_digit hb).1]; decide +kernel) (by simp; omega) (fig_digit hb).2.2
  have f2 := peel_of (headL h) [48 + a.toNat] a (by simp) (by simp [(fig_digit ha).1]) (by simp; omega) (fig_digit ha).2.1
  rw [← e0] at f0
  rw [show (headL h ++ [46, 48 + a.toNat]) ++ 46 :: [48, 48 + b.toNat] = headL h ++ [46, 48 + a.toNat, 46, 48, 48 + b.toNat] by simp] at f1
  rw [← headL_is] at f2
  exact ⟨_, _, _, _, _, f0, f1, f2⟩
end
theorem head_no {h : Int} (h0 : 0 ≤ h ∧ h ≤ 8) : ipNo (headS h) ∧ hdnV (headS h) = decide (h < 6) := by
  have : h = 0 ∨ h = 1 ∨ h = 2 ∨ h = 3 ∨ h = 4 ∨ h = 5 ∨ h = 6 ∨ h = 7 ∨ h = 8 := by omega
  rcases this with rfl | rfl | rfl | rfl | rfl | rfl | rfl | rfl | rfl <;> exact ⟨ipNo_of (by decide +kernel) (by decide +kernel) (by decide +kernel), by decide +kernel⟩
theorem head_9 : ∃ i, Peel (headS 9) i (Str.ofString "v") 7 ∧ ipNo (Str.ofString "v") ∧ hdnV (Str.ofString "v") = true := by
  have e1 : headS 9 = ⟨([118] ++ 46 :: [55]).toArray⟩ := by decide +kernel
  have e2 : Str.ofString "v" = ⟨[118].toArray⟩ := by decide +kernel
  refine ⟨[118].length, ?_, ipNo_of (by decide +kernel) (by decide +kernel) (by decide +kernel), by decide +kernel⟩
  rw [e1, e2]
  exact peel_of [118] [55] 7 (by simp) (by decide +kernel) (by decide) (by decide +kernel)
theorem told_c (w : World) (h a b c : Int) (u : Tok) (h0 : 0 ≤ h ∧ h ≤ 9) (ha : 0 ≤ a ∧ a ≤ 8) (hb : 0 ≤ b ∧ b ≤ 8) (hc : 0 ≤ c ∧ c ≤ 8) (h9 : h ≠ 9) :
    XC w 103 3 [.str (wroteS h a b c) u] (fun _ => True) (fun tl r => Rp (LG tl) r (.tuple [.list [.int a, .int b, .int c], .bool (decide (h < 6)), .str (headS h)])) := by
  obtain ⟨x1, x2, i0, i1, i2, p0, p1, p2⟩ := wrote_peels (h := h) ha hb hc
  obtain ⟨n0, n1⟩ := head_no (h := h) (by omega)
  rw [← n1]
  exact peeled3 w _ _ _ _ u _ _ _ _ _ _ p0 p1 p2 n0
theorem told9_c (w : World) (a b c : Int) (u : Tok) (ha : 0 ≤ a ∧ a ≤ 8) (hb : 0 ≤ b ∧ b ≤ 8) (hc : 0 ≤ c ∧ c ≤ 8) :
    XC w 103 3 [.str (wroteS 9 a b c) u] (fun _ => True) (fun tl r => Rp (LG tl) r (.tuple [.list [.int 7, .int a, .int b, .int c], .bool true, .str (Str.ofString "v")])) := by
  obtain ⟨x1, x2, i0, i1, i2, p0, p1, p2⟩ := wrote_peels (h := 9) ha hb hc
  obtain ⟨i3, p3, n0, n1⟩ := head_9
  have := peeled4 w _ _ _ _ _ u _ _ _ _ _ _ _ _ p0 p1 p2 p3 n0
  rw [n1] at this
  exact this
theorem kw_41 : True := by
  w_top off
  k_with_none
  k_with "x mem" => (first | (with_reducible assumption) | (with_reducible exact List.mem_cons_self) | (refine' List.mem_cons_of_mem _ ?_; k_extra "x mem") | (refine' List.mem_append_left _ ?_; k_extra "x mem") | (refine' List.mem_append_right _ ?_; k_extra "x mem"))
  k_with "x enter" => ((
  refine' xc_def ?k6r302 ?k7r302 ?k8r302 (fun s => ?k9r302) ?kBr302 ?c5r302 ?c2r302 ?c3r302 ?c4r302 ?_
  (case k6r302 => k_is)
  (case k7r302 => k_is)
  (case k8r302 => decide)
  (case k9r302 => exact BindsTo.of_eq rfl)
  (case c5r302 => decide)
  (case kBr302 => exact locs rfl)
  (case c2r302 => exact rfl)
  (case c3r302 => exact rfl)
  (case c4r302 => exact rfl)
  intro loosezq meanzq mgzq mbzq dpzq unzq gdzq cnzq cszq Lzq azq ccdzq clzq outerzq basezq gzq L'zq h'zq gszq drzq oszq tkzq Ezq F'zq N'zq B'zq X'zq T'zq hpzq hdzq huzq
  (try dsimp only) 
  (try k_fold)))
  k_with "x sides" => ((
  (case k1 => k_asm)
  (case k2 => k_asm)
  (case k3 => k_asm)
  (case k4 => k_asm)
  (case k5 => k_asm)
  (case kK => first | exact rfl | assumption)
  (case kd => ktr_room)
  (case ku => ktr_units)))
  k_with "subscriptTail Name Constant ref int" => ((k_here; k_dflt ((with_reducible show wpAny _ _ (subscriptTail _ _ (Value.ref _) (Value.int _ _)) _ _ _); (with_unfolding_all refine' item_litK ?k1r304 ?k2r304 ?k3r304 ?k4r304 ?_ ?k6r304; (case k1r304 => is_list); (case k2r304 => decide); (case k3r304 => decide); (case k4r304 => rfl); (case k6r304 => with_unfolding_all rfl)))))
  k_with "subscriptTail Name BinOp ref int" => ((k_here; k_dflt ((with_reducible show wpAny _ _ (subscriptTail _ _ (Value.ref _) (Value.int _ _)) _ _ _); (with_unfolding_all refine' item_litK ?k1r305 ?k2r305 ?k3r305 ?k4r305 ?_ ?k6r305; (case k1r305 => is_list); (case k2r305 => decide); (case k3r305 => decide); (case k4r305 => rfl); (case k6r305 => with_unfolding_all rfl)))))
  k_with "subscriptTail Name Name ref int" => ((k_here; k_dflt ((with_reducible show wpAny _ _ (subscriptTail _ _ (Value.ref _) (Value.int _ _)) _ _ _); (with_unfolding_all refine' item_litK ?k1r306 ?k2r306 ?k3r306 ?k4r306 ?_ ?k6r306; (case k1r306 => is_list); (case k2r306 => decide); (case k3r306 => decide); (case k4r306 => rfl); (case k6r306 => with_unfolding_all rfl)))))
  k_with "eval Name" => ((k_here; dsimp only))
  k_with "x enterK" => ((
  refine' xc_defK ?k6r308 ?k7r308 ?k8r308 ?k9r308 ?kBr308 ?c5r308 ?c2r308 ?c3r308 ?c4r308 ?_
  (case k6r308 => k_is)
  (case k7r308 => k_is)
  (case k8r308 => decide)
  (case k9r308 => exact fun _ => rfl)
  (case c5r308 => decide)
  (case kBr308 => exact locs rfl)
  (case c2r308 => exact rfl)
  (case c3r308 => exact rfl)
  (case c4r308 => exact rfl)
  intro loosezq meanzq mgzq mbzq dpzq unzq gdzq cnzq cszq Lzq azq ccdzq clzq outerzq basezq gzq L'zq h'zq gszq drzq oszq tkzq Ezq F'zq N'zq B'zq X'zq T'zq hpzq hdzq huzq
  (try dsimp only) 
  (try k_fold)))
  k_with "x enterC" => ((
  refine' xc_defC ?k6r309 ?k7r309 ?k8r309 ?k9r309 ?kBr309 ?kDr309 ?c2r309 ?c3r309 ?c4r309 ?_
  (case k6r309 => k_is)
  (case k7r309 => k_is)
  (case k8r309 => decide)
  (case k9r309 => exact fun _ => rfl)
  (case kBr309 => exact rfl)
  (case kDr309 => decide +kernel)
  (case c2r309 => exact rfl)
  (case c3r309 => exact rfl)
  (case c4r309 => exact rfl)
  intro loosezq meanzq mgzq mbzq dpzq unzq gdzq cnzq cszq Lzq azq ccdzq clzq outerzq basezq gzq L'zq h'zq gszq drzq oszq tkzq Ezq cells'zq F'zq N'zq Y'zq B'zq X'zq T'zq hpzq hdzq huzq
  k_cells Y'zq
  (try simp only [List.cons_append, List.nil_append] at N'zq)
  (try dsimp only) 
  (try k_fold)))
  k_with "x for" => ((k_here; (rename Fr _ _ _ _ => lF'zq); (with_unfolding_all refine' For_turns lF'zq ?_; k_whole)))
  k_with "x walk" => ((repeat' ((fail_if_success (with_reducible show wpAny _ _ (pyIter (Value.ref _)) (fun it s₂ => TurnsAt _ _ _ _ _ _ _ _ _ it s₂) _ _)); first | (k_unfold; (try dsimp only)) | (k_end; wrow_close) | walk1 | (dsimp only; walk1) | (leave1; walk_say "STEP leave1"; try dsimp only) | fail "no step")))
  k_with "x walkA" => ((repeat' ((fail_if_success (with_reducible show wpAny _ _ (pyIter (Value.ref _)) (fun it s₂ => TurnsAt _ _ _ _ _ _ _ _ _ it s₂) _ _)); (fail_if_success (with_reducible show wpAny _ _ (call (Value.builtin "list.append") _) _ _ _)); first | (k_unfold; (try dsimp only)) | (k_end; wrow_close) | walk1 | (dsimp only; walk1) | (leave1; walk_say "STEP leave1"; try dsimp only) | fail "no step")))
  k_with "x off2" => ((intro y'zq hy'zq; simp only [List.mem_cons, List.not_mem_nil, not_or, or_false] at hy'zq; obtain ⟨h1'zq, h2'zq⟩ := hy'zq; simp only [h1'zq, h2'zq, if_false]))
  k_with "x off3" => ((intro y'zq hy'zq; simp only [List.mem_cons, List.not_mem_nil, not_or, or_false] at hy'zq; obtain ⟨h1'zq, h2'zq, h3'zq⟩ := hy'zq; simp only [h1'zq, h2'zq, h3'zq, if_false]))
  k_with "x sel" => (((rename _ < 3 => kizq); k_dflt (first
  | ((refine' item_sel kizq ?k1r315 ?_ ?k6r315); (case k1r315 => is_list); (case k6r315 => with_unfolding_all rfl); intro t'zq)
  | ((refine' item_sel1 kizq ?k1r315 ?_ ?k6r315); (case k1r315 => is_list); (case k6r315 => with_unfolding_all rfl); intro t'zq)
  | ((refine' item_sel2 kizq ?k1r315 ?_ ?k6r315); (case k1r315 => is_list); (case k6r315 => with_unfolding_all rfl); intro t'zq))))
  k_with "x append" => (((refine' append_L ?k1r316 ?k2r316 ?k3r316 ?zr316 ?_; (case k1r316 => k_asm); (case k2r316 => k_asm); (case k3r316 => k_upd); (case zr316 => assumption)); intro h'zq F'zq N'zq; (try dsimp only)))
  trivial
def cntGt (o a b c : Int) : Int := (if a > o then 1 else 0) + (if b > o then 1 else 0) + (if c > o then 1 else 0)
def cntGe (o a b c : Int) : Int := (if a ≥ o then 1 else 0) + (if b ≥ o then 1 else 0) + (if c ≥ o then 1 else 0)
def gt01 (x y : Int) : Int := if x > y then 1 else 0
theorem gt01_self (x : Int) : gt01 x x = 0 := if_neg (Int.lt_irrefl x)
theorem ge01 (x y : Int) : (if x ≥ y then 1 else 0 : Int) = 1 - gt01 y x := by
  unfold gt01
  by_cases h : x < y
  · rw [if_neg (Int.not_le.mpr h), if_pos h]; rfl
  · rw [if_pos (Int.not_lt.mp h), if_neg h]; rfl
theorem gt01_bd (x y : Int) : 0 ≤ gt01 x y ∧ gt01 x y ≤ 1 := by
  unfold gt01
  split <;> decide
theorem cntGt_is (o a b c : Int) : cntGt o a b c = gt01 a o + gt01 b o + gt01 c o := rfl
theorem cntGe_is (o a b c : Int) : cntGe o a b c = (1 - gt01 o a) + (1 - gt01 o b) + (1 - gt01 o c) := by unfold cntGe; rw [ge01, ge01, ge01]
theorem cnt0 (a b c : Int) : cntGt a a b c + (cntGe a a b c - 1) = 2 - (gt01 a b - gt01 b a) + (gt01 c a - gt01 a c) := by rw [cntGt_is, cntGe_is, gt01_self]; omega
theorem cnt1 (a b c : Int) : cntGt b a b c + (cntGe b a b c - 1) = 2 - (gt01 b c - gt01 c b) + (gt01 a b - gt01 b a) := by rw [cntGt_is, cntGe_is, gt01_self]; omega
theorem cnt2 (a b c : Int) : cntGt c a b c + (cntGe c a b c - 1) = 2 - (gt01 c a - gt01 a c) + (gt01 b c - gt01 c b) := by rw [cntGt_is, cntGe_is, gt01_self]; omega
theorem gt01_df (x y : Int) : -1 ≤ gt01 x y - gt01 y x ∧ gt01 x y - gt01 y x ≤ 1 := by
  have := gt01_bd x y
  have := gt01_bd y x
  omega
theorem two_df {x y : Int} (hx : -1 ≤ x ∧ x ≤ 1) (hy : -1 ≤ y ∧ y ≤ 1) : 0 ≤ 2 - x + y ∧ 2 - x + y ≤ 4 := by omega
theorem cnt_bounds (k : Nat) (a b c : Int) : 0 ≤ cntGt (selZ k a b c) a b c + (cntGe (selZ k a b c) a b c - 1) ∧ cntGt (selZ k a b c) a b c + (cntGe (selZ k a b c) a b c - 1) ≤ 4 := by
  match k with
  | 0 => show 0 ≤ cntGt a a b c + (cntGe a a b c - 1) ∧ cntGt a a b c + (cntGe a a b c - 1) ≤ 4; rw [cnt0]; exact two_df (gt01_df _ _) (gt01_df _ _)
  | 1 => show 0 ≤ cntGt b a b c + (cntGe b a b c - 1) ∧ cntGt b a b c + (cntGe b a b c - 1) ≤ 4; rw [cnt1]; exact two_df (gt01_df _ _) (gt01_df _ _)
  | _ + 2 => show 0 ≤ cntGt c a b c + (cntGe c a b c - 1) ∧ cntGt c a b c + (cntGe c a b c - 1) ≤ 4; rw [cnt2]; exact two_df (gt01_df _ _) (gt01_df _ _)
def blanksS (n : Int) : Str := ⟨(List.replicate n.toNat 32).toArray⟩
def plainStep (k : Nat) (st : List Str × Int) (b : Ballot) : List Str × Int :=
  if b.2 > 5 then (st.1 ++ [Str.ofString ""], st.2)
  else
    let mv := st.2 + cntGt (selZ k b.1.1 b.1.2.1 b.1.2.2) b.1.1 b.1.2.1 b.1.2.2 + (cntGe (selZ k b.1.1 b.1.2.1 b.1.2.2) b.1.1 b.1.2.1 b.1.2.2 - 1)
    (st.1 ++ [blanksS mv ++ colS k], mv)
def PlainInv (g : Heap) (k : Nat) (ds : List Ballot) (D l c : Addr) (vs : List Value) (n' : Nat) (M : Str → Option Value) (rem : List Value) (m : Str → Option Value) (news : List (Addr × Obj)) : Prop :=
  ∃ ds' ls ss, ∃ mv : Int, ∃ tm n oc cv, BallotsV g rem ds' ∧ StrsAre ls ss ∧ ss.length + ds'.length = 5 ∧ 0 ≤ mv ∧ mv + 4 * ds'.length ≤ 20 ∧ (∀ s ∈ ss, s.length ≤ 30) ∧ ds'.foldl (plainStep k) (ss, mv) = ds.foldl (plainStep k) ([], 0) ∧
    m (Str.ofString "moved") = some (.int mv tm) ∧ OffN [Str.ofString "marks", Str.ofString "head", Str.ofString "moved"] m M ∧ oc.data = .cell cv ∧ news = [(D, W.listOf vs.toArray n'), (l, W.listOf ls.toArray n), (c, oc)]
section
variable {prog : Program} {w : World} {A : Around} {E : Value → Shared → Prop} {s : Shared} {h₀ : Heap} {L D : Addr} {m : Str → Option Value} {news news' : List (Addr × Obj)}
theorem mul_txt : ∀ k : Fin 21, Txt.mul (Str.ofString " ") (k.val : Int) = blanksS (k.val : Int) := by decide +kernel
theorem mul_ok : ∀ k : Fin 21, ((decide ((k.val : Int) < -(2 ^ 63 : Int)) || decide ((k.val : Int) ≥ 2 ^ 63)) = false ∧ (decide ((((Str.ofString " ").length : Nat) : Int) > (2 ^ 63 - 1) / (k.val : Int)) = false ∨ (k.val : Int) < 1) ∧ Builtin.Str.tooLong ((Str.ofString " ").length * (k.val : Int).toNat) = false) := by decide +kernel
theorem mul_blanks2 {n : Int} {t u : Tok} {Q : Value → Shared → Prop} (hn : 0 ≤ n ∧ n ≤ 20) (h : ∀ t' k, Q (.str (blanksS n) t') { s with toks := k }) : wpAny (model prog w) A (binaryOp .Mult (.str (Str.ofString " ") t) (.int n u)) Q E s := by
  obtain ⟨k, rfl⟩ := Int.eq_ofNat_of_zero_le hn.1
  have hk : k < 21 := by omega
  obtain ⟨h1, h2, h3⟩ := mul_ok ⟨k, hk⟩
  refine SB.mul ⟨h1, fun q _ => ?_, fun _ _ => h3⟩ fun t' j => by rw [mul_txt ⟨k, hk⟩]; exact h t' j
  rcases h2 with h2 | h2
  · exact of_decide_eq_false h2
  · exact absurd h2 q
theorem x_joinGt {M : Addr} {a b c : Int} {t1 t2 t3 : Tok} {μ : Model} {t : Sem Value} {k : Nat} {Q : Value → Shared → Prop} (_hk : k < 3) (_hM : h₀.IsList M [.int a t1, .int b t2, .int c t3].toArray) (F : Fr h₀ L s.heap m) (N : News h₀ L s.heap news) (h1 : wpAny μ A t (XJH h₀ L m news (cntGt (selZ k a b c) a b c) s) E s)
    (h2 : ∀ u h' tk, Fr h₀ L h' m → News h₀ L h' news → Q (.int (cntGt (selZ k a b c) a b c) u) { s with heap := h', toks := tk }) : wpAny μ A t Q E s := x_joinH _ F N h1 h2
theorem x_joinGe {M : Addr} {a b c : Int} {t1 t2 t3 : Tok} {μ : Model} {t : Sem Value} {k : Nat} {Q : Value → Shared → Prop} (_hk : k < 3) (_hM : h₀.IsList M [.int a t1, .int b t2, .int c t3].toArray) (F : Fr h₀ L s.heap m) (N : News h₀ L s.heap news) (h1 : wpAny μ A t (XJH h₀ L m news (cntGe (selZ k a b c) a b c) s) E s)
    (h2 : ∀ u h' tk, Fr h₀ L h' m → News h₀ L h' news → Q (.int (cntGe (selZ k a b c) a b c) u) { s with heap := h', toks := tk }) : wpAny μ A t Q E s := x_joinH _ F N h1 h2
end
theorem cnt_gt (o a b c : Int) : ((([a, b, c].filter fun k => decide (o < k)).length : Nat) : Int) = cntGt o a b c := by
  unfold cntGt
  by_cases h1 : o < a <;> by_cases h2 : o < b <;> by_cases h3 : o < c <;> simp [List.filter_cons, h1, h2, h3]
theorem cnt_ge (o a b c : Int) : ((([a, b, c].filter fun k => decide (o ≤ k)).length : Nat) : Int) = cntGe o a b c := by
  unfold cntGe
  by_cases h1 : o ≤ a <;> by_cases h2 : o ≤ b <;> by_cases h3 : o ≤ c <;> simp [List.filter_cons, h1, h2, h3]
section
variable {prog : Program} {w : World} {A : Around} {E : Value → Shared → Prop} {s : Shared} {h₀ : Heap} {L : Addr} {m : Str → Option Value} {env : Env}
theorem gt_src {ct elt : PySem.Expr} {x : Str} {scope : Scope} {cl : List (Str × Addr)} {Fin : Shared → List Value → List (Addr × Obj) → Prop} {ax : Addr} {a b c : Int} {t1 t2 t3 : Tok} {k : Nat} {news : List (Addr × Obj)} (_hk : k < 3) (hh : A.handled = none) (F : Fr h₀ L s.heap m) (N : News h₀ L s.heap news) (hl : h₀.IsList ax [.int a t1, .int b t2, .int c t3].toArray)
    (turn : ∀ (z : Int) t g I oI C oC D m₂ ys h tk (E' : Value → Shared → Prop), LCg.NsObj oC m₂ → m₂ x = some (.int z t) → Fr h₀ L h m → News h₀ L h ((I, oI) :: (C, oC) :: (D, LCg.lst ys) :: news) →
      wpAny (model prog w) A (isTrue ct (compEnvC scope cl C env) (eval ct (compEnvC scope cl C env))) (TestEnd (decide (selZ k a b c < z)) h₀ L m { s with heap := h, toks := tk } ((I, oI) :: (C, oC) :: (D, LCg.lst ys) :: news)) E' { ({ s with heap := g } : Shared) with heap := h, toks := tk })
    (one : ∀ g I oI C oC D ys h tk (E' : Value → Shared → Prop), Fr h₀ L h m → News h₀ L h ((I, oI) :: (C, oC) :: (D, LCg.lst ys) :: news) →
      wpAny (model prog w) A (eval elt (compEnvC scope cl C env)) (EltEnd (fun _ => True) h₀ L m { s with heap := h, toks := tk } ((I, oI) :: (C, oC) :: (D, LCg.lst ys) :: news)) E' { ({ s with heap := g } : Shared) with heap := h, toks := tk })
    (fin : ∀ g ys, ys.length ≤ 3 → (ys.length : Int) = cntGt (selZ k a b c) a b c → Fin { s with heap := g } ys news) : LCt.CompSrcT prog w A h₀ L m env ct elt x scope cl Fin (.ref ax) s := by
  refine LCt.CompSrcT.base hh F N hl (by rw [sizeLine_eq]; show 3 ≤ _; omega) fun g => ?_
  refine count_rest (fun z => decide (selZ k a b c < z)) (.cons a t1 (.cons b t2 (.cons c t3 .nil))) rfl (.inl hl) (fun z t I oI C oC D m₂ ys h tk E' hC hx F' N' => turn z t g I oI C oC D m₂ ys h tk E' hC hx F' N') (fun I oI C oC D ys h tk E' F' N' => one g I oI C oC D ys h tk E' F' N') fun ys hy => fin g ys (by rw [hy]; exact List.length_filter_le _ _) ?_
  rw [hy]; exact cnt_gt _ _ _ _
theorem ge_src {ct elt : PySem.Expr} {x : Str} {scope : Scope} {cl : List (Str × Addr)} {Fin : Shared → List Value → List (Addr × Obj) → Prop} {ax : Addr} {a b c : Int} {t1 t2 t3 : Tok} {k : Nat} {news : List (Addr × Obj)} (_hk : k < 3) (hh : A.handled = none) (F : Fr h₀ L s.heap m) (N : News h₀ L s.heap news) (hl : h₀.IsList ax [.int a t1, .int b t2, .int c t3].toArray)
    (turn : ∀ (z : Int) t g I oI C oC D m₂ ys h tk (E' : Value → Shared → Prop), LCg.NsObj oC m₂ → m₂ x = some (.int z t) → Fr h₀ L h m → News h₀ L h ((I, oI) :: (C, oC) :: (D, LCg.lst ys) :: news) →
      wpAny (model prog w) A (isTrue ct (compEnvC scope cl C env) (eval ct (compEnvC scope cl C env))) (TestEnd (decide (selZ k a b c ≤ z)) h₀ L m { s with heap := h, toks := tk } ((I, oI) :: (C, oC) :: (D, LCg.lst ys) :: news)) E' { ({ s with heap := g } : Shared) with heap := h, toks := tk })
    (one : ∀ g I oI C oC D ys h tk (E' : Value → Shared → Prop), Fr h₀ L h m → News h₀ L h ((I, oI) :: (C, oC) :: (D, LCg.lst ys) :: news) →
      wpAny (model prog w) A (eval elt (compEnvC scope cl C env)) (EltEnd (fun _ => True) h₀ L m { s with heap := h, toks := tk } ((I, oI) :: (C, oC) :: (D, LCg.lst ys) :: news)) E' { ({ s with heap := g } : Shared) with heap := h, toks := tk })
    (fin : ∀ g ys, ys.length ≤ 3 → (ys.length : Int) = cntGe (selZ k a b c) a b c → Fin { s with heap := g } ys news) : LCt.CompSrcT prog w A h₀ L m env ct elt x scope cl Fin (.ref ax) s := by
  refine LCt.CompSrcT.base hh F N hl (by rw [sizeLine_eq]; show 3 ≤ _; omega) fun g => ?_
  refine count_rest (fun z => decide (selZ k a b c ≤ z)) (.cons a t1 (.cons b t2 (.cons c t3 .nil))) rfl (.inl hl) (fun z t I oI C oC D m₂ ys h tk E' hC hx F' N' => turn z t g I oI C oC D m₂ ys h tk E' hC hx F' N') (fun I oI C oC D ys h tk E' F' N' => one g I oI C oC D ys h tk E' F' N') fun ys hy => fin g ys (by rw [hy]; exact List.length_filter_le _ _) ?_
  rw [hy]; exact cnt_ge _ _ _ _
end
theorem blanks_len (n : Int) : (blanksS n).length = n.toNat := by show (List.replicate n.toNat 32).toArray.size = _; simp
theorem plainLen {k : Nat} {mv : Int} (h : 0 ≤ mv ∧ mv ≤ 20) : (blanksS mv ++ colS k).length ≤ 30 := by rw [Str.length_append, blanks_len, colS_len]; omega
theorem plain_skip {g : Heap} {k : Nat} {ds ds' : List Ballot} {D l c : Addr} {vs rem ls : List Value} {ss : List Str} {M m' : Str → Option Value} {mv : Int} {tm t : Tok} {n n' : Nat} {oc : Obj} {cv : Option Value} {x : Int × Int × Int} {h : Int} (hh : 5 < h) (hr : BallotsV g rem ds') (hS : StrsAre ls ss)
    (hlen : ss.length + ((x, h) :: ds').length = 5) (h0 : 0 ≤ mv) (h1 : mv + 4 * ((x, h) :: ds').length ≤ 20) (hsl : ∀ s ∈ ss, s.length ≤ 30) (hf : ((x, h) :: ds').foldl (plainStep k) (ss, mv) = ds.foldl (plainStep k) ([], 0))
    (hmv : m' (Str.ofString "moved") = some (.int mv tm)) (hm : OffN [Str.ofString "marks", Str.ofString "head", Str.ofString "moved"] m' M) (hoc : oc.data = .cell cv) :
    PlainInv g k ds D l c vs n' M rem m' [(D, W.listOf vs.toArray n'), (l, W.listOf (ls ++ [Value.str (Str.ofString "") t]).toArray (n + 1)), (c, oc)] := by
  refine ⟨ds', _, ss ++ [Str.ofString ""], mv, tm, _, oc, cv, hr, strsAre_append hS (.cons _ _ .nil), ?_, h0, ?_, ?_, ?_, hmv, hm, hoc, rfl⟩
  · simp only [List.length_append, List.length_cons, List.length_nil] at hlen ⊢; omega
  · rw [List.length_cons] at h1; omega
  · intro s hs
    rcases List.mem_append.mp hs with hs | hs
    · exact hsl s hs
    · rw [List.mem_singleton.mp hs]; decide +kernel
  · rw [← hf, List.foldl_cons]
    unfold plainStep
    rw [if_pos hh]
theorem plain_draw {g : Heap} {k : Nat} {ds ds' : List Ballot} {D l c : Addr} {vs rem ls : List Value} {ss : List Str} {M m' : Str → Option Value} {mv : Int} {tm t : Tok} {n n' : Nat} {oc : Obj} {cv : Option Value} {x y z : Int} {h : Int} (hh : ¬ 5 < h) (hr : BallotsV g rem ds') (hS : StrsAre ls ss)
    (hlen : ss.length + (((x, y, z), h) :: ds').length = 5) (h0 : 0 ≤ mv) (h1 : mv + 4 * (((x, y, z), h) :: ds').length ≤ 20) (hsl : ∀ s ∈ ss, s.length ≤ 30) (hf : (((x, y, z), h) :: ds').foldl (plainStep k) (ss, mv) = ds.foldl (plainStep k) ([], 0))
    (hmv : m' (Str.ofString "moved") = some (.int (mv + cntGt (selZ k x y z) x y z + (cntGe (selZ k x y z) x y z - 1)) tm)) (hm : OffN [Str.ofString "marks", Str.ofString "head", Str.ofString "moved"] m' M) (hoc : oc.data = .cell cv) :
    PlainInv g k ds D l c vs n' M rem m' [(D, W.listOf vs.toArray n'), (l, W.listOf (ls ++ [Value.str (blanksS (mv + cntGt (selZ k x y z) x y z + (cntGe (selZ k x y z) x y z - 1)) ++ colS k) t]).toArray (n + 1)), (c, oc)] := by
  have hb := cnt_bounds k x y z
  rw [List.length_cons] at h1
  refine ⟨ds', _, ss ++ [blanksS (mv + cntGt (selZ k x y z) x y z + (cntGe (selZ k x y z) x y z - 1)) ++ colS k], _, tm, _, oc, cv, hr, strsAre_append hS (.cons _ _ .nil), ?_, ?_, ?_, ?_, ?_, hmv, hm, hoc, rfl⟩
  · simp only [List.length_append, List.length_cons, List.length_nil] at hlen ⊢; omega
  · omega
  · omega
  · intro s hs
    rcases List.mem_append.mp hs with hs | hs
    · exact hsl s hs
    · rw [List.mem_singleton.mp hs]; exact plainLen (by omega)
  · rw [← hf, List.foldl_cons]
    conv => rhs; rw [plainStep]
    rw [if_neg hh]
theorem plain_draw2 {g : Heap} {k : Nat} {ds ds' : List Ballot} {D l c : Addr} {vs rem ls : List Value} {ss : List Str} {M m' : Str → Option Value} {mv : Int} {tm t : Tok} {n n' : Nat} {oc : Obj} {cv : Option Value} {x y z : Int} {h : Int} (hk : k < 3) (hh : ¬ 5 < h) (hr : BallotsV g rem ds') (hS : StrsAre ls ss)
    (hlen : ss.length + (((x, y, z), h) :: ds').length = 5) (h0 : 0 ≤ mv) (h1 : mv + 4 * (((x, y, z), h) :: ds').length ≤ 20) (hsl : ∀ s ∈ ss, s.length ≤ 30) (hf : (((x, y, z), h) :: ds').foldl (plainStep k) (ss, mv) = ds.foldl (plainStep k) ([], 0))
    (hmv : m' (Str.ofString "moved") = some (.int (mv + cntGt (selZ k x y z) x y z + (cntGe (selZ k x y z) x y z - 1)) tm)) (hm : OffN [Str.ofString "marks", Str.ofString "head", Str.ofString "moved"] m' M) (hoc : oc.data = .cell cv) :
    PlainInv g k ds D l c vs n' M rem m' [(D, W.listOf vs.toArray n'), (l, W.listOf (ls ++ [Value.str (blanksS (mv + cntGt (selZ k x y z) x y z + (cntGe (selZ k x y z) x y z - 1)) ++ Txt.item (Str.ofString "rgb") (k : Int)) t]).toArray (n + 1)), (c, oc)] := by
  rw [rgb_item hk]
  exact plain_draw hh hr hS hlen h0 h1 hsl hf hmv hm hoc
def plainT (k : Nat) (ds : List Ballot) : Str := ⟨((ds.foldl (plainStep k) ([], 0)).1.reverse.flatMap (fun s => s.cps.toList ++ [10])).toArray⟩
theorem plain_out {k : Nat} {ds : List Ballot} {s0 s1 s2 s3 s4 : Str} {mv : Int} {t : Tok} (hf : ([] : List Ballot).foldl (plainStep k) ([s0, s1, s2, s3, s4], mv) = ds.foldl (plainStep k) ([], 0)) :
    Value.str ⟨([s4, s3, s2, s1, s0].flatMap (fun s => s.cps.toList ++ [10])).toArray⟩ t = Value.str (plainT k ds) t := by
  unfold plainT
  rw [← hf]
  rfl
section
variable {prog : Program} {w : World} {A : Around} {E : Value → Shared → Prop} {s : Shared}
theorem nl_is : Str.ofString "\n" = ⟨#[10]⟩ := by decide +kernel
theorem join5 {D : Addr} {s0 s1 s2 s3 s4 : Str} {t t0 t1 t2 t3 t4 : Tok} {Q : Value → Shared → Prop} (hl : s.heap.IsList D [Value.str (s0 ++ Str.ofString "\n") t0, .str (s1 ++ Str.ofString "\n") t1, .str (s2 ++ Str.ofString "\n") t2, .str (s3 ++ Str.ofString "\n") t3, .str (s4 ++ Str.ofString "\n") t4].toArray)
    (z0 : s0.length ≤ 30) (z1 : s1.length ≤ 30) (z2 : s2.length ≤ 30) (z3 : s3.length ≤ 30) (z4 : s4.length ≤ 30) (h : ∀ t' k, Q (.str ⟨([s0, s1, s2, s3, s4].flatMap (fun s => s.cps.toList ++ [10])).toArray⟩ t') { s with toks := k }) : wpAny (model prog w) A (call (.builtin "str.join") [.str (Str.ofString "") t, .ref D]) Q E s := by
  have e : ∀ x : Str, (x ++ Str.ofString "\n").cps.toList = x.cps.toList ++ [10] := fun x => by
    rw [nl_is]; show (x.cps ++ #[10]).toList = _; simp
  have em : Str.ofString "" = ⟨#[]⟩ := by decide +kernel
  rw [em]
  have ef : ([s0, s1, s2, s3, s4].map (· ++ Str.ofString "\n")).flatMap (·.cps.toList) = [s0, s1, s2, s3, s4].flatMap (fun s => s.cps.toList ++ [10]) := by
    simp only [List.map_cons, List.map_nil, List.flatMap_cons, List.flatMap_nil, e]
  refine SC.join (l := [(s0 ++ Str.ofString "\n", t0), (s1 ++ Str.ofString "\n", t1), (s2 ++ Str.ofString "\n", t2), (s3 ++ Str.ofString "\n", t3), (s4 ++ Str.ofString "\n", t4)]) (texts := [s0, s1, s2, s3, s4].map (· ++ Str.ofString "\n")) hl rfl ?_ fun t' k => ?_
  · refine joinOk_flat _ ?_
    rw [ef]
    have q : ∀ x : Str, x.cps.toList.length = x.length := fun x => Array.length_toList
    simp only [List.flatMap_cons, List.flatMap_nil, List.length_append, List.length_cons, List.length_nil, q]
    omega
  · rw [join_flat, ef]; exact h t' k
end
theorem kw_42 : True := by
  k_with "call builtin:str.join" => ((k_here; k_dflt ((refine' join5 ?k1r317 ?k2r317 ?k3r317 ?k4r317 ?k5r317 ?k6r317 ?_); (case k1r317 => is_list); (case k2r317 => assumption); (case k3r317 => assumption); (case k4r317 => assumption); (case k5r317 => assumption); (case k6r317 => assumption); intro t'zq tk'zq; (try dsimp only))))
  trivial
theorem strs5 {ls : List Value} {s0 s1 s2 s3 s4 : Str} (h : StrsAre ls [s0, s1, s2, s3, s4]) : ∃ t0 t1 t2 t3 t4, ls = [.str s0 t0, .str s1 t1, .str s2 t2, .str s3 t3, .str s4 t4] := by
  rcases h with _ | ⟨_, t0, h⟩
  rcases h with _ | ⟨_, t1, h⟩
  rcases h with _ | ⟨_, t2, h⟩
  rcases h with _ | ⟨_, t3, h⟩
  rcases h with _ | ⟨_, t4, h⟩
  cases h
  exact ⟨_, _, _, _, _, rfl⟩
theorem PlainInv.fin {g : Heap} {k : Nat} {ds : List Ballot} {D l c : Addr} {vs : List Value} {n' : Nat} {M m : Str → Option Value} {news : List (Addr × Obj)} {C : (Str → Option Value) → List (Addr × Obj) → Prop} (h : PlainInv g k ds D l c vs n' M [] m news)
    (q : ∀ s0 s1 s2 s3 s4 t0 t1 t2 t3 t4 mv tm n oc cv u v, (s0.length ≤ 30 ∧ s1.length ≤ 30 ∧ s2.length ≤ 30 ∧ s3.length ≤ 30 ∧ s4.length ≤ 30) → ([] : List Ballot).foldl (plainStep k) ([s0, s1, s2, s3, s4], mv) = ds.foldl (plainStep k) ([], 0) → oc.data = .cell cv →
      C (fun y => if y = Str.ofString "marks" then u else if y = Str.ofString "head" then v else if y = Str.ofString "moved" then some (.int mv tm) else M y) [(D, W.listOf vs.toArray n'), (l, W.listOf [Value.str s0 t0, .str s1 t1, .str s2 t2, .str s3 t3, .str s4 t4].toArray n), (c, oc)]) : C m news := by
  obtain ⟨ds', ls, ss, mv, tm, n, oc, cv, hr, hS, hlen, hm0, hm1, hsl, hf, hmv, hm, hoc, rfl⟩ := h
  have em := OffN.map3 hm
  rw [hmv] at em
  rw [em]
  cases hr
  match ss, hlen with
  | [s0, s1, s2, s3, s4], _ =>
    obtain ⟨t0, t1, t2, t3, t4, rfl⟩ := strs5 hS
    exact q s0 s1 s2 s3 s4 t0 t1 t2 t3 t4 mv tm n oc cv _ _ ⟨hsl s0 (by simp), hsl s1 (by simp), hsl s2 (by simp), hsl s3 (by simp), hsl s4 (by simp)⟩ hf hoc
/-- a turn's ways on -/
def PlainOn0 (g : Heap) (k : Nat) (ds : List Ballot) (D l c : Addr) (vs : List Value) (n' : Nat) (M : Str → Option Value) (rem ls : List Value) (mv : Int) (n : Nat) : Prop :=
  ∀ m' t tm oc cv, m' (Str.ofString "moved") = some (.int mv tm) → OffN [Str.ofString "marks", Str.ofString "head", Str.ofString "moved"] m' M → oc.data = .cell cv → PlainInv g k ds D l c vs n' M rem m' [(D, W.listOf vs.toArray n'), (l, W.listOf (ls ++ [Value.str (Str.ofString "") t]).toArray (n + 1)), (c, oc)]
def PlainOn1 (g : Heap) (k : Nat) (ds : List Ballot) (D l c : Addr) (vs : List Value) (n' : Nat) (M : Str → Option Value) (rem ls : List Value) (mv x y z : Int) (n : Nat) : Prop :=
  ∀ m' t tm oc cv, m' (Str.ofString "moved") = some (.int (mv + cntGt (selZ k x y z) x y z + (cntGe (selZ k x y z) x y z - 1)) tm) → OffN [Str.ofString "marks", Str.ofString "head", Str.ofString "moved"] m' M → oc.data = .cell cv →
    PlainInv g k ds D l c vs n' M rem m' [(D, W.listOf vs.toArray n'), (l, W.listOf (ls ++ [Value.str (blanksS (mv + cntGt (selZ k x y z) x y z + (cntGe (selZ k x y z) x y z - 1)) ++ Txt.item (Str.ofString "rgb") (k : Int)) t]).toArray (n + 1)), (c, oc)]
theorem PlainInv.turn {g : Heap} {k : Nat} {ds : List Ballot} {D l c : Addr} {vs : List Value} {n' : Nat} {M m : Str → Option Value} {news : List (Addr × Obj)} {w : Value} {rem : List Value} {C : Value → (Str → Option Value) → List (Addr × Obj) → Prop} (hk : k < 3) (h : PlainInv g k ds D l c vs n' M (w :: rem) m news)
    (q : ∀ T N x y z hd t0 t1 t2 t3 ls mv tm n oc cv u v, IsTup g T #[.ref N, .int hd t0] → g.IsList N [.int x t1, .int y t2, .int z t3].toArray → ls.length ≤ 1000000 → 0 ≤ mv → mv + 4 ≤ 20 → (5 < hd → PlainOn0 g k ds D l c vs n' M rem ls mv n) → (¬ 5 < hd → PlainOn1 g k ds D l c vs n' M rem ls mv x y z n) → oc.data = .cell cv →
      C (.ref T) (fun y => if y = Str.ofString "marks" then u else if y = Str.ofString "head" then v else if y = Str.ofString "moved" then some (.int mv tm) else M y) [(D, W.listOf vs.toArray n'), (l, W.listOf ls.toArray n), (c, oc)]) : C w m news := by
  obtain ⟨ds', ls, ss, mv, tm, n, oc, cv, hr, hS, hlen, hm0, hm1, hsl, hf, hmv, hm, hoc, rfl⟩ := h
  have em := OffN.map3 hm
  rw [hmv] at em
  rw [em]
  have hls : ls.length ≤ 1000000 := by rw [hS.length]; omega
  cases hr with
  | cons T N x y z hd t0 t1 t2 t3 hT hM hha hhb hhc hhh hr =>
    have hm2 : mv + 4 ≤ 20 := by have := hm1; rw [List.length_cons] at this; omega
    exact q T N x y z hd t0 t1 t2 t3 ls mv tm n oc cv _ _ hT hM hls hm0 hm2 (fun hh m' t tm oc cv e1 e2 e3 => plain_skip hh hr hS hlen hm0 hm1 hsl hf e1 e2 e3) (fun hh m' t tm oc cv e1 e2 e3 => plain_draw2 hk hh hr hS hlen hm0 hm1 hsl hf e1 e2 e3) hoc
section
variable {prog : Program} {w : World} {A : Around} {E : Value → Shared → Prop} {s : Shared} {h₀ : Heap} {L : Addr} {m : Str → Option Value} {env : Env}
theorem nl_src {elt : PySem.Expr} {x : Str} {scope : Scope} {cl : List (Str × Addr)} {Fin : Shared → List Value → List (Addr × Obj) → Prop} {ax : Addr} {s0 s1 s2 s3 s4 : Str} {t0 t1 t2 t3 t4 : Tok} {n : Nat} {news : List (Addr × Obj)} (hh : A.handled = none) (F : Fr h₀ L s.heap m) (N : News h₀ L s.heap news)
    (hm : (ax, W.listOf [Value.str s0 t0, .str s1 t1, .str s2 t2, .str s3 t3, .str s4 t4].toArray n) ∈ news) (z0 : s0.length ≤ 30) (z1 : s1.length ≤ 30) (z2 : s2.length ≤ 30) (z3 : s3.length ≤ 30) (z4 : s4.length ≤ 30)
    (turn : ∀ y t g I oI C oC D m₂ ys h tk (E' : Value → Shared → Prop), y.length ≤ 30 → LCg.NsObj oC m₂ → m₂ x = some (.str y t) → Fr h₀ L h m → News h₀ L h ((I, oI) :: (C, oC) :: (D, LCg.lst ys) :: news) →
      wpAny (model prog w) A (eval elt (compEnvC scope cl C env)) (EltEnd (fun v => ∃ u, v = .str (y ++ Str.ofString "\n") u) h₀ L m { s with heap := h, toks := tk } ((I, oI) :: (C, oC) :: (D, LCg.lst ys) :: news)) E' { ({ s with heap := g } : Shared) with heap := h, toks := tk })
    (fin : ∀ g u0 u1 u2 u3 u4, Fin { s with heap := g } [.str (s0 ++ Str.ofString "\n") u0, .str (s1 ++ Str.ofString "\n") u1, .str (s2 ++ Str.ofString "\n") u2, .str (s3 ++ Str.ofString "\n") u3, .str (s4 ++ Str.ofString "\n") u4] news) : LCg.CompSrc prog w A h₀ L m env elt x scope cl Fin (.ref ax) s := by
  refine LCg.CompSrc.ledger (its := [Value.str s0 t0, .str s1 t1, .str s2 t2, .str s3 t3, .str s4 t4].toArray) (k := n) hh F N hm (by rw [sizeLine_eq]; show 5 ≤ _; omega) fun g => ?_
  refine map_rest (fun v y => ∃ x t u, v = .str x t ∧ y = .str (x ++ Str.ofString "\n") u) rfl (.inr ⟨_, hm, rfl, _, rfl⟩) ?_ ?_
  · intro v hv I oI C oC D m₂ ys h tk E' hC hx F' N'
    have hv' : ∃ y t, v = .str y t ∧ y.length ≤ 30 := by
      simp only [List.mem_cons, List.not_mem_nil, or_false] at hv
      rcases hv with rfl | rfl | rfl | rfl | rfl
      · exact ⟨_, _, rfl, z0⟩
      · exact ⟨_, _, rfl, z1⟩
      · exact ⟨_, _, rfl, z2⟩
      · exact ⟨_, _, rfl, z3⟩
      · exact ⟨_, _, rfl, z4⟩
    obtain ⟨y, t, rfl, hy⟩ := hv'
    refine wpAny_mono (turn y t g I oI C oC D m₂ ys h tk E' hy hC hx F' N') (fun y' s' hq => ?_) fun _ _ e => e
    obtain ⟨⟨u, e⟩, r⟩ := hq
    exact ⟨⟨y, t, u, rfl, e⟩, r⟩
  · intro ys hy
    rcases hy with _ | ⟨⟨_, _, u0, e0, rfl⟩, hy⟩
    rcases hy with _ | ⟨⟨_, _, u1, e1, rfl⟩, hy⟩
    rcases hy with _ | ⟨⟨_, _, u2, e2, rfl⟩, hy⟩
    rcases hy with _ | ⟨⟨_, _, u3, e3, rfl⟩, hy⟩
    rcases hy with _ | ⟨⟨_, _, u4, e4, rfl⟩, hy⟩
    cases hy
    cases e0; cases e1; cases e2; cases e3; cases e4
    exact fin g u0 u1 u2 u3 u4
end
theorem kw_43 : True := by
  k_with "CompSrc" => ((k_here; k_dflt (refine nl_src (by rfl) (by k_asm) (by k_asm) (by k_mem) (by with_reducible assumption) (by with_reducible assumption) (by with_reducible assumption) (by with_reducible assumption) (by with_reducible assumption) (fun y'zq t'zq g'zq I'zq oI'zq C'zq oC'zq D'zq m'zq ys'zq h'zq tk'zq E'zq z'zq hC'zq hx'zq F'zq N'zq => ?_) (fun g'zq u0'zq u1'zq u2'zq u3'zq u4'zq => ?_))))
  k_with "assign Tuple" => ((k_here; (with_reducible show wpAny _ _ (assign (Expr.Tuple _ _ _) _ (Value.ref _)) _ _ _); (with_reducible rename Fr _ _ _ _ => kFzq); k_dflt (refine' unpackN_ ?Fr319 ?Nr319 ?Tr319 ?k1r319 ?k2r319 ?k3r319 ?_; (case Fr319 => exact kFzq); (case Nr319 => k_asm); (case Tr319 => exact IsTup.keeps (by assumption) (Fr.keep kFzq)); (case k1r319 => exact rfl); (case k2r319 => exact rfl); (case k3r319 => exact rfl)); clear kFzq; intro h'zq F'zq N'zq; (try k_sweep)))
  k_with "subscriptTail Name Name ref int" => ((k_here; k_dflt ((refine' item_sel ?k0r320 ?k1r320 ?_ ?k6r320); (case k0r320 => assumption); (case k1r320 => is_list); (case k6r320 => with_unfolding_all rfl); intro t'zq)))
  k_with "binaryOp Mult str int" => ((k_here; k_dflt ((refine' mul_blanks2 ?k1r321 ?_); (case k1r321 => omega); intro t'zq tk'zq; (try dsimp only))))
  k_with "binaryOp Add str str" => ((k_here; k_dflt ((refine' add_str ?_ ?ksr322); (case ksr322 => (rw [sizeLine_eq]; simp only [Str.length_append, nl_len, blanks_len, colS_len]; omega)); intro t'zq tk'zq; (try dsimp only))))
  k_with "eval Call" => ((k_here; (with_reducible show wpAny _ _ (eval (PySem.Expr.Call _ [PySem.Expr.ListComp _ [⟨_, _, [PySem.Expr.Compare _ [PySem.CmpOp.Gt] _ _], _⟩] _ _] _ _) _) _ _ _); (fail_if_success (with_reducible show wpAny _ _ _ (XJH _ _ _ _ _ _) _ _)); (with_reducible rename Fr _ _ _ _ => kFzq); (with_reducible rename News _ _ _ _ => kNzq); (with_reducible rename Heap.IsList _ _ #[Value.int _ _, Value.int _ _, Value.int _ _] => kMzq); k_dflt (refine' x_joinGt (by assumption) kMzq kFzq kNzq ?_ ?_); rotate_left; (clear kFzq kNzq; intro u'zq h'zq tk'zq F'zq N'zq; (try dsimp only)); rotate_left))
  k_with "eval Call" => ((k_here; (with_reducible show wpAny _ _ (eval (PySem.Expr.Call _ [PySem.Expr.ListComp _ [⟨_, _, [PySem.Expr.Compare _ [PySem.CmpOp.GtE] _ _], _⟩] _ _] _ _) _) _ _ _); (fail_if_success (with_reducible show wpAny _ _ _ (XJH _ _ _ _ _ _) _ _)); (with_reducible rename Fr _ _ _ _ => kFzq); (with_reducible rename News _ _ _ _ => kNzq); (with_reducible rename Heap.IsList _ _ #[Value.int _ _, Value.int _ _, Value.int _ _] => kMzq); k_dflt (refine' x_joinGe (by assumption) kMzq kFzq kNzq ?_ ?_); rotate_left; (clear kFzq kNzq; intro u'zq h'zq tk'zq F'zq N'zq; (try dsimp only)); rotate_left))
  k_with "CompSrcT" => ((k_here; k_dflt (first
  | ((with_reducible show LCt.CompSrcT _ _ _ _ _ _ _ (PySem.Expr.Compare _ [PySem.CmpOp.Gt] _ _) _ _ _ _ _ _ _); refine gt_src (by with_reducible assumption) (by rfl) (by k_asm) (by k_asm) (by with_reducible assumption) (fun z'zq t'zq g'zq I'zq oI'zq C'zq oC'zq D'zq m'zq ys'zq h'zq tk'zq E'zq hC'zq hx'zq F'zq N'zq => ?_) (fun g'zq I'zq oI'zq C'zq oC'zq D'zq ys'zq h'zq tk'zq E'zq F'zq N'zq => ?_) (fun g'zq ys'zq z3'zq e'zq => ?_))
  | ((with_reducible show LCt.CompSrcT _ _ _ _ _ _ _ (PySem.Expr.Compare _ [PySem.CmpOp.GtE] _ _) _ _ _ _ _ _ _); refine ge_src (by with_reducible assumption) (by rfl) (by k_asm) (by k_asm) (by with_reducible assumption) (fun z'zq t'zq g'zq I'zq oI'zq C'zq oC'zq D'zq m'zq ys'zq h'zq tk'zq E'zq hC'zq hx'zq F'zq N'zq => ?_) (fun g'zq I'zq oI'zq C'zq oC'zq D'zq ys'zq h'zq tk'zq E'zq F'zq N'zq => ?_) (fun g'zq ys'zq z3'zq e'zq => ?_)))))
  k_with "TestEnd" => ((refine TestEnd.mk (by with_reducible assumption) (by with_reducible assumption) (fun _ h => h) (by rfl)))
  k_with "EltEnd" => ((refine EltEnd.mk (by with_reducible assumption) (by with_reducible assumption) (fun _ h => h) (by first | trivial | exact ⟨_, rfl⟩)))
  k_with "call builtin:len" => ((k_here; refine len_cnt (by with_reducible assumption) (by with_reducible assumption) (by is_list) ?_; intro t'zq tk'zq; (try dsimp only)))
  trivial
set_option maxRecDepth 100000 in
set_option maxHeartbeats 8000000 in
theorem plain_c (w : World) (l : Addr) (T0 T1 T2 T3 T4 : Addr) (d0 d1 d2 d3 d4 : Ballot) (k : Nat) (t : Tok) (hk : k < 3) : XC w 150 1 [.ref l, .int (k : Int) t]
   (fun h => h.IsList l [.ref T0, .ref T1, .ref T2, .ref T3, .ref T4].toArray ∧ BallotsV h [.ref T4, .ref T3, .ref T2, .ref T1, .ref T0] [d4, d3, d2, d1, d0]) (fun tl r => ∃ t', r = .str (plainT k [d4, d3, d2, d1, d0]) t') := by
  k_extra "x enterC"
  rename (_ ∧ _) => hp
  obtain ⟨hp1, hp2⟩ := hp
  k_steps
  k_extra "x for"
  k_extra "x walk"
  (with_reducible rename Fr _ _ _ _ => kF)
  (with_reducible rename News _ _ _ _ => kN)
  (with_reducible rename Obj.data _ = _ => hC)
  refine' iter_listVL (PlainInv _ k [_, _, _, _, _] _ _ _ _ _ _) (by rfl) kF kN (by k_mem) (by rfl) (by rfl) ⟨_, [], [], 0, _, _, _, _, hp2, .nil, rfl, by decide, by simp, by simp, rfl, rfl, OffN.refl, hC, rfl⟩ ?hz ?hs
  all_goals (clear kF kN)
  case hz =>
    intro m news hi
    apply PlainInv.fin hi
    intro s0 s1 s2 s3 s4 t0' t1' t2' t3' t4' mv tm n oc cv u v hz hf hoc h tk F' N'
    have z0 := hz.1
    have z1 := hz.2.1
    have z2 := hz.2.2.1
    have z3 := hz.2.2.2.1
    have z4 := hz.2.2.2.2
    try dsimp only
    k_steps
    refine (XEnd.mk (by with_reducible assumption) (by assumption) ?_ : XEnd _ _ _ _ _ _ _ _)
    exact ⟨_, plain_out hf⟩
  case hs =>
    intro I l1 w r m news hi
    try k_lt l1
    apply PlainInv.turn hk hi
    intro T N a b c h t0' t1' t2' t3' ls mv tm n oc cv u v hT hM hls hm0 hm2 on0 on1 hoc hp tk o F' N'
    try dsimp only
    have hcb := cnt_bounds k a b c
    k_extra "x walkA"
    all_goals first
      | (refine XJH.mk (by assumption) (by assumption) (by k_subL) ?_; rfl)
      | (k_extra "x append"; k_steps; first
        | exact on0 (by with_reducible assumption) _ _ _ _ _ (by rfl) (by k_extra "x off3") (by assumption)
        | exact on1 (by with_reducible assumption) _ _ _ _ _ (by rfl) (by k_extra "x off3") (by assumption))
/-! ## the law's sums -/
def rowOf (b : Ballot) : Option (Int × Int × Int) := if b.2 > 5 then none else some (Int.sign (b.1.2.1 - b.1.2.2), Int.sign (b.1.2.2 - b.1.1), Int.sign (b.1.1 - b.1.2.1))
def placeOf (b : Ballot) : Option Int := placeZ b.1.1 b.1.2.1 b.1.2.2
def MarksOk (b : Ballot) : Prop := (0 ≤ b.1.1 ∧ b.1.1 ≤ 8) ∧ (0 ≤ b.1.2.1 ∧ b.1.2.1 ≤ 8) ∧ (0 ≤ b.1.2.2 ∧ b.1.2.2 ≤ 8)
def countedB (ds : List Ballot) : List Ballot := ds.filter fun b => !decide (b.2 > 5)
def sumZ {α : Type} (f : α → Int) : List α → Int
  | [] => 0
  | x :: r => f x + sumZ f r
theorem sumZ_append {α : Type} (f : α → Int) : ∀ a b : List α, sumZ f (a ++ b) = sumZ f a + sumZ f b
  | [], b => by simp [sumZ]
  | x :: r, b => by simp [sumZ, sumZ_append f r b]; omega
/-- what one place holds of a sixth -/
def share (j : Nat) : Option Int → Int
  | none => 0
  | some p => (if (((p - 1).fdiv 840).fmod 6).toNat = j then 1 else 0) + (if ((p.fdiv 840).fmod 6).toNat = j then 1 else 0)
theorem bump_len (hn : List Int) (i : Nat) : (bump hn i).length = hn.length := List.length_set
theorem bump_get (hn : List Int) (i j : Nat) (hi : i < hn.length) : (bump hn i).getD j 0 = hn.getD j 0 + if i = j then 1 else 0 := by
  unfold bump
  rw [List.getD_eq_getElem?_getD, List.getElem?_set]
  by_cases h : i = j
  · subst h
    rw [if_pos rfl, if_pos rfl, if_pos hi]
    rfl
  · rw [if_neg h, if_neg h, List.getD_eq_getElem?_getD, Int.add_zero]
theorem fm6 (x : Int) : (x.fmod 6).toNat < 6 := by
  have h1 := Int.fmod_nonneg_of_pos x (show (0 : Int) < 6 by decide)
  have h2 := Int.fmod_lt_of_pos x (show (0 : Int) < 6 by decide)
  omega
theorem step_len (hn : List Int) (o : Option Int) : (leftStep hn o).length = hn.length := by
  cases o with
  | none => rfl
  | some p => simp [leftStep, bump_len]
theorem step_get (hn : List Int) (o : Option Int) (j : Nat) (h6 : hn.length = 6) : (leftStep hn o).getD j 0 = hn.getD j 0 + share j o := by
  cases o with
  | none => simp [leftStep, share]
  | some p =>
    simp only [leftStep, share]
    rw [bump_get _ _ _ (by rw [bump_len, h6]; exact fm6 _), bump_get _ _ _ (by rw [h6]; exact fm6 _)]
    omega
theorem fold_get (j : Nat) : ∀ (ds : List (Option Int)) (hn : List Int), hn.length = 6 → (ds.foldl leftStep hn).getD j 0 = hn.getD j 0 + sumZ (share j) ds
  | [], hn, _ => by simp [sumZ]
  | o :: r, hn, h => by
    rw [List.foldl_cons, fold_get j r _ (by rw [step_len, h]), step_get _ _ _ h]
    simp only [sumZ]; omega
theorem held_get (ds : List (Option Int)) (j : Nat) : (heldL ds).getD j 0 = sumZ (share j) ds := by
  unfold heldL
  rw [fold_get j ds _ (by simp)]
  have : (List.replicate 6 (0 : Int)).getD j 0 = 0 := by
    rw [List.getD_eq_getElem?_getD, List.getElem?_replicate]
    split <;> rfl
  omega
def left3 (i j : Nat) (o : Option Int) : Int := share i o - share j o
theorem sumZ_sub {α : Type} (f g : α → Int) : ∀ ds : List α, sumZ f ds - sumZ g ds = sumZ (fun o => f o - g o) ds
  | [] => rfl
  | _ :: r => by have := sumZ_sub f g r; simp only [sumZ] at this ⊢; omega
theorem held_left (ds : List (Option Int)) (i j : Nat) : (heldL ds).getD i 0 - (heldL ds).getD j 0 = sumZ (left3 i j) ds := by
  rw [held_get, held_get, sumZ_sub]; rfl
/-- one ballot -/
def oneB (a b c : Int) : Bool :=
  let o := placeZ a b c
  let s := left3 0 3 o + left3 2 5 o + left3 4 1 o
  2 * Int.sign (b - c) == s - 2 * left3 4 1 o && 2 * Int.sign (c - a) == s - 2 * left3 0 3 o && 2 * Int.sign (a - b) == s - 2 * left3 2 5 o
theorem one_all : ∀ a b c : Fin 9, oneB a.val b.val c.val = true := by decide +kernel
theorem one_of {d : Ballot} (h : MarksOk d) : let s := left3 0 3 (placeOf d) + left3 2 5 (placeOf d) + left3 4 1 (placeOf d)
    2 * Int.sign (d.1.2.1 - d.1.2.2) = s - 2 * left3 4 1 (placeOf d) ∧ 2 * Int.sign (d.1.2.2 - d.1.1) = s - 2 * left3 0 3 (placeOf d) ∧ 2 * Int.sign (d.1.1 - d.1.2.1) = s - 2 * left3 2 5 (placeOf d) := by
  obtain ⟨⟨a, b, c⟩, hd⟩ := d
  obtain ⟨ha, hb, hc⟩ := h
  have := one_all ⟨a.toNat, by have := ha; simp only at this; omega⟩ ⟨b.toNat, by have := hb; simp only at this; omega⟩ ⟨c.toNat, by have := hc; simp only at this; omega⟩
  simp only [Int.toNat_of_nonneg ha.1, Int.toNat_of_nonneg hb.1, Int.toNat_of_nonneg hc.1, oneB, Bool.and_eq_true, beq_iff_eq] at this
  exact ⟨this.1.1, this.1.2, this.2⟩
def placesOf (ds : List Ballot) : List (Option Int) := (countedB ds).map placeOf
def rowsOf (ds : List Ballot) : List (Option (Int × Int × Int)) := ds.map rowOf
def votesOf (f : Int × Int × Int → Int) (rs : List (Option (Int × Int × Int))) : Int := sumZ (fun | none => 0 | some r => f r) rs
theorem comb_is {v v' A B C a b c t t' : Int} (h1 : 2 * v = A + B + C - 2 * t) (h2 : 2 * v' = a + b + c - 2 * t') : 2 * (v + v') = (A + a) + (B + b) + (C + c) - 2 * (t + t') := by omega
theorem votes_left : ∀ ds : List Ballot, (∀ d ∈ ds, MarksOk d) → let P := placesOf ds; let s := sumZ (left3 0 3) P + sumZ (left3 2 5) P + sumZ (left3 4 1) P
    2 * votesOf (·.1) (rowsOf ds) = s - 2 * sumZ (left3 4 1) P ∧ 2 * votesOf (·.2.1) (rowsOf ds) = s - 2 * sumZ (left3 0 3) P ∧ 2 * votesOf (·.2.2) (rowsOf ds) = s - 2 * sumZ (left3 2 5) P
  | [], _ => by simp [placesOf, countedB, rowsOf, votesOf, sumZ]
  | d :: r, h => by
    have ih := votes_left r fun x hx => h x (List.mem_cons_of_mem _ hx)
    have one := one_of (h d List.mem_cons_self)
    simp only at ih one ⊢
    by_cases hd : d.2 > 5
    · have e1 : placesOf (d :: r) = placesOf r := by simp [placesOf, countedB, hd]
      have e2 : rowsOf (d :: r) = none :: rowsOf r := by simp [rowsOf, rowOf, hd]
      have z : ∀ f : Int × Int × Int → Int, votesOf f (none :: rowsOf r) = votesOf f (rowsOf r) := fun f => Int.zero_add _
      rw [e1, e2, z, z, z]
      exact ih
    · have e1 : placesOf (d :: r) = placeOf d :: placesOf r := by simp [placesOf, countedB, hd]
      have e2 : rowsOf (d :: r) = some (Int.sign (d.1.2.1 - d.1.2.2), Int.sign (d.1.2.2 - d.1.1), Int.sign (d.1.1 - d.1.2.1)) :: rowsOf r := by simp [rowsOf, rowOf, hd]
      rw [e1, e2]
      exact ⟨comb_is one.1 ih.1, comb_is one.2.1 ih.2.1, comb_is one.2.2 ih.2.2⟩
/-! ## the sheets -/
def Rows := List (Option (Int × Int × Int))
def depths (c : Nat) (rs : List (Option (Int × Int × Int))) : Int := votesOf (depthZ c) rs
def linesF (c : Nat) : List (Option (Int × Int × Int)) → List (Option Nat)
  | [] => []
  | none :: r => none :: linesF c r
  | some x :: r => some (depths c (some x :: r)).toNat :: linesF c r
def lineC (c : Nat) : Option Nat → List Nat
  | none => [10]
  | some d => List.replicate d 32 ++ ((colS c).cps.toList ++ [10])
def textF (c : Nat) (ls : List (Option Nat)) : Str := ⟨(ls.flatMap (lineC c)).toArray⟩
def RowOk (r : Option (Int × Int × Int)) : Prop := ∀ x, r = some x → (-1 ≤ x.1 ∧ x.1 ≤ 1) ∧ (-1 ≤ x.2.1 ∧ x.2.1 ≤ 1) ∧ (-1 ≤ x.2.2 ∧ x.2.2 ≤ 1)
theorem col_is (c : Nat) : ∃ k, (colS c).cps.toList = [k] ∧ k ≠ 10 ∧ k ≠ 32 := by
  match c with
  | 0 => exact ⟨114, by decide +kernel, by decide, by decide⟩
  | 1 => exact ⟨103, by decide +kernel, by decide, by decide⟩
  | n + 2 => exact ⟨98, by show (Str.ofString "b").cps.toList = _; decide +kernel, by decide, by decide⟩
theorem ind_mid (sp : List Nat) : ∀ (l r : List Nat), (∀ x ∈ l, x ≠ 10) → ind sp false (l ++ 10 :: r) = l ++ 10 :: ind sp true r
  | [], r, _ => by simp [ind]
  | x :: l, r, h => by
    have hx : x ≠ 10 := h x List.mem_cons_self
    rw [List.cons_append, ind]
    have : (x == 10) = false := by simpa using hx
    rw [this, ind_mid sp l r fun y hy => h y (List.mem_cons_of_mem _ hy)]
    simp
theorem ind_line (sp : List Nat) (x : Nat) (l r : List Nat) (h : ∀ y ∈ x :: l, y ≠ 10) : ind sp true (x :: l ++ 10 :: r) = sp ++ x :: l ++ 10 :: ind sp true r := by
  have hx : x ≠ 10 := h x List.mem_cons_self
  rw [List.cons_append, ind]
  have : (x == 10) = false := by simpa using hx
  rw [this, ind_mid sp l r fun y hy => h y (List.mem_cons_of_mem _ hy)]
  simp [hx]
theorem ind_lineC (c k d : Nat) (r : List Nat) : ind (List.replicate k 32) true (lineC c (some d) ++ r) = lineC c (some (d + k)) ++ ind (List.replicate k 32) true r := by
  obtain ⟨q, hq, q1, q2⟩ := col_is c
  unfold lineC
  rw [hq]
  have e : List.replicate d 32 ++ ([q] ++ [10]) ++ r = (List.replicate d 32 ++ [q]) ++ 10 :: r := by simp
  rw [e]
  have hne : ∀ y ∈ List.replicate d 32 ++ [q], y ≠ 10 := by
    intro y hy
    rcases List.mem_append.mp hy with hy | hy
    · rw [List.eq_of_mem_replicate hy]; decide
    · rw [List.mem_singleton.mp hy]; exact q1
  cases hd : List.replicate d 32 ++ [q] with
  | nil => simp at hd
  | cons x l =>
    rw [hd] at hne
    rw [ind_line _ x l r hne]
    rw [show List.replicate k 32 ++ x :: l ++ 10 :: ind (List.replicate k 32) true r = List.replicate k 32 ++ (x :: l) ++ 10 :: ind (List.replicate k 32) true r from rfl, ← hd]
    rw [Nat.add_comm d k]
    show _ = List.replicate (k + d) 32 ++ ([q] ++ [10]) ++ ind (List.replicate k 32) true r
    rw [← List.replicate_append_replicate]
    simp only [List.append_assoc, List.cons_append, List.nil_append]
theorem ind_text (c k : Nat) : ∀ ls : List (Option Nat), ind (List.replicate k 32) true (ls.flatMap (lineC c)) = (ls.map (Option.map (· + k))).flatMap (lineC c)
  | [] => rfl
  | none :: r => by
    rw [List.flatMap_cons, List.map_cons, List.flatMap_cons, ← ind_text c k r]
    simp [lineC, ind]
  | some d :: r => by
    rw [List.flatMap_cons, List.map_cons, List.flatMap_cons, ← ind_text c k r, ind_lineC]
    rfl
theorem move_text (c : Nat) (k : Int) (ls : List (Option Nat)) : moveS k (textF c ls) = textF c (ls.map (Option.map (· + k.toNat))) := by
  unfold moveS textF
  rw [List.toList_toArray, ind_text]
theorem text_app (c : Nat) (a b : List (Option Nat)) : textF c (a ++ b) = textF c a ++ textF c b := by
  apply Str.ext'
  rw [Str.cps_append]
  simp [textF]
theorem text_none (c : Nat) : textF c [none] = Str.ofString "\n" := by rw [nl_is]; rfl
theorem text_one (c : Nat) : textF c [some 0] = colS c ++ Str.ofString "\n" := by
  apply Str.ext'
  rw [Str.cps_append, nl_is]
  apply Array.ext'
  simp [textF, lineC]
theorem depth_ok (c : Nat) {x : Int × Int × Int} (h : RowOk (some x)) : 0 ≤ depthZ c x := by
  obtain ⟨h1, h2, h3⟩ := h x rfl
  match c with
  | 0 => simp only [depthZ]; omega
  | 1 => simp only [depthZ]; omega
  | _ + 2 => simp only [depthZ]; omega
theorem depths_nonneg (c : Nat) : ∀ rs : List (Option (Int × Int × Int)), (∀ r ∈ rs, RowOk r) → 0 ≤ depths c rs
  | [], _ => Int.le_refl 0
  | none :: r, h => by
    have := depths_nonneg c r fun x hx => h x (List.mem_cons_of_mem _ hx)
    simp only [depths, votesOf, sumZ] at this ⊢; omega
  | some x :: r, h => by
    have := depths_nonneg c r fun x hx => h x (List.mem_cons_of_mem _ hx)
    have q := depth_ok c (h _ List.mem_cons_self)
    simp only [depths, votesOf, sumZ] at this ⊢; omega
theorem depths_some (c : Nat) (x : Int × Int × Int) (r : List (Option (Int × Int × Int))) : depths c (some x :: r) = depthZ c x + depths c r := rfl
theorem depths_none (c : Nat) (r : List (Option (Int × Int × Int))) : depths c (none :: r) = depths c r := by
  simp only [depths, votesOf, sumZ]; omega
theorem map_plus (a b : Nat) (ls : List (Option Nat)) : (ls.map (Option.map (· + a))).map (Option.map (· + b)) = ls.map (Option.map (· + (a + b))) := by
  rw [List.map_map]
  congr 1
  funext o
  cases o with
  | none => rfl
  | some d => simp only [Function.comp, Option.map_some, Nat.add_assoc]
theorem map_zero (ls : List (Option Nat)) : ls.map (Option.map (· + 0)) = ls := by
  have : (Option.map (· + 0) : Option Nat → Option Nat) = id := by funext o; cases o <;> rfl
  rw [this, List.map_id]
theorem sheet_fold (c : Nat) : ∀ (rs : List (Option (Int × Int × Int))) (ls : List (Option Nat)), (∀ r ∈ rs, RowOk r) → rs.foldl (sheetStep c) (textF c ls) = textF c (ls.map (Option.map (· + (depths c rs).toNat)) ++ linesF c rs)
  | [], ls, _ => by
    show textF c ls = textF c (ls.map (Option.map (· + 0)) ++ [])
    rw [map_zero, List.append_nil]
  | none :: r, ls, h => by
    rw [List.foldl_cons]
    show r.foldl (sheetStep c) (textF c ls ++ Str.ofString "\n") = _
    rw [← text_none c, ← text_app, sheet_fold c r _ fun x hx => h x (List.mem_cons_of_mem _ hx), depths_none]
    simp [linesF]
  | some x :: r, ls, h => by
    rw [List.foldl_cons]
    show r.foldl (sheetStep c) (moveS (depthZ c x) (textF c ls ++ colS c ++ Str.ofString "\n")) = _
    have e : textF c ls ++ colS c ++ Str.ofString "\n" = textF c (ls ++ [some 0]) := by
      rw [text_app, text_one]
      apply Str.ext'
      simp only [Str.cps_append, Array.append_assoc]
    have hr := fun y hy => h y (List.mem_cons_of_mem _ hy)
    have n1 := depths_nonneg c r hr
    have n2 := depth_ok c (h _ List.mem_cons_self)
    rw [e, move_text, sheet_fold c r _ hr, map_plus]
    have ez : (depthZ c x).toNat + (depths c r).toNat = (depths c (some x :: r)).toNat := by
      rw [depths_some]; omega
    rw [ez]
    simp [linesF]
theorem sheet_is (c : Nat) (rs : List (Option (Int × Int × Int))) (h : ∀ r ∈ rs, RowOk r) : sheetS c rs = textF c (linesF c rs) := by
  have e : (Str.ofString "" : Str) = textF c [] := by show Str.ofString "" = ⟨#[]⟩; decide +kernel
  unfold sheetS
  rw [e, sheet_fold c rs [] h]
  rfl
theorem sign_abs (x : Int) : -1 ≤ Int.sign x ∧ Int.sign x ≤ 1 := by
  rcases Int.lt_trichotomy x 0 with h | h | h
  · rw [Int.sign_eq_neg_one_of_neg h]; decide
  · rw [h]; decide
  · rw [Int.sign_eq_one_of_pos h]; decide
theorem rows_ok (ds : List Ballot) : ∀ r ∈ rowsOf ds, RowOk r := by
  intro r hr x e
  obtain ⟨d, _, hd⟩ := List.mem_map.mp hr
  rw [e] at hd
  unfold rowOf at hd
  split at hd
  · cases hd
  · cases hd
    exact ⟨sign_abs _, sign_abs _, sign_abs _⟩
/-! ## the plain sheet -/
theorem sign_cnt (x y : Int) : Int.sign (x - y) = gt01 x y - gt01 y x := by
  unfold gt01
  rcases Int.lt_trichotomy x y with h | h | h
  · rw [Int.sign_eq_neg_one_of_neg (Int.sub_neg_of_lt h), if_neg (Int.not_lt.mpr (Int.le_of_lt h)), if_pos h]; rfl
  · rw [h, Int.sub_self, if_neg (Int.lt_irrefl y)]; rfl
  · rw [Int.sign_eq_one_of_pos (Int.sub_pos_of_lt h), if_pos h, if_neg (Int.not_lt.mpr (Int.le_of_lt h))]; rfl
theorem depth_cnt {c : Nat} (hc : c < 3) (a b d : Int) : depthZ c (Int.sign (b - d), Int.sign (d - a), Int.sign (a - b)) = cntGt (selZ c a b d) a b d + (cntGe (selZ c a b d) a b d - 1) := by
  rw [sign_cnt, sign_cnt, sign_cnt]
  match c, hc with
  | 0, _ => exact (cnt0 a b d).symm
  | 1, _ => exact (cnt1 a b d).symm
  | 2, _ => exact (cnt2 a b d).symm
def lineS (c : Nat) : Option Nat → Str
  | none => Str.ofString ""
  | some d => blanksS d ++ colS c
theorem plain_fold {c : Nat} (hc : c < 3) : ∀ ds : List Ballot, ds.reverse.foldl (plainStep c) ([], 0) = ((linesF c (rowsOf ds)).reverse.map (lineS c), depths c (rowsOf ds))
  | [] => rfl
  | d :: r => by
    rw [List.reverse_cons, List.foldl_append, plain_fold hc r]
    obtain ⟨⟨a, b, e⟩, hd⟩ := d
    by_cases h5 : hd > 5
    · have e2 : rowsOf (((a, b, e), hd) :: r) = none :: rowsOf r := by simp [rowsOf, rowOf, h5]
      rw [e2, depths_none]
      simp only [List.foldl_cons, List.foldl_nil, plainStep, h5, if_true, linesF, List.reverse_cons, List.map_append, List.map_cons, List.map_nil, lineS]
    · have e2 : rowsOf (((a, b, e), hd) :: r) = some (Int.sign (b - e), Int.sign (e - a), Int.sign (a - b)) :: rowsOf r := by simp [rowsOf, rowOf, h5]
      have n1 := depths_nonneg c (some (Int.sign (b - e), Int.sign (e - a), Int.sign (a - b)) :: rowsOf r) (by rw [← e2]; exact rows_ok _)
      rw [e2]
      simp only [List.foldl_cons, List.foldl_nil, plainStep, h5, if_false, linesF, List.reverse_cons, List.map_append, List.map_cons, List.map_nil, lineS]
      have ed : depths c (rowsOf r) + cntGt (selZ c a b e) a b e + (cntGe (selZ c a b e) a b e - 1) = depths c (some (Int.sign (b - e), Int.sign (e - a), Int.sign (a - b)) :: rowsOf r) := by
        rw [depths_some, depth_cnt hc]; omega
      rw [ed, Int.toNat_of_nonneg n1]
theorem plain_is {c : Nat} (hc : c < 3) (ds : List Ballot) : plainT c ds.reverse = sheetS c (rowsOf ds) := by
  rw [sheet_is c _ (rows_ok ds)]
  unfold plainT textF
  rw [plain_fold hc]
  simp only [List.map_reverse, List.reverse_reverse, List.flatMap_map]
  congr 3
  funext o
  cases o with
  | none =>
    show (Str.ofString "").cps.toList ++ [10] = [10]
    have : Str.ofString "" = ⟨#[]⟩ := by decide +kernel
    rw [this]; rfl
  | some d =>
    show (blanksS d ++ colS c).cps.toList ++ [10] = List.replicate d 32 ++ ((colS c).cps.toList ++ [10])
    rw [Str.cps_append]
    simp [blanksS]
/-! ## the first line's blanks -/
theorem join_uni (c : Nat) : ∀ (ps qs : List (List Nat)), (∀ p ∈ ps, c ∉ p) → (∀ q ∈ qs, c ∉ q) → ps ≠ [] → qs ≠ [] → ps.flatMap (· ++ [c]) = qs.flatMap (· ++ [c]) → ps = qs
  | [], _, _, _, h, _, _ => absurd rfl h
  | _, [], _, _, _, h, _ => absurd rfl h
  | p :: ps, q :: qs, hp, hq, _, _, e => by
    rw [List.flatMap_cons, List.flatMap_cons, List.append_assoc, List.append_assoc] at e
    have key : ∀ (p q : List Nat) (x y : List Nat), c ∉ p → c ∉ q → p ++ ([c] ++ x) = q ++ ([c] ++ y) → p = q ∧ x = y := by
      intro p
      induction p with
      | nil =>
        intro q x y _ hq e
        cases q with
        | nil => exact ⟨rfl, by simpa using e⟩
        | cons z q =>
          have : c = z := by simpa using congrArg List.head? e
          exact absurd (by rw [this]; exact List.mem_cons_self) hq
      | cons w p ih =>
        intro q x y hp hq e
        cases q with
        | nil =>
          have : w = c := by simpa using congrArg List.head? e
          exact absurd (by rw [this]; exact List.mem_cons_self) hp
        | cons z q =>
          rw [List.cons_append, List.cons_append] at e
          obtain ⟨e1, e2⟩ := List.cons.inj e
          obtain ⟨h1, h2⟩ := ih q x y (fun h => hp (List.mem_cons_of_mem _ h)) (fun h => hq (List.mem_cons_of_mem _ h)) e2
          exact ⟨by rw [e1, h1], h2⟩
    obtain ⟨e1, e2⟩ := key p q _ _ (hp p List.mem_cons_self) (hq q List.mem_cons_self) e
    subst e1
    by_cases h1 : ps = []
    · by_cases h2 : qs = []
      · rw [h1, h2]
      · subst h1
        cases qs with
        | nil => exact absurd rfl h2
        | cons z qs => simp at e2
    · by_cases h2 : qs = []
      · subst h2
        cases ps with
        | nil => exact absurd rfl h1
        | cons z ps => simp at e2
      · rw [join_uni c ps qs (fun x hx => hp x (List.mem_cons_of_mem _ hx)) (fun x hx => hq x (List.mem_cons_of_mem _ hx)) h1 h2 e2]
theorem join_ends (c : Nat) : ∀ ps : List Str, ps ≠ [] → (Str.join ⟨#[c]⟩ ps).cps.toList ++ [c] = (ps.map (·.cps.toList)).flatMap (· ++ [c])
  | [], h => absurd rfl h
  | [x], _ => by simp [Str.join]
  | x :: y :: r, _ => by
    have ih := join_ends c (y :: r) (by simp)
    show (x ++ ⟨#[c]⟩ ++ Str.join ⟨#[c]⟩ (y :: r)).cps.toList ++ [c] = _
    rw [List.map_cons, List.flatMap_cons, ← ih, Str.cps_append, Str.cps_append]
    simp
theorem split_ne (x : Str) (c : Nat) : Txt.split x ⟨#[c]⟩ ≠ [] := by
  intro h
  have := split_len x c
  rw [h] at this
  have h2 : (0 : Int) ≤ cnt c x.cps.toList := by
    have : ∀ l : List Nat, 0 ≤ cnt c l := by
      intro l
      induction l with
      | nil => exact Int.le_refl 0
      | cons n r ih => rw [cnt_cons]; split <;> omega
    exact this _
  simp at this
  try omega
theorem str_mk (x : Str) : x = ⟨x.cps.toList.toArray⟩ := by cases x; simp
theorem split_is (x : Str) (c : Nat) (qs : List (List Nat)) (hq : ∀ q ∈ qs, c ∉ q) (hn : qs ≠ []) (e : x.cps.toList ++ [c] = qs.flatMap (· ++ [c])) : Txt.split x ⟨#[c]⟩ = qs.map (fun q => ⟨q.toArray⟩) := by
  have h1 := StrLaws.split_free x c
  have h2 := join_ends c _ (split_ne x c)
  rw [StrLaws.join_split] at h2
  have h3 := join_uni c ((Txt.split x ⟨#[c]⟩).map (·.cps.toList)) qs (by
    intro p hp
    obtain ⟨y, hy, rfl⟩ := List.mem_map.mp hp
    exact h1 y hy) hq (by simpa using split_ne x c) hn (by rw [← h2, e])
  rw [← h3, List.map_map]
  conv => lhs; rw [← List.map_id (Txt.split x ⟨#[c]⟩)]
  congr 1
  all_goals (funext y; exact str_mk y)
/-- the sheet's lines, as they are cut -/
theorem line_free (c : Nat) (o : Option Nat) : ∃ q : List Nat, lineC c o = q ++ [10] ∧ (10 ∉ q) ∧ (⟨q.toArray⟩ : Str) = lineS c o ∧ ((lineS c o == Str.ofString "") = o.isNone) := by
  cases o with
  | none =>
    refine ⟨[], rfl, by simp, ?_, ?_⟩
    · show (⟨#[]⟩ : Str) = Str.ofString ""
      decide +kernel
    · show (Str.ofString "" == Str.ofString "") = true
      decide +kernel
  | some d =>
    obtain ⟨k, hk, k1, _⟩ := col_is c
    refine ⟨List.replicate d 32 ++ [k], ?_, ?_, ?_, ?_⟩
    · unfold lineC; rw [hk]; simp
    · intro h
      rcases List.mem_append.mp h with h | h
      · exact absurd (List.eq_of_mem_replicate h) (by decide)
      · exact k1 (List.mem_singleton.mp h).symm
    · apply Str.ext'
      show _ = (blanksS d ++ colS c).cps
      rw [Str.cps_append]
      apply Array.ext'
      simp [blanksS, hk]
    · show (blanksS d ++ colS c == Str.ofString "") = false
      rw [beq_eq_false_iff_ne]
      intro e
      have := congrArg Str.length e
      rw [Str.length_append, colS_len] at this
      have z : (Str.ofString "").length = 0 := by decide +kernel
      omega
def cutOf (c : Nat) (ls : List (Option Nat)) : List Str := ls.map (lineS c) ++ [Str.ofString ""]
theorem flat_cut (c : Nat) : ∀ ls : List (Option Nat), ∃ qs : List (List Nat), (∀ q ∈ qs, 10 ∉ q) ∧ ls.flatMap (lineC c) = qs.flatMap (· ++ [10]) ∧ qs.map (fun q => (⟨q.toArray⟩ : Str)) = ls.map (lineS c)
  | [] => ⟨[], by simp, rfl, rfl⟩
  | o :: r => by
    obtain ⟨qs, h1, h2, h3⟩ := flat_cut c r
    obtain ⟨q, e1, e2, e3, _⟩ := line_free c o
    refine ⟨q :: qs, ?_, ?_, ?_⟩
    · intro x hx
      rcases List.mem_cons.mp hx with rfl | hx
      · exact e2
      · exact h1 x hx
    · rw [List.flatMap_cons, List.flatMap_cons, h2, e1]
    · rw [List.map_cons, List.map_cons, h3, e3]
theorem sheet_cut (c : Nat) (ls : List (Option Nat)) : Txt.split (textF c ls) (Str.ofString "\n") = cutOf c ls := by
  obtain ⟨qs, h1, h2, h3⟩ := flat_cut c ls
  rw [nl_is, split_is (textF c ls) 10 (qs ++ [[]]) ?_ (by simp) ?_]
  · unfold cutOf
    rw [List.map_append, h3]
    congr 1
    all_goals decide +kernel
  · intro q hq
    rcases List.mem_append.mp hq with hq | hq
    · exact h1 q hq
    · rw [List.mem_singleton.mp hq]; simp
  · unfold textF
    rw [List.toList_toArray, h2, List.flatMap_append]
    simp
/-- the lines that are not empty -/
def fullOf (xs : List Str) : List Str := xs.filter fun x => !(x == Str.ofString "")
def firstBlanks : List Str → Int
  | [] => 0
  | x :: _ => Txt.count x (Str.ofString " ")
theorem full_lines (c : Nat) : ∀ rs : List (Option (Int × Int × Int)), (∀ r ∈ rs, RowOk r) → firstBlanks (fullOf (cutOf c (linesF c rs))) = depths c rs
  | [], _ => by
    show firstBlanks (fullOf [Str.ofString ""]) = 0
    have : fullOf [Str.ofString ""] = [] := by decide +kernel
    rw [this]; rfl
  | none :: r, h => by
    rw [depths_none, ← full_lines c r fun x hx => h x (List.mem_cons_of_mem _ hx)]
    obtain ⟨_, _, _, _, e⟩ := line_free c none
    show firstBlanks (fullOf (lineS c none :: cutOf c (linesF c r))) = _
    unfold fullOf
    rw [List.filter_cons, e]
    rfl
  | some x :: r, h => by
    have n1 := depths_nonneg c _ h
    obtain ⟨_, _, _, _, e⟩ := line_free c (some (depths c (some x :: r)).toNat)
    show firstBlanks (fullOf (lineS c (some (depths c (some x :: r)).toNat) :: cutOf c (linesF c r))) = _
    unfold fullOf
    rw [List.filter_cons, e]
    show Txt.count (blanksS (depths c (some x :: r)).toNat ++ colS c) (Str.ofString " ") = _
    have es : Str.ofString " " = ⟨#[32]⟩ := by decide +kernel
    obtain ⟨k, hk, _, k2⟩ := col_is c
    rw [es, count_cnt, Str.cps_append, Array.toList_append, hk, cnt_append, cnt_cons, if_neg k2, cnt_nil]
    have rep : ∀ n : Nat, cnt 32 (List.replicate n 32) = (n : Int) := by
      intro n
      induction n with
      | zero => rfl
      | succ n ih => rw [List.replicate_succ, cnt_cons, ih, if_pos rfl]; omega
    have eb : (blanksS ((depths c (some x :: r)).toNat : Int)).cps.toList = List.replicate (depths c (some x :: r)).toNat 32 := by
      show (List.replicate ((depths c (some x :: r)).toNat : Int).toNat 32).toArray.toList = _
      rw [List.toList_toArray, Int.toNat_natCast]
    rw [eb, rep, Int.toNat_of_nonneg n1]
    omega
theorem kw_44 : True := by
  w_top off
  k_with_none
  k_with "x mem" => (first | (with_reducible assumption) | (with_reducible exact List.mem_cons_self) | (refine' List.mem_cons_of_mem _ ?_; k_extra "x mem") | (refine' List.mem_append_left _ ?_; k_extra "x mem") | (refine' List.mem_append_right _ ?_; k_extra "x mem"))
  k_with "x enter" => ((
  refine' xc_def ?k6r330 ?k7r330 ?k8r330 (fun s => ?k9r330) ?kBr330 ?c5r330 ?c2r330 ?c3r330 ?c4r330 ?_
  (case k6r330 => k_is)
  (case k7r330 => k_is)
  (case k8r330 => decide)
  (case k9r330 => exact BindsTo.of_eq rfl)
  (case c5r330 => decide)
  (case kBr330 => exact locs rfl)
  (case c2r330 => exact rfl)
  (case c3r330 => exact rfl)
  (case c4r330 => exact rfl)
  intro loosezq meanzq mgzq mbzq dpzq unzq gdzq cnzq cszq Lzq azq ccdzq clzq outerzq basezq gzq L'zq h'zq gszq drzq oszq tkzq Ezq F'zq N'zq B'zq X'zq T'zq hpzq hdzq huzq
  (try dsimp only) 
  (try k_fold)))
  k_with "x sides" => ((
  (case k1 => k_asm)
  (case k2 => k_asm)
  (case k3 => k_asm)
  (case k4 => k_asm)
  (case k5 => k_asm)
  (case kK => first | exact rfl | assumption)
  (case kd => ktr_room)
  (case ku => ktr_units)))
  k_with "subscriptTail Name Constant ref int" => ((k_here; k_dflt ((with_reducible show wpAny _ _ (subscriptTail _ _ (Value.ref _) (Value.int _ _)) _ _ _); (with_unfolding_all refine' item_litK ?k1r332 ?k2r332 ?k3r332 ?k4r332 ?_ ?k6r332; (case k1r332 => is_list); (case k2r332 => decide); (case k3r332 => decide); (case k4r332 => rfl); (case k6r332 => with_unfolding_all rfl)))))
  k_with "subscriptTail Name BinOp ref int" => ((k_here; k_dflt ((with_reducible show wpAny _ _ (subscriptTail _ _ (Value.ref _) (Value.int _ _)) _ _ _); (with_unfolding_all refine' item_litK ?k1r333 ?k2r333 ?k3r333 ?k4r333 ?_ ?k6r333; (case k1r333 => is_list); (case k2r333 => decide); (case k3r333 => decide); (case k4r333 => rfl); (case k6r333 => with_unfolding_all rfl)))))
  k_with "subscriptTail Name Name ref int" => ((k_here; k_dflt ((with_reducible show wpAny _ _ (subscriptTail _ _ (Value.ref _) (Value.int _ _)) _ _ _); (with_unfolding_all refine' item_litK ?k1r334 ?k2r334 ?k3r334 ?k4r334 ?_ ?k6r334; (case k1r334 => is_list); (case k2r334 => decide); (case k3r334 => decide); (case k4r334 => rfl); (case k6r334 => with_unfolding_all rfl)))))
  k_with "eval Name" => ((k_here; dsimp only))
  k_with "x enterK" => ((
  refine' xc_defK ?k6r336 ?k7r336 ?k8r336 ?k9r336 ?kBr336 ?c5r336 ?c2r336 ?c3r336 ?c4r336 ?_
  (case k6r336 => k_is)
  (case k7r336 => k_is)
  (case k8r336 => decide)
  (case k9r336 => exact fun _ => rfl)
  (case c5r336 => decide)
  (case kBr336 => exact locs rfl)
  (case c2r336 => exact rfl)
  (case c3r336 => exact rfl)
  (case c4r336 => exact rfl)
  intro loosezq meanzq mgzq mbzq dpzq unzq gdzq cnzq cszq Lzq azq ccdzq clzq outerzq basezq gzq L'zq h'zq gszq drzq oszq tkzq Ezq F'zq N'zq B'zq X'zq T'zq hpzq hdzq huzq
  (try dsimp only) 
  (try k_fold)))
  k_with "x enterC" => ((
  refine' xc_defC ?k6r337 ?k7r337 ?k8r337 ?k9r337 ?kBr337 ?kDr337 ?c2r337 ?c3r337 ?c4r337 ?_
  (case k6r337 => k_is)
  (case k7r337 => k_is)
  (case k8r337 => decide)
  (case k9r337 => exact fun _ => rfl)
  (case kBr337 => exact rfl)
  (case kDr337 => decide +kernel)
  (case c2r337 => exact rfl)
  (case c3r337 => exact rfl)
  (case c4r337 => exact rfl)
  intro loosezq meanzq mgzq mbzq dpzq unzq gdzq cnzq cszq Lzq azq ccdzq clzq outerzq basezq gzq L'zq h'zq gszq drzq oszq tkzq Ezq cells'zq F'zq N'zq Y'zq B'zq X'zq T'zq hpzq hdzq huzq
  k_cells Y'zq
  (try simp only [List.cons_append, List.nil_append] at N'zq)
  (try dsimp only) 
  (try k_fold)))
  k_with "x for" => ((k_here; (rename Fr _ _ _ _ => lF'zq); (with_unfolding_all refine' For_turns lF'zq ?_; k_whole)))
  k_with "x walk" => ((repeat' ((fail_if_success (with_reducible show wpAny _ _ (pyIter (Value.ref _)) (fun it s₂ => TurnsAt _ _ _ _ _ _ _ _ _ it s₂) _ _)); first | (k_unfold; (try dsimp only)) | (k_end; wrow_close) | walk1 | (dsimp only; walk1) | (leave1; walk_say "STEP leave1"; try dsimp only) | fail "no step")))
  k_with "x walkA" => ((repeat' ((fail_if_success (with_reducible show wpAny _ _ (pyIter (Value.ref _)) (fun it s₂ => TurnsAt _ _ _ _ _ _ _ _ _ it s₂) _ _)); (fail_if_success (with_reducible show wpAny _ _ (call (Value.builtin "list.append") _) _ _ _)); first | (k_unfold; (try dsimp only)) | (k_end; wrow_close) | walk1 | (dsimp only; walk1) | (leave1; walk_say "STEP leave1"; try dsimp only) | fail "no step")))
  k_with "x off2" => ((intro y'zq hy'zq; simp only [List.mem_cons, List.not_mem_nil, not_or, or_false] at hy'zq; obtain ⟨h1'zq, h2'zq⟩ := hy'zq; simp only [h1'zq, h2'zq, if_false]))
  k_with "x off3" => ((intro y'zq hy'zq; simp only [List.mem_cons, List.not_mem_nil, not_or, or_false] at hy'zq; obtain ⟨h1'zq, h2'zq, h3'zq⟩ := hy'zq; simp only [h1'zq, h2'zq, h3'zq, if_false]))
  k_with "x sel" => (((rename _ < 3 => kizq); k_dflt (first
  | ((refine' item_sel kizq ?k1r343 ?_ ?k6r343); (case k1r343 => is_list); (case k6r343 => with_unfolding_all rfl); intro t'zq)
  | ((refine' item_sel1 kizq ?k1r343 ?_ ?k6r343); (case k1r343 => is_list); (case k6r343 => with_unfolding_all rfl); intro t'zq)
  | ((refine' item_sel2 kizq ?k1r343 ?_ ?k6r343); (case k1r343 => is_list); (case k6r343 => with_unfolding_all rfl); intro t'zq))))
  k_with "x append" => (((refine' append_L ?k1r344 ?k2r344 ?k3r344 ?zr344 ?_; (case k1r344 => k_asm); (case k2r344 => k_asm); (case k3r344 => k_upd); (case zr344 => assumption)); intro h'zq F'zq N'zq; (try dsimp only)))
  trivial
/-! ## what the law's turn gets from its defs, in the form in which the turn reads it -/
section
variable {h₀ : Heap} {L : Addr}
theorem News.sub {h : Heap} {a b : List (Addr × Obj)} (N : News h₀ L h a) (hs : ∀ p ∈ b, p ∈ a) : News h₀ L h b := fun p hp => N p (hs p hp)
theorem News.front {h : Heap} {tl news : List (Addr × Obj)} {q : Addr × Obj} (N : News h₀ L h (tl ++ news)) (hm : q ∈ tl) : News h₀ L h (q :: (news ++ tl)) := News.sub N fun p hp => by
  rcases List.mem_cons.mp hp with rfl | hp
  · exact List.mem_append_left _ hm
  · rcases List.mem_append.mp hp with hp | hp
    · exact List.mem_append_right _ hp
    · exact List.mem_append_left _ hp
theorem News.dup {h : Heap} {news : List (Addr × Obj)} {q : Addr × Obj} (N : News h₀ L h news) (hm : q ∈ news) : News h₀ L h (q :: news) := News.sub N fun p hp => by
  rcases List.mem_cons.mp hp with rfl | hp
  · exact hm
  · exact hp
end
def ToldPost (zs : List Int) (b : Bool) (x : Str) (tl : List (Addr × Obj)) (r : Value) : Prop :=
  ∃ T X ws u n n', r = .ref T ∧ (T, tupOf [Value.ref X, .bool b, .str x u].toArray n) ∈ tl ∧ (X, W.listOf ws.toArray n') ∈ tl ∧ IntsAre ws zs
theorem rpl_ints {G : Addr → Obj → Prop} : ∀ {ws : List Value} {zs : List Int}, RpL G ws (zs.map .int) → IntsAre ws zs
  | _, [], .nil => .nil
  | _, _ :: _, .cons (.int i t) r => .cons i t (rpl_ints r)
theorem told_out {zs : List Int} {b : Bool} {x : Str} {tl : List (Addr × Obj)} {r : Value} (h : Rp (LG tl) r (.tuple [.list (zs.map .int), .bool b, .str x])) : ToldPost zs b x tl r := by
  cases h with
  | tuple g q =>
    cases q with
    | cons h1 q =>
      cases q with
      | cons h2 q =>
        cases q with
        | cons h3 q =>
          cases q
          cases h1 with
          | list g1 q1 =>
            cases h2
            cases h3
            exact ⟨_, _, _, _, _, _, rfl, g, g1, rpl_ints q1⟩
theorem XC.weaken {w : World} {f : Addr} {sz : Nat} {vs : List Value} {Pre : Heap → Prop} {P P' : List (Addr × Obj) → Value → Prop} (C : XC w f sz vs Pre P) (h : ∀ tl r, P tl r → P' tl r) : XC w f sz vs Pre P' :=
  fun l me mg mb dp un gd cn cs a ccd cl ou A₀ ba h₀ L m s Q E B F X T hk hp hd hu ret => C l me mg mb dp un gd cn cs a ccd cl ou A₀ ba h₀ L m s Q E B F X T hk hp hd hu fun r tl h' tk' F' st N' p => ret r tl h' tk' F' st N' (h tl r p)
section
variable (w : World) (h a b c : Int) (u : Tok) (ha : 0 ≤ a ∧ a ≤ 8) (hb : 0 ≤ b ∧ b ≤ 8) (hc : 0 ≤ c ∧ c ≤ 8)
include ha hb hc
theorem told_yes (h0 : 0 ≤ h ∧ h ≤ 5) : XC w 103 3 [.str (wroteS h a b c) u] (fun _ => True) (ToldPost [a, b, c] true (headS h)) := by
  have := told_c w h a b c u (by omega) ha hb hc (by omega)
  rw [show decide (h < 6) = true from decide_eq_true (by omega)] at this
  exact this.weaken fun _ _ p => told_out p
theorem told_no (h0 : 6 ≤ h ∧ h ≤ 8) : XC w 103 3 [.str (wroteS h a b c) u] (fun _ => True) (ToldPost [a, b, c] false (headS h)) := by
  have := told_c w h a b c u (by omega) ha hb hc (by omega)
  rw [show decide (h < 6) = false from decide_eq_false (by omega)] at this
  exact this.weaken fun _ _ p => told_out p
theorem told_nine (h0 : h = 9) : XC w 103 3 [.str (wroteS h a b c) u] (fun _ => True) (ToldPost [7, a, b, c] true (Str.ofString "v")) := by
  subst h0
  exact (told9_c w a b c u ha hb hc).weaken fun _ _ p => told_out p
end
def DuePost (l : Addr) (b : Bool) (x : Str) (tl : List (Addr × Obj)) (r : Value) : Prop := ∃ T u n, r = .ref T ∧ (T, tupOf [Value.ref l, .bool b, .str x u].toArray n) ∈ tl
def Due9Post (zs : List Int) (tl : List (Addr × Obj)) (r : Value) : Prop := ∃ T X ws u n n', r = .ref T ∧ (T, tupOf [Value.ref X, .bool true, .str (Str.ofString "v") u].toArray n) ∈ tl ∧ (X, W.listOf ws.toArray n') ∈ tl ∧ IntsAre ws zs
section
variable (w : World) (l : Addr) (a b c : Int) (t1 t2 t3 : Tok) (h : Int) (t : Tok)
theorem due_yes (h0 : 0 ≤ h ∧ h ≤ 5) : XC w 96 2 [.ref l, .int h t] (fun h => h.IsList l [.int a t1, .int b t2, .int c t3].toArray) (DuePost l true (headS h)) := by
  refine (due_c w l a b c t1 t2 t3 h t (by omega)).weaken fun tl r p => ?_
  obtain ⟨T, l', v, x, u, n, e, m, q⟩ := p
  rcases q with ⟨_, rfl, rfl, rfl⟩ | ⟨q, _⟩
  · rw [show decide (h < 6) = true from decide_eq_true (by omega)] at m
    exact ⟨_, _, _, e, m⟩
  · omega
theorem due_no (h0 : 6 ≤ h ∧ h ≤ 8) : XC w 96 2 [.ref l, .int h t] (fun h => h.IsList l [.int a t1, .int b t2, .int c t3].toArray) (DuePost l false (headS h)) := by
  refine (due_c w l a b c t1 t2 t3 h t (by omega)).weaken fun tl r p => ?_
  obtain ⟨T, l', v, x, u, n, e, m, q⟩ := p
  rcases q with ⟨_, rfl, rfl, rfl⟩ | ⟨q, _⟩
  · rw [show decide (h < 6) = false from decide_eq_false (by omega)] at m
    exact ⟨_, _, _, e, m⟩
  · omega
theorem due_nine (h0 : h = 9) : XC w 96 2 [.ref l, .int h t] (fun h => h.IsList l [.int a t1, .int b t2, .int c t3].toArray) (Due9Post [7, a, b, c]) := by
  refine (due_c w l a b c t1 t2 t3 h t (by omega)).weaken fun tl r p => ?_
  obtain ⟨T, l', v, x, u, n, e, m, q⟩ := p
  rcases q with ⟨q, _⟩ | ⟨_, rfl, rfl, u7, n', m'⟩
  · omega
  · exact ⟨_, _, _, _, _, _, e, m, m', .cons _ _ (.cons _ _ (.cons _ _ (.cons _ _ .nil)))⟩
end
theorem ints4 {v : List Value} {a b c d : Int} (hv : IntsAre v [a, b, c, d]) : ∃ t0 t1 t2 t3, v = [.int a t0, .int b t1, .int c t2, .int d t3] := by
  rcases hv with _ | ⟨_, t0, hv⟩
  rcases hv with _ | ⟨_, t1, hv⟩
  rcases hv with _ | ⟨_, t2, hv⟩
  rcases hv with _ | ⟨_, t3, hv⟩
  cases hv
  exact ⟨_, _, _, _, rfl⟩
/-! ## the law's lists on a ledger -/
inductive MarksL (ld : List (Addr × Obj)) : List Value → List Ballot → Prop
  | nil : MarksL ld [] []
  | cons {vs ds} (q : Addr) (n : Nat) (d : Ballot) (t1 t2 t3 : Tok) : (q, W.listOf [Value.int d.1.1 t1, .int d.1.2.1 t2, .int d.1.2.2 t3].toArray n) ∈ ld → MarksOk d → MarksL ld vs ds → MarksL ld (.ref q :: vs) (d :: ds)
inductive RowsL (ld : List (Addr × Obj)) : List Value → List (Option (Int × Int × Int)) → Prop
  | nil : RowsL ld [] []
  | none {vs ds} : RowsL ld vs ds → RowsL ld (.none :: vs) (none :: ds)
  | some {vs ds} (q : Addr) (n : Nat) (x y z : Int) (t1 t2 t3 : Tok) : (q, W.listOf [Value.int x t1, .int y t2, .int z t3].toArray n) ∈ ld → RowsL ld vs ds → RowsL ld (.ref q :: vs) (some (x, y, z) :: ds)
theorem MarksL.mono {a b : List (Addr × Obj)} (hs : ∀ p ∈ a, p ∈ b) : ∀ {vs ds}, MarksL a vs ds → MarksL b vs ds
  | _, _, .nil => .nil
  | _, _, .cons q n d t1 t2 t3 m i r => .cons q n d t1 t2 t3 (hs _ m) i (MarksL.mono hs r)
theorem RowsL.mono {a b : List (Addr × Obj)} (hs : ∀ p ∈ a, p ∈ b) : ∀ {vs ds}, RowsL a vs ds → RowsL b vs ds
  | _, _, .nil => .nil
  | _, _, .none r => .none (RowsL.mono hs r)
  | _, _, .some q n x y z t1 t2 t3 m r => .some q n x y z t1 t2 t3 (hs _ m) (RowsL.mono hs r)
theorem MarksL.append {ld : List (Addr × Obj)} {ws : List Value} {es : List Ballot} : ∀ {vs ds}, MarksL ld vs ds → MarksL ld ws es → MarksL ld (vs ++ ws) (ds ++ es)
  | _, _, .nil, h => h
  | _, _, .cons q n d t1 t2 t3 m i r, h => .cons q n d t1 t2 t3 m i (MarksL.append r h)
theorem RowsL.append {ld : List (Addr × Obj)} {ws : List Value} {es : List (Option (Int × Int × Int))} : ∀ {vs ds}, RowsL ld vs ds → RowsL ld ws es → RowsL ld (vs ++ ws) (ds ++ es)
  | _, _, .nil, h => h
  | _, _, .none r, h => .none (RowsL.append r h)
  | _, _, .some q n x y z t1 t2 t3 m r, h => .some q n x y z t1 t2 t3 m (RowsL.append r h)
theorem VsP.append {ws : List Value} {es : List (Option Int)} : ∀ {vs ds}, VsP vs ds → VsP ws es → VsP (vs ++ ws) (ds ++ es)
  | _, _, .nil, h => h
  | _, _, .none r, h => .none (VsP.append r h)
  | _, _, .int p t r, h => .int p t (VsP.append r h)
theorem VsP.len : ∀ {vs ds}, VsP vs ds → vs.length = ds.length
  | _, _, .nil => rfl
  | _, _, .none r => congrArg (· + 1) (VsP.len r)
  | _, _, .int _ _ r => congrArg (· + 1) (VsP.len r)
theorem MarksL.len {ld : List (Addr × Obj)} : ∀ {vs ds}, MarksL ld vs ds → vs.length = ds.length
  | _, _, .nil => rfl
  | _, _, .cons _ _ _ _ _ _ _ _ r => congrArg (· + 1) (MarksL.len r)
theorem RowsL.len {ld : List (Addr × Obj)} : ∀ {vs ds}, RowsL ld vs ds → vs.length = ds.length
  | _, _, .nil => rfl
  | _, _, .none r => congrArg (· + 1) (RowsL.len r)
  | _, _, .some _ _ _ _ _ _ _ _ _ r => congrArg (· + 1) (RowsL.len r)
theorem BallotsN.ok {ld : List (Addr × Obj)} : ∀ {vs ds}, BallotsN ld vs ds → ∀ d ∈ ds, MarksOk d
  | _, _, .nil => by simp
  | _, _, .cons T M n k x y z h t0 t1 t2 t3 m1 m2 i1 i2 i3 i4 r => fun d hd => by
    rcases List.mem_cons.mp hd with rfl | hd
    · exact ⟨i1, i2, i3⟩
    · exact BallotsN.ok r d hd
section
variable {prog : Program} {w : World} {A : Around} {E : Value → Shared → Prop} {s : Shared} {env : Env} {h₀ : Heap} {target : PySem.Expr} {body : List Stmt} {Q : Flow → Shared → Prop}
theorem iter_listVI {ax : Addr} {lo : Obj} {vs : List Value} {n : Nat} {m₀ : Str → Option Value} {news : List (Addr × Obj)} (Inv : Addr → List Value → (Str → Option Value) → List (Addr × Obj) → Prop)
    (hh : A.handled = none) (F : Fr h₀ env.locals s.heap m₀) (N : News h₀ env.locals s.heap news) (hm : (ax, lo) ∈ news) (hc : lo.cls = .type "list") (hd : lo.data = .seq vs.toArray n) (h0 : ∀ I, (∀ p ∈ news, p.1 < I) → Inv I vs m₀ news)
    (hz : ∀ I m news, Inv I [] m news → ∀ h tk, Fr h₀ env.locals h m → News h₀ env.locals h news → Q .next { s with heap := h, toks := tk })
    (hs : ∀ (I : Addr), (∀ p ∈ news, p.1 < I) → ∀ x r m news, Inv I (x :: r) m news → ∀ h tk o, Fr h₀ env.locals h m → News h₀ env.locals h ((I, o) :: news) →
      wpAny (model prog w) A (assign target env x) (fun _ s₂ => wpAny (model prog w) A (execs body env) (UnrPostW h₀ env.locals { s with heap := h, toks := tk } [(I, o)] (fun m' n' => SubL [(ax, lo)] n' ∧ Inv I r m' n') Q) E s₂) E { s with heap := h, toks := tk }) :
    wpAny (model prog w) A (pyIter (.ref ax)) (fun it s₂ => TurnsAt prog w A h₀ env target body Q E it s₂) E s :=
  iter_listTurns hh F N hm hc hd fun I hl => rest_val (Inv I) (hz I) (hs I hl) _ _ _ (h0 I hl)
theorem append_any {D L : Addr} {vs : List Value} {n : Nat} {x : Value} {m : Str → Option Value} {pre post : List (Addr × Obj)} {Q : Value → Shared → Prop} (F : Fr h₀ L s.heap m) (N : News h₀ L s.heap (pre ++ (D, W.listOf vs.toArray n) :: post)) (h1 : ∀ p ∈ pre, p.1 ≠ D) (h2 : ∀ p ∈ post, p.1 ≠ D) (hsz : vs.length ≤ 1000000)
    (h : ∀ h', Fr h₀ L h' m → News h₀ L h' (pre ++ (D, W.listOf (vs ++ [x]).toArray (n + 1)) :: post) → Q .none { s with heap := h' }) : wpAny (model prog w) A (call (.builtin "list.append") [.ref D, x]) Q E s := by
  have e : (vs ++ [x]).toArray = vs.toArray.push x := by simp
  rw [e] at h
  have z := N (D, W.listOf vs.toArray n) (List.mem_append.mpr (.inr (.head _)))
  exact append_at (hsz := by rw [List.size_toArray, sizeLine_eq]; omega) z.1 fun h' hs ho' => h h' (F.change hs z.2.1 z.2.2) (news_set N h1 h2 hs ho')
end
/-! ## what the law's end asks, in numbers -/
theorem sum_votes (f : Int × Int × Int → Int) : ∀ os : List (Option (Int × Int × Int)), ((os.filterMap id).map f).sum = votesOf f os
  | [] => rfl
  | none :: r => by
    have := sum_votes f r
    simp only [votesOf, sumZ, List.filterMap_cons, id] at this ⊢
    omega
  | some x :: r => by
    have := sum_votes f r
    simp only [votesOf, sumZ, List.filterMap_cons, id, List.map_cons, List.sum_cons] at this ⊢
    omega
theorem len_votes : ∀ os : List (Option (Int × Int × Int)), ((os.filterMap id).length : Int) = votesOf (fun _ => 1) os
  | [] => rfl
  | none :: r => by
    have := len_votes r
    simp only [votesOf, sumZ, List.filterMap_cons, id] at this ⊢
    omega
  | some x :: r => by
    have := len_votes r
    simp only [votesOf, sumZ, List.filterMap_cons, id, List.length_cons] at this ⊢
    omega
theorem lin_votes (f g : Int × Int × Int → Int) : ∀ os : List (Option (Int × Int × Int)), votesOf (fun r => 2 - f r + g r) os = 2 * votesOf (fun _ => 1) os - votesOf f os + votesOf g os
  | [] => rfl
  | none :: r => by
    have := lin_votes f g r
    simp only [votesOf, sumZ] at this ⊢
    omega
  | some x :: r => by
    have := lin_votes f g r
    simp only [votesOf, sumZ] at this ⊢
    omega
/-- what the law's end asks of five ballots -/
def votesL (ds : List Ballot) (i : Nat) : Int := match i with
  | 0 => votesOf (·.1) (rowsOf ds)
  | 1 => votesOf (·.2.1) (rowsOf ds)
  | _ => votesOf (·.2.2) (rowsOf ds)
def leftL (ds : List Ballot) (i : Nat) : Int := match i with
  | 0 => (heldL (placesOf ds)).getD 0 0 - (heldL (placesOf ds)).getD 3 0
  | 1 => (heldL (placesOf ds)).getD 2 0 - (heldL (placesOf ds)).getD 5 0
  | _ => (heldL (placesOf ds)).getD 4 0 - (heldL (placesOf ds)).getD 1 0
theorem votes_eqs {ds : List Ballot} (h : ∀ d ∈ ds, MarksOk d) : 2 * votesL ds 0 = leftL ds 0 + leftL ds 1 + leftL ds 2 - 2 * leftL ds 2 ∧ 2 * votesL ds 1 = leftL ds 0 + leftL ds 1 + leftL ds 2 - 2 * leftL ds 0 ∧ 2 * votesL ds 2 = leftL ds 0 + leftL ds 1 + leftL ds 2 - 2 * leftL ds 1 := by
  have := votes_left ds h
  simp only [votesL, leftL, held_left]
  exact this
theorem dp_is {d n va vb S x y : Int} (e : d = 2 * n - va + vb) (ha : 2 * va = S - 2 * y) (hb : 2 * vb = S - 2 * x) : d = 2 * n - (x - y) := by omega
theorem depth_eqs {ds : List Ballot} (h : ∀ d ∈ ds, MarksOk d) : depths 0 (rowsOf ds) = 2 * (((rowsOf ds).filterMap id).length : Int) - (leftL ds 0 - leftL ds 1) ∧ depths 1 (rowsOf ds) = 2 * (((rowsOf ds).filterMap id).length : Int) - (leftL ds 1 - leftL ds 2) ∧
    depths 2 (rowsOf ds) = 2 * (((rowsOf ds).filterMap id).length : Int) - (leftL ds 2 - leftL ds 0) := by
  have v := votes_eqs h
  rw [len_votes]
  exact ⟨dp_is (lin_votes (·.2.2) (·.2.1) _ : depths 0 (rowsOf ds) = 2 * votesOf (fun _ => 1) (rowsOf ds) - votesL ds 2 + votesL ds 1) v.2.2 v.2.1,
    dp_is (lin_votes (·.1) (·.2.2) _ : depths 1 (rowsOf ds) = 2 * votesOf (fun _ => 1) (rowsOf ds) - votesL ds 0 + votesL ds 2) v.1 v.2.2,
    dp_is (lin_votes (·.2.1) (·.1) _ : depths 2 (rowsOf ds) = 2 * votesOf (fun _ => 1) (rowsOf ds) - votesL ds 1 + votesL ds 0) v.2.1 v.1⟩
theorem sheet_small {c : Nat} : ∀ (rs : List (Option (Int × Int × Int))) (s : Str) (k : Nat), (∀ r ∈ rs, RowOk r) → k + rs.length ≤ 5 → 2 * s.length + 5 ≤ 5 ^ (k + 1) → (rs.foldl (sheetStep c) s).length ≤ 8000
  | [], s, k, _, hk, h => pow_small (by simp at hk; omega) h
  | none :: r, s, k, hr, hk, h => by
    rw [List.foldl_cons]
    exact sheet_small r _ (k + 1) (fun x hx => hr x (List.mem_cons_of_mem _ hx)) (by rw [List.length_cons] at hk; omega) (size_none h)
  | some x :: r, s, k, hr, hk, h => by
    rw [List.foldl_cons]
    have h1 := hr _ List.mem_cons_self x rfl
    refine sheet_small r _ (k + 1) (fun x hx => hr x (List.mem_cons_of_mem _ hx)) (by rw [List.length_cons] at hk; omega) (size_some ?_ (colS_len c) h)
    have := h1.1; have := h1.2.1; have := h1.2.2
    match c with
    | 0 => simp only [depthZ]; omega
    | 1 => simp only [depthZ]; omega
    | _ + 2 => simp only [depthZ]; omega
theorem sheet_len {c : Nat} {ds : List Ballot} (h5 : ds.length ≤ 5) : (sheetS c (rowsOf ds)).length ≤ 8000 :=
  sheet_small (rowsOf ds) _ 0 (rows_ok ds) (by simp [rowsOf]; omega) (by decide +kernel)
theorem blanks_eq (c : Nat) (ds : List Ballot) : firstBlanks (fullOf (Txt.split (sheetS c (rowsOf ds)) (Str.ofString "\n"))) = depths c (rowsOf ds) := by
  rw [sheet_is c _ (rows_ok ds), sheet_cut, full_lines c _ (rows_ok ds)]
theorem fulls_len (c : Nat) (ds : List Ballot) : (fullOf (Txt.split (sheetS c (rowsOf ds)) (Str.ofString "\n"))).length ≤ ds.length + 1 := by
  rw [sheet_is c _ (rows_ok ds), sheet_cut]
  unfold fullOf cutOf
  refine Nat.le_trans (List.length_filter_le _ _) ?_
  have : ∀ rs : List (Option (Int × Int × Int)), (linesF c rs).length = rs.length := by
    intro rs
    induction rs with
    | nil => rfl
    | cons o r ih => cases o <;> simp [linesF, ih]
  simp [this, rowsOf]
theorem kw_45 : True := by
  w_top off
  k_with_none
  k_with "x mem" => (first | (with_reducible assumption) | (with_reducible exact List.mem_cons_self) | (refine' List.mem_cons_of_mem _ ?_; k_extra "x mem") | (refine' List.mem_append_left _ ?_; k_extra "x mem") | (refine' List.mem_append_right _ ?_; k_extra "x mem"))
  k_with "x enter" => ((
  refine' xc_def ?k6r346 ?k7r346 ?k8r346 (fun s => ?k9r346) ?kBr346 ?c5r346 ?c2r346 ?c3r346 ?c4r346 ?_
  (case k6r346 => k_is)
  (case k7r346 => k_is)
  (case k8r346 => decide)
  (case k9r346 => exact BindsTo.of_eq rfl)
  (case c5r346 => decide)
  (case kBr346 => exact locs rfl)
  (case c2r346 => exact rfl)
  (case c3r346 => exact rfl)
  (case c4r346 => exact rfl)
  intro loosezq meanzq mgzq mbzq dpzq unzq gdzq cnzq cszq Lzq azq ccdzq clzq outerzq basezq gzq L'zq h'zq gszq drzq oszq tkzq Ezq F'zq N'zq B'zq X'zq T'zq hpzq hdzq huzq
  (try dsimp only) 
  (try k_fold)))
  k_with "x sides" => ((
  (case k1 => k_asm)
  (case k2 => k_asm)
  (case k3 => k_asm)
  (case k4 => k_asm)
  (case k5 => k_asm)
  (case kK => first | exact rfl | assumption)
  (case kd => ktr_room)
  (case ku => ktr_units)))
  k_with "subscriptTail Name Constant ref int" => ((k_here; k_dflt ((with_reducible show wpAny _ _ (subscriptTail _ _ (Value.ref _) (Value.int _ _)) _ _ _); (with_unfolding_all refine' item_litK ?k1r348 ?k2r348 ?k3r348 ?k4r348 ?_ ?k6r348; (case k1r348 => is_list); (case k2r348 => decide); (case k3r348 => decide); (case k4r348 => rfl); (case k6r348 => with_unfolding_all rfl)))))
  k_with "subscriptTail Name BinOp ref int" => ((k_here; k_dflt ((with_reducible show wpAny _ _ (subscriptTail _ _ (Value.ref _) (Value.int _ _)) _ _ _); (with_unfolding_all refine' item_litK ?k1r349 ?k2r349 ?k3r349 ?k4r349 ?_ ?k6r349; (case k1r349 => is_list); (case k2r349 => decide); (case k3r349 => decide); (case k4r349 => rfl); (case k6r349 => with_unfolding_all rfl)))))
  k_with "subscriptTail Name Name ref int" => ((k_here; k_dflt ((with_reducible show wpAny _ _ (subscriptTail _ _ (Value.ref _) (Value.int _ _)) _ _ _); (with_unfolding_all refine' item_litK ?k1r350 ?k2r350 ?k3r350 ?k4r350 ?_ ?k6r350; (case k1r350 => is_list); (case k2r350 => decide); (case k3r350 => decide); (case k4r350 => rfl); (case k6r350 => with_unfolding_all rfl)))))
  k_with "eval Name" => ((k_here; dsimp only))
  k_with "x enterK" => ((
  refine' xc_defK ?k6r352 ?k7r352 ?k8r352 ?k9r352 ?kBr352 ?c5r352 ?c2r352 ?c3r352 ?c4r352 ?_
  (case k6r352 => k_is)
  (case k7r352 => k_is)
  (case k8r352 => decide)
  (case k9r352 => exact fun _ => rfl)
  (case c5r352 => decide)
  (case kBr352 => exact locs rfl)
  (case c2r352 => exact rfl)
  (case c3r352 => exact rfl)
  (case c4r352 => exact rfl)
  intro loosezq meanzq mgzq mbzq dpzq unzq gdzq cnzq cszq Lzq azq ccdzq clzq outerzq basezq gzq L'zq h'zq gszq drzq oszq tkzq Ezq F'zq N'zq B'zq X'zq T'zq hpzq hdzq huzq
  (try dsimp only) 
  (try k_fold)))
  k_with "x enterC" => ((
  refine' xc_defC ?k6r353 ?k7r353 ?k8r353 ?k9r353 ?kBr353 ?kDr353 ?c2r353 ?c3r353 ?c4r353 ?_
  (case k6r353 => k_is)
  (case k7r353 => k_is)
  (case k8r353 => decide)
  (case k9r353 => exact fun _ => rfl)
  (case kBr353 => exact rfl)
  (case kDr353 => decide +kernel)
  (case c2r353 => exact rfl)
  (case c3r353 => exact rfl)
  (case c4r353 => exact rfl)
  intro loosezq meanzq mgzq mbzq dpzq unzq gdzq cnzq cszq Lzq azq ccdzq clzq outerzq basezq gzq L'zq h'zq gszq drzq oszq tkzq Ezq cells'zq F'zq N'zq Y'zq B'zq X'zq T'zq hpzq hdzq huzq
  k_cells Y'zq
  (try simp only [List.cons_append, List.nil_append] at N'zq)
  (try dsimp only) 
  (try k_fold)))
  k_with "x for" => ((k_here; (rename Fr _ _ _ _ => lF'zq); (with_unfolding_all refine' For_turns lF'zq ?_; k_whole)))
  k_with "x walk" => ((repeat' ((fail_if_success (with_reducible show wpAny _ _ (pyIter (Value.ref _)) (fun it s₂ => TurnsAt _ _ _ _ _ _ _ _ _ it s₂) _ _)); first | (k_unfold; (try dsimp only)) | (k_end; wrow_close) | walk1 | (dsimp only; walk1) | (leave1; walk_say "STEP leave1"; try dsimp only) | fail "no step")))
  k_with "x walkA" => ((repeat' ((fail_if_success (with_reducible show wpAny _ _ (pyIter (Value.ref _)) (fun it s₂ => TurnsAt _ _ _ _ _ _ _ _ _ it s₂) _ _)); (fail_if_success (with_reducible show wpAny _ _ (call (Value.builtin "list.append") _) _ _ _)); first | (k_unfold; (try dsimp only)) | (k_end; wrow_close) | walk1 | (dsimp only; walk1) | (leave1; walk_say "STEP leave1"; try dsimp only) | fail "no step")))
  k_with "x off2" => ((intro y'zq hy'zq; simp only [List.mem_cons, List.not_mem_nil, not_or, or_false] at hy'zq; obtain ⟨h1'zq, h2'zq⟩ := hy'zq; simp only [h1'zq, h2'zq, if_false]))
  k_with "x off3" => ((intro y'zq hy'zq; simp only [List.mem_cons, List.not_mem_nil, not_or, or_false] at hy'zq; obtain ⟨h1'zq, h2'zq, h3'zq⟩ := hy'zq; simp only [h1'zq, h2'zq, h3'zq, if_false]))
  k_with "x sel" => (((rename _ < 3 => kizq); k_dflt (first
  | ((refine' item_sel kizq ?k1r359 ?_ ?k6r359); (case k1r359 => is_list); (case k6r359 => with_unfolding_all rfl); intro t'zq)
  | ((refine' item_sel1 kizq ?k1r359 ?_ ?k6r359); (case k1r359 => is_list); (case k6r359 => with_unfolding_all rfl); intro t'zq)
  | ((refine' item_sel2 kizq ?k1r359 ?_ ?k6r359); (case k1r359 => is_list); (case k6r359 => with_unfolding_all rfl); intro t'zq))))
  k_with "x append" => (((refine' append_L ?k1r360 ?k2r360 ?k3r360 ?zr360 ?_; (case k1r360 => k_asm); (case k2r360 => k_asm); (case k3r360 => k_upd); (case zr360 => assumption)); intro h'zq F'zq N'zq; (try dsimp only)))
  trivial
/-! ## the law's end: its comprehensions -/
def someV : Value → Bool
  | .none => false
  | _ => true
inductive RowsS (ld : List (Addr × Obj)) : List Value → List (Int × Int × Int) → Prop
  | nil : RowsS ld [] []
  | cons {vs ds} (q : Addr) (n : Nat) (x y z : Int) (t1 t2 t3 : Tok) : (q, W.listOf [Value.int x t1, .int y t2, .int z t3].toArray n) ∈ ld → RowsS ld vs ds → RowsS ld (.ref q :: vs) ((x, y, z) :: ds)
theorem RowsS.mono {a b : List (Addr × Obj)} (hs : ∀ p ∈ a, p ∈ b) : ∀ {vs ds}, RowsS a vs ds → RowsS b vs ds
  | _, _, .nil => .nil
  | _, _, .cons q n x y z t1 t2 t3 m r => .cons q n x y z t1 t2 t3 (hs _ m) (RowsS.mono hs r)
theorem RowsS.len {ld : List (Addr × Obj)} : ∀ {vs ds}, RowsS ld vs ds → vs.length = ds.length
  | _, _, .nil => rfl
  | _, _, .cons _ _ _ _ _ _ _ _ _ r => congrArg (· + 1) (RowsS.len r)
theorem RowsL.vals {ld : List (Addr × Obj)} : ∀ {vs ds}, RowsL ld vs ds → ∀ v ∈ vs, v = .none ∨ ∃ q, v = .ref q
  | _, _, .nil, _, h => nomatch h
  | _, _, .none r, v, h => by
    rcases List.mem_cons.mp h with rfl | h
    · exact .inl rfl
    · exact RowsL.vals r v h
  | _, _, .some q _ _ _ _ _ _ _ _ r, v, h => by
    rcases List.mem_cons.mp h with rfl | h
    · exact .inr ⟨q, rfl⟩
    · exact RowsL.vals r v h
theorem RowsL.somes {ld : List (Addr × Obj)} : ∀ {vs ds}, RowsL ld vs ds → RowsS ld (vs.filter someV) (ds.filterMap id)
  | _, _, .nil => .nil
  | _, _, .none r => by
    rw [List.filter_cons, List.filterMap_cons]
    exact RowsL.somes r
  | _, _, .some q n x y z t1 t2 t3 m r => by
    rw [List.filter_cons, List.filterMap_cons]
    exact .cons q n x y z t1 t2 t3 m (RowsL.somes r)
theorem RowsS.vals {ld : List (Addr × Obj)} : ∀ {vs ds}, RowsS ld vs ds → ∀ v ∈ vs, ∃ q n x y z t1 t2 t3, v = .ref q ∧ (q, W.listOf [Value.int x t1, .int y t2, .int z t3].toArray n) ∈ ld ∧ (x, y, z) ∈ ds
  | _, _, .nil, _, h => nomatch h
  | _, _, .cons q n x y z t1 t2 t3 m r, v, h => by
    rcases List.mem_cons.mp h with rfl | h
    · exact ⟨q, n, x, y, z, t1, t2, t3, rfl, m, List.mem_cons_self⟩
    · obtain ⟨q, n, x, y, z, t1, t2, t3, e, m, i⟩ := RowsS.vals r v h
      exact ⟨q, n, x, y, z, t1, t2, t3, e, m, List.mem_cons_of_mem _ i⟩
def selR (k : Nat) (r : Int × Int × Int) : Int := selZ k r.1 r.2.1 r.2.2
/-- what a row's item at a place is -/
def RowAt (ld : List (Addr × Obj)) (k : Nat) (v y : Value) : Prop := ∀ q n x y' z t1 t2 t3, v = .ref q → (q, W.listOf [Value.int x t1, .int y' t2, .int z t3].toArray n) ∈ ld → ∃ t, y = .int (selR k (x, y', z)) t
theorem RowsS.ints {ld : List (Addr × Obj)} (k : Nat) : ∀ {vs ds ys}, RowsS ld vs ds → All2 (RowAt ld k) vs ys → IntsAre ys (ds.map (selR k))
  | _, _, _, .nil, .nil => .nil
  | _, _, _, .cons q n x y z t1 t2 t3 m r, .cons h s => by
    obtain ⟨t, rfl⟩ := h q n x y z t1 t2 t3 rfl m
    exact .cons _ t (RowsS.ints k r s)
section
variable {prog : Program} {w : World} {A : Around} {E : Value → Shared → Prop} {s : Shared} {h₀ : Heap} {L : Addr} {m : Str → Option Value} {env : Env}
theorem rows_src {ct : PySem.Expr} {x : Str} {px : Pos} {scope : Scope} {cl : List (Str × Addr)} {Fin : Shared → List Value → List (Addr × Obj) → Prop} {ax : Addr} {rv : List Value} {k : Nat} {news Rest : List (Addr × Obj)} {ds : List (Option (Int × Int × Int))}
    (hr : RowsL Rest rv ds) (hh : A.handled = none) (F : Fr h₀ L s.heap m) (N : News h₀ L s.heap news) (hm : (ax, W.listOf rv.toArray k) ∈ news) (hsz : rv.length ≤ 5) (hk : scope.kind = .function) (hl : scope.names.lookup x = some .local) (hd : (x == ("__debug__" : Str)) = false)
    (turn0 : ∀ g I oI C oC D m₂ ys h tk (E' : Value → Shared → Prop), LCg.NsObj oC m₂ → m₂ x = some .none → Fr h₀ L h m → News h₀ L h ((I, oI) :: (C, oC) :: (D, LCg.lst ys) :: news) →
      wpAny (model prog w) A (isTrue ct (compEnvC scope cl C env) (eval ct (compEnvC scope cl C env))) (TestEnd false h₀ L m { s with heap := h, toks := tk } ((I, oI) :: (C, oC) :: (D, LCg.lst ys) :: news)) E' { ({ s with heap := g } : Shared) with heap := h, toks := tk })
    (turn1 : ∀ q g I oI C oC D m₂ ys h tk (E' : Value → Shared → Prop), LCg.NsObj oC m₂ → m₂ x = some (.ref q) → Fr h₀ L h m → News h₀ L h ((I, oI) :: (C, oC) :: (D, LCg.lst ys) :: news) →
      wpAny (model prog w) A (isTrue ct (compEnvC scope cl C env) (eval ct (compEnvC scope cl C env))) (TestEnd true h₀ L m { s with heap := h, toks := tk } ((I, oI) :: (C, oC) :: (D, LCg.lst ys) :: news)) E' { ({ s with heap := g } : Shared) with heap := h, toks := tk })
    (fin : ∀ g sv, sv.length ≤ 5 → RowsS Rest sv (ds.filterMap id) → Fin { s with heap := g } sv news) : LCt.CompSrcT prog w A h₀ L m env ct (.Name x px) x scope cl Fin (.ref ax) s := by
  refine LCt.CompSrcT.ledger (its := rv.toArray) (k := k) hh F N hm (by rw [List.size_toArray, sizeLine_eq]; omega) fun g => ?_
  refine filter_rest someV (by rw [List.size_toArray]) hk hl hd (.inr ⟨_, hm, rfl, _, rfl⟩) ?_ (fin g _ (Nat.le_trans (List.length_filter_le _ _) hsz) hr.somes)
  intro v hv I oI C oC D m₂ ys h tk E' hC hx F' N'
  rcases hr.vals v hv with rfl | ⟨q, rfl⟩
  · exact turn0 g I oI C oC D m₂ ys h tk E' hC hx F' N'
  · exact turn1 q g I oI C oC D m₂ ys h tk E' hC hx F' N'
theorem col_src {elt : PySem.Expr} {x : Str} {scope : Scope} {cl : List (Str × Addr)} {Fin : Shared → List Value → List (Addr × Obj) → Prop} {ax : Addr} {sv : List Value} {k i : Nat} {news Rest : List (Addr × Obj)} {ds : List (Int × Int × Int)}
    (_hi : i < 3) (hr : RowsS Rest sv ds) (hh : A.handled = none) (F : Fr h₀ L s.heap m) (N : News h₀ L s.heap news) (hm : (ax, W.listOf sv.toArray k) ∈ news) (hsz : sv.length ≤ 5) (hR : ∀ p ∈ Rest, p ∈ news)
    (turn : ∀ q a b c t1 t2 t3 g I oI C oC D m₂ ys h tk (E' : Value → Shared → Prop), LCg.NsObj oC m₂ → m₂ x = some (.ref q) → h.IsList q [.int a t1, .int b t2, .int c t3].toArray → Fr h₀ L h m → News h₀ L h ((I, oI) :: (C, oC) :: (D, LCg.lst ys) :: news) → 
      wpAny (model prog w) A (eval elt (compEnvC scope cl C env)) (EltEnd (fun y => ∃ t, y = .int (selZ i a b c) t) h₀ L m { s with heap := h, toks := tk } ((I, oI) :: (C, oC) :: (D, LCg.lst ys) :: news)) E' { ({ s with heap := g } : Shared) with heap := h, toks := tk })
    (fin : ∀ g ys, ys.length ≤ 5 → IntsAre ys (ds.map (selR i)) → Fin { s with heap := g } ys news) : LCg.CompSrc prog w A h₀ L m env elt x scope cl Fin (.ref ax) s := by
  refine LCg.CompSrc.ledger (its := sv.toArray) (k := k) hh F N hm (by rw [List.size_toArray, sizeLine_eq]; omega) fun g => ?_
  refine map_rest (fun v y => ∃ q n a b c t1 t2 t3 t, v = .ref q ∧ (q, W.listOf [Value.int a t1, .int b t2, .int c t3].toArray n) ∈ news ∧ y = .int (selZ i a b c) t) (by rw [List.size_toArray]) (.inr ⟨_, hm, rfl, _, rfl⟩) ?_ ?_
  · intro v hv I oI C oC D m₂ ys h tk E' hC hx F' N'
    obtain ⟨q, n, a, b, c, t1, t2, t3, rfl, mq, _⟩ := hr.vals v hv
    have mq' := hR _ mq
    have hl : h.IsList q [.int a t1, .int b t2, .int c t3].toArray := N'.isList (List.mem_cons_of_mem _ (List.mem_cons_of_mem _ (List.mem_cons_of_mem _ mq')))
    refine wpAny_mono (turn q a b c t1 t2 t3 g I oI C oC D m₂ ys h tk E' hC hx hl F' N') (fun y s' hq => ?_) fun _ _ e => e
    obtain ⟨⟨t, e⟩, r⟩ := hq
    exact ⟨⟨q, n, a, b, c, t1, t2, t3, t, rfl, mq', e⟩, r⟩
  · intro ys hy
    have key : ∀ {vs ds ys}, RowsS Rest vs ds → All2 (fun v y => ∃ q n a b c t1 t2 t3 t, v = .ref q ∧ (q, W.listOf [Value.int a t1, .int b t2, .int c t3].toArray n) ∈ news ∧ y = .int (selZ i a b c) t) vs ys → ys.length = vs.length ∧ IntsAre ys (ds.map (selR i)) := by
      intro vs ds ys h1
      induction h1 generalizing ys with
      | nil => intro h2; cases h2; exact ⟨rfl, .nil⟩
      | cons q n x y z t1 t2 t3 mq r ih =>
        intro h2
        cases h2 with
        | cons hb h2 =>
          obtain ⟨l1, l2⟩ := ih h2
          obtain ⟨q', n', a, b, c, u1, u2, u3, t, e, mq', rfl⟩ := hb
          cases e
          have e1 := (N _ mq').1
          rw [(N _ (hR _ mq)).1] at e1
          cases e1
          exact ⟨congrArg (· + 1) l1, .cons _ _ l2⟩
    obtain ⟨l1, l2⟩ := key hr hy
    exact fin g ys (by omega) l2
end
structure MinOf (M a b c : Int) : Prop where
  l1 : M ≤ a
  l2 : M ≤ b
  l3 : M ≤ c
  one : M = a ∨ M = b ∨ M = c
structure MaxOf (M a b c : Int) : Prop where
  l1 : a ≤ M
  l2 : b ≤ M
  l3 : c ≤ M
  one : M = a ∨ M = b ∨ M = c
def ringB (ds : List Ballot) : Bool := decide ((0 < votesL ds 0 ∧ 0 < votesL ds 1 ∧ 0 < votesL ds 2) ∨ (votesL ds 0 < 0 ∧ votesL ds 1 < 0 ∧ votesL ds 2 < 0))
def XJB (h₀ : Heap) (L : Addr) (m : Str → Option Value) (news : List (Addr × Obj)) (b : Bool) (s : Shared) (v : Value) (s' : Shared) : Prop := ∃ h' tk, v = .bool b ∧ s' = { s with heap := h', toks := tk } ∧ Fr h₀ L h' m ∧ News h₀ L h' news
section
variable {prog : Program} {w : World} {A : Around} {E : Value → Shared → Prop} {s : Shared} {h₀ : Heap} {L : Addr} {m : Str → Option Value} {news : List (Addr × Obj)}
theorem XJB.mk {all : List (Addr × Obj)} {b b' : Bool} {h' : Heap} {tk : Nat} (F : Fr h₀ L h' m) (N : News h₀ L h' all) (hs : ∀ p ∈ news, p ∈ all) (e : b' = b) : XJB h₀ L m news b s (.bool b') ⟨h', s.gens, s.drawn, tk, s.os⟩ :=
  ⟨h', tk, by rw [e], rfl, F, fun p hp => N p (hs p hp)⟩
theorem x_joinB {M : Model} {ld : List (Addr × Obj)} {sv : List Value} {ds : List Ballot} {t : Sem Value} {Q : Value → Shared → Prop} (_k : RowsS ld sv ((rowsOf ds).filterMap id)) (_F : Fr h₀ L s.heap m) (_N : News h₀ L s.heap news) (h1 : wpAny M A t (XJB h₀ L m news (ringB ds) s) E s)
    (h2 : ∀ h' tk, Fr h₀ L h' m → News h₀ L h' news → Q (.bool (ringB ds)) { s with heap := h', toks := tk }) : wpAny M A t Q E s :=
  wpAny_mono h1 (fun v s' ⟨h', tk, e1, e2, F', N'⟩ => by subst e1 e2; exact h2 h' tk F' N') fun _ _ e => e
theorem min_three {l : Addr} {a b c : Int} {t1 t2 t3 : Tok} {Q : Value → Shared → Prop} (F : Fr h₀ L s.heap m) (N : News h₀ L s.heap news) (hl : s.heap.IsList l [.int a t1, .int b t2, .int c t3].toArray) (hh : A.handled = none)
    (h : ∀ h' M (t : Tok) tk, Fr h₀ L h' m → News h₀ L h' news → MinOf M a b c → Q (.int M t) { s with heap := h', toks := tk }) : wpAny (model prog w) A (call (.builtin "min") [.ref l]) Q E s :=
  kso_min F N hl (ns := [a, b, c]) (.cons _ _ (.cons _ _ (.cons _ _ .nil))) (by simp) hh fun h' M t tk F' N' h1 h2 => h h' M t tk F' N' ⟨h2 a (by simp), h2 b (by simp), h2 c (by simp), by simpa using h1⟩
theorem max_three {l : Addr} {a b c : Int} {t1 t2 t3 : Tok} {Q : Value → Shared → Prop} (F : Fr h₀ L s.heap m) (N : News h₀ L s.heap news) (hl : s.heap.IsList l [.int a t1, .int b t2, .int c t3].toArray) (hh : A.handled = none)
    (h : ∀ h' M (t : Tok) tk, Fr h₀ L h' m → News h₀ L h' news → MaxOf M a b c → Q (.int M t) { s with heap := h', toks := tk }) : wpAny (model prog w) A (call (.builtin "max") [.ref l]) Q E s :=
  kso_max F N hl (ns := [a, b, c]) (.cons _ _ (.cons _ _ (.cons _ _ .nil))) (by simp) hh fun h' M t tk F' N' h1 h2 => h h' M t tk F' N' ⟨h2 a (by simp), h2 b (by simp), h2 c (by simp), by simpa using h1⟩
theorem sum_three {l : Addr} {a b c : Int} {t1 t2 t3 : Tok} {Q : Value → Shared → Prop} (F : Fr h₀ L s.heap m) (N : News h₀ L s.heap news) (hl : s.heap.IsList l [.int a t1, .int b t2, .int c t3].toArray) (hh : A.handled = none)
    (h : ∀ h' (t : Tok) tk, Fr h₀ L h' m → News h₀ L h' news → Q (.int (a + b + c) t) { s with heap := h', toks := tk }) : wpAny (model prog w) A (call (.builtin "sum") [.ref l]) Q E s :=
  sumK hh F N hl (ns := [a, b, c]) (.cons _ _ (.cons _ _ (.cons _ _ .nil))) fun h' tk t F' N' => by
    have e : [a, b, c].sum = a + b + c := by simp only [List.sum_cons, List.sum_nil]; omega
    rw [e]; exact h h' t tk F' N'
theorem truthy_dec {M : Model} {p : Prop} [inst : Decidable p] {Q : Bool → Shared → Prop} (h1 : p → Q true s) (h0 : ¬ p → Q false s) : wpAny M A (truthy (.bool (decide p))) Q E s := by
  refine wpAny_truthy_bool ?_
  by_cases h : p
  · rw [decide_eq_true h]; exact h1 h
  · rw [decide_eq_false h]; exact h0 h
theorem truthy_or {M : Model} {p : Prop} [inst : Decidable p] {P R : Shared → Prop} (h1 : p → P s) (h0 : ¬ p → R s) : wpAny M A (truthy (.bool (decide p))) (fun c s₂ => if c = true then P s₂ else R s₂) E s :=
  truthy_dec (fun h => by rw [if_pos rfl]; exact h1 h) (fun h => by rw [if_neg Bool.false_ne_true]; exact h0 h)
theorem ne_bool_same {b : Bool} {Q : Value → Shared → Prop} (h : Q (.bool false) s) : wpAny (model prog w) A (compareOp .NotEq (.bool b) (.bool b)) Q E s := ne_bool (by cases b <;> exact h)
theorem ne_int_same {a b : Int} {t u : Tok} {Q : Value → Shared → Prop} (e : a = b) (h : Q (.bool false) s) : wpAny (model prog w) A (compareOp .NotEq (.int a t) (.int b u)) Q E s := by
  subst e; exact ne_int (by rw [bne_self_eq_false]; exact h)
theorem ne_str_same {a b : Str} {t u : Tok} {Q : Value → Shared → Prop} (e : a = b) (h : Q (.bool false) s) : wpAny (model prog w) A (compareOp .NotEq (.str a t) (.str b u)) Q E s := by
  subst e; exact ne_str (by rw [bne_self_eq_false]; exact h)
end
theorem ring_min {ds : List Ballot} {M : Int} (h : MinOf M (votesL ds 0) (votesL ds 1) (votesL ds 2)) (hd : 0 < M) : decide (0 < M) = ringB ds := by
  rw [decide_eq_true hd]
  exact (decide_eq_true (.inl ⟨Int.lt_of_lt_of_le hd h.l1, Int.lt_of_lt_of_le hd h.l2, Int.lt_of_lt_of_le hd h.l3⟩)).symm
theorem ring_max {ds : List Ballot} {M X : Int} (h : MinOf M (votesL ds 0) (votesL ds 1) (votesL ds 2)) (hd : ¬ 0 < M) (h' : MaxOf X (votesL ds 0) (votesL ds 1) (votesL ds 2)) : decide (X < 0) = ringB ds := by
  refine decide_eq_decide.mpr ⟨fun q => .inr ⟨Int.lt_of_le_of_lt h'.l1 q, Int.lt_of_le_of_lt h'.l2 q, Int.lt_of_le_of_lt h'.l3 q⟩, fun q => ?_⟩
  rcases q with ⟨a, b, c⟩ | ⟨a, b, c⟩
  · rcases h.one with e | e | e
    · exact absurd (e ▸ a) hd
    · exact absurd (e ▸ b) hd
    · exact absurd (e ▸ c) hd
  · rcases h'.one with e | e | e
    · exact e ▸ a
    · exact e ▸ b
    · exact e ▸ c
theorem sg_pos {v S l : Int} (e : 2 * v = S - 2 * l) : 0 < v ↔ 2 * l < S := by omega
theorem sg_neg {v S l : Int} (e : 2 * v = S - 2 * l) : v < 0 ↔ S < 2 * l := by omega
theorem two_le {a b : Int} (h : a ≤ b) : 2 * a ≤ 2 * b := by omega
theorem tri_max {ds : List Ballot} {M : Int} (hok : ∀ d ∈ ds, MarksOk d) (h : MaxOf M (leftL ds 0) (leftL ds 1) (leftL ds 2)) (hd : 2 * M < leftL ds 0 + leftL ds 1 + leftL ds 2) : decide (2 * M < leftL ds 0 + leftL ds 1 + leftL ds 2) = ringB ds := by
  rw [decide_eq_true hd]
  obtain ⟨v1, v2, v3⟩ := votes_eqs hok
  exact (decide_eq_true (.inl ⟨(sg_pos v1).mpr (Int.lt_of_le_of_lt (two_le h.l3) hd), (sg_pos v2).mpr (Int.lt_of_le_of_lt (two_le h.l1) hd), (sg_pos v3).mpr (Int.lt_of_le_of_lt (two_le h.l2) hd)⟩)).symm
theorem tri_min {ds : List Ballot} {M X : Int} (hok : ∀ d ∈ ds, MarksOk d) (h : MaxOf M (leftL ds 0) (leftL ds 1) (leftL ds 2)) (hd : ¬ 2 * M < leftL ds 0 + leftL ds 1 + leftL ds 2) (h' : MinOf X (leftL ds 0) (leftL ds 1) (leftL ds 2)) :
    decide (leftL ds 0 + leftL ds 1 + leftL ds 2 < 2 * X) = ringB ds := by
  obtain ⟨v1, v2, v3⟩ := votes_eqs hok
  refine decide_eq_decide.mpr ⟨fun q => .inr ⟨(sg_neg v1).mpr (Int.lt_of_lt_of_le q (two_le h'.l3)), (sg_neg v2).mpr (Int.lt_of_lt_of_le q (two_le h'.l1)), (sg_neg v3).mpr (Int.lt_of_lt_of_le q (two_le h'.l2))⟩, fun q => ?_⟩
  rcases q with ⟨a, b, c⟩ | ⟨a, b, c⟩
  · rcases h.one with e | e | e
    · exact absurd (e ▸ (sg_pos v2).mp b) hd
    · exact absurd (e ▸ (sg_pos v3).mp c) hd
    · exact absurd (e ▸ (sg_pos v1).mp a) hd
  · rcases h'.one with e | e | e
    · exact e ▸ (sg_neg v2).mp b
    · exact e ▸ (sg_neg v3).mp c
    · exact e ▸ (sg_neg v1).mp a
/-! ## the sheets of the law's end -/
theorem rowsV_of {h₀ h : Heap} {L : Addr} {news Rest : List (Addr × Obj)} (N : News h₀ L h news) (hs : ∀ p ∈ Rest, p ∈ news) : ∀ {vs ds}, RowsL Rest vs ds → (∀ r ∈ ds, RowOk r) → RowsV h vs ds
  | _, _, .nil, _ => .nil
  | _, _, .none r, hk => .none (rowsV_of N hs r fun x hx => hk x (List.mem_cons_of_mem _ hx))
  | _, _, .some q n x y z t1 t2 t3 m r, hk => by
    obtain ⟨h1, h2, h3⟩ := hk _ List.mem_cons_self _ rfl
    exact .some q x y z t1 t2 t3 (N.isList (hs _ m)) h1 h2 h3 (rowsV_of N hs r fun x hx => hk x (List.mem_cons_of_mem _ hx))
theorem sheets_i {w : World} {l : Addr} {rv : List Value} {ds : List Ballot} (h5 : ds.length ≤ 5) : XC w 145 3 [.ref l] (fun h => h.IsList l rv.toArray ∧ RowsV h rv (rowsOf ds))
    (fun tl r => ∃ l' n u1 u2 u3, r = .ref l' ∧ (l', W.listOf [Value.str (sheetS 0 (rowsOf ds)) u1, .str (sheetS 1 (rowsOf ds)) u2, .str (sheetS 2 (rowsOf ds)) u3].toArray n) ∈ tl) := sheets_c w l rv (rowsOf ds) (by simpa [rowsOf] using h5)
theorem sheet_fit {c : Nat} {ds : List Ballot} (h5 : ds.length ≤ 5) : (sheetS c (rowsOf ds)).length + 2 ≤ sizeLine := by have := sheet_len (c := c) h5; rw [sizeLine_eq]; omega
theorem linesF_len (c : Nat) : ∀ rs : List (Option (Int × Int × Int)), (linesF c rs).length = rs.length
  | [] => rfl
  | none :: r => congrArg (· + 1) (linesF_len c r)
  | some _ :: r => congrArg (· + 1) (linesF_len c r)
theorem split_six {c : Nat} {ds : List Ballot} (h5 : ds.length ≤ 5) : (Txt.split (sheetS c (rowsOf ds)) (Str.ofString "\n")).length ≤ 6 := by
  rw [sheet_is c _ (rows_ok ds), sheet_cut]
  simp [cutOf, linesF_len, rowsOf]; omega
theorem lineS_ok (c : Nat) (o : Option Nat) : PyData.strOk (lineS c o) = true := by
  cases o with
  | none => show PyData.strOk (Str.ofString "") = true; decide +kernel
  | some d =>
    have hc : (colS c).cps.toList.all (· < 0x110000) = true := by
      match c with
      | 0 => decide +kernel
      | 1 => decide +kernel
      | _ + 2 => show (Str.ofString "b").cps.toList.all _ = true; decide +kernel
    have hb : (blanksS d).cps.toList.all (· < 0x110000) = true := by
      simp only [blanksS, List.all_eq_true, decide_eq_true_eq]
      intro x hx
      rw [List.eq_of_mem_replicate hx]; decide
    show (blanksS d ++ colS c).cps.all (· < 0x110000) = true
    rw [Str.cps_append, ← Array.all_toList, Array.toList_append, List.all_append, hb, hc]
    rfl
structure LinesOf (c : Nat) (ds : List Ballot) (l : List (Str × Tok)) : Prop where
  is : l.map (·.1) = fullOf (Txt.split (sheetS c (rowsOf ds)) (Str.ofString "\n"))
theorem LinesOf.ok {c : Nat} {ds : List Ballot} {l : List (Str × Tok)} (k : LinesOf c ds l) : ∀ p ∈ l, PyData.strOk p.1 = true := by
  intro p hp
  have h1 : p.1 ∈ l.map (·.1) := List.mem_map.mpr ⟨p, hp, rfl⟩
  rw [k.is, sheet_is c _ (rows_ok ds), sheet_cut] at h1
  have h2 := (List.mem_filter.mp h1).1
  rcases List.mem_append.mp h2 with h3 | h3
  · obtain ⟨o, _, e⟩ := List.mem_map.mp h3
    rw [← e]; exact lineS_ok c o
  · rw [List.mem_singleton.mp h3]; decide +kernel
theorem blanks_nil {c : Nat} {ds : List Ballot} (k : LinesOf c ds []) : 0 = depths c (rowsOf ds) := by
  rw [← blanks_eq, ← k.is]; rfl
theorem blanks_cons {c : Nat} {ds : List Ballot} {x : Str} {t : Tok} {l : List (Str × Tok)} (k : LinesOf c ds ((x, t) :: l)) : Txt.count x (Str.ofString " ") = depths c (rowsOf ds) := by
  rw [← blanks_eq, ← k.is]; rfl
def fullV : Value → Bool
  | .str y _ => y != Str.ofString ""
  | _ => false
theorem fullV_filter : ∀ l : List (Str × Tok), (strValues l).filter fullV = strValues (l.filter fun p => !(p.1 == Str.ofString ""))
  | [] => rfl
  | (x, t) :: r => by
    show (Value.str x t :: strValues r).filter fullV = _
    rw [List.filter_cons, List.filter_cons, fullV_filter r]
    show (if (!(x == Str.ofString "")) = true then _ else _) = strValues (if (!(x == Str.ofString "")) = true then _ else _)
    split <;> rfl
theorem map_full : ∀ l : List (Str × Tok), (l.filter fun p => !(p.1 == Str.ofString "")).map (·.1) = fullOf (l.map (·.1))
  | [] => rfl
  | (x, t) :: r => by
    unfold fullOf
    rw [List.map_cons, List.filter_cons, List.filter_cons]
    have ih := map_full r
    unfold fullOf at ih
    split
    · rw [List.map_cons, ih]
    · exact ih
section
variable {prog : Program} {w : World} {A : Around} {E : Value → Shared → Prop} {s : Shared} {h₀ : Heap} {L : Addr} {m : Str → Option Value} {env : Env}
theorem strs_src {ct : PySem.Expr} {x : Str} {px : Pos} {scope : Scope} {cl : List (Str × Addr)} {Fin : Shared → List Value → List (Addr × Obj) → Prop} {ax : Addr} {l : List (Str × Tok)} {k c : Nat} {ds : List Ballot} {news : List (Addr × Obj)}
    (he : l.map (·.1) = Txt.split (sheetS c (rowsOf ds)) (Str.ofString "\n")) (h5 : ds.length ≤ 5) (hh : A.handled = none) (F : Fr h₀ L s.heap m) (N : News h₀ L s.heap news) (hm : (ax, W.listOf (strValues l).toArray k) ∈ news) (hk : scope.kind = .function) (hl : scope.names.lookup x = some .local) (hd : (x == ("__debug__" : Str)) = false)
    (turn : ∀ y t g I oI C oC D m₂ ys h tk (E' : Value → Shared → Prop), LCg.NsObj oC m₂ → m₂ x = some (.str y t) → Fr h₀ L h m → News h₀ L h ((I, oI) :: (C, oC) :: (D, LCg.lst ys) :: news) →
      wpAny (model prog w) A (isTrue ct (compEnvC scope cl C env) (eval ct (compEnvC scope cl C env))) (TestEnd (y != Str.ofString "") h₀ L m { s with heap := h, toks := tk } ((I, oI) :: (C, oC) :: (D, LCg.lst ys) :: news)) E' { ({ s with heap := g } : Shared) with heap := h, toks := tk })
    (fin : ∀ g l', LinesOf c ds l' → Fin { s with heap := g } (strValues l') news) : LCt.CompSrcT prog w A h₀ L m env ct (.Name x px) x scope cl Fin (.ref ax) s := by
  have hlen : (strValues l).length ≤ 6 := by
    have := split_six (c := c) h5
    rw [← he, List.length_map] at this
    simpa [strValues] using this
  refine LCt.CompSrcT.ledger (its := (strValues l).toArray) (k := k) hh F N hm (by rw [List.size_toArray, sizeLine_eq]; omega) fun g => ?_
  refine filter_rest fullV (by rw [List.size_toArray]) hk hl hd (.inr ⟨_, hm, rfl, _, rfl⟩) ?_ ?_
  · intro v hv I oI C oC D m₂ ys h tk E' hC hx F' N'
    obtain ⟨⟨y, t⟩, _, rfl⟩ := List.mem_map.mp hv
    exact turn y t g I oI C oC D m₂ ys h tk E' hC hx F' N'
  · rw [fullV_filter]
    exact fin g _ ⟨by rw [map_full, he]⟩
theorem strs_canLay : ∀ l : List (Str × Tok), (∀ p ∈ l, PyData.strOk p.1 = true) → PyData.canLayAll0 (l.map fun p => PyData.str p.1) = true
  | [], _ => rfl
  | p :: r, h => by
    simp [PyData.canLayAll0, PyData.canLay0, h p List.mem_cons_self, strs_canLay r fun q hq => h q (List.mem_cons_of_mem _ hq)]
theorem strs_depth : ∀ l : List (Str × Tok), PyData.depthAll (l.map fun p => PyData.str p.1) = 0
  | [] => rfl
  | _ :: r => by simp [PyData.depthAll, PyData.depth, strs_depth r]
theorem strs_rpl {G : Addr → Obj → Prop} : ∀ l : List (Str × Tok), RpL G (strValues l) (l.map fun p => PyData.str p.1)
  | [] => .nil
  | (x, t) :: r => .cons (.str x t) (strs_rpl r)
theorem ne_nil_any {D D' : Addr} {l : List (Str × Tok)} {n n' c : Nat} {ds : List Ballot} {news : List (Addr × Obj)} {Q : Value → Shared → Prop} (k : LinesOf c ds l) (N : News h₀ L s.heap news) (m1 : (D, W.listOf (strValues l).toArray n) ∈ news) (m2 : (D', W.listOf (#[] : Array Value) n') ∈ news) (hu : A.units + 64 < cLine)
    (h : Q (.bool (!PyData.eqvAll (l.map fun p => PyData.str p.1) [])) s) : wpAny (model prog w) A (compareOp .NotEq (.ref D) (.ref D')) Q E s := by
  have r1 : Rp (HG s.heap) (.ref D) (.list (l.map fun p => PyData.str p.1)) := .list (HG.of_news N _ _ m1) (strs_rpl l)
  have r2 : Rp (HG s.heap) (.ref D') (.list []) := .list (vs := []) (HG.of_news N _ _ m2) .nil
  obtain ⟨_, q1⟩ := r1.reads
  obtain ⟨_, q2⟩ := r2.reads
  have hs : SeqAt.shaped (.list (l.map fun p => PyData.str p.1)) = true := by
    simp [SeqAt.shaped, PyData.canLay0, PyData.depth, strs_canLay l k.ok, strs_depth]
  refine ne_dataH q1 q2 hs (by rfl) hu ?_
  simp only [PyData.eqv]
  exact h
theorem ne_nil0 {D D' : Addr} {n n' c : Nat} {ds : List Ballot} {news : List (Addr × Obj)} {Q : Value → Shared → Prop} (k : LinesOf c ds []) (N : News h₀ L s.heap news) (m1 : (D, W.listOf (strValues []).toArray n) ∈ news) (m2 : (D', W.listOf (#[] : Array Value) n') ∈ news) (hu : A.units + 64 < cLine)
    (h : Q (.bool false) s) : wpAny (model prog w) A (compareOp .NotEq (.ref D) (.ref D')) Q E s := ne_nil_any k N m1 m2 hu h
theorem ne_nil1 {D D' : Addr} {x : Str} {t : Tok} {l : List (Str × Tok)} {n n' c : Nat} {ds : List Ballot} {news : List (Addr × Obj)} {Q : Value → Shared → Prop} (k : LinesOf c ds ((x, t) :: l)) (N : News h₀ L s.heap news) (m1 : (D, W.listOf (strValues ((x, t) :: l)).toArray n) ∈ news) (m2 : (D', W.listOf (#[] : Array Value) n') ∈ news) (hu : A.units + 64 < cLine)
    (h : Q (.bool true) s) : wpAny (model prog w) A (compareOp .NotEq (.ref D) (.ref D')) Q E s := ne_nil_any k N m1 m2 hu h
/-- the blanks of the first line -/
def XJD (h₀ : Heap) (L : Addr) (m : Str → Option Value) (news : List (Addr × Obj)) (x : Int) (s : Shared) (v : Value) (s' : Shared) : Prop := ∃ u h' tk, v = .int x u ∧ s' = { s with heap := h', toks := tk } ∧ Fr h₀ L h' m ∧ News h₀ L h' news
theorem XJD.mk {news all : List (Addr × Obj)} {x y : Int} {u : Tok} {h' : Heap} {tk : Nat} (F : Fr h₀ L h' m) (N : News h₀ L h' all) (hs : ∀ p ∈ news, p ∈ all) (e : y = x) : XJD h₀ L m news x s (.int y u) ⟨h', s.gens, s.drawn, tk, s.os⟩ :=
  ⟨u, h', tk, by rw [e], rfl, F, fun p hp => N p (hs p hp)⟩
theorem x_joinD {M : Model} {news : List (Addr × Obj)} {c : Nat} {ds : List Ballot} {l : List (Str × Tok)} {t : Sem Value} {Q : Value → Shared → Prop} (_k : LinesOf c ds l) (_F : Fr h₀ L s.heap m) (_N : News h₀ L s.heap news)
    (h0 : l = [] → wpAny M A t (XJD h₀ L m news (depths c (rowsOf ds)) s) E s) (h1 : ∀ x t' l', l = (x, t') :: l' → wpAny M A t (XJD h₀ L m news (depths c (rowsOf ds)) s) E s)
    (h2 : ∀ u h' tk, Fr h₀ L h' m → News h₀ L h' news → Q (.int (depths c (rowsOf ds)) u) { s with heap := h', toks := tk }) : wpAny M A t Q E s := by
  have h : wpAny M A t (XJD h₀ L m news (depths c (rowsOf ds)) s) E s := by
    cases l with
    | nil => exact h0 rfl
    | cons p r => obtain ⟨x, t'⟩ := p; exact h1 x t' r rfl
  exact wpAny_mono h (fun v s' ⟨u, h', tk, e1, e2, F', N'⟩ => by subst e1 e2; exact h2 u h' tk F' N') fun _ _ e => e
end
theorem ballotsV_of {h₀ h : Heap} {L : Addr} {news Rest : List (Addr × Obj)} (N : News h₀ L h news) (hs : ∀ p ∈ Rest, p ∈ news) : ∀ {vs ds}, BallotsN Rest vs ds → BallotsV h vs ds
  | _, _, .nil => .nil
  | _, _, .cons T M n k x y z e t0 t1 t2 t3 m1 m2 i1 i2 i3 i4 r => .cons T M x y z e t0 t1 t2 t3 (N.isTup (hs _ m1)) (N.isList (hs _ m2)) i1 i2 i3 i4 (ballotsV_of N hs r)
theorem ballotsN_snoc {ld : List (Addr × Obj)} {v : Value} {d : Ballot} : ∀ {vs ds}, BallotsN ld vs ds → BallotsN ld [v] [d] → BallotsN ld (vs ++ [v]) (ds ++ [d])
  | _, _, .nil, h => h
  | _, _, .cons T M n k x y z e t0 t1 t2 t3 m1 m2 i1 i2 i3 i4 r, h => .cons T M n k x y z e t0 t1 t2 t3 m1 m2 i1 i2 i3 i4 (ballotsN_snoc r h)
theorem ballotsN_rev {ld : List (Addr × Obj)} : ∀ {vs ds}, BallotsN ld vs ds → BallotsN ld vs.reverse ds.reverse
  | _, _, .nil => .nil
  | _, _, .cons T M n k x y z e t0 t1 t2 t3 m1 m2 i1 i2 i3 i4 r => by
    rw [List.reverse_cons, List.reverse_cons]
    exact ballotsN_snoc (ballotsN_rev r) (.cons T M n k x y z e t0 t1 t2 t3 m1 m2 i1 i2 i3 i4 .nil)
theorem plain_i {w : World} {l : Addr} {T0 T1 T2 T3 T4 : Addr} {d0 d1 d2 d3 d4 : Ballot} {ds : List Ballot} (k : Nat) {v : Int} {t : Tok} (hk : k < 3) (hv : v = (k : Int)) (hd : ds = [d0, d1, d2, d3, d4]) : XC w 150 1 [.ref l, .int v t]
   (fun h => h.IsList l [.ref T0, .ref T1, .ref T2, .ref T3, .ref T4].toArray ∧ BallotsV h [.ref T4, .ref T3, .ref T2, .ref T1, .ref T0] [d4, d3, d2, d1, d0]) (fun tl r => ∃ t', r = .str (sheetS k (rowsOf ds)) t') := by
  subst hv hd
  rw [← plain_is hk]
  exact plain_c w l T0 T1 T2 T3 T4 d0 d1 d2 d3 d4 k t hk
section
variable {prog : Program} {w : World} {A : Around} {E : Value → Shared → Prop} {s : Shared} {h₀ : Heap} {L : Addr} {m : Str → Option Value} {env : Env}
theorem len_S {l : Addr} {ld : List (Addr × Obj)} {sv : List Value} {ds : List (Int × Int × Int)} {Q : Value → Shared → Prop} (k : RowsS ld sv ds) (h5 : sv.length ≤ 5) (hl : s.heap.IsList l sv.toArray) (h : ∀ t tk, Q (.int (ds.length : Int) t) { s with toks := tk }) :
    wpAny (model prog w) A (call (.builtin "len") [.ref l]) Q E s :=
  kun_lenL hl (k := (ds.length : Int)) (by rw [List.size_toArray, k.len]) (by rw [← k.len]; omega) (h _ _)
end
section
variable {prog : Program} {w : World} {A : Around} {E : Value → Shared → Prop} {s : Shared} {h₀ : Heap} {env : Env} {body : List Stmt} {Q : Flow → Shared → Prop}
theorem turn_fix {L : Addr} {ns : List Str} {M m' : Str → Option Value} {its news all : List (Addr × Obj)} {h' : Heap} {tk : Nat} {s₁ : Shared} (F : Fr h₀ L h' m') (N : News h₀ L h' all) (sub : ∀ p ∈ its ++ news, p ∈ all) (off : ∀ p ∈ news, ∀ q ∈ its, p.1 ≠ q.1) (hm : OffN ns m' M) :
    UnrEndW h₀ L s₁ its (fun m' n' => OffN ns m' M ∧ n' = news) { s₁ with heap := h', toks := tk } := ⟨h', tk, m', news, rfl, F, fun p hp => N p (sub p hp), off, hm, rfl⟩
theorem zip_loop {elts : List PySem.Expr} {k : Nat} {pos : Pos} {l1 l2 : Addr} {xs ys : List Value} {n1 n2 : Nat} {M : Str → Option Value} {news : List (Addr × Obj)} (ns : List Str) (hh : A.handled = none) (F : Fr h₀ env.locals s.heap M) (N : News h₀ env.locals s.heap news)
    (hm1 : (l1, W.listOf xs.toArray n1) ∈ news) (hm2 : (l2, W.listOf ys.toArray n2) ∈ news)
    (hz : ∀ m h tk, OffN ns m M → Fr h₀ env.locals h m → News h₀ env.locals h news → Q .next { s with heap := h, toks := tk })
    (hs : ∀ (x y : Value) (i : Nat) (T : Addr) (its : List (Addr × Obj)) m h tk, xs[i]? = some x → ys[i]? = some y → IsTup h T #[x, y] → (∀ p ∈ news, ∀ q ∈ its, p.1 ≠ q.1) → OffN ns m M → Fr h₀ env.locals h m → News h₀ env.locals h (its ++ news) →
      wpAny (model prog w) A (assign (.Tuple elts k pos) env (.ref T)) (fun _ s₂ => wpAny (model prog w) A (execs body env) (UnrPostW h₀ env.locals { s with heap := h, toks := tk } its (fun m' n' => OffN ns m' M ∧ n' = news) Q) E s₂) E { s with heap := h, toks := tk }) :
    wpAny (model prog w) A (call (.type "zip") [.ref l1, .ref l2]) (fun xv s₁ => wpAny (model prog w) A (pyIter xv) (fun it s₂ => TurnsAt prog w A h₀ env (.Tuple elts k pos) body Q E it s₂) E s₁) E s := by
  refine ktu_zip hh F N hm1 rfl rfl hm2 rfl rfl fun I hI => ?_
  refine rest_ind (fun zs m news' => (∃ i, zs = (zipItems xs ys).drop i) ∧ OffN ns m M ∧ news' = news) ?_ ?_ _ _ _ ⟨⟨0, rfl⟩, OffN.refl, rfl⟩
  · rintro m news' ⟨_, hm, rfl⟩ h tk F' N'
    exact hz m h tk hm F' N'
  · rintro a zs m news' ⟨⟨i, e⟩, hm, rfl⟩ v' h tk ha F'
    have hlt : i < (zipItems xs ys).length := by
      rcases Nat.lt_or_ge i (zipItems xs ys).length with h1 | h1
      · exact h1
      · rw [List.drop_eq_nil_of_le h1] at e; cases e
    rw [List.drop_eq_getElem_cons hlt] at e
    obtain ⟨rfl, rfl⟩ := List.cons.inj e
    have hi : i < xs.length ∧ i < ys.length := by
      have := zipItems_length xs ys
      omega
    have hg := zipItems_get xs ys i (List.getElem?_eq_getElem hi.1) (List.getElem?_eq_getElem hi.2)
    rw [List.getElem?_eq_getElem hlt] at hg
    rw [Option.some.inj hg] at ha
    obtain ⟨T, t', rfl, hT⟩ := ha
    intro o1 ho1 o2 ho2 o3 ho3 o4 ho4 o5 ho5 N'
    refine wpAny_mono (hs _ _ i T _ m h tk (List.getElem?_eq_getElem hi.1) (List.getElem?_eq_getElem hi.2) hT (fun p hp q hq => ?_) hm F' N') (fun _ s₂ h₂ => wpAny_mono h₂ (fun f s₃ p => ?_) fun _ _ e => e) fun _ _ e => e
    · have h1 : @LT.lt Nat _ p.1 I := hI p hp
      simp only [List.mem_cons, List.not_mem_nil, or_false] at hq
      rcases hq with rfl | rfl | rfl | rfl | rfl <;> exact Nat.ne_of_lt (by dsimp only; omega)
    have fin : ∀ its, UnrEndW h₀ env.locals { s with heap := h, toks := tk } its (fun m' n' => OffN ns m' M ∧ n' = news') s₃ → UnrEndW h₀ env.locals { s with heap := h, toks := tk } its (fun m' n' => SubL [(l1, W.listOf xs.toArray n1), (l2, W.listOf ys.toArray n2)] n' ∧ (∃ j, (zipItems xs ys).drop (i + 1) = (zipItems xs ys).drop j) ∧ OffN ns m' M ∧ n' = news') s₃ := by
      rintro its ⟨h2, tk2, m2, news2, e2, F2, N2, ho2, hmx, hn2⟩
      subst hn2
      exact ⟨h2, tk2, m2, _, e2, F2, N2, ho2, ⟨hm1, hm2, trivial⟩, ⟨i + 1, rfl⟩, hmx, rfl⟩
    cases f with
    | ret v => exact p
    | brk => exact p
    | next => exact fin _ p
    | cont => exact fin _ p
end
theorem item_sheet {prog : Program} {w : World} {A : Around} {E : Value → Shared → Prop} {s : Shared} {value slice : PySem.Expr} {M : Addr} {rs : List (Option (Int × Int × Int))} {t1 t2 t3 u : Tok} {k : Nat} {Q : Value → Shared → Prop} (hk : k < 3) (hl : s.heap.IsList M [.str (sheetS 0 rs) t1, .str (sheetS 1 rs) t2, .str (sheetS 2 rs) t3].toArray) (h : ∀ t, Q (.str (sheetS k rs) t) s)
    (hs : subscripted slice false (.ref M) (.int (k : Int) u) = operate [.ref M, .int (k : Int) u] (getItem (.ref M) (.int (k : Int) u)) := by with_unfolding_all rfl) : wpAny (model prog w) A (subscriptTail value slice (.ref M) (.int (k : Int) u)) Q E s := by
  rcases (show k = 0 ∨ k = 1 ∨ k = 2 by omega) with rfl | rfl | rfl <;> exact item_litK hl (by decide) (by decide) rfl (h _) hs
theorem item_left {prog : Program} {w : World} {A : Around} {E : Value → Shared → Prop} {s : Shared} {value slice : PySem.Expr} {M : Addr} {ds : List Ballot} {t1 t2 t3 u : Tok} {k : Nat} {Q : Value → Shared → Prop} (hk : k < 3) (hl : s.heap.IsList M [.int (leftL ds 0) t1, .int (leftL ds 1) t2, .int (leftL ds 2) t3].toArray) (h : ∀ t, Q (.int (leftL ds k) t) s)
    (hs : subscripted slice false (.ref M) (.int (k : Int) u) = operate [.ref M, .int (k : Int) u] (getItem (.ref M) (.int (k : Int) u)) := by with_unfolding_all rfl) : wpAny (model prog w) A (subscriptTail value slice (.ref M) (.int (k : Int) u)) Q E s := by
  rcases (show k = 0 ∨ k = 1 ∨ k = 2 by omega) with rfl | rfl | rfl <;> exact item_litK hl (by decide) (by decide) rfl (h _) hs
theorem item_next {prog : Program} {w : World} {A : Around} {E : Value → Shared → Prop} {s : Shared} {value slice : PySem.Expr} {M : Addr} {ds : List Ballot} {t1 t2 t3 u : Tok} {k : Nat} {Q : Value → Shared → Prop} (hk : k < 3) (hl : s.heap.IsList M [.int (leftL ds 0) t1, .int (leftL ds 1) t2, .int (leftL ds 2) t3].toArray) (h : ∀ t, Q (.int (leftL ds ((k + 1) % 3)) t) s)
    (hs : subscripted slice false (.ref M) (.int (((k : Int) + 1).fmod 3) u) = operate [.ref M, .int (((k : Int) + 1).fmod 3) u] (getItem (.ref M) (.int (((k : Int) + 1).fmod 3) u)) := by with_unfolding_all rfl) : wpAny (model prog w) A (subscriptTail value slice (.ref M) (.int (((k : Int) + 1).fmod 3) u)) Q E s := by
  rcases (show k = 0 ∨ k = 1 ∨ k = 2 by omega) with rfl | rfl | rfl <;> exact item_litK hl (by decide) (by decide) rfl (h _) hs
theorem depth_k {ds : List Ballot} {k : Nat} (hk : k < 3) (h : ∀ d ∈ ds, MarksOk d) : depths k (rowsOf ds) = 2 * (((rowsOf ds).filterMap id).length : Int) - (leftL ds k - leftL ds ((k + 1) % 3)) := by
  have := depth_eqs h
  rcases (show k = 0 ∨ k = 1 ∨ k = 2 by omega) with rfl | rfl | rfl
  · exact this.1
  · exact this.2.1
  · exact this.2.2
/-- what is drawn with its place -/
theorem drawn_at {ld : List (Addr × Obj)} : ∀ {ds : List Ballot} {pv cv : List Value}, VsP pv (ds.map placeOf) → MarksL ld cv ds → ∀ {i : Nat} {x y : Value}, pv[i]? = some x → cv[i]? = some y →
    ∃ q n a b c t1 t2 t3, y = .ref q ∧ (q, W.listOf [Value.int a t1, .int b t2, .int c t3].toArray n) ∈ ld ∧ (0 ≤ a ∧ a ≤ 8) ∧ (0 ≤ b ∧ b ≤ 8) ∧ (0 ≤ c ∧ c ≤ 8) ∧ ((placeZ a b c = none ∧ x = .none) ∨ ∃ p t, placeZ a b c = some p ∧ x = .int p t)
  | [], _, _, _, .nil, i, _, _, _, h => by simp at h
  | d :: r, _, _, hp, .cons q n _ t1 t2 t3 m ok rm, 0, x, y, h1, h2 => by
    have hy : Value.ref q = y := by simpa using h2
    refine ⟨q, n, d.1.1, d.1.2.1, d.1.2.2, t1, t2, t3, hy.symm, m, ok.1, ok.2.1, ok.2.2, ?_⟩
    generalize e : placeOf d = o at hp
    rw [List.map_cons, e] at hp
    cases hp with
    | none _ => exact .inl ⟨e, by simpa using h1.symm⟩
    | int p t _ => exact .inr ⟨p, t, e, by simpa using h1.symm⟩
  | d :: r, _, _, hp, .cons q n _ t1 t2 t3 m ok rm, i + 1, x, y, h1, h2 => by
    rw [List.map_cons] at hp
    generalize placeOf d = o at hp
    cases hp with
    | none hp => exact drawn_at hp rm (i := i) (by simpa using h1) (by simpa using h2)
    | int p t hp => exact drawn_at hp rm (i := i) (by simpa using h1) (by simpa using h2)
section
variable {prog : Program} {w : World} {A : Around} {E : Value → Shared → Prop} {s : Shared} {h₀ : Heap} {env : Env} {body : List Stmt} {Q : Flow → Shared → Prop}
theorem zip_drawn {elts : List PySem.Expr} {k : Nat} {pos : Pos} {l1 l2 : Addr} {xs ys : List Value} {n1 n2 : Nat} {M : Str → Option Value} {news Rest : List (Addr × Obj)} {ds : List Ballot} (ns : List Str) (kP : VsP xs (placesOf ds)) (kM : MarksL Rest ys (countedB ds)) (hh : A.handled = none) (F : Fr h₀ env.locals s.heap M) (N : News h₀ env.locals s.heap news)
    (hm1 : (l1, W.listOf xs.toArray n1) ∈ news) (hm2 : (l2, W.listOf ys.toArray n2) ∈ news) (hR : ∀ p ∈ Rest, p ∈ news)
    (hz : ∀ m h tk, OffN ns m M → Fr h₀ env.locals h m → News h₀ env.locals h news → Q .next { s with heap := h, toks := tk })
    (hs0 : ∀ (q : Addr) (n : Nat) (a b c : Int) (t1 t2 t3 : Tok) (T : Addr) (its : List (Addr × Obj)) m h tk, 0 ≤ a ∧ a ≤ 8 → 0 ≤ b ∧ b ≤ 8 → 0 ≤ c ∧ c ≤ 8 → placeZ a b c = none → IsTup h T #[.none, .ref q] → (∀ p ∈ news, ∀ q ∈ its, p.1 ≠ q.1) → OffN ns m M → Fr h₀ env.locals h m → News h₀ env.locals h ((q, W.listOf [Value.int a t1, .int b t2, .int c t3].toArray n) :: (its ++ news)) →
      wpAny (model prog w) A (assign (.Tuple elts k pos) env (.ref T)) (fun _ s₂ => wpAny (model prog w) A (execs body env) (UnrPostW h₀ env.locals { s with heap := h, toks := tk } its (fun m' n' => OffN ns m' M ∧ n' = news) Q) E s₂) E { s with heap := h, toks := tk })
    (hs1 : ∀ (p : Int) (t : Tok) (q : Addr) (n : Nat) (a b c : Int) (t1 t2 t3 : Tok) (T : Addr) (its : List (Addr × Obj)) m h tk, 0 ≤ a ∧ a ≤ 8 → 0 ≤ b ∧ b ≤ 8 → 0 ≤ c ∧ c ≤ 8 → placeZ a b c = some p → IsTup h T #[.int p t, .ref q] → (∀ p ∈ news, ∀ q ∈ its, p.1 ≠ q.1) → OffN ns m M → Fr h₀ env.locals h m → News h₀ env.locals h ((q, W.listOf [Value.int a t1, .int b t2, .int c t3].toArray n) :: (its ++ news)) →
      wpAny (model prog w) A (assign (.Tuple elts k pos) env (.ref T)) (fun _ s₂ => wpAny (model prog w) A (execs body env) (UnrPostW h₀ env.locals { s with heap := h, toks := tk } its (fun m' n' => OffN ns m' M ∧ n' = news) Q) E s₂) E { s with heap := h, toks := tk }) :
    wpAny (model prog w) A (call (.type "zip") [.ref l1, .ref l2]) (fun xv s₁ => wpAny (model prog w) A (pyIter xv) (fun it s₂ => TurnsAt prog w A h₀ env (.Tuple elts k pos) body Q E it s₂) E s₁) E s := by
  refine zip_loop ns hh F N hm1 hm2 hz ?_
  intro x y i T its m h tk hx hy hT ho hm F' N'
  obtain ⟨q, n, a, b, c, t1, t2, t3, rfl, mq, ia, ib, ic, hc⟩ := drawn_at kP kM hx hy
  have N2 := News.dup N' (List.mem_append_right its (hR _ mq))
  rcases hc with ⟨hz', rfl⟩ | ⟨p, t, hz', rfl⟩
  · exact hs0 q n a b c t1 t2 t3 T its m h tk ia ib ic hz' hT ho hm F' N2
  · exact hs1 p t q n a b c t1 t2 t3 T its m h tk ia ib ic hz' hT ho hm F' N2
end
section
theorem kw_46 : True := by
  w_top off
  k_with_none
  k_with "x mem" => (first | (with_reducible assumption) | (with_reducible exact List.mem_cons_self) | (refine' List.mem_cons_of_mem _ ?_; k_extra "x mem") | (refine' List.mem_append_left _ ?_; k_extra "x mem") | (refine' List.mem_append_right _ ?_; k_extra "x mem"))
  k_with "x enter" => ((
  refine' xc_def ?k6r362 ?k7r362 ?k8r362 (fun s => ?k9r362) ?kBr362 ?c5r362 ?c2r362 ?c3r362 ?c4r362 ?_
  (case k6r362 => k_is)
  (case k7r362 => k_is)
  (case k8r362 => decide)
  (case k9r362 => exact BindsTo.of_eq rfl)
  (case c5r362 => decide)
  (case kBr362 => exact locs rfl)
  (case c2r362 => exact rfl)
  (case c3r362 => exact rfl)
  (case c4r362 => exact rfl)
  intro loosezq meanzq mgzq mbzq dpzq unzq gdzq cnzq cszq Lzq azq ccdzq clzq outerzq basezq gzq L'zq h'zq gszq drzq oszq tkzq Ezq F'zq N'zq B'zq X'zq T'zq hpzq hdzq huzq
  (try dsimp only) 
  (try k_fold)))
  k_with "x sides" => ((
  (case k1 => k_asm)
  (case k2 => k_asm)
  (case k3 => k_asm)
  (case k4 => k_asm)
  (case k5 => k_asm)
  (case kK => first | exact rfl | assumption)
  (case kd => ktr_room)
  (case ku => ktr_units)))
  k_with "subscriptTail Name Constant ref int" => ((k_here; k_dflt ((with_reducible show wpAny _ _ (subscriptTail _ _ (Value.ref _) (Value.int _ _)) _ _ _); (with_unfolding_all refine' item_litK ?k1r364 ?k2r364 ?k3r364 ?k4r364 ?_ ?k6r364; (case k1r364 => is_list); (case k2r364 => decide); (case k3r364 => decide); (case k4r364 => rfl); (case k6r364 => with_unfolding_all rfl)))))
  k_with "subscriptTail Name BinOp ref int" => ((k_here; k_dflt ((with_reducible show wpAny _ _ (subscriptTail _ _ (Value.ref _) (Value.int _ _)) _ _ _); (with_unfolding_all refine' item_litK ?k1r365 ?k2r365 ?k3r365 ?k4r365 ?_ ?k6r365; (case k1r365 => is_list); (case k2r365 => decide); (case k3r365 => decide); (case k4r365 => rfl); (case k6r365 => with_unfolding_all rfl)))))
  k_with "subscriptTail Name Name ref int" => ((k_here; k_dflt ((with_reducible show wpAny _ _ (subscriptTail _ _ (Value.ref _) (Value.int _ _)) _ _ _); (with_unfolding_all refine' item_litK ?k1r366 ?k2r366 ?k3r366 ?k4r366 ?_ ?k6r366; (case k1r366 => is_list); (case k2r366 => decide); (case k3r366 => decide); (case k4r366 => rfl); (case k6r366 => with_unfolding_all rfl)))))
  k_with "eval Name" => ((k_here; dsimp only))
  k_with "x enterK" => ((
  refine' xc_defK ?k6r368 ?k7r368 ?k8r368 ?k9r368 ?kBr368 ?c5r368 ?c2r368 ?c3r368 ?c4r368 ?_
  (case k6r368 => k_is)
  (case k7r368 => k_is)
  (case k8r368 => decide)
  (case k9r368 => exact fun _ => rfl)
  (case c5r368 => decide)
  (case kBr368 => exact locs rfl)
  (case c2r368 => exact rfl)
  (case c3r368 => exact rfl)
  (case c4r368 => exact rfl)
  intro loosezq meanzq mgzq mbzq dpzq unzq gdzq cnzq cszq Lzq azq ccdzq clzq outerzq basezq gzq L'zq h'zq gszq drzq oszq tkzq Ezq F'zq N'zq B'zq X'zq T'zq hpzq hdzq huzq
  (try dsimp only) 
  (try k_fold)))
  k_with "x enterC" => ((
  refine' xc_defC ?k6r369 ?k7r369 ?k8r369 ?k9r369 ?kBr369 ?kDr369 ?c2r369 ?c3r369 ?c4r369 ?_
  (case k6r369 => k_is)
  (case k7r369 => k_is)
  (case k8r369 => decide)
  (case k9r369 => exact fun _ => rfl)
  (case kBr369 => exact rfl)
  (case kDr369 => decide +kernel)
  (case c2r369 => exact rfl)
  (case c3r369 => exact rfl)
  (case c4r369 => exact rfl)
  intro loosezq meanzq mgzq mbzq dpzq unzq gdzq cnzq cszq Lzq azq ccdzq clzq outerzq basezq gzq L'zq h'zq gszq drzq oszq tkzq Ezq cells'zq F'zq N'zq Y'zq B'zq X'zq T'zq hpzq hdzq huzq
  k_cells Y'zq
  (try simp only [List.cons_append, List.nil_append] at N'zq)
  (try dsimp only) 
  (try k_fold)))
  k_with "x for" => ((k_here; (rename Fr _ _ _ _ => lF'zq); (with_unfolding_all refine' For_turns lF'zq ?_; k_whole)))
  k_with "x walk" => ((repeat' ((fail_if_success (with_reducible show wpAny _ _ (pyIter (Value.ref _)) (fun it s₂ => TurnsAt _ _ _ _ _ _ _ _ _ it s₂) _ _)); first | (k_unfold; (try dsimp only)) | (k_end; wrow_close) | walk1 | (dsimp only; walk1) | (leave1; walk_say "STEP leave1"; try dsimp only) | fail "no step")))
  k_with "x walkA" => ((repeat' ((fail_if_success (with_reducible show wpAny _ _ (pyIter (Value.ref _)) (fun it s₂ => TurnsAt _ _ _ _ _ _ _ _ _ it s₂) _ _)); (fail_if_success (with_reducible show wpAny _ _ (call (Value.builtin "list.append") _) _ _ _)); first | (k_unfold; (try dsimp only)) | (k_end; wrow_close) | walk1 | (dsimp only; walk1) | (leave1; walk_say "STEP leave1"; try dsimp only) | fail "no step")))
  k_with "x off2" => ((intro y'zq hy'zq; simp only [List.mem_cons, List.not_mem_nil, not_or, or_false] at hy'zq; obtain ⟨h1'zq, h2'zq⟩ := hy'zq; simp only [h1'zq, h2'zq, if_false]))
  k_with "x off3" => ((intro y'zq hy'zq; simp only [List.mem_cons, List.not_mem_nil, not_or, or_false] at hy'zq; obtain ⟨h1'zq, h2'zq, h3'zq⟩ := hy'zq; simp only [h1'zq, h2'zq, h3'zq, if_false]))
  k_with "x sel" => (((rename _ < 3 => kizq); k_dflt (first
  | ((refine' item_sel kizq ?k1r375 ?_ ?k6r375); (case k1r375 => is_list); (case k6r375 => with_unfolding_all rfl); intro t'zq)
  | ((refine' item_sel1 kizq ?k1r375 ?_ ?k6r375); (case k1r375 => is_list); (case k6r375 => with_unfolding_all rfl); intro t'zq)
  | ((refine' item_sel2 kizq ?k1r375 ?_ ?k6r375); (case k1r375 => is_list); (case k6r375 => with_unfolding_all rfl); intro t'zq))))
  k_with "x append" => (((refine' append_L ?k1r376 ?k2r376 ?k3r376 ?zr376 ?_; (case k1r376 => k_asm); (case k2r376 => k_asm); (case k3r376 => k_upd); (case zr376 => assumption)); intro h'zq F'zq N'zq; (try dsimp only)))
  trivial
def AllNe (d : Nat) : List (Addr × Obj) → Prop
  | [] => True
  | p :: r => @Ne Nat d p.1 ∧ AllNe d r
theorem allNe_of {q : Addr × Obj} : ∀ {l : List (Addr × Obj)}, (∀ p ∈ l, q.1 ≠ p.1) → AllNe q.1 l
  | [], _ => trivial
  | p :: _, h => ⟨h p (.head _), allNe_of fun q hq => h q (.tail _ hq)⟩
theorem News.pick2 {h₀ : Heap} {L : Addr} {h : Heap} {tl news : List (Addr × Obj)} {q q' : Addr × Obj} (N : News h₀ L h (tl ++ news)) (hm : q ∈ tl) (hm' : q' ∈ tl) : News h₀ L h (q :: q' :: news) := fun p hp => by
  rcases List.mem_cons.mp hp with rfl | hp
  · exact N _ (List.mem_append_left _ hm)
  · rcases List.mem_cons.mp hp with rfl | hp
    · exact N _ (List.mem_append_left _ hm')
    · exact N _ (List.mem_append_right _ hp)
def Cut (tl news : List (Addr × Obj)) : Prop := ∀ p ∈ tl, ∀ q ∈ news, p.1 ≠ q.1
theorem AllNe.ne {d a : Addr} {o : Obj} : ∀ {l : List (Addr × Obj)}, AllNe d l → (a, o) ∈ l → @Ne Nat d a
  | _ :: _, h, .head _ => h.1
  | _ :: _, h, .tail _ m => AllNe.ne h.2 m
theorem ints3_el {v : List Value} {a b c : Int} {C : List Value → Prop} (hv : IntsAre v [a, b, c]) (k : ∀ t0 t1 t2, C [.int a t0, .int b t1, .int c t2]) : C v := by
  obtain ⟨t0, t1, t2, rfl⟩ := ints3' hv
  exact k t0 t1 t2
theorem three_ways {h : Int} {C : Prop} (ih : 0 ≤ h ∧ h ≤ 9) (k0 : 0 ≤ h ∧ h ≤ 5 → C) (k1 : 6 ≤ h ∧ h ≤ 8 → C) (k2 : h = 9 → C) : C := by
  rcases (show (0 ≤ h ∧ h ≤ 5) ∨ (6 ≤ h ∧ h ≤ 8) ∨ h = 9 by omega) with hh | hh | hh
  · exact k0 hh
  · exact k1 hh
  · exact k2 hh
section
variable {w : World} {E : Value → Shared → Prop} {s : Shared} {base h₀ : Heap} {L : Addr} {m : Str → Option Value} {news : List (Addr × Obj)} {f : Addr} {sz : Nat} {vs : List Value} {Pre : Heap → Prop}
  {loose : List Str} {mean : ExcName → Option Value} {mg mb : Str → Option Value} {dp un : Nat} {gd : Option (List Code)} {cn : Str} {cs : Scope} {a : Addr} {ccd : Value} {cl : List (Str × Addr)} {outer : List Env} {A₀ : Around} {Q : Value → Shared → Prop}
theorem use_told3 {x y z : Int} {b : Bool} {st : Str} (C : XC w f sz vs Pre (ToldPost [x, y, z] b st)) (B : Below A₀ base outer h₀) (F : Fr h₀ L s.heap m) (X : (Mine.hd.heap_39 w.params).In h₀) (N : News h₀ L s.heap news) (T : Top Mine.hd.view_39 loose mean mg mb h₀) (hk : cs.kind = .function) (hp : Pre s.heap) (hd : dp + sz < recursionLimit) (hu : un + 8 * sz < cLine)
    (ret : ∀ T X n n' u u1 u2 u3 h' tk', Fr h₀ L h' m → News h₀ L h' ((T, tupOf [Value.ref X, .bool b, .str st u].toArray n) :: (X, W.listOf [Value.int x u1, .int y u2, .int z u3].toArray n') :: news) → AllNe T news → AllNe X news → Q (.ref T) { s with heap := h', toks := tk' }) : wpAny (model PySem.Challenge.rw_xe0005_01.row.prog w) (ktrTop dp un gd cn cs L a ccd cl outer) (call (.ref f) vs) Q E s :=
  xc_use C B F X N T hk hp hd hu fun r tl h' tk' F' N' a' p => by
    obtain ⟨T', X', ws, u, n, n', rfl, m1, m2, i⟩ := p
    obtain ⟨u1, u2, u3, rfl⟩ := ints3' i
    exact ret T' X' n n' u u1 u2 u3 h' tk' F' (News.pick2 N' m1 m2) (allNe_of (a' _ m1)) (allNe_of (a' _ m2))
theorem use_told4 {x y z e : Int} {b : Bool} {st : Str} (C : XC w f sz vs Pre (ToldPost [x, y, z, e] b st)) (B : Below A₀ base outer h₀) (F : Fr h₀ L s.heap m) (X : (Mine.hd.heap_39 w.params).In h₀) (N : News h₀ L s.heap news) (T : Top Mine.hd.view_39 loose mean mg mb h₀) (hk : cs.kind = .function) (hp : Pre s.heap) (hd : dp + sz < recursionLimit) (hu : un + 8 * sz < cLine)
    (ret : ∀ T X n n' u u1 u2 u3 u4 h' tk', Fr h₀ L h' m → News h₀ L h' ((T, tupOf [Value.ref X, .bool b, .str st u].toArray n) :: (X, W.listOf [Value.int x u1, .int y u2, .int z u3, .int e u4].toArray n') :: news) → AllNe T news → AllNe X news → Q (.ref T) { s with heap := h', toks := tk' }) : wpAny (model PySem.Challenge.rw_xe0005_01.row.prog w) (ktrTop dp un gd cn cs L a ccd cl outer) (call (.ref f) vs) Q E s :=
  xc_use C B F X N T hk hp hd hu fun r tl h' tk' F' N' a' p => by
    obtain ⟨T', X', ws, u, n, n', rfl, m1, m2, i⟩ := p
    obtain ⟨u1, u2, u3, u4, rfl⟩ := ints4 i
    exact ret T' X' n n' u u1 u2 u3 u4 h' tk' F' (News.pick2 N' m1 m2) (allNe_of (a' _ m1)) (allNe_of (a' _ m2))
theorem use_due {l : Addr} {b : Bool} {st : Str} (C : XC w f sz vs Pre (DuePost l b st)) (B : Below A₀ base outer h₀) (F : Fr h₀ L s.heap m) (X : (Mine.hd.heap_39 w.params).In h₀) (N : News h₀ L s.heap news) (T : Top Mine.hd.view_39 loose mean mg mb h₀) (hk : cs.kind = .function) (hp : Pre s.heap) (hd : dp + sz < recursionLimit) (hu : un + 8 * sz < cLine)
    (ret : ∀ T n u h' tk', Fr h₀ L h' m → News h₀ L h' ((T, tupOf [Value.ref l, .bool b, .str st u].toArray n) :: news) → AllNe T news → Q (.ref T) { s with heap := h', toks := tk' }) : wpAny (model PySem.Challenge.rw_xe0005_01.row.prog w) (ktrTop dp un gd cn cs L a ccd cl outer) (call (.ref f) vs) Q E s :=
  xc_use C B F X N T hk hp hd hu fun r tl h' tk' F' N' a' p => by
    obtain ⟨T', u, n, rfl, m1⟩ := p
    exact ret T' n u h' tk' F' (News.pick N' m1) (allNe_of (a' _ m1))
theorem use_signs {x y z : Int} (C : XC w f sz vs Pre (fun tl r => ∃ l' n u1 u2 u3, r = .ref l' ∧ (l', W.listOf [Value.int x u1, .int y u2, .int z u3].toArray n) ∈ tl)) (B : Below A₀ base outer h₀) (F : Fr h₀ L s.heap m) (X : (Mine.hd.heap_39 w.params).In h₀) (N : News h₀ L s.heap news) (T : Top Mine.hd.view_39 loose mean mg mb h₀) (hk : cs.kind = .function) (hp : Pre s.heap) (hd : dp + sz < recursionLimit) (hu : un + 8 * sz < cLine)
    (ret : ∀ l' n u1 u2 u3 h' tk', Fr h₀ L h' m → News h₀ L h' ((l', W.listOf [Value.int x u1, .int y u2, .int z u3].toArray n) :: news) → AllNe l' news → Q (.ref l') { s with heap := h', toks := tk' }) : wpAny (model PySem.Challenge.rw_xe0005_01.row.prog w) (ktrTop dp un gd cn cs L a ccd cl outer) (call (.ref f) vs) Q E s :=
  xc_use_l3 C B F X N T hk hp hd hu fun l' n u1 u2 u3 h' tk' F' N' a' => ret l' n u1 u2 u3 h' tk' F' N' (allNe_of (q := (l', W.listOf [Value.int x u1, .int y u2, .int z u3].toArray n)) a')
theorem use_ballots (C : XC w f sz vs Pre BallotsPost) (B : Below A₀ base outer h₀) (F : Fr h₀ L s.heap m) (X : (Mine.hd.heap_39 w.params).In h₀) (N : News h₀ L s.heap news) (T : Top Mine.hd.view_39 loose mean mg mb h₀) (hk : cs.kind = .function) (hp : Pre s.heap) (hd : dp + sz < recursionLimit) (hu : un + 8 * sz < cLine)
    (ret : ∀ B' n T0 T1 T2 T3 T4 d0 d1 d2 d3 d4 tl h' tk', Fr h₀ L h' m → News h₀ L h' ((B', W.listOf [Value.ref T0, .ref T1, .ref T2, .ref T3, .ref T4].toArray n) :: (news ++ tl)) → (B', W.listOf [Value.ref T0, .ref T1, .ref T2, .ref T3, .ref T4].toArray n) ∈ tl → Cut tl news → BallotsN tl [.ref T0, .ref T1, .ref T2, .ref T3, .ref T4] [d0, d1, d2, d3, d4] → Q (.ref B') { s with heap := h', toks := tk' }) : wpAny (model PySem.Challenge.rw_xe0005_01.row.prog w) (ktrTop dp un gd cn cs L a ccd cl outer) (call (.ref f) vs) Q E s :=
  xc_use C B F X N T hk hp hd hu fun r tl h' tk' F' N' a' p => by
    obtain ⟨B', n, T0, T1, T2, T3, T4, d0, d1, d2, d3, d4, rfl, mB, hB⟩ := p
    exact ret B' n T0 T1 T2 T3 T4 d0 d1 d2 d3 d4 tl h' tk' F' (News.front N' mB) mB a' hB
end
def Apart (P C R K I : Nat) (news : List (Addr × Obj)) : Prop := ∀ p ∈ news, @Ne Nat p.1 P ∧ @Ne Nat p.1 C ∧ @Ne Nat p.1 R ∧ @Ne Nat p.1 K ∧ @Ne Nat p.1 I
structure LawSt (vs₀ : List Value) (ds done : List Ballot) (pv cv rv : List Value) (Rest : List (Addr × Obj)) : Prop where
  all : BallotsN Rest vs₀ ds
  five : done.length ≤ 5
  places : VsP pv (placesOf done)
  marks : MarksL Rest cv (countedB done)
  rows : RowsL Rest rv (rowsOf done)
def LawInv (vs₀ : List Value) (ds : List Ballot) (P C R B K : Addr) (lo ko : Obj) (M : Str → Option Value) (I : Addr) (rem : List Value) (m : Str → Option Value) (news : List (Addr × Obj)) : Prop :=
  ∃ ds' done pv cv rv n1 n2 n3 Rest, BallotsN Rest rem ds' ∧ done ++ ds' = ds ∧ LawSt vs₀ ds done pv cv rv Rest ∧ OffN [Str.ofString "marks", Str.ofString "head", Str.ofString "told"] m M ∧
    Apart P C R K I Rest ∧ news = (R, W.listOf rv.toArray n3) :: (C, W.listOf cv.toArray n2) :: (P, W.listOf pv.toArray n1) :: (B, lo) :: (K, ko) :: Rest
theorem headS_ok {h : Int} (h0 : 0 ≤ h ∧ h ≤ 9) : PyData.strOk (headS h) = true := by
  have : h = 0 ∨ h = 1 ∨ h = 2 ∨ h = 3 ∨ h = 4 ∨ h = 5 ∨ h = 6 ∨ h = 7 ∨ h = 8 ∨ h = 9 := by omega
  rcases this with rfl | rfl | rfl | rfl | rfl | rfl | rfl | rfl | rfl | rfl <;> decide +kernel
section
variable {prog : Program} {w : World} {A : Around} {E : Value → Shared → Prop} {s : Shared} {h₀ : Heap} {L : Addr} {news : List (Addr × Obj)}
theorem ne_told {T X T' X' : Addr} {v : Bool} {x : Str} {u u' : Tok} {n n' k k' : Nat} {ws ws' : List Value} {zs : List Int} {Q : Value → Shared → Prop} (N : News h₀ L s.heap news) (m1 : (T, tupOf [Value.ref X, .bool v, .str x u].toArray n) ∈ news) (m2 : (T', tupOf [Value.ref X', .bool v, .str x u'].toArray n') ∈ news)
    (m3 : (X, W.listOf ws.toArray k) ∈ news) (m4 : (X', W.listOf ws'.toArray k') ∈ news) (i : IntsAre ws zs) (i' : IntsAre ws' zs) (hx : PyData.strOk x = true) (hu : A.units + 64 < cLine) (h : Q (.bool false) s) :
    wpAny (model prog w) A (compareOp .NotEq (.ref T) (.ref T')) Q E s := by
  have r1 : Rp (HG s.heap) (.ref T) (.tuple [.list (zs.map .int), .bool v, .str x]) := .tuple (HG.of_news N _ _ m1) (.cons (.list (HG.of_news N _ _ m3) (ints_rpl i)) (.cons (.bool v) (.cons (.str x u) .nil)))
  have r2 : Rp (HG s.heap) (.ref T') (.tuple [.list (zs.map .int), .bool v, .str x]) := .tuple (HG.of_news N _ _ m2) (.cons (.list (HG.of_news N _ _ m4) (ints_rpl i')) (.cons (.bool v) (.cons (.str x u') .nil)))
  obtain ⟨_, q1⟩ := r1.reads
  obtain ⟨_, q2⟩ := r2.reads
  have hs : SeqAt.shaped (.tuple [.list (zs.map .int), .bool v, .str x]) = true := by
    simp [SeqAt.shaped, PyData.canLay0, PyData.canLayAll0, PyData.depth, PyData.depthAll, ke_canLayAll0, ke_depthAll, hx]
  refine ne_dataH q1 q2 hs hs hu ?_
  have e : PyData.eqv (.tuple [.list (zs.map .int), .bool v, .str x]) (.tuple [.list (zs.map .int), .bool v, .str x]) = true := by
    simp [PyData.eqv, PyData.eqvAll, ked_eqvAll]
  rw [e]
  exact h
end
theorem kw_47 : True := by
  k_with "compareOp NotEq ref ref" => ((k_here; k_dflt ((refine' ne_told ?Nr377 ?k1r377 ?k2r377 ?k3r377 ?k4r377 ?k5r377 ?k6r377 ?kxr377 ?k7r377 ?_; (case Nr377 => k_asm); (case k1r377 => k_mem); (case k2r377 => k_mem); (case k3r377 => k_mem); (case k4r377 => k_mem); (case k5r377 => l_ints); (case k6r377 => l_ints); (case kxr377 => first | exact headS_ok (by omega) | decide +kernel); (case k7r377 => ke_room)); (try dsimp only))))
  trivial
section
variable {w : World} {l : Addr} {a b c h : Int} {t1 t2 t3 t : Tok}
theorem written_i (h0 : 0 ≤ h ∧ h ≤ 9) (ha : 0 ≤ a ∧ a ≤ 8) (hb : 0 ≤ b ∧ b ≤ 8) (hc : 0 ≤ c ∧ c ≤ 8) : XC w 89 2 [.ref l, .int h t] (fun h => h.IsList l [.int a t1, .int b t2, .int c t3].toArray) (fun _ r => ∃ u, r = .str (wroteS h a b c) u) := written_c w l a b c t1 t2 t3 h t h0 ha hb hc
theorem due_yes_i (h0 : 0 ≤ h ∧ h ≤ 5) : XC w 96 2 [.ref l, .int h t] (fun h => h.IsList l [.int a t1, .int b t2, .int c t3].toArray) (DuePost l true (headS h)) := due_yes w l a b c t1 t2 t3 h t h0
theorem due_no_i (h0 : 6 ≤ h ∧ h ≤ 8) : XC w 96 2 [.ref l, .int h t] (fun h => h.IsList l [.int a t1, .int b t2, .int c t3].toArray) (DuePost l false (headS h)) := due_no w l a b c t1 t2 t3 h t h0
theorem due_nine_i (h0 : h = 9) : XC w 96 2 [.ref l, .int h t] (fun h => h.IsList l [.int a t1, .int b t2, .int c t3].toArray) (Due9Post [7, a, b, c]) := due_nine w l a b c t1 t2 t3 h t h0
theorem place_i (ha : 0 ≤ a ∧ a ≤ 8) (hb : 0 ≤ b ∧ b ≤ 8) (hc : 0 ≤ c ∧ c ≤ 8) : XC w 110 2 [.ref l] (fun h => h.IsList l [.int a t1, .int b t2, .int c t3].toArray) (fun _ r => PlacePost a b c r) := place_c w l a b c t1 t2 t3 ha hb hc
theorem signs_i : XC w 124 1 [.ref l] (fun h => h.IsList l [.int a t1, .int b t2, .int c t3].toArray)
    (fun tl r => ∃ l' n u1 u2 u3, r = .ref l' ∧ (l', W.listOf [Value.int (Int.sign (b - c)) u1, .int (Int.sign (c - a)) u2, .int (Int.sign (a - b)) u3].toArray n) ∈ tl) := signs_c w l a b c t1 t2 t3
end
theorem kw_48 : True := by
  k_with "call ref" => ((k_here; (with_reducible show wpAny _ _ (call (Value.ref 75) [Value.ref _]) _ _ _); k_dflt (
  (refine' use_ballots (ballots_c _ _ _ _ (by assumption) ?a1r378) ?k1r378 ?k2r378 ?k3r378 ?k4r378 ?k5r378 ?kKr378 ?kpr378 ?kdr378 ?kur378 ?_); (case a1r378 => omega); (case kpr378 => is_list); (
  (case k1r378 => k_asm)
  (case k2r378 => k_asm)
  (case k3r378 => k_asm)
  (case k4r378 => k_asm)
  (case k5r378 => k_asm)
  (case kKr378 => first | exact rfl | assumption)
  (case kdr378 => ktr_room)
  (case kur378 => ktr_units)); intro Bzq nBzq T0zq T1zq T2zq T3zq T4zq d0zq d1zq d2zq d3zq d4zq tl'zq h'zq tk'zq F'zq N'zq mBzq aBzq hBzq; (try dsimp only [List.cons_append, List.nil_append] at N'zq); (try dsimp only))))
  k_with "call ref" => ((k_here; (with_reducible show wpAny _ _ (call (Value.ref 89) [Value.ref _, Value.int _ _]) _ _ _); k_dflt (
  (refine' xc_use_str (written_i ?a1r379 ?a2r379 ?a3r379 ?a4r379) ?k1r379 ?k2r379 ?k3r379 ?k4r379 ?k5r379 ?kKr379 ?kpr379 ?kdr379 ?kur379 ?_); (case kpr379 => is_list); (case a1r379 => assumption); (case a2r379 => assumption); (case a3r379 => assumption); (case a4r379 => assumption); (
  (case k1r379 => k_asm)
  (case k2r379 => k_asm)
  (case k3r379 => k_asm)
  (case k4r379 => k_asm)
  (case k5r379 => k_asm)
  (case kKr379 => first | exact rfl | assumption)
  (case kdr379 => ktr_room)
  (case kur379 => ktr_units)); intro t'zq h'zq tk'zq F'zq N'zq; (try dsimp only))))
  k_with "call ref" => ((k_here; (with_reducible show wpAny _ _ (call (Value.ref 103) [Value.str _ _]) _ _ _); k_dflt (first
  | ((refine' use_told3 (told_yes _ _ _ _ _ _ ?a2r380 ?a3r380 ?a4r380 ?a1r380) ?k1r380 ?k2r380 ?k3r380 ?k4r380 ?k5r380 ?kKr380 trivial ?kdr380 ?kur380 ?_); (case a1r380 => assumption); (case a2r380 => assumption); (case a3r380 => assumption); (case a4r380 => assumption); (
  (case k1r380 => k_asm)
  (case k2r380 => k_asm)
  (case k3r380 => k_asm)
  (case k4r380 => k_asm)
  (case k5r380 => k_asm)
  (case kKr380 => first | exact rfl | assumption)
  (case kdr380 => ktr_room)
  (case kur380 => ktr_units)); intro T'zq X'zq n'zq n''zq u'zq u1'zq u2'zq u3'zq h'zq tk'zq F'zq N'zq f1'zq f2'zq; (try dsimp only))
  | ((refine' use_told3 (told_no _ _ _ _ _ _ ?a2r380 ?a3r380 ?a4r380 ?a1r380) ?k1r380 ?k2r380 ?k3r380 ?k4r380 ?k5r380 ?kKr380 trivial ?kdr380 ?kur380 ?_); (case a1r380 => assumption); (case a2r380 => assumption); (case a3r380 => assumption); (case a4r380 => assumption); (
  (case k1r380 => k_asm)
  (case k2r380 => k_asm)
  (case k3r380 => k_asm)
  (case k4r380 => k_asm)
  (case k5r380 => k_asm)
  (case kKr380 => first | exact rfl | assumption)
  (case kdr380 => ktr_room)
  (case kur380 => ktr_units)); intro T'zq X'zq n'zq n''zq u'zq u1'zq u2'zq u3'zq h'zq tk'zq F'zq N'zq f1'zq f2'zq; (try dsimp only))
  | ((refine' use_told4 (told_nine _ _ _ _ _ _ ?a2r380 ?a3r380 ?a4r380 ?a1r380) ?k1r380 ?k2r380 ?k3r380 ?k4r380 ?k5r380 ?kKr380 trivial ?kdr380 ?kur380 ?_); (case a1r380 => assumption); (case a2r380 => assumption); (case a3r380 => assumption); (case a4r380 => assumption); (
  (case k1r380 => k_asm)
  (case k2r380 => k_asm)
  (case k3r380 => k_asm)
  (case k4r380 => k_asm)
  (case k5r380 => k_asm)
  (case kKr380 => first | exact rfl | assumption)
  (case kdr380 => ktr_room)
  (case kur380 => ktr_units)); intro T'zq X'zq n'zq n''zq u'zq u1'zq u2'zq u3'zq u4'zq h'zq tk'zq F'zq N'zq f1'zq f2'zq; (try dsimp only)))))
  k_with "call ref" => ((k_here; (with_reducible show wpAny _ _ (call (Value.ref 96) [Value.ref _, Value.int _ _]) _ _ _); k_dflt (first
  | ((refine' use_due (due_yes_i ?a1r381) ?k1r381 ?k2r381 ?k3r381 ?k4r381 ?k5r381 ?kKr381 ?kpr381 ?kdr381 ?kur381 ?_); (case kpr381 => is_list); (case a1r381 => assumption); (
  (case k1r381 => k_asm)
  (case k2r381 => k_asm)
  (case k3r381 => k_asm)
  (case k4r381 => k_asm)
  (case k5r381 => k_asm)
  (case kKr381 => first | exact rfl | assumption)
  (case kdr381 => ktr_room)
  (case kur381 => ktr_units)); intro T'zq n'zq u'zq h'zq tk'zq F'zq N'zq f1'zq; (try dsimp only))
  | ((refine' use_due (due_no_i ?a1r381) ?k1r381 ?k2r381 ?k3r381 ?k4r381 ?k5r381 ?kKr381 ?kpr381 ?kdr381 ?kur381 ?_); (case kpr381 => is_list); (case a1r381 => assumption); (
  (case k1r381 => k_asm)
  (case k2r381 => k_asm)
  (case k3r381 => k_asm)
  (case k4r381 => k_asm)
  (case k5r381 => k_asm)
  (case kKr381 => first | exact rfl | assumption)
  (case kdr381 => ktr_room)
  (case kur381 => ktr_units)); intro T'zq n'zq u'zq h'zq tk'zq F'zq N'zq f1'zq; (try dsimp only))
  | ((refine' use_told4 (due_nine_i ?a1r381) ?k1r381 ?k2r381 ?k3r381 ?k4r381 ?k5r381 ?kKr381 ?kpr381 ?kdr381 ?kur381 ?_); (case kpr381 => is_list); (case a1r381 => assumption); (
  (case k1r381 => k_asm)
  (case k2r381 => k_asm)
  (case k3r381 => k_asm)
  (case k4r381 => k_asm)
  (case k5r381 => k_asm)
  (case kKr381 => first | exact rfl | assumption)
  (case kdr381 => ktr_room)
  (case kur381 => ktr_units)); intro T'zq X'zq n'zq n''zq u'zq u1'zq u2'zq u3'zq u4'zq h'zq tk'zq F'zq N'zq f1'zq f2'zq; (try dsimp only)))))
  k_with "call ref" => ((k_here; (with_reducible show wpAny _ _ (call (Value.ref 110) [Value.ref _]) _ _ _); k_dflt (
  (refine' xc_use_p (place_i ?a1r382 ?a2r382 ?a3r382) ?k1r382 ?k2r382 ?k3r382 ?k4r382 ?k5r382 ?kKr382 ?kpr382 ?kdr382 ?kur382 ?_); (case kpr382 => is_list); (case a1r382 => assumption); (case a2r382 => assumption); (case a3r382 => assumption); (
  (case k1r382 => k_asm)
  (case k2r382 => k_asm)
  (case k3r382 => k_asm)
  (case k4r382 => k_asm)
  (case k5r382 => k_asm)
  (case kKr382 => first | exact rfl | assumption)
  (case kdr382 => ktr_room)
  (case kur382 => ktr_units)); intro r'zq h'zq tk'zq F'zq N'zq p'zq; (try dsimp only))))
  k_with "call ref" => ((k_here; (with_reducible show wpAny _ _ (call (Value.ref 124) [Value.ref _]) _ _ _); k_dflt (
  (refine' use_signs signs_i ?k1r383 ?k2r383 ?k3r383 ?k4r383 ?k5r383 ?kKr383 ?kpr383 ?kdr383 ?kur383 ?_); (case kpr383 => is_list); (
  (case k1r383 => k_asm)
  (case k2r383 => k_asm)
  (case k3r383 => k_asm)
  (case k4r383 => k_asm)
  (case k5r383 => k_asm)
  (case kKr383 => first | exact rfl | assumption)
  (case kdr383 => ktr_room)
  (case kur383 => ktr_units)); intro l'zq n'zq u1'zq u2'zq u3'zq h'zq tk'zq F'zq N'zq f1'zq; (try dsimp only))))
  k_with "call builtin:list.append" => ((k_here; k_dflt ((refine' append_L ?k1r384 ?k2r384 ?k3r384 ?zr384 ?_; (case k1r384 => k_asm); (case k2r384 => k_asm); (case k3r384 => k_upd); (case zr384 => assumption)); intro h'zq F'zq N'zq; (try dsimp only))))
  k_with "x one" => ((first | (k_unfold; (try dsimp only)) | (k_end; wrow_close) | walk1 | (dsimp only; walk1) | (leave1; walk_say "STEP leave1"; try dsimp only) | fail "no step"))
  trivial
local macro_rules | `(tactic| k_ne) => `(tactic| (refine neN ?_; (try dsimp only); first | (with_reducible assumption) | (refine Ne.symm ?_; with_reducible assumption) | (refine AllNe.ne (by with_reducible assumption) (by k_extra "x mem")) | (refine Ne.symm ?_; refine AllNe.ne (by with_reducible assumption) (by k_extra "x mem"))))
local macro_rules | `(tactic| k_all) => `(tactic| with_reducible assumption)
theorem kw_49 : True := by
  k_with "assign Tuple" => ((k_here; (with_reducible show wpAny _ _ (assign (Expr.Tuple _ _ _) _ (Value.ref _)) _ _ _); (with_reducible rename Fr _ _ _ _ => kFzq); k_dflt (refine' unpackN_ ?Fr386 ?Nr386 ?Tr386 ?k1r386 ?k2r386 ?k3r386 ?_; (case Fr386 => exact kFzq); (case Nr386 => k_asm); (case Tr386 => exact News.isTup (by k_asm) (by k_mem)); (case k1r386 => exact rfl); (case k2r386 => exact rfl); (case k3r386 => exact rfl)); clear kFzq; intro h'zq F'zq N'zq))
  trivial
theorem places_snoc_yes {done : List Ballot} {d : Ballot} (h : d.2 ≤ 5) : placesOf (done ++ [d]) = placesOf done ++ [placeOf d] ∧ countedB (done ++ [d]) = countedB done ++ [d] := by
  have e : (!decide (d.2 > 5)) = true := by rw [decide_eq_false (by omega)]; rfl
  have q : countedB (done ++ [d]) = countedB done ++ [d] := by
    unfold countedB
    rw [List.filter_append, List.filter_cons, if_pos e, List.filter_nil]
  exact ⟨by unfold placesOf; rw [q, List.map_append]; rfl, q⟩
theorem places_snoc_no {done : List Ballot} {d : Ballot} (h : 6 ≤ d.2) : placesOf (done ++ [d]) = placesOf done ∧ countedB (done ++ [d]) = countedB done := by
  have e : ¬ (!decide (d.2 > 5)) = true := by rw [decide_eq_true (by omega)]; exact Bool.false_ne_true
  have q : countedB (done ++ [d]) = countedB done := by
    unfold countedB
    rw [List.filter_append, List.filter_cons, if_neg e, List.filter_nil, List.append_nil]
  exact ⟨by unfold placesOf; rw [q], q⟩
theorem place_vsp {a b c : Int} {r : Value} (h : PlacePost a b c r) : VsP [r] [placeZ a b c] := by
  unfold PlacePost at h
  cases q : placeZ a b c with
  | none => rw [q] at h; have h' : r = .none := h; subst h'; exact .none .nil
  | some p => rw [q] at h; obtain ⟨u, h'⟩ := h; subst h'; exact .int _ _ .nil
theorem lawst_yes {vs₀ : List Value} {ds done : List Ballot} {pv cv rv : List Value} {Rest : List (Addr × Obj)} {a b c h : Int} {r : Value} {S X : Addr} {n n' : Nat} {u1 u2 u3 w1 w2 w3 : Tok} (hst : LawSt vs₀ ds done pv cv rv Rest) (h5 : done.length + 1 ≤ 5) (hh : 0 ≤ h ∧ h ≤ 5)
    (ha : 0 ≤ a ∧ a ≤ 8) (hb : 0 ≤ b ∧ b ≤ 8) (hc : 0 ≤ c ∧ c ≤ 8) (pr : PlacePost a b c r) :
    LawSt vs₀ ds (done ++ [((a, b, c), h)]) (pv ++ [r]) (cv ++ [.ref X]) (rv ++ [.ref S]) ([(S, W.listOf [Value.int (Int.sign (b - c)) u1, .int (Int.sign (c - a)) u2, .int (Int.sign (a - b)) u3].toArray n), (X, W.listOf [Value.int a w1, .int b w2, .int c w3].toArray n')] ++ Rest) := by
  have hs : ∀ p ∈ Rest, p ∈ [(S, W.listOf [Value.int (Int.sign (b - c)) u1, .int (Int.sign (c - a)) u2, .int (Int.sign (a - b)) u3].toArray n), (X, W.listOf [Value.int a w1, .int b w2, .int c w3].toArray n')] ++ Rest := fun p hp => List.mem_append_right _ hp
  obtain ⟨e1, e2⟩ := places_snoc_yes (done := done) (d := ((a, b, c), h)) hh.2
  have e3 : rowsOf (done ++ [((a, b, c), h)]) = rowsOf done ++ [some (Int.sign (b - c), Int.sign (c - a), Int.sign (a - b))] := by
    unfold rowsOf
    rw [List.map_append]
    congr 1
    show [rowOf ((a, b, c), h)] = _
    unfold rowOf
    rw [if_neg (by show ¬ h > 5; omega)]
  refine ⟨hst.all.mono hs, by simpa using h5, ?_, ?_, ?_⟩
  · rw [e1]; exact hst.places.append (place_vsp pr)
  · rw [e2]; exact (hst.marks.mono hs).append (.cons X n' ((a, b, c), h) w1 w2 w3 (.tail _ (.head _)) ⟨ha, hb, hc⟩ .nil)
  · rw [e3]; exact (hst.rows.mono hs).append (.some S n _ _ _ u1 u2 u3 (.head _) .nil)
theorem lawst_no {vs₀ : List Value} {ds done : List Ballot} {pv cv rv : List Value} {Rest : List (Addr × Obj)} {a b c h : Int} (hst : LawSt vs₀ ds done pv cv rv Rest) (h5 : done.length + 1 ≤ 5) (hh : 6 ≤ h) :
    LawSt vs₀ ds (done ++ [((a, b, c), h)]) pv cv (rv ++ [.none]) ([] ++ Rest) := by
  obtain ⟨e1, e2⟩ := places_snoc_no (done := done) (d := ((a, b, c), h)) hh
  have e3 : rowsOf (done ++ [((a, b, c), h)]) = rowsOf done ++ [none] := by
    unfold rowsOf
    rw [List.map_append]
    congr 1
    show [rowOf ((a, b, c), h)] = _
    unfold rowOf
    rw [if_pos (by show h > 5; omega)]
  refine ⟨hst.all, by simpa using h5, ?_, ?_, ?_⟩
  · rw [e1]; exact hst.places
  · rw [e2]; exact hst.marks
  · rw [e3]; exact hst.rows.append (.none .nil)
theorem done_len {done ds' : List Ballot} {d d0 d1 d2 d3 d4 : Ballot} (h : done ++ d :: ds' = [d0, d1, d2, d3, d4]) : done.length + 1 ≤ 5 := by
  have := congrArg List.length h
  simp at this
  omega
theorem LawSt.lens {vs₀ : List Value} {ds done : List Ballot} {pv cv rv : List Value} {Rest : List (Addr × Obj)} (hst : LawSt vs₀ ds done pv cv rv Rest) : pv.length ≤ 5 ∧ cv.length ≤ 5 ∧ rv.length ≤ 5 := by
  have l1 : (countedB done).length ≤ done.length := List.length_filter_le _ _
  have := hst.five
  refine ⟨?_, ?_, ?_⟩
  · rw [hst.places.len]; unfold placesOf; rw [List.length_map]; omega
  · rw [hst.marks.len]; omega
  · rw [hst.rows.len]; unfold rowsOf; rw [List.length_map]; omega
theorem LawInv.fin {vs₀ : List Value} {ds : List Ballot} {P C R B K I : Addr} {lo ko : Obj} {M m : Str → Option Value} {news : List (Addr × Obj)} {Z : (Str → Option Value) → List (Addr × Obj) → Prop} (h : LawInv vs₀ ds P C R B K lo ko M I [] m news)
    (q : ∀ done pv cv rv n1 n2 n3 Rest u v w, done = ds → LawSt vs₀ ds done pv cv rv Rest → Apart P C R K I Rest →
      Z (fun y => if y = Str.ofString "marks" then u else if y = Str.ofString "head" then v else if y = Str.ofString "told" then w else M y) ((R, W.listOf rv.toArray n3) :: (C, W.listOf cv.toArray n2) :: (P, W.listOf pv.toArray n1) :: (B, lo) :: (K, ko) :: Rest)) : Z m news := by
  obtain ⟨ds', done, pv, cv, rv, n1, n2, n3, Rest, hr, hd, hst, hm, hap, rfl⟩ := h
  cases hr
  rw [List.append_nil] at hd
  exact OffN.el3 (C := fun m => Z m _) hm fun u v w => q done pv cv rv n1 n2 n3 Rest u v w hd hst hap
theorem LawInv.turn {vs₀ : List Value} {ds : List Ballot} {P C R B K I : Addr} {lo ko : Obj} {M m : Str → Option Value} {x : Value} {r : List Value} {news : List (Addr × Obj)} {Z : Value → (Str → Option Value) → List (Addr × Obj) → Prop} (h : LawInv vs₀ ds P C R B K lo ko M I (x :: r) m news)
    (q : ∀ T N n k a b c h t0 t1 t2 t3 ds' done pv cv rv n1 n2 n3 Rest u v w, (T, tupOf #[.ref N, .int h t0] k) ∈ Rest → (N, W.listOf [Value.int a t1, .int b t2, .int c t3].toArray n) ∈ Rest → 0 ≤ a ∧ a ≤ 8 → 0 ≤ b ∧ b ≤ 8 → 0 ≤ c ∧ c ≤ 8 → 0 ≤ h ∧ h ≤ 9 → BallotsN Rest r ds' → done ++ ((a, b, c), h) :: ds' = ds → LawSt vs₀ ds done pv cv rv Rest →
      Apart P C R K I Rest → pv.length ≤ 1000000 → cv.length ≤ 1000000 → rv.length ≤ 1000000 →
      Z (.ref T) (fun y => if y = Str.ofString "marks" then u else if y = Str.ofString "head" then v else if y = Str.ofString "told" then w else M y) ((R, W.listOf rv.toArray n3) :: (C, W.listOf cv.toArray n2) :: (P, W.listOf pv.toArray n1) :: (B, lo) :: (K, ko) :: Rest)) : Z x m news := by
  obtain ⟨ds', done, pv, cv, rv, n1, n2, n3, Rest, hr, hd, hst, hm, hap, rfl⟩ := h
  have zl := hst.lens
  cases hr with
  | cons T N n k a b c h t0 t1 t2 t3 mT mM ia ib ic ih hr =>
    exact OffN.el3 (C := fun m => Z _ m _) hm fun u v w => q T N n k a b c h t0 t1 t2 t3 _ done pv cv rv n1 n2 n3 Rest u v w mT mM ia ib ic ih hr hd hst hap (by omega) (by omega) (by omega)
theorem turn_end {vs₀ : List Value} {ds ds' done' : List Ballot} {P C R B K I L : Addr} {lo ko o : Obj} {M m' : Str → Option Value} {h₀ h' : Heap} {all new Rest : List (Addr × Obj)} {rem' pv' cv' rv' : List Value} {n1 n2 n3 : Nat} {s₁ : Shared} {tk : Nat} (F : Fr h₀ L h' m') (N : News h₀ L h' all)
    (hst : LawSt vs₀ ds done' pv' cv' rv' (new ++ Rest)) (hr : BallotsN Rest rem' ds') (hd : done' ++ ds' = ds)
    (sub : SubL ((I, o) :: (R, W.listOf rv'.toArray n3) :: (C, W.listOf cv'.toArray n2) :: (P, W.listOf pv'.toArray n1) :: (B, lo) :: (K, ko) :: new) all) (hR : ∀ p ∈ Rest, p ∈ all)
    (nIR : @Ne Nat I R) (nIC : @Ne Nat I C) (nIP : @Ne Nat I P) (nIB : @Ne Nat I B) (nIK : @Ne Nat I K) (apR : Apart P C R K I Rest) (apN : Apart P C R K I new) 
    (hm : OffN [Str.ofString "marks", Str.ofString "head", Str.ofString "told"] m' M) :
    UnrEndW h₀ L s₁ [(I, o)] (fun m' n' => SubL [(B, lo)] n' ∧ LawInv vs₀ ds P C R B K lo ko M I rem' m' n') { s₁ with heap := h', toks := tk } := by
  have apA : Apart P C R K I (new ++ Rest) := fun p hp => by
    rcases List.mem_append.mp hp with hp | hp
    · exact apN p hp
    · exact apR p hp
  refine ⟨h', tk, m', (R, W.listOf rv'.toArray n3) :: (C, W.listOf cv'.toArray n2) :: (P, W.listOf pv'.toArray n1) :: (B, lo) :: (K, ko) :: (new ++ Rest), rfl, F, News.sub N ?_, ?_, ?_, ?_⟩
  · intro p hp
    have hp' : p ∈ ((I, o) :: (R, W.listOf rv'.toArray n3) :: (C, W.listOf cv'.toArray n2) :: (P, W.listOf pv'.toArray n1) :: (B, lo) :: (K, ko) :: new) ++ Rest := hp
    rcases List.mem_append.mp hp' with hp | hp
    · exact sub.mem p hp
    · exact hR p hp
  · intro p hp q hq
    rw [List.mem_singleton.mp hq]
    rcases List.mem_cons.mp hp with rfl | hp
    · exact Ne.symm nIR
    rcases List.mem_cons.mp hp with rfl | hp
    · exact Ne.symm nIC
    rcases List.mem_cons.mp hp with rfl | hp
    · exact Ne.symm nIP
    rcases List.mem_cons.mp hp with rfl | hp
    · exact Ne.symm nIB
    rcases List.mem_cons.mp hp with rfl | hp
    · exact Ne.symm nIK
    · exact (apA p hp).2.2.2.2
  · exact ⟨.tail _ (.tail _ (.tail _ (.head _))), trivial⟩
  · exact ⟨ds', done', pv', cv', rv', n1, n2, n3, new ++ Rest, hr.mono fun p hp => List.mem_append_right _ hp, hd, hst, hm, apA, rfl⟩
theorem apart2 {P C R K I S X : Addr} {o o' : Obj} (h1 : @Ne Nat S P) (h2 : @Ne Nat S C) (h3 : @Ne Nat S R) (h4 : @Ne Nat S K) (h5 : @Ne Nat S I) (g1 : @Ne Nat X P) (g2 : @Ne Nat X C) (g3 : @Ne Nat X R) (g4 : @Ne Nat X K) (g5 : @Ne Nat X I) : Apart P C R K I [(S, o), (X, o')] := by
  intro p hp
  rcases List.mem_cons.mp hp with rfl | hp
  · exact ⟨h1, h2, h3, h4, h5⟩
  · rw [List.mem_singleton.mp hp]; exact ⟨g1, g2, g3, g4, g5⟩
theorem apart0 {P C R K I : Addr} : Apart P C R K I [] := fun _ hp => nomatch hp
theorem law_start {vs₀ : List Value} {ds : List Ballot} {P C R B K I : Addr} {lo ko : Obj} {M : Str → Option Value} {tl : List (Addr × Obj)} (hB : BallotsN tl vs₀ ds) (hI : ∀ p ∈ (R, W.listOf #[] 0) :: (C, W.listOf #[] 0) :: (P, W.listOf #[] 0) :: (B, lo) :: (K, ko) :: tl, p.1 < I)
    (hK : Cut tl [(K, ko)]) (lP : B < P ∧ K < P ∧ AllLt P tl) (lC : P < C ∧ B < C ∧ K < C ∧ AllLt C tl) (lR : C < R ∧ P < R ∧ B < R ∧ K < R ∧ AllLt R tl) :
    LawInv vs₀ ds P C R B K lo ko M I vs₀ M ((R, W.listOf #[] 0) :: (C, W.listOf #[] 0) :: (P, W.listOf #[] 0) :: (B, lo) :: (K, ko) :: tl) := by
  refine ⟨ds, [], [], [], [], 0, 0, 0, tl, hB, rfl, ⟨hB, by simp, .nil, .nil, .nil⟩, OffN.refl, ?_, rfl⟩
  intro p hp
  refine ⟨Nat.ne_of_lt (ktn_ltOf lP.2.2 p hp), Nat.ne_of_lt (ktn_ltOf lC.2.2.2 p hp), Nat.ne_of_lt (ktn_ltOf lR.2.2.2.2 p hp), hK p hp _ (List.mem_singleton.mpr rfl), Nat.ne_of_lt (hI p ?_)⟩
  exact .tail _ (.tail _ (.tail _ (.tail _ (.tail _ hp))))
theorem kw_50 : True := by
  k_with "exec For Tuple Name" => (k_extra "x for")
  trivial
theorem left_i {w : World} {l : Addr} {pv : List Value} {ds : List Ballot} (hv : VsP pv (placesOf ds)) : XC w 138 1 [.ref l] (fun h => h.IsList l pv.toArray) (fun tl r => ∃ l' n u1 u2 u3, r = .ref l' ∧ (l', W.listOf [Value.int (leftL ds 0) u1, .int (leftL ds 1) u2, .int (leftL ds 2) u3].toArray n) ∈ tl) := left_c w l pv (placesOf ds) hv
def votes_is {ld : List (Addr × Obj)} {sv : List Value} {ds : List Ballot} (_h : RowsS ld sv ((rowsOf ds).filterMap id)) : { l : List Int // l = [votesL ds 0, votesL ds 1, votesL ds 2] } := ⟨_, rfl⟩
theorem votes_step {ds : List Ballot} {i : Nat} {ys : List Value} {t : Tok} (hi : i < 3) (h : IntsAre ys ([votesL ds 0, votesL ds 1, votesL ds 2].take i)) : IntsAre (ys ++ [.int (((rowsOf ds).filterMap id).map (selR i)).sum t]) ([votesL ds 0, votesL ds 1, votesL ds 2].take (i + 1)) := by
  rw [sum_votes]
  rcases (show i = 0 ∨ i = 1 ∨ i = 2 by omega) with rfl | rfl | rfl
  · exact IntsAre.append h (.cons _ t .nil)
  · exact IntsAre.append h (.cons _ t .nil)
  · exact IntsAre.append h (.cons _ t .nil)
theorem kw_51 : True := by
  k_with "CompSrcT" => ((k_here; (with_reducible rename RowsL _ _ _ => kRzq); (with_reducible rename List.length _ ≤ 5 => kzzq); k_dflt (refine rows_src kRzq (by rfl) (by k_asm) (by k_asm) (by k_mem) kzzq (by rfl) (by rfl) (by decide) (fun g'zq I'zq oI'zq C'zq oC'zq D'zq m'zq ys'zq h'zq tk'zq E'zq hC'zq hx'zq F'zq N'zq => ?_) (fun q'zq g'zq I'zq oI'zq C'zq oC'zq D'zq m'zq ys'zq h'zq tk'zq E'zq hC'zq hx'zq F'zq N'zq => ?_) (fun g'zq sv'zq zs'zq rs'zq => ?_))))
  k_with "FinE" => (((unfold LCg.FinE); intro D'zq h'zq tk'zq F'zq N'zq o1'zq; (try simp only [LCg.Off1, and_true] at o1'zq); (try simp only [List.nil_append, List.cons_append] at N'zq); (try (obtain ⟨x1'zq, x2'zq, x3'zq, x4'zq, x5'zq, x6'zq⟩ := o1'zq)); (try dsimp only)))
  k_with "CompSrc" => ((k_here; (with_reducible rename RowsS _ _ _ => kSzq); (rename _ < 3 => kizq); (with_reducible rename List.length _ ≤ 5 => kzzq); k_dflt (refine col_src kizq kSzq (by rfl) (by k_asm) (by k_asm) (by k_mem) kzzq (fun p hp => by k_extra "x mem") (fun q'zq a'zq b'zq c'zq t1'zq t2'zq t3'zq g'zq I'zq oI'zq C'zq oC'zq D'zq m'zq ys'zq h'zq tk'zq E'zq hC'zq hx'zq hq'zq F'zq N'zq => ?_) (fun g'zq ys'zq zs'zq is'zq => ?_))))
  k_with "call ref" => ((k_here; (with_reducible show wpAny _ _ (call (Value.ref 138) [Value.ref _]) _ _ _); k_dflt (
  (refine' xc_use_l3 (left_i (by assumption)) ?k1r391 ?k2r391 ?k3r391 ?k4r391 ?k5r391 ?kKr391 ?kpr391 ?kdr391 ?kur391 ?_); (case kpr391 => is_list); (
  (case k1r391 => k_asm)
  (case k2r391 => k_asm)
  (case k3r391 => k_asm)
  (case k4r391 => k_asm)
  (case k5r391 => k_asm)
  (case kKr391 => first | exact rfl | assumption)
  (case kdr391 => ktr_room)
  (case kur391 => ktr_units)); intro l'zq n'zq u1'zq u2'zq u3'zq h'zq tk'zq F'zq N'zq a'zq; clear a'zq; (try dsimp only))))
  k_with "call builtin:min" => ((k_here; k_dflt ((refine' min_three ?k1r392 ?k2r392 ?k3r392 ?k4r392 ?_); (case k1r392 => k_asm); (case k2r392 => k_asm); (case k3r392 => is_list); (case k4r392 => rfl); intro h'zq M'zq t'zq tk'zq F'zq N'zq b'zq; (try dsimp only))))
  k_with "call builtin:max" => ((k_here; k_dflt ((refine' max_three ?k1r393 ?k2r393 ?k3r393 ?k4r393 ?_); (case k1r393 => k_asm); (case k2r393 => k_asm); (case k3r393 => is_list); (case k4r393 => rfl); intro h'zq M'zq t'zq tk'zq F'zq N'zq b'zq; (try dsimp only))))
  k_with "call builtin:sum" => ((k_here; k_dflt ((refine' sum_three ?k1r394 ?k2r394 ?k3r394 ?k4r394 ?_); (case k1r394 => k_asm); (case k2r394 => k_asm); (case k3r394 => is_list); (case k4r394 => rfl); intro h'zq t'zq tk'zq F'zq N'zq; (try dsimp only))))
  k_with "eval BoolOp" => ((k_here; (fail_if_success (with_reducible show wpAny _ _ _ (XJB _ _ _ _ _ _) _ _)); (with_reducible rename Fr _ _ _ _ => kFzq); (with_reducible rename News _ _ _ _ => kNzq); (with_reducible rename RowsS _ _ _ => kSzq); k_dflt (refine' x_joinB kSzq kFzq kNzq ?_ ?_); rotate_left; (clear kFzq kNzq; intro h'zq tk'zq F'zq N'zq; (try dsimp only)); rotate_left))
  k_with "truthy bool" => ((k_here; (with_reducible show wpAny _ _ (truthy (Value.bool (decide _))) _ _ _); refine truthy_or (fun hd'zq => ?_) (fun hd'zq => ?_)))
  k_with "XJB" => ((refine XJB.mk (by with_reducible assumption) (by with_reducible assumption) (fun _ h => h) ?_; first
  | exact ring_min (by with_reducible assumption) (by with_reducible assumption)
  | exact ring_max (by with_reducible assumption) (by with_reducible assumption) (by with_reducible assumption)
  | exact tri_max (by with_reducible assumption) (by with_reducible assumption) (by with_reducible assumption)
  | exact tri_min (by with_reducible assumption) (by with_reducible assumption) (by with_reducible assumption) (by with_reducible assumption)))
  k_with "compareOp NotEq bool bool" => ((k_here; refine ne_bool_same ?_))
  k_with "call ref" => ((k_here; (with_reducible show wpAny _ _ (call (Value.ref 145) [Value.ref _]) _ _ _); k_dflt (
  (refine' xc_use_s3 (sheets_i (by with_reducible assumption)) ?k1r399 ?k2r399 ?k3r399 ?k4r399 ?k5r399 ?kKr399 ?kpr399 ?kdr399 ?kur399 ?_); (case kpr399 => (with_reducible rename RowsL _ _ _ => kRzq); (refine ⟨?_, ?_⟩; (· is_list); exact rowsV_of (by k_asm) (fun p hp => by k_extra "x mem") kRzq (rows_ok _))); (
  (case k1r399 => k_asm)
  (case k2r399 => k_asm)
  (case k3r399 => k_asm)
  (case k4r399 => k_asm)
  (case k5r399 => k_asm)
  (case kKr399 => first | exact rfl | assumption)
  (case kdr399 => ktr_room)
  (case kur399 => ktr_units)); intro l'zq n'zq u1'zq u2'zq u3'zq h'zq tk'zq F'zq N'zq a'zq; clear a'zq; (try dsimp only))))
  k_with "call builtin:str.split" => ((k_here; (with_reducible show wpAny _ _ (call (Value.builtin "str.split") [Value.str _ _, Value.str _ _]) _ _ _); k_dflt (refine KSpl.split1 (by k_asm) (by k_asm) (by decide +kernel) ?_ (sheet_fit (by with_reducible assumption))); intro D'zq l'zq h'zq k'zq e'zq a'zq F'zq N'zq l1zq; clear a'zq l1zq; (try dsimp only)))
  k_with "CompSrcT" => ((k_here; (with_reducible rename List.map _ _ = Txt.split _ _ => kEzq); k_dflt (refine strs_src kEzq (by with_reducible assumption) (by rfl) (by k_asm) (by k_asm) (by k_mem) (by rfl) (by rfl) (by decide) (fun y'zq t'zq g'zq I'zq oI'zq C'zq oC'zq D'zq m'zq ys'zq h'zq tk'zq E'zq hC'zq hx'zq F'zq N'zq => ?_) (fun g'zq l'zq kL'zq => ?_))))
  k_with "eval IfExp" => ((k_here; (fail_if_success (with_reducible show wpAny _ _ _ (XJD _ _ _ _ _ _) _ _)); (with_reducible rename Fr _ _ _ _ => kFzq); (with_reducible rename News _ _ _ _ => kNzq); (with_reducible rename LinesOf _ _ _ => kLzq); k_dflt (refine' x_joinD kLzq kFzq kNzq ?c0r402 ?c1r402 ?c2r402); (case' c0r402 => (intro e'zq; subst e'zq; (try dsimp only))); (case' c1r402 => (intro x'zq t'zq l'zq e'zq; subst e'zq; (try dsimp only))); (case' c2r402 => (clear kFzq kNzq kLzq; intro u'zq h'zq tk'zq F'zq N'zq; (try dsimp only)))))
  k_with "compareOp NotEq ref ref" => ((k_here; (with_reducible rename LinesOf _ _ _ => kLzq); k_dflt (first
  | (refine' ne_nil0 kLzq ?Nr403 ?m1r403 ?m2r403 ?ur403 ?_; (case Nr403 => k_asm); (case m1r403 => k_mem); (case m2r403 => k_mem); (case ur403 => ke_room))
  | (refine' ne_nil1 kLzq ?Nr403 ?m1r403 ?m2r403 ?ur403 ?_; (case Nr403 => k_asm); (case m1r403 => k_mem); (case m2r403 => k_mem); (case ur403 => ke_room)))))
  k_with "call builtin:str.count" => ((k_here; refine KXw.count (blanks_cons (by with_reducible assumption)) ?_; intro t'zq tk'zq; (try dsimp only)))
  k_with "XJD" => ((refine XJD.mk (by with_reducible assumption) (by with_reducible assumption) ?_ ?_; (first | exact fun _ h => h | exact fun _ h => List.mem_cons_of_mem _ h); first | rfl | exact blanks_nil (by with_reducible assumption)))
  k_with "call builtin:len" => ((k_here; (with_reducible show wpAny _ _ (call (Value.builtin "len") [Value.ref _]) _ _ _); (with_reducible rename RowsS _ _ _ => kSzq); (with_reducible rename List.length _ ≤ 5 => kzzq); k_dflt ((refine' len_S kSzq ?zr406 ?k1r406 ?_); (case zr406 => with_reducible assumption); (case k1r406 => is_list)); clear kzzq; intro t'zq tk'zq; (try dsimp only)))
  k_with "compareOp NotEq str str" => ((k_here; (with_reducible show wpAny _ _ (compareOp _ (Value.str (sheetS _ _) _) _) _ _ _); refine ne_str_same (by rfl) ?_))
  k_with "subscriptTail Name Name ref int" => ((k_here; (rename _ < 3 => kizq); k_dflt (first
  | ((refine' item_sheet kizq ?k1r408 ?_ ?k6r408); (case k1r408 => is_list); (case k6r408 => with_unfolding_all rfl); intro t'zq)
  | ((refine' item_left kizq ?k1r408 ?_ ?k6r408); (case k1r408 => is_list); (case k6r408 => with_unfolding_all rfl); intro t'zq)
  | ((refine' item_sel kizq ?k1r408 ?_ ?k6r408); (case k1r408 => is_list); (case k6r408 => with_unfolding_all rfl); intro t'zq))))
  k_with "subscriptTail Name BinOp ref int" => ((k_here; (rename _ < 3 => kizq); k_dflt ((refine' item_next kizq ?k1r409 ?_ ?k6r409); (case k1r409 => is_list); (case k6r409 => with_unfolding_all rfl); intro t'zq)))
  k_with "compareOp NotEq int int" => ((k_here; (with_reducible show wpAny _ _ (compareOp _ (Value.int (depths _ _) _) _) _ _ _); refine ne_int_same (depth_k (by with_reducible assumption) (by with_reducible assumption)) ?_))
  k_with "call ref" => ((k_here; (with_reducible show wpAny _ _ (call (Value.ref 150) [Value.ref _, Value.int _ _]) _ _ _); k_dflt (
  (refine' xc_use_str (plain_i _ (by with_reducible assumption) rfl (by with_reducible assumption)) ?k1r411 ?k2r411 ?k3r411 ?k4r411 ?k5r411 ?kKr411 ?kpr411 ?kdr411 ?kur411 ?_); (case kpr411 => (with_reducible rename BallotsN _ _ _ => kBzq); (refine ⟨?_, ?_⟩; (· is_list); exact ballotsV_of (by k_asm) (fun p hp => by k_extra "x mem") (ballotsN_rev kBzq))); (
  (case k1r411 => k_asm)
  (case k2r411 => k_asm)
  (case k3r411 => k_asm)
  (case k4r411 => k_asm)
  (case k5r411 => k_asm)
  (case kKr411 => first | exact rfl | assumption)
  (case kdr411 => ktr_room)
  (case kur411 => ktr_units)); intro t'zq h'zq tk'zq F'zq N'zq; (try dsimp only))))
  k_with "call ref" => ((k_here; (with_reducible show wpAny _ _ (call (Value.ref 131) [_, Value.ref _]) _ _ _); k_dflt (first
  | ((refine' xc_use_val (fits_c _ _ _ _ _ _ _ _ _ _ ?a1r412 ?a2r412 ?a3r412 ?a4r412) ?k1r412 ?k2r412 ?k3r412 ?k4r412 ?k5r412 ?kKr412 ?kpr412 ?kdr412 ?kur412 ?_); (case kpr412 => is_list); (case a1r412 => with_reducible assumption); (case a2r412 => with_reducible assumption); (case a3r412 => with_reducible assumption); (case a4r412 => with_reducible assumption); (
  (case k1r412 => k_asm)
  (case k2r412 => k_asm)
  (case k3r412 => k_asm)
  (case k4r412 => k_asm)
  (case k5r412 => k_asm)
  (case kKr412 => first | exact rfl | assumption)
  (case kdr412 => ktr_room)
  (case kur412 => ktr_units)); intro h'zq tk'zq F'zq N'zq; (try dsimp only))
  | ((refine' xc_use_val (fitsN_c _ _ _ _ _ _ _ _ ?a1r412 ?a2r412 ?a3r412 ?a4r412) ?k1r412 ?k2r412 ?k3r412 ?k4r412 ?k5r412 ?kKr412 ?kpr412 ?kdr412 ?kur412 ?_); (case kpr412 => is_list); (case a1r412 => with_reducible assumption); (case a2r412 => with_reducible assumption); (case a3r412 => with_reducible assumption); (case a4r412 => with_reducible assumption); (
  (case k1r412 => k_asm)
  (case k2r412 => k_asm)
  (case k3r412 => k_asm)
  (case k4r412 => k_asm)
  (case k5r412 => k_asm)
  (case kKr412 => first | exact rfl | assumption)
  (case kdr412 => ktr_room)
  (case kur412 => ktr_units)); intro h'zq tk'zq F'zq N'zq; (try dsimp only)))))
  k_with "exec For Name Call cons nil" => (k_extra "x for")
  k_with "exec For Name Call" => (k_extra "x for")
  k_with "exec For Tuple Call" => (k_extra "x for")
  k_with "pyIter ref" => ((k_here; (with_reducible show wpAny _ _ (pyIter (Value.ref _)) (fun it s₂ => TurnsAt _ _ _ _ _ (Expr.Name _ _) _ _ _ it s₂) _ _); (with_reducible rename Fr _ _ _ _ => kFzq); (with_reducible rename News _ _ _ _ => kNzq); (with_reducible rename IsRange _ _ _ _ _ _ _ _ => kIzq); k_dflt (refine range_loop (n := 3) [Str.ofString "colour", Str.ofString "lines", Str.ofString "blanks"] (by rfl) kFzq kNzq (by exact kIzq) (by decide) (by rfl) (fun m'zq h'zq tk'zq hm'zq F'zq N'zq => ?_) (fun k'zq t'zq I'zq it'zq m'zq h'zq tk'zq hk'zq ho'zq hm'zq F'zq N'zq => ?_)); (all_goals (clear kFzq kNzq; (rw [hm'zq.map3] at F'zq); (try dsimp only)))))
  k_with "call type:zip" => ((k_here; (with_reducible rename Fr _ _ _ _ => kFzq); (with_reducible rename News _ _ _ _ => kNzq); (with_reducible rename VsP _ _ => kPzq); (with_reducible rename MarksL _ _ _ => kMzq); k_dflt (refine zip_drawn [Str.ofString "place", Str.ofString "drawn"] kPzq kMzq (by rfl) kFzq kNzq (by k_mem) (by k_mem) (fun p hp => by k_extra "x mem") (fun m'zq h'zq tk'zq hm'zq F'zq N'zq => ?_) (fun q'zq n'zq a'zq b'zq c'zq t1'zq t2'zq t3'zq T'zq its'zq m'zq h'zq tk'zq ia'zq ib'zq ic'zq hc'zq hT'zq ho'zq hm'zq F'zq N'zq => ?_) (fun p'zq t'zq q'zq n'zq a'zq b'zq c'zq t1'zq t2'zq t3'zq T'zq its'zq m'zq h'zq tk'zq ia'zq ib'zq ic'zq hc'zq hT'zq ho'zq hm'zq F'zq N'zq => ?_)); (all_goals (clear kFzq; (rw [hm'zq.map2] at F'zq); (try dsimp only)))))
  k_with "assign Tuple" => ((k_here; (with_reducible show wpAny _ _ (assign (Expr.Tuple _ _ _) _ (Value.ref _)) _ _ _); (with_reducible rename Fr _ _ _ _ => kFzq); (with_reducible rename IsTup _ _ _ => kTzq); k_dflt (refine' unpackN_ ?Fr418 ?Nr418 ?Tr418 ?k1r418 ?k2r418 ?k3r418 ?_; (case Fr418 => exact kFzq); (case Nr418 => k_asm); (case Tr418 => exact kTzq); (case k1r418 => exact rfl); (case k2r418 => exact rfl); (case k3r418 => exact rfl)); clear kFzq; intro h'zq F'zq N'zq))
  k_with "x fix" => (((with_reducible rename Fr _ _ _ _ => kFzq); (with_reducible rename News _ _ _ _ => kNzq); refine turn_fix kFzq kNzq ?sr419 (by assumption) ?mr419; (case sr419 => first | exact fun _ hp => hp | exact fun _ hp => List.mem_cons_of_mem _ hp | exact fun _ hp => List.mem_cons_of_mem _ (List.mem_cons_of_mem _ hp) | exact fun _ hp => List.mem_cons_of_mem _ (List.mem_cons_of_mem _ (List.mem_cons_of_mem _ hp))); (case mr419 => first | k_extra "x off2" | k_extra "x off3")))
  k_with "TestEnd" => ((refine TestEnd.mk (by with_reducible assumption) (by with_reducible assumption) (fun _ h => h) (by rfl)))
  k_with "EltEnd" => (first
  | (refine EltEnd.mk (by with_reducible assumption) (by with_reducible assumption) (fun _ h => h) ⟨_, rfl⟩)
  | (refine EltEnd.mk (by with_reducible assumption) (by with_reducible assumption) (fun _ h => h) (votes_step (by with_reducible assumption) (by with_reducible assumption))))
  trivial
set_option maxRecDepth 100000 in
set_option maxHeartbeats 8000000 in
theorem law_go : PySem.Challenge.rw_xe0005_01.Holds := hd (by
  k_go0
  (all_goals try k_fold)
  k_steps
  (with_reducible rename Fr _ _ _ _ => kF)
  (with_reducible rename News _ _ _ _ => kN)
  (with_reducible rename Obj.data _ = _ => hC)
  (rename BallotsN _ _ _ => kB)
  (rename Cut _ _ => aB)
  refine' iter_listVI (LawInv _ [_, _, _, _, _] _ _ _ _ _ _ _ _) (by rfl) kF kN (by k_mem) (by rfl) (by rfl) (fun I hI => law_start kB hI aB ⟨by with_reducible assumption, by with_reducible assumption, by with_reducible assumption⟩ ⟨by with_reducible assumption, by with_reducible assumption, by with_reducible assumption, by with_reducible assumption⟩ ⟨by with_reducible assumption, by with_reducible assumption, by with_reducible assumption, by with_reducible assumption, by with_reducible assumption⟩) ?hz ?hs
  (rename (_, W.listOf [Value.ref _, Value.ref _, Value.ref _, Value.ref _, Value.ref _].toArray _) ∈ _ => mB)
  have nBK := aB _ mB _ (List.mem_singleton.mpr rfl)
  all_goals (clear kF kN aB)
  case hz =>
    intro I m news hinv
    apply LawInv.fin hinv
    intro done pv cv rv n1 n2 n3 Rest u v w hd hst hap h tk F' N'
    clear hinv
    · have kP := hst.places
      have kM := hst.marks
      have kR := hst.rows
      have kB' := hst.all
      have k5 := hst.five
      have kOk : ∀ d ∈ done, MarksOk d := by rw [hd]; exact BallotsN.ok kB'
      have lR5 := hst.lens.2.2
      have nBK' : @Ne Nat _ _ := nBK
      have aK := fun p hp => (hap p hp).2.2.2.1
      k_steps
      (with_reducible rename RowsS _ _ (List.filterMap id (rowsOf _)) => kS)
      (with_reducible rename Fr _ _ _ _ => kF)
      refine' Assign_C (fun i ys => IntsAre ys ([votesL done 0, votesL done 1, votesL done 2].take i)) kF ?a1 ?a2 ?a3 ?a4 ?a5 ?a6 ?a7 ?a8 ?a9 ?a10 ?a11
      case a1 => rfl
      case a2 => with_unfolding_all rfl
      case a3 => with_unfolding_all rfl
      case a4 => intro _; rfl
      case a5 => intro _; rfl
      case a6 => rfl
      case a7 => decide
      case a8 => rfl
      case a9 => rfl
      case a10 => rfl
      k_steps
      (with_reducible rename Fr _ _ _ _ => kF)
      (with_reducible rename News _ _ _ _ => kN)
      (with_reducible rename IsRange _ _ _ _ _ _ _ _ => kI)
      refine' RSrc.mk (n := 3) ?b1 kF kN kI ?b2 ?b3 ?b4 ?b5 ?b6 ?b7
      case b1 => rfl
      case b2 => decide
      case b3 => rfl
      case b4 => decide
      case b5 => exact .nil
      case b6 =>
        intro i' t9 I' oI' C' oC' c' oc' D' ys' h' tk' E' hi' hR' hd' F' N' off' ne'
        simp only [LCg.Off3, and_true] at off'
        k_steps
        refine EltEnd.mk (by with_reducible assumption) (by with_reducible assumption) (fun _ h => List.mem_cons_of_mem _ h) (votes_step (by with_reducible assumption) hR')
      case b7 =>
        intro D' h' tk' ys' hR'
        apply ints3_el hR'
        intro t1' t2' t3' F' N' o1'
        simp only [LCg.Off1, and_true] at o1'
        clear hR'
        try dsimp only
        k_steps
        all_goals (k_extra "x fix")
  case hs =>
    intro I l1 x r m news hinv
    replace l1 := allLt_of l1
    dsimp only [AllLt] at l1
    apply LawInv.turn hinv
    clear hinv
    · intro T M n k a b c h t0 t1 t2 t3 ds' done pv cv rv n1 n2 n3 Rest u v w mT mM ia ib ic ih hr hd hst hap zp zc zr hp tk o F' N'
      have fT1 := (hap _ mT).1
      have fT2 := (hap _ mT).2.1
      have fT3 := (hap _ mT).2.2.1
      have fT4 := (hap _ mT).2.2.2.1
      have fT5 := (hap _ mT).2.2.2.2
      have fM1 := (hap _ mM).1
      have fM2 := (hap _ mM).2.1
      have fM3 := (hap _ mM).2.2.1
      have fM4 := (hap _ mM).2.2.2.1
      have fM5 := (hap _ mM).2.2.2.2
      dsimp only at fT1 fT2 fT3 fT4 fT5 fM1 fM2 fM3 fM4 fM5
      have nIR := Nat.ne_of_gt l1.1
      have nIC := Nat.ne_of_gt l1.2.1
      have nIP := Nat.ne_of_gt l1.2.2.1
      have nIB := Nat.ne_of_gt l1.2.2.2.1
      have nIK := Nat.ne_of_gt l1.2.2.2.2.1
      have h5 := done_len hd
      have aP := fun p hp => (hap p hp).1
      have aC := fun p hp => (hap p hp).2.1
      have aR := fun p hp => (hap p hp).2.2.1
      have aK := fun p hp => (hap p hp).2.2.2.1
      have aI := fun p hp => (hap p hp).2.2.2.2
      (with_reducible rename News _ _ _ _ => kN)
      replace kN := News.dup (News.dup kN (by k_extra "x mem" : (M, _) ∈ _)) (by k_extra "x mem" : (T, _) ∈ _)
      apply three_ways ih <;> intro hh
      · k_steps
        (with_reducible rename Fr _ _ _ _ => kF)
        (with_reducible rename News _ _ _ _ => kN)
        refine turn_end kF kN (lawst_yes hst h5 hh ia ib ic (by assumption)) hr (by rw [List.append_assoc]; exact hd) (by k_subL) (fun p hp => by k_extra "x mem") nIR nIC nIP nIB nIK hap (apart2 ?_ ?_ ?_ ?_ ?_ ?_ ?_ ?_ ?_ ?_) (by k_extra "x off3")
        all_goals k_ne
      · k_steps
        (with_reducible rename Fr _ _ _ _ => kF)
        (with_reducible rename News _ _ _ _ => kN)
        exact turn_end kF kN (lawst_no hst h5 hh.1) hr (by rw [List.append_assoc]; exact hd) (by k_subL) (fun p hp => by k_extra "x mem") nIR nIC nIP nIB nIK hap apart0 (by k_extra "x off3")
      · k_steps
        (with_reducible rename Fr _ _ _ _ => kF)
        (with_reducible rename News _ _ _ _ => kN)
        exact turn_end kF kN (lawst_no hst h5 (show 6 ≤ h by omega)) hr (by rw [List.append_assoc]; exact hd) (by k_subL) (fun p hp => by k_extra "x mem") nIR nIC nIP nIB nIK hap apart0 (by k_extra "x off3"))

end
end Mine
theorem PySem.Challenge.cw_xe0005_01_holds : PySem.Challenge.rw_xe0005_01.Holds :=
  Mine.law_go
