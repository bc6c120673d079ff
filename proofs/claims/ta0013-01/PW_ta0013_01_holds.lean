import PyProof.Rows.All
import Wide.All
import OpenK.AllK
import Wide.FinOn
import KE.KTab
import PyProof.CompFree
import PyProof.CompUse
import PySem.Challenge.RW_ta0013_01
set_option Elab.async false
section
open PySem PySem.W PyProof.Rows
set_option Elab.async false
namespace Mine
set_option maxRecDepth 100000 in
set_option maxHeartbeats 8000000 in
open_top hd for PySem.Challenge.rw_ta0013_01
end Mine
end

section
set_option maxRecDepth 100000
open PySem PySem.W PySem.Calls PyProof.Rows PySem.Spec
set_option Elab.async false
set_option linter.unusedVariables false
namespace Mine

/-- what stands in the one heap stands in the other -/
abbrev Ext (h h' : Heap) : Prop := ∀ b o, h.get? b = some o → h'.get? b = some o
/-- the same, but for some addresses -/
abbrev XB (l : List Addr) (h h' : Heap) : Prop := ∀ b o, b ∉ l → h.get? b = some o → h'.get? b = some o
/-- sequences stand -/
abbrev LP (h h' : Heap) : Prop := ∀ (b : Addr) (o : Obj) (its : Array Value) (n : Nat), h.get? b = some o → o.data = .seq its n → h'.get? b = some o
theorem LP.isList {h h' : Heap} (k : LP h h') {a : Addr} {its : Array Value} (x : h.IsList a its) : h'.IsList a its := let ⟨o, ho, hc, n, hd⟩ := x; ⟨o, k a o its n ho hd, hc, n, hd⟩
theorem LP.plain {h h' : Heap} (k : LP h h') {a : Addr} {its : Array Value} (x : h.PlainList a its) : h'.PlainList a its := let ⟨n, ho⟩ := x; ⟨n, k a _ its n ho rfl⟩
theorem LP.trans {h h' h'' : Heap} (k : LP h h') (k' : LP h' h'') : LP h h'' := fun b o its n e d => k' b o its n (k b o its n e d) d
theorem XB.trans {l : List Addr} {h h' h'' : Heap} (k : XB l h h') (k' : XB l h' h'') : XB l h h'' := fun b o n e => k' b o n (k b o n e)

structure Wd (w : World) (mean : ExcName → Option Value) (mg mb : Str → Option Value) (h : Heap) : Prop where
  X : (hd.heap_39 w.params).In h
  T : Top hd.view_39 (looseW hd.view_39 [Str.ofString "_twin_re_1", Str.ofString "_twin_re_2", Str.ofString "COMPILER_FLAG_NAMES"]) mean mg mb h

theorem Wd.keeps {w mean mg mb h h'} (x : Wd w mean mg mb h) (k : Ext h h') : Wd w mean mg mb h' := ⟨x.X.keeps k, x.T.keeps k⟩

theorem frExt {h₀ h h' : Heap} {L : Addr} {m : Str → Option Value} (F : Fr h₀ L h m) (k : Ext h h') : Fr h₀ L h' m :=
  ⟨let ⟨o, es, ep, x, y⟩ := F.ns; ⟨o, es, ep, k _ _ x, y⟩, fun b o q => k b o (F.keep b o q), F.above⟩
theorem newsExt {h₀ h h' : Heap} {L : Addr} {news : List (Addr × Obj)} (N : News h₀ L h news) (k : Ext h h') : News h₀ L h' news := fun p hp => ⟨k _ _ (N p hp).1, (N p hp).2⟩
abbrev Ar (dp un : Nat) (fr : Option (List Env)) (gd : Option (List Code)) : Around := { handled := none, depth := dp, frames := fr, guards := gd, units := un }
/-- a call that makes objects and changes none -/
def Does (w : World) (mean : ExcName → Option Value) (mg mb : Str → Option Value) (f : Addr) (vs : List Value) (d : Nat) (P : Shared → Prop) (R : Shared → Heap → Nat → Value → Prop) : Prop :=
  ∀ (dp un : Nat) (fr : Option (List Env)) (gd : Option (List Code)) (s : Shared) (Q E : Value → Shared → Prop), dp + d < recursionLimit → un + 8 * d + 8 < cLine → Wd w mean mg mb s.heap → P s →
    (∀ v h' tk', Ext s.heap h' → s.toks ≤ tk' → R s h' tk' v → Q v { s with heap := h', toks := tk' }) →
    wpAny (model PySem.Challenge.rw_ta0013_01.row.prog w) (Ar dp un fr gd) (call (.ref f) vs) Q E s

theorem frSee {h₀ h : Heap} {L : Addr} {m : Str → Option Value} (F : Fr h₀ L h m) (x : Str) {v : Option Value} (e : m x = v) : Fr h₀ L h (fun y => if y = x then v else m y) := by
  have : (fun y => if y = x then v else m y) = m := by
    funext y
    by_cases q : y = x
    · rw [if_pos q, q, e]
    · rw [if_neg q]
  rw [this]; exact F

section
variable {w : World} {mean : ExcName → Option Value} {mg mb : Str → Option Value} {A : Around} {s : Shared} {E : Value → Shared → Prop}
theorem enter {prog : Program} {name qual : Str} {params : Arguments} {body : List Stmt} {scope : Scope} {dV kV doc pm cdv ct oc : Value} {an od : Option Addr} {osl : Array (Option Value)} {f : Addr} {args : List Value} {Q : Value → Shared → Prop}
    (W : Wd w mean mg mb s.heap) (binds : List (Str × Value)) (m₀ : Str → Option Value)
    (ho : (hd.heap_39 w.params).lookup f = some ⟨oc, od, .func (fnOf name qual params body scope dV kV doc pm an cdv ct), osl⟩) (hcd : codeIn (hd.heap_39 w.params) cdv qual = true) (hroom : A.depth < recursionLimit)
    (hbind : bindArgs (fnOf name qual params body scope dV kV doc pm an cdv ct) ⟨args, []⟩ = pure binds) (hloc : (binds.all fun x => decide (scope.names.lookup x.1 = some .local)) = true)
    (hm : (fun y => binds.reverse.lookup y) = m₀)
    (h : ∀ h₁ tk₁, s.toks ≤ tk₁ → Fr s.heap s.heap.objs.size h₁ m₀ → News s.heap s.heap.objs.size h₁ [] →
      wpAny (model prog w) (A.deeper (envOf qual scope s.heap.objs.size f cdv)) (execs body (envOf qual scope s.heap.objs.size f cdv))
        (fun fl s' => s.toks ≤ s'.toks → Q (match fl with | .ret v => v | _ => .none) s')
        (fun _ _ => False)
        { s with heap := h₁, toks := tk₁ })
    (hco : scope.isCoroutine = false) (hgen : scope.isGenerator = false) (hk : scope.kind = .function)
    (hcell : ∀ x ∈ scope.names, x.2 ≠ .cell) : wpAny (model prog w) A (call (.ref f) args) Q E s := by
  refine wpAny_call (codeAny_call_def (fd := fnOf name qual params body scope dV kV doc pm an cdv ct) (body := body) (binds := binds) hroom (W.X _ _ ho) rfl W.T.nolimit (codeRec_of W.X hcd) rfl (BindsTo.of_eq hbind) hcell (locs hloc) (fun h₁ hns hk₁ => ?_) hco hgen hk)
  exact wpAny_with_toks (n := s.toks) (Nat.le_add_right _ _) (wpAny_mono (h h₁ _ (Nat.le_add_right _ _) ⟨hm ▸ hns, hk₁, Nat.le_refl _⟩ (fun _ hp => nomatch hp)) (fun _ _ q => q) (fun _ _ x => x.elim))

theorem Does.use {dp un : Nat} {fr : Option (List Env)} {gd : Option (List Code)} {f : Addr} {vs : List Value} {d : Nat} {P : Shared → Prop} {R : Shared → Heap → Nat → Value → Prop} {h₀ : Heap} {L : Addr} {m : Str → Option Value} {news : List (Addr × Obj)} {Q : Value → Shared → Prop}
    (C : Does w mean mg mb f vs d P R) (W : Wd w mean mg mb h₀) (F : Fr h₀ L s.heap m) (N : News h₀ L s.heap news) (hd : dp + d < recursionLimit) (hu : un + 8 * d + 8 < cLine) (hP : P s)
    (h : ∀ v h' tk', Fr h₀ L h' m → News h₀ L h' news → Ext s.heap h' → s.toks ≤ tk' → R s h' tk' v → Q v { s with heap := h', toks := tk' }) :
    wpAny (model PySem.Challenge.rw_ta0013_01.row.prog w) (Ar dp un fr gd) (call (.ref f) vs) Q E s :=
  C dp un fr gd s Q E hd hu (W.keeps F.keep) hP fun v h' tk' e ht r => h v h' tk' ((frExt F e)) ((newsExt N e)) e ht r

/-- all else that stands: not of the frame's start, not the frame's names, not named -/
def restOf (h₀ : Heap) (L : Addr) (mu : List Addr) (h : Heap) : List (Addr × Obj) :=
  (List.range h.objs.size).filterMap fun a => if a = L ∨ a ∈ mu then none else match h₀.get? a, h.get? a with
    | none, some o => some (a, o)
    | _, _ => none
theorem mem_restOf {h₀ h : Heap} {L : Addr} {mu : List Addr} {p : Addr × Obj} : p ∈ restOf h₀ L mu h ↔ (p.1 ≠ L ∧ p.1 ∉ mu ∧ h₀.get? p.1 = none ∧ h.get? p.1 = some p.2) := by
  obtain ⟨a, o⟩ := p
  unfold restOf
  rw [List.mem_filterMap]
  constructor
  · rintro ⟨b, hb, e⟩
    split at e
    · cases e
    · rename_i hn
      split at e
      · rename_i o' h1 h2
        cases e
        exact ⟨fun q => hn (.inl q), fun q => hn (.inr q), h1, h2⟩
      · cases e
  · rintro ⟨h1, h2, h3, h4⟩
    refine ⟨a, List.mem_range.mpr (Heap.lt_size h4), ?_⟩
    dsimp only at h1 h2 h3 h4
    rw [if_neg (fun q => q.elim h1 h2), h3, h4]
theorem news_rest {h₀ h : Heap} {L : Addr} {led : List (Addr × Obj)} (hl : ∀ p ∈ led, h.get? p.1 = some p.2 ∧ p.1 ≠ L ∧ h₀.get? p.1 = none) : News h₀ L h (led ++ restOf h₀ L (led.map (·.1)) h) := by
  intro p hp
  rcases List.mem_append.mp hp with hp | hp
  · exact hl p hp
  · have := mem_restOf.mp hp
    exact ⟨this.2.2.2, this.1, this.2.2.1⟩
theorem rest_off {h₀ h : Heap} {L : Addr} {mu : List Addr} {a : Addr} (ha : a ∈ mu) : ∀ p ∈ restOf h₀ L mu h, p.1 ≠ a := fun p hp e => (mem_restOf.mp hp).2.1 (e ▸ ha)
theorem xb_of {h₀ h h' : Heap} {L : Addr} {m m' : Str → Option Value} {mu : List Addr} {news' : List (Addr × Obj)} (F : Fr h₀ L h m) (F' : Fr h₀ L h' m') (N' : News h₀ L h' news') (hs : ∀ p ∈ restOf h₀ L mu h, p ∈ news') : XB (L :: mu) h h' := by
  intro b o hb e
  cases q : h₀.get? b with
  | some o' =>
    have := F.keep b o' q
    rw [e] at this
    cases this
    exact F'.keep b o q
  | none => exact (N' (b, o) (hs _ (mem_restOf.mpr ⟨fun e => hb (e ▸ .head _), fun m => hb (.tail _ m), q, e⟩))).1

/-- a turn's end -/
def TurnOk (s : Shared) (h₀ : Heap) (L : Addr) (mu : List Addr) (Jn : (Str → Option Value) → Heap → Nat → Prop) (Q : Flow → Shared → Prop) (h : Heap) (f : Flow) (s₃ : Shared) : Prop := match f with
  | .brk => Q .next s₃
  | .ret v => Q (.ret v) s₃
  | _ => ∃ h' tk m', s₃ = { s with heap := h', toks := tk } ∧ Fr h₀ L h' m' ∧ XB (L :: mu) h h' ∧ Jn m' h' tk

theorem TurnOk.go {s : Shared} {h₀ : Heap} {L : Addr} {mu : List Addr} {Jn : (Str → Option Value) → Heap → Nat → Prop} {Q : Flow → Shared → Prop} {h h' : Heap} {m m' : Str → Option Value} {news' : List (Addr × Obj)} {tk : Nat}
    (F : Fr h₀ L h m) (F' : Fr h₀ L h' m') (N' : News h₀ L h' news') (hs : ∀ p ∈ restOf h₀ L mu h, p ∈ news') (hj : Jn m' h' tk) : TurnOk s h₀ L mu Jn Q h .next { s with heap := h', toks := tk } :=
  ⟨h', tk, m', rfl, F', xb_of F F' N' hs, hj⟩

/-- an iterator: what it hands on, and the tokens -/
structure Wk (prog : Program) (w : World) (A : Around) (I : Addr) (fp wr : List Addr) (n : Nat) (P : Nat → Value → Nat → Nat → Prop) (St : Nat → Heap → Prop) : Prop where
  sub : ∀ b ∈ wr, b ∈ fp
  frame : ∀ i h h', St i h → (∀ b ∈ fp, ∀ o, h.get? b = some o → h'.get? b = some o) → St i h'
  item : ∀ i (s : Shared) (Q : Option Value → Shared → Prop) (E : Value → Shared → Prop), i < n → St i s.heap →
    (∀ v h' tk, P i v s.toks tk → s.toks ≤ tk → St (i + 1) h' → (∀ b o, b ∉ wr → s.heap.get? b = some o → h'.get? b = some o) → Q (some v) { s with heap := h', toks := tk }) → wpAny (model prog w) A (pyNext (.ref I)) Q E s
  done : ∀ (s : Shared) (Q : Option Value → Shared → Prop) (E : Value → Shared → Prop), St n s.heap →
    (∀ h' tk, s.toks ≤ tk → (∀ b o, b ∉ wr → s.heap.get? b = some o → h'.get? b = some o) → Q none { s with heap := h', toks := tk }) → wpAny (model prog w) A (pyNext (.ref I)) Q E s
theorem Wk.of {prog : Program} {I : Addr} {fp wr : List Addr} {n : Nat} {P : Nat → Value → Prop} {St : Nat → Heap → Prop} (W : Walks prog w A I fp wr n P St) : Wk prog w A I fp wr n (fun i v _ _ => P i v) St where
  sub := W.sub
  frame := W.frame
  item := fun i s Q E hi st h => wpAny_with_toks (n := s.toks) (Nat.le_refl _) (W.item i s _ _ hi st fun v h' tk hP st' hk ht => h v h' tk hP ht st' hk)
  done := fun s Q E st h => wpAny_with_toks (n := s.toks) (Nat.le_refl _) (W.done s _ _ st fun h' tk hk ht => h h' tk ht hk)
theorem Wk.range {prog : Program} (hh : A.handled = none) (I : Addr) (n : Nat) :
    Wk prog w A I [I] [I] n (fun i v t₀ t₁ => v = .int (i : Int) t₀ ∧ t₁ = t₀ + 1) (fun i h => IsRangeIter h I (i : Int) ((n : Int) - (i : Nat)) 1) where
  sub := fun _ hb => hb
  frame := fun _ _ _ st hk => hk I (by simp) _ st
  item := fun i s Q E hi st hQ => by
    refine wpAny_pyNext_range_item st (by omega) fun h' hit' hs' => ?_
    refine hQ _ h' _ ⟨rfl, rfl⟩ (Nat.le_succ _) ?_ fun b o hb e => hs'.extBut b o (fun h => hb (by simp [h])) e
    have e1 : ((i + 1 : Nat) : Int) = (i : Int) + 1 := by push_cast; rfl
    have e2 : (n : Int) - ((i + 1 : Nat) : Int) = (n : Int) - (i : Int) - 1 := by push_cast; omega
    rw [e2, e1]; exact hit'
  done := fun s Q E st hQ => wpAny_pyNext_range_end hh st (by omega) fun h' he' => hQ h' s.toks (Nat.le_refl _) fun b o hb e => he' b o (fun h => hb (by simp [h])) e
theorem Wk.strAscii {prog : Program} (hh : A.handled = none) (I : Addr) (x : Str) (t : Tok) :
    Wk prog w A I [I] [I] x.cps.size (fun i v t₀ t₁ => ∃ c, x.cps[i]? = some c ∧ v = .str ⟨#[c]⟩ t₀ ∧ t₁ = t₀ + 1) (fun i h => h.IsStrIter I "str_ascii_iterator" x t i) where
  sub := fun _ hb => hb
  frame := fun _ _ _ st hk => let ⟨o, ho, r⟩ := st; ⟨o, hk I (by simp) o ho, r⟩
  item := fun i s Q E hi st hQ => by
    refine wpAny_pyNext_ascii_item st (c := x.cps[i]) (by simp [hi]) fun h' hit' hs' => ?_
    exact hQ _ h' (s.toks + 1) ⟨_, by simp [hi], rfl, rfl⟩ (Nat.le_succ _) hit' fun b o hb e => hs'.extBut b o (fun h => hb (by simp [h])) e
  done := fun s Q E st hQ => wpAny_pyNext_ascii_end hh st (by simp) fun h' he' => hQ h' s.toks (Nat.le_refl _) fun b o hb e => he' b o (fun h => hb (by simp [h])) e
theorem Wk.strWide {prog : Program} (hh : A.handled = none) (I : Addr) (x : Str) (t : Tok) :
    Wk prog w A I [I] [I] x.cps.size (fun i v t₀ t₁ => ∃ c, x.cps[i]? = some c ∧ v = .str ⟨#[c]⟩ t₀ ∧ t₁ = t₀ + 1) (fun i h => h.IsStrIter I "str_iterator" x t i) where
  sub := fun _ hb => hb
  frame := fun _ _ _ st hk => let ⟨o, ho, r⟩ := st; ⟨o, hk I (by simp) o ho, r⟩
  item := fun i s Q E hi st hQ => by
    refine wpAny_pyNext_wide_item st (c := x.cps[i]) (by simp [hi]) fun h' hit' hs' => ?_
    exact hQ _ h' (s.toks + 1) ⟨_, by simp [hi], rfl, rfl⟩ (Nat.le_succ _) hit' fun b o hb e => hs'.extBut b o (fun h => hb (by simp [h])) e
  done := fun s Q E st hQ => wpAny_pyNext_wide_end hh st (by simp) fun h' he' => hQ h' s.toks (Nat.le_refl _) fun b o hb e => he' b o (fun h => hb (by simp [h])) e

theorem for_walk {prog : Program} {env : Env} {h₀ g : Heap} {x : Str} {px : Pos} {body orelse : List Stmt} {I : Addr} {fp wr : List Addr} {n : Nat} {P : Nat → Value → Nat → Nat → Prop} {St : Nat → Heap → Prop} {m : Str → Option Value} {mu : List Addr} {Q : Flow → Shared → Prop}
    (W : Wk prog w A I fp wr n P St) (hfp : ∀ b ∈ fp, b ∉ env.locals :: mu) (hg : Ext g s.heap) (hwr : ∀ b ∈ wr, g.get? b = none) (hsq : ∀ i h, St i h → ∀ b ∈ wr, ∃ o, h.get? b = some o ∧ ∀ its n, o.data ≠ .seq its n)
    (hx : env.kindOf x = some .local) (hp : (env.scope.kind == .class || (env.scope.kind == .module && env.locals != env.globals)) = false)
    (hst : St 0 s.heap) (Fg : Fr h₀ env.locals g m) (F : Fr h₀ env.locals s.heap m) (J : Nat → (Str → Option Value) → Heap → Nat → Prop)
    (hJ : ∀ i m h h' tk tk', J i m h tk → LP h h' → tk ≤ tk' → J i m h' tk') (h0 : J 0 m s.heap s.toks)
    (step : ∀ i v m₁ h tk t₀, i < n → P i v t₀ tk → s.toks ≤ t₀ → t₀ ≤ tk → J i m₁ h (tk + 1) → Fr h₀ env.locals h (fun y => if y = x then some v else m₁ y) → XB (env.locals :: mu) g h → St (i + 1) h →
      wpAny (model prog w) A (execs body env) (TurnOk s h₀ env.locals mu (J (i + 1)) Q h) (fun _ _ => False) { s with heap := h, toks := tk + 1 })
    (done : ∀ m₁ h tk, s.toks ≤ tk → J n m₁ h tk → Fr h₀ env.locals h m₁ → XB (env.locals :: mu) g h → wpAny (model prog w) A (execs orelse env) Q (fun _ _ => False) { s with heap := h, toks := tk }) :
    codeAny (model prog w) A (.forLoop (.Name x px) (.ref I) body orelse env) (fun r s' => match r with | .ok f => Q f s' | .error e => cameBackBy (model prog w) A env E e s') s := by
  have hLf : env.locals ∉ fp := fun q => hfp _ q (.head _)
  have hLw : env.locals ∉ wr := fun q => hLf (W.sub _ q)
  have old : ∀ b o, h₀.get? b = some o → b ∉ wr := fun b o e hb => by
    have := Fg.keep b o e
    rw [hwr b hb] at this; cases this
  refine codeAny_forLoop (fun k s' => ∃ h tk m₁ i, s' = { s with heap := h, toks := tk } ∧ s.toks ≤ tk ∧ St i h ∧ Fr h₀ env.locals h m₁ ∧ XB (env.locals :: mu) g h ∧ J i m₁ h tk ∧ i ≤ n ∧ k = n + 1 - i) ?_ (n + 1)
    ⟨s.heap, s.toks, m, 0, rfl, Nat.le_refl _, hst, F, fun b o _ e => hg b o e, h0, Nat.zero_le _, rfl⟩
  rintro k s' ⟨h, tk, m₁, i, rfl, htk, hst', F', hxb, hJi, hi, rfl⟩
  have next : ∀ h₁ : Heap, (∀ b o, b ∉ wr → h.get? b = some o → h₁.get? b = some o) → Fr h₀ env.locals h₁ m₁ ∧ XB (env.locals :: mu) g h₁ ∧ LP h h₁ := fun h₁ hk₁ =>
    ⟨⟨F'.ns.at' fun o e => hk₁ _ o hLw e, fun b o e => hk₁ b o (old b o e) (F'.keep b o e), F'.above⟩,
      fun b o hb e => hk₁ b o (fun q => by rw [hwr b q] at e; cases e) (hxb b o hb e),
      fun b o its n' e d => hk₁ b o (fun q => by obtain ⟨o', e', d'⟩ := hsq i h hst' b q; rw [e] at e'; cases e'; exact d' _ _ d) e⟩
  by_cases hlt : i < n
  · refine W.item i _ _ _ hlt hst' fun v h₁ tk₁ hP htk₁ hst₁ hk₁ => ?_
    obtain ⟨F₁, hx₁, hl₁⟩ := next h₁ hk₁
    refine wpAny_assign_Name (wpAny_storeName_local hx F₁.ns (fun h₂ hn₂ hs₂ => ?_) hp)
    have F₂ := F₁.set hn₂ hs₂
    have hst₂ : St (i + 1) h₂ := W.frame _ _ _ hst₁ fun b hb o e => (hs₂.2 b fun q => hLf (q ▸ hb)).trans e
    have hx₂ : XB (env.locals :: mu) g h₂ := fun b o hb e => (hs₂.2 b fun q => hb (q ▸ .head _)).trans (hx₁ b o hb e)
    have hl₂ : LP h h₂ := fun b o its n' e d => by
      have e₁ := hl₁ b o its n' e d
      refine (hs₂.2 b fun q => ?_).trans e₁
      obtain ⟨oL, es, ep, hL, hLd, _⟩ := F₁.ns
      subst q
      rw [e₁] at hL
      cases hL
      rw [d] at hLd
      cases hLd
    have htk₁' : tk ≤ tk₁ := htk₁
    refine wpAny_with_toks (n := s.toks) (Nat.le_trans htk (Nat.le_succ_of_le htk₁')) (wpAny_mono (step i v m₁ h₂ tk₁ tk hlt hP htk htk₁' (hJ _ _ _ _ _ _ hJi hl₂ (Nat.le_succ_of_le htk₁')) F₂ hx₂ hst₂) (fun f s₃ h₃ ht₃ => ?_) fun _ _ e => e.elim)
    have fin : (∃ h' tk m', s₃ = { s with heap := h', toks := tk } ∧ Fr h₀ env.locals h' m' ∧ XB (env.locals :: mu) h₂ h' ∧ J (i + 1) m' h' tk) →
        ∃ k', k' < n + 1 - i ∧ ∃ h tk m₁ i, s₃ = { s with heap := h, toks := tk } ∧ s.toks ≤ tk ∧ St i h ∧ Fr h₀ env.locals h m₁ ∧ XB (env.locals :: mu) g h ∧ J i m₁ h tk ∧ i ≤ n ∧ k' = n + 1 - i := by
      rintro ⟨h', tk', m', rfl, F₃, hx₃, hJ₃⟩
      exact ⟨n + 1 - (i + 1), by omega, h', tk', m', i + 1, rfl, ht₃, W.frame _ _ _ hst₂ (fun b hb o e => hx₃ b o (hfp b hb) e), F₃, hx₂.trans hx₃, hJ₃, hlt, rfl⟩
    cases f with
    | next => exact fin h₃
    | cont => exact fin h₃
    | brk => exact h₃
    | ret v => exact h₃
  · have : i = n := by omega
    subst this
    refine W.done _ _ _ hst' fun h₁ tk₁ htk₁ hk₁ => ?_
    obtain ⟨F₁, hx₁, hl₁⟩ := next h₁ hk₁
    exact wpAny_mono (done m₁ h₁ tk₁ (Nat.le_trans htk htk₁) (hJ _ _ _ _ _ _ hJi hl₁ htk₁) F₁ hx₁) (fun _ _ q => q) fun _ _ e => e.elim

section
variable {prog : Program} {env : Env} {h₀ : Heap} {x : Str} {px : Pos} {body orelse : List Stmt} {m : Str → Option Value} {mu : List Addr} {Q : Flow → Shared → Prop}
theorem for_list {l : Addr} {vs : List Value} (hh : A.handled = none) (hl : s.heap.IsList l vs.toArray) (hmu : l ∉ env.locals :: mu)  (hmul : ∀ b ∈ mu, b < s.heap.objs.size)
    (hx : env.kindOf x = some .local) (hp : (env.scope.kind == .class || (env.scope.kind == .module && env.locals != env.globals)) = false)
    (F : Fr h₀ env.locals s.heap m) (J : Nat → (Str → Option Value) → Heap → Nat → Prop)
    (hJ : ∀ i m h h' tk tk', J i m h tk → LP h h' → tk ≤ tk' → J i m h' tk') (h0 : J 0 m s.heap s.toks)
    (step : ∀ i v m₁ h tk, vs[i]? = some v → s.toks ≤ tk → J i m₁ h tk → Fr h₀ env.locals h (fun y => if y = x then some v else m₁ y) → XB (env.locals :: mu) s.heap h →
      wpAny (model prog w) A (execs body env) (TurnOk s h₀ env.locals mu (J (i + 1)) Q h) (fun _ _ => False) { s with heap := h, toks := tk })
    (done : ∀ m₁ h tk, s.toks ≤ tk → J vs.length m₁ h tk → Fr h₀ env.locals h m₁ → XB (env.locals :: mu) s.heap h → wpAny (model prog w) A (execs orelse env) Q (fun _ _ => False) { s with heap := h, toks := tk }) :
    wpAny (model prog w) A (pyIter (.ref l)) (fun it s₂ => codeAny (model prog w) A (.forLoop (.Name x px) it body orelse env) (fun r s' => match r with | .ok f => Q f s' | .error e => cameBackBy (model prog w) A env E e s') s₂) E s := by
  obtain ⟨ol, hol, hcl, nl, hdl⟩ := id hl
  have hlt := Heap.lt_size hol
  refine wpAny_pyIter_list hl ?_
  have W := Wk.of (Walks.list (prog := prog) (w := w) hh s.heap.objs.size l (Nat.ne_of_lt hlt) vs.toArray)
  have ext : Ext s.heap (s.heap.push { cls := .type "list_iterator", data := .fields #[.ref l, .int 0 0] }) := fun b o e => Heap.get?_push_of_some _ e
  refine for_walk (g := s.heap) (mu := mu) W ?_ ext ?_ ?_ hx hp ⟨⟨_, Heap.get?_push_size _ rfl, rfl, rfl⟩, hl.at fun o e => Heap.get?_push_of_some _ e⟩ F (F.push _) J hJ (hJ _ _ _ _ _ _ h0 (fun b o _ _ e _ => ext b o e) (Nat.le_refl _)) ?_ ?_
  · intro b hb
    rcases List.mem_cons.mp hb with rfl | hb
    · intro q
      rcases List.mem_cons.mp q with e | q
      · exact absurd F.ns.lt (by rw [← e]; exact Nat.lt_irrefl _)
      · exact absurd (hmul _ q) (Nat.lt_irrefl _)
    · rw [List.mem_singleton.mp hb]; exact hmu
  · intro b hb
    rw [List.mem_singleton.mp hb]
    exact Heap.get?_none_of_le (Nat.le_refl _)
  · rintro i h ⟨⟨o, ho, hc, hd⟩, _⟩ b hb
    rw [List.mem_singleton.mp hb]
    exact ⟨o, ho, fun its n q => by rw [hd] at q; cases q⟩
  · intro i v m₁ h tk t₀ hi hP ht₀ ht₁ hJi F₁ hx₁ _
    exact wpAny_mono (step i v m₁ h (tk + 1) (by simpa using hP) (Nat.le_succ_of_le (Nat.le_trans ht₀ ht₁)) hJi F₁ hx₁) (fun f s₃ q => by cases f <;> exact q) fun _ _ e => e
  · intro m₁ h tk ht hJn F₁ hx₁
    exact done m₁ h tk ht (by simpa using hJn) F₁ hx₁

theorem for_range {r : Addr} {b₀ : Int} {t₀ u₀ v₀ : Tok} {n : Nat} (hh : A.handled = none) (hr : IsRange s.heap r 0 b₀ 1 t₀ u₀ v₀) (hb : b₀ = (n : Int)) (hn : n < 1000000) (hmul : ∀ b ∈ mu, b < s.heap.objs.size)
    (hx : env.kindOf x = some .local) (hp : (env.scope.kind == .class || (env.scope.kind == .module && env.locals != env.globals)) = false)
    (F : Fr h₀ env.locals s.heap m) (J : Nat → (Str → Option Value) → Heap → Nat → Prop)
    (hJ : ∀ i m h h' tk tk', J i m h tk → LP h h' → tk ≤ tk' → J i m h' tk') (h0 : J 0 m s.heap s.toks)
    (step : ∀ i t m₁ h tk, i < n → s.toks ≤ t → t < tk → J i m₁ h tk → Fr h₀ env.locals h (fun y => if y = x then some (.int i t) else m₁ y) → XB (env.locals :: mu) s.heap h →
      wpAny (model prog w) A (execs body env) (TurnOk s h₀ env.locals mu (J (i + 1)) Q h) (fun _ _ => False) { s with heap := h, toks := tk })
    (done : ∀ m₁ h tk, s.toks ≤ tk → J n m₁ h tk → Fr h₀ env.locals h m₁ → XB (env.locals :: mu) s.heap h → wpAny (model prog w) A (execs orelse env) Q (fun _ _ => False) { s with heap := h, toks := tk }) :
    wpAny (model prog w) A (pyIter (.ref r)) (fun it s₂ => codeAny (model prog w) A (.forLoop (.Name x px) it body orelse env) (fun r s' => match r with | .ok f => Q f s' | .error e => cameBackBy (model prog w) A env E e s') s₂) E s := by
  subst hb
  have hrs : Builtin.Range.rangeSize 0 (n : Int) 1 = (n : Int) := by
    have := rangeSize_nat 0 n
    simpa using this
  refine wpAny_pyIter_range hr (small_one (by omega) (by omega) (by omega) (by omega)) ?_
  have W := Wk.range (prog := prog) (w := w) hh s.heap.objs.size n
  have ext : Ext s.heap (s.heap.push { cls := .type "range_iterator", data := .fields #[rawInt 0, rawInt (Builtin.Range.rangeSize 0 n 1), rawInt 1] }) := fun b o e => Heap.get?_push_of_some _ e
  refine for_walk (g := s.heap) (mu := mu) W ?_ ext ?_ ?_ hx hp (by show IsRangeIter _ _ _ _ _; rw [hrs]; simpa using Heap.get?_push_size _ rfl) F (F.push _) J hJ (hJ _ _ _ _ _ _ h0 (fun b o _ _ e _ => ext b o e) (Nat.le_refl _)) ?_ ?_
  · intro b hb q
    rw [List.mem_singleton.mp hb] at q
    rcases List.mem_cons.mp q with e | q
    · exact absurd F.ns.lt (by rw [← e]; exact Nat.lt_irrefl _)
    · exact absurd (hmul _ q) (Nat.lt_irrefl _)
  · intro b hb
    rw [List.mem_singleton.mp hb]
    exact Heap.get?_none_of_le (Nat.le_refl _)
  · rintro i h hi b hb
    rw [List.mem_singleton.mp hb]
    exact ⟨_, hi, fun its n q => by cases q⟩
  · rintro i v m₁ h tk t₀ hi ⟨rfl, rfl⟩ ht₀ ht₁ hJi F₁ hx₁ _
    exact wpAny_mono (step i t₀ m₁ h _ hi ht₀ (by omega) hJi F₁ hx₁) (fun f s₃ q => by cases f <;> exact q) fun _ _ e => e
  · exact done

theorem for_str {y : Str} {t : Tok} (hh : A.handled = none) (hmul : ∀ b ∈ mu, b < s.heap.objs.size)
    (hx : env.kindOf x = some .local) (hp : (env.scope.kind == .class || (env.scope.kind == .module && env.locals != env.globals)) = false)
    (F : Fr h₀ env.locals s.heap m) (J : Nat → (Str → Option Value) → Heap → Nat → Prop)
    (hJ : ∀ i m h h' tk tk', J i m h tk → LP h h' → tk ≤ tk' → J i m h' tk') (h0 : J 0 m s.heap s.toks)
    (step : ∀ i c u m₁ h tk, y.cps[i]? = some c → s.toks ≤ u → u < tk → J i m₁ h tk → Fr h₀ env.locals h (fun z => if z = x then some (.str ⟨#[c]⟩ u) else m₁ z) → XB (env.locals :: mu) s.heap h →
      wpAny (model prog w) A (execs body env) (TurnOk s h₀ env.locals mu (J (i + 1)) Q h) (fun _ _ => False) { s with heap := h, toks := tk })
    (done : ∀ m₁ h tk, s.toks ≤ tk → J y.cps.size m₁ h tk → Fr h₀ env.locals h m₁ → XB (env.locals :: mu) s.heap h → wpAny (model prog w) A (execs orelse env) Q (fun _ _ => False) { s with heap := h, toks := tk }) :
    wpAny (model prog w) A (pyIter (.str y t)) (fun it s₂ => codeAny (model prog w) A (.forLoop (.Name x px) it body orelse env) (fun r s' => match r with | .ok f => Q f s' | .error e => cameBackBy (model prog w) A env E e s') s₂) E s := by
  have main : ∀ (ty : String) (W : Wk prog w A s.heap.objs.size [s.heap.objs.size] [s.heap.objs.size] y.cps.size (fun i v t₀ t₁ => ∃ c, y.cps[i]? = some c ∧ v = .str ⟨#[c]⟩ t₀ ∧ t₁ = t₀ + 1) (fun i h => h.IsStrIter s.heap.objs.size ty y t i)),
      codeAny (model prog w) A (.forLoop (.Name x px) (.ref s.heap.objs.size) body orelse env) (fun r s' => match r with | .ok f => Q f s' | .error e => cameBackBy (model prog w) A env E e s') { s with heap := s.heap.push { cls := .type ty, data := .fields #[.str y t, .int 0 0] } } := by
    intro ty W
    have ext : Ext s.heap (s.heap.push { cls := .type ty, data := .fields #[.str y t, .int 0 0] }) := fun b o e => Heap.get?_push_of_some _ e
    refine for_walk (g := s.heap) (mu := mu) W ?_ ext ?_ ?_ hx hp ⟨_, Heap.get?_push_size _ rfl, rfl, rfl⟩ F (F.push _) J hJ (hJ _ _ _ _ _ _ h0 (fun b o _ _ e _ => ext b o e) (Nat.le_refl _)) ?_ ?_
    · intro b hb q
      rw [List.mem_singleton.mp hb] at q
      rcases List.mem_cons.mp q with e | q
      · exact absurd F.ns.lt (by rw [← e]; exact Nat.lt_irrefl _)
      · exact absurd (hmul _ q) (Nat.lt_irrefl _)
    · intro b hb
      rw [List.mem_singleton.mp hb]
      exact Heap.get?_none_of_le (Nat.le_refl _)
    · rintro i h ⟨o, ho, hc, hd⟩ b hb
      rw [List.mem_singleton.mp hb]
      exact ⟨o, ho, fun its n q => by rw [hd] at q; cases q⟩
    · rintro i v m₁ h tk t₀ hi ⟨c, hc, rfl, rfl⟩ ht₀ ht₁ hJi F₁ hx₁ _
      exact wpAny_mono (step i c t₀ m₁ h _ hc ht₀ (by omega) hJi F₁ hx₁) (fun f s₃ q => by cases f <;> exact q) fun _ _ e => e
    · exact done
  cases ha : y.cps.all (· < 128)
  · exact wpAny_pyIter_wide ha (main "str_iterator" (Wk.strWide hh _ y t))
  · exact wpAny_pyIter_ascii ha (main "str_ascii_iterator" (Wk.strAscii hh _ y t))
end
end
end Mine
end

section
set_option maxRecDepth 100000
open PySem PySem.W PySem.Calls PyProof.Rows PySem.Spec
set_option Elab.async false


namespace Mine
theorem ty_getitem : typeOf (.builtin "list.__getitem__") = pure (.type "method_descriptor") := by
  rw [typeOf]; kernel_rfl
theorem md_get : typeLookup (.type "method_descriptor") "__get__" = pure (some (.builtin "method_descriptor.__get__")) := by rw [typeLookup_type, builtinLookup_eq_fast]; kernel_rfl
theorem md_set : typeLookup (.type "method_descriptor") "__set__" = pure none := by rw [typeLookup_type, builtinLookup_eq_fast]; kernel_rfl
theorem md_delete : typeLookup (.type "method_descriptor") "__delete__" = pure none := by rw [typeLookup_type, builtinLookup_eq_fast]; kernel_rfl
theorem md_entry : entryFor table "method_descriptor.__get__" = some Builtin.«method_descriptor.__get__» := entryFor_of_fast (by kernel_rfl)
theorem hasattr_entry : entryFor table "hasattr" = some Builtin.«hasattr» := entryFor_of_fast (by kernel_rfl)
theorem slot_md_get : Slot "method_descriptor" "__get__" "method_descriptor.__get__" :=
  .of (owner := "method_descriptor") (n := "__get__") (by rw [typeLookup_type, builtinLookup_eq_fast]; kernel_rfl) (by decide +kernel) (by decide +kernel) (by decide +kernel)
    (by first | exact .inl (by decide +kernel) | exact .inr (by decide +kernel)) (by rw [isSubtype_type]; kernel_rfl)
theorem args_md_get (a b c : Value) : argsOk "method_descriptor.__get__" ⟨[a, b, c], []⟩ := by unfold argsOk; kernel_rfl
theorem args_hasattr (a b : Value) : argsOk "hasattr" ⟨[a, b], []⟩ := by unfold argsOk; kernel_rfl

theorem own_of : (".".intercalate ("list.__getitem__".cutAt '.').dropLast) = "list" := by kernel_rfl
theorem sub_list : isSubtype (.type "list") (.type "list") = pure true := by rw [isSubtype_type]; kernel_rfl
theorem sub_list' : isSubtype (.type "list") (.type (".".intercalate ("list.__getitem__".cutAt '.').dropLast)) = pure true := by rw [own_of]; exact sub_list
theorem told_no : Manifest.toldItsClass.contains "list.__getitem__" = false := by decide +kernel
set_option maxHeartbeats 4000000 in
theorem meets_md_get (a : Addr) (xs : Array Value) (k : Nat) :
    Meets (Builtin.«method_descriptor.__get__» ⟨[.builtin "list.__getitem__", .ref a, .type "list"], []⟩) (fun A R s => s.heap.get? a = some { cls := .type "list", dict := none, data := .seq xs k } ∧
      ∀ h' tk q, (∀ b o, s.heap.get? b = some o → h'.get? b = some o) → R (.ok (.ret (.ref q))) { s with heap := h', toks := tk }) :=
  Meets.of_wp fun prog w A R s hs => by
    obtain ⟨hp, g, d, tk, os⟩ := s
    obtain ⟨hx, hs⟩ := hs
    have hT : (⟨hp, g, d, tk, os⟩ : Shared).TypeIs (.ref a) "list" := ⟨_, hx, rfl⟩
    unfold Builtin.«method_descriptor.__get__»
    iterate 5 wp_step
    show wpAny _ _ (if Manifest.toldItsClass.contains "list.__getitem__" = true then _ else _) _ _ _
    rw [if_neg (by rw [told_no]; exact Bool.false_ne_true)]
    repeat (first | (with_reducible refine wpAny_of_eq sub_list' ?_) | wp_step)
    exact ⟨_, rfl, hs _ _ _ fun b o e => Heap.get?_push_of_some _ e⟩

theorem name_ok : (["__module__", "__name__", "__qualname__", "__doc__", "__annotations__"] : List Str).contains (Str.ofString "__getitem__") = false := by decide +kernel
set_option maxHeartbeats 4000000 in
theorem meets_getattribute_hit_list (a : Addr) (xs : Array Value) (k : Nat) (u : Tok) :
    Meets (Builtin.«object.__getattribute__» ⟨[.ref a, .str "__getitem__" u], []⟩) (fun _ R s => s.heap.get? a = some { cls := .type "list", dict := none, data := .seq xs k } ∧
      ∀ h' tk q, (∀ b o, s.heap.get? b = some o → h'.get? b = some o) → R (.ok (.ret (.ref q))) { s with heap := h', toks := tk }) :=
  Meets.of_wp fun prog w A R s hs => by
    obtain ⟨hp, g, d, tk, os⟩ := s
    obtain ⟨hx, hs⟩ := hs
    have hT : (⟨hp, g, d, tk, os⟩ : Shared).TypeIs (.ref a) "list" := ⟨_, hx, rfl⟩
    unfold Builtin.«object.__getattribute__»
    repeat (any_goals (first
      | assumption
      | (with_reducible refine wpAny_of_eq slot_list_getitem.lookup ?_)
      | (with_reducible refine wpAny_specialOf_val ty_getitem md_get ?_)
      | (with_reducible refine wpAny_specialOf_val ty_getitem md_set ?_)
      | (with_reducible refine wpAny_specialOf_val ty_getitem md_delete ?_)
      | ((with_reducible show wpAny _ _ (call (Value.builtin "method_descriptor.__get__") _ _) _ _ _); refine call_meets slot_md_get (show Shared.TypeIs _ (.builtin "list.__getitem__") "method_descriptor" from ty_getitem) md_entry (args_md_get _ _ _) (meets_md_get a xs k) ⟨hx, fun h' tk' q hk => ?_⟩)
      | wp_step))
    exact wpAny_pure ⟨_, rfl, hs _ _ _ hk⟩
theorem sub_list_module : isSubtype (.type "list") (.type "module") = pure false := by rw [isSubtype_type]; kernel_rfl
set_option maxHeartbeats 4000000 in
theorem call_hasattr_list {prog : Program} {w : World} {A : Around} {E : Value → Shared → Prop} {s : Shared} {a : Addr} {xs : Array Value} {k : Nat} {u : Tok} {Q : Value → Shared → Prop}
    (hx : s.heap.get? a = some { cls := .type "list", dict := none, data := .seq xs k }) (h : ∀ h' tk, (∀ b o, s.heap.get? b = some o → h'.get? b = some o) → Q (.bool true) { s with heap := h', toks := tk }) :
    wpAny (model prog w) A (call (.builtin "hasattr") [.ref a, .str "__getitem__" u]) Q E s := by
  refine Calls.call_function_entry (by decide +kernel) (by decide +kernel) hasattr_entry (args_hasattr _ _) ?_
  obtain ⟨hp, g, d, tk, os⟩ := s
  have hT : ∀ tk', (⟨hp, g, d, tk', os⟩ : Shared).TypeIs (.ref a) "list" := fun _ => ⟨_, hx, rfl⟩
  unfold Builtin.«hasattr»
  repeat (any_goals (first
      | assumption
      | exact hT _
      | (with_reducible refine wpAny_of_eq slot_list_getitem.lookup ?_)
      | (with_reducible refine wpAny_of_eq F.slot_list_getattribute.lookup ?_)
      | (with_reducible refine wpAny_of_eq (F.slot_list_getattribute.bind _) ?_)
      | (refine wpAny_of_eq sub_list_module ?_)
      | ((with_reducible show wpAny _ _ (call (Value.builtin "list.__getattribute__") _ _) _ _ _); refine call_meets F.slot_list_getattribute (hT _) am_entry_list_getattribute (F.args_list_getattribute_2 _ _) (meets_getattribute_hit_list a xs k _) ⟨hx, fun h' tk' e hx' => ?_⟩)
      | wp_step))
  show wpAny _ _ (handedOut _) _ _ _
  unfold handedOut
  repeat wp_step
  exact ⟨_, rfl, h _ _ hx'⟩
end Mine
end

section
set_option maxRecDepth 100000
open PySem PySem.W PySem.Calls PyProof.Rows PySem.Spec
set_option Elab.async false
set_option linter.unusedVariables false
namespace Mine
theorem fill_ops : (∀ P, hd.heap_39 P = hd.heap_39 P) ∧ PySem.Challenge.rw_ta0013_01 = PySem.Challenge.rw_ta0013_01 := by
  k_fill
  exact ⟨fun _ => rfl, rfl⟩

set_option maxHeartbeats 8000000 in
theorem add_does {w mean mg mb} (a b : Int) (t u : Tok) : Does w mean mg mb 84 [.int a t, .int b u] 1 (fun _ => True) (fun _ _ _ v => ∃ t, v = .int (a + b) t) := by
  unfold Does
  intro dp un fr gd s Q E hd hu W _ hQ
  have X := W.X
  have T := W.T
  refine enter W [(Str.ofString "a", .int a t), (Str.ofString "b", .int b u)] _ (by k_is) (by k_is) (by show dp < _; omega) rfl rfl rfl (fun h₁ tk₁ ht₁ F N => ?_) rfl rfl rfl (by decide)
  k_fold
  k_steps
  exact hQ _ _ _ F.keep (by assumption) ⟨_, rfl⟩
set_option maxHeartbeats 8000000 in
theorem sub_does {w mean mg mb} (a b : Int) (t u : Tok) : Does w mean mg mb 105 [.int a t, .int b u] 1 (fun _ => True) (fun _ _ _ v => ∃ t, v = .int (a - b) t) := by
  unfold Does
  intro dp un fr gd s Q E hd hu W _ hQ
  have X := W.X
  have T := W.T
  refine enter W [(Str.ofString "a", .int a t), (Str.ofString "b", .int b u)] _ (by k_is) (by k_is) (by show dp < _; omega) rfl rfl rfl (fun h₁ tk₁ ht₁ F N => ?_) rfl rfl rfl (by decide)
  k_fold
  k_steps
  exact hQ _ _ _ F.keep (by assumption) ⟨_, rfl⟩
set_option maxHeartbeats 8000000 in
theorem mul_does {w mean mg mb} (a b : Int) (t u : Tok) (hm : IntMulOk a b) : Does w mean mg mb 98 [.int a t, .int b u] 1 (fun _ => True) (fun _ _ _ v => ∃ t, v = .int (a * b) t) := by
  unfold Does
  intro dp un fr gd s Q E hd hu W _ hQ
  have X := W.X
  have T := W.T
  refine enter W [(Str.ofString "a", .int a t), (Str.ofString "b", .int b u)] _ (by k_is) (by k_is) (by show dp < _; omega) rfl rfl rfl (fun h₁ tk₁ ht₁ F N => ?_) rfl rfl rfl (by decide)
  k_fold
  k_steps
  exact hQ _ _ _ F.keep (by assumption) ⟨_, rfl⟩
set_option maxHeartbeats 8000000 in
theorem lshift_does {w mean mg mb} (d : Nat) (t u : Tok) (hd7 : d ≤ 7) : Does w mean mg mb 91 [.int 1 t, .int d u] 1 (fun _ => True) (fun _ _ _ v => ∃ t, v = .int (2 ^ d) t) := by
  unfold Does
  intro dp un fr gd s Q E hd hu W _ hQ
  have X := W.X
  have T := W.T
  refine enter W [(Str.ofString "a", .int 1 t), (Str.ofString "b", .int d u)] _ (by k_is) (by k_is) (by show dp < _; omega) rfl rfl rfl (fun h₁ tk₁ ht₁ F N => ?_) rfl rfl rfl (by decide)
  k_fold
  k_steps
  exact hQ _ _ _ F.keep (by assumption) ⟨_, by rw [Int.one_mul]; rfl⟩
set_option maxHeartbeats 8000000 in
theorem contains_does {w mean mg mb} (a : Addr) (vs : List Value) (ss : List Str) (c : Str) (u : Tok) (hs : StrsAre vs ss) : Does w mean mg mb 119 [.ref a, .str c u] 1 (fun s => s.heap.IsList a vs.toArray) (fun _ _ _ v => v = .bool (ss.any fun x => x == c)) := by
  unfold Does
  intro dp un fr gd s Q E hd hu W hP hQ
  have X := W.X
  have T := W.T
  refine enter W [(Str.ofString "a", .ref a), (Str.ofString "b", .str c u)] _ (by k_is) (by k_is) (by show dp < _; omega) rfl rfl rfl (fun h₁ tk₁ ht₁ F N => ?_) rfl rfl rfl (by decide)
  k_fold
  k_steps
  exact hQ _ _ _ F.keep (by assumption) rfl
set_option maxHeartbeats 8000000 in
theorem concat_does {w mean mg mb} (a b : Addr) (va vb : List Value) (na : Nat) (hz : va.length + vb.length < 100000) : Does w mean mg mb 112 [.ref a, .ref b] 1 (fun s => s.heap.get? a = some { cls := .type "list", data := .seq va.toArray na } ∧ s.heap.IsList b vb.toArray) (fun s h' _ v => ∃ r n, v = .ref r ∧ h'.get? r = some { cls := .type "list", data := .seq (va ++ vb).toArray n } ∧ s.heap.get? r = none) := by
  unfold Does
  intro dp un fr gd s Q E hd hu W hP hQ
  obtain ⟨hA, hB⟩ := hP
  have hA' : s.heap.IsList a va.toArray := ⟨_, hA, rfl, _, rfl⟩
  have X := W.X
  have T := W.T
  refine enter W [(Str.ofString "a", .ref a), (Str.ofString "b", .ref b)] _ (by k_is) (by k_is) (by show dp < _; omega) rfl rfl rfl (fun h₁ tk₁ ht₁ F N => ?_) rfl rfl rfl (by decide)
  k_fold
  k_steps
  refine call_hasattr_list (F.keep _ _ hA) fun h₂ tk₂ hk => ?_
  replace F := (frExt F hk)
  replace N := (newsExt N hk)
  k_steps
  rename_i h₃ F₃ N₃ _
  exact hQ _ _ _ F₃.keep (by assumption) ⟨_, _, rfl, (N₃ _ (.head _)).1, (N₃ _ (.head _)).2.2⟩
end Mine
end

section
set_option maxRecDepth 100000
open PySem PySem.W PySem.Calls PyProof.Rows PySem.Spec
set_option Elab.async false
set_option linter.unusedVariables false
namespace Mine
local macro_rules | `(tactic| walk_at "exec For") => `(tactic| (with_unfolding_all refine wpAny_For ?_ (by intro _; rfl)))
local macro_rules | `(tactic| walk_at "exec For Name Call cons nil") => `(tactic| (with_unfolding_all refine wpAny_For ?_ (by intro _; rfl)))
local macro_rules | `(tactic| walk_at "exec For Name Name cons nil") => `(tactic| (with_unfolding_all refine wpAny_For ?_ (by intro _; rfl)))

theorem ns_none_of {K : Frag} {h : Heap} {a : Addr} {mg : Str → Option Value} {n : Str} (X : K.In h) (G : h.Ns a mg) (e : nsIn K a n = some none) : mg n = none := by
  obtain ⟨o, es, ep, ho, hd, _, hf⟩ := G
  unfold nsIn at e
  split at e
  · rename_i c d es' n' sl q
    have := X _ _ q
    rw [ho] at this
    cases this
    cases hd
    split at e
    · cases e
    · rename_i he
      rw [← hf]
      unfold nsFind findBy
      rw [← Array.find?_toList, he]
      rfl
  · cases e
theorem booked_none {w mean mg mb} {h : Heap} (W : Wd w mean mg mb h) : NoneBooked h := by
  obtain ⟨mc, h1, _⟩ := W.T.nodigits
  exact ⟨mc, h1, ns_none_of W.X h1 (by k_is)⟩

theorem is_created {M : Model} {A : Around} {E : Value → Shared → Prop} {s : Shared} {eq : Bool} {t u : Nat} {Q : Bool → Shared → Prop} (ht : t ≠ 0) (hu : u ≠ 0) (hne : eq = false → t ≠ u) (hb : NoneBooked s.heap)
    (h : ∀ r : Bool, (r = true → eq = true) → Q r s) : wpAny M A (isSame.created eq t u) Q E s := by
  unfold isSame.created
  have h0 : (t == 0 || u == 0) = false := by simp [ht, hu]
  rw [if_neg (by rw [h0]; exact Bool.false_ne_true)]
  refine wpAny_ite ?_
  split
  · rename_i q
    refine wpAny_pure (h true fun _ => ?_)
    cases e : eq with
    | true => rfl
    | false => exact absurd (beq_iff_eq.mp q) (hne e)
  refine wpAny_ite ?_
  split
  · exact wpAny_pure (h false fun q => nomatch q)
  rename_i hq
  have heq : eq = true := by simpa using hq
  refine wpAny_bind (wpAny_sharingNotTold_none hb ?_)
  first | rw [if_neg Bool.false_ne_true] | simp only [Bool.false_eq_true, if_false]
  refine wpAny_bind (wpAny_sharingNotTold_none hb ?_)
  first | rw [if_neg Bool.false_ne_true] | simp only [Bool.false_eq_true, if_false]
  exact wpAny_bind (wpAny_rule (wpAny_bind (wpAny_askSetting (wpAny_pure (h _ fun _ => heq)))))
theorem is_int {M : Model} {A : Around} {E : Value → Shared → Prop} {s : Shared} {a b : Int} {t u : Nat} {Q : Value → Shared → Prop} (ht : t ≠ 0) (hu : u ≠ 0) (hne : a ≠ b → t ≠ u) (hb : NoneBooked s.heap)
    (h1 : a = b → Q (.bool true) s) (h2 : Q (.bool false) s) : wpAny M A (compareOp .Is (.int a t) (.int b u)) Q E s := by
  show wpAny M A (do return .bool (← isSame (.int a t) (.int b u))) Q E s
  refine wpAny_bind ?_
  show wpAny M A (if (a == b && smallInt a) = true then isSame.cachedInt t u else isSame.created (a == b) t u) _ E s
  have fin : ∀ r : Bool, (r = true → (a == b) = true) → wpAny M A (pure (Value.bool r)) Q E s := fun r hr => by
    refine wpAny_pure ?_
    cases r with
    | true => exact h1 (beq_iff_eq.mp (hr rfl))
    | false => exact h2
  split
  · rename_i q
    unfold isSame.cachedInt
    rw [if_neg (by simp [ht, hu])]
    refine wpAny_bind (wpAny_rule (wpAny_pure (fin true fun _ => ?_)))
    exact (Bool.and_eq_true_iff.mp q).1
  · exact is_created ht hu (fun e => hne (by simpa using e)) hb fun r hr => fin r hr
theorem is_str {M : Model} {A : Around} {E : Value → Shared → Prop} {s : Shared} {a b : Str} {t u : Nat} {Q : Value → Shared → Prop} (ht : t ≠ 0) (hu : u ≠ 0) (hne : t ≠ u) (hb : NoneBooked s.heap)
    (h1 : a = b → Q (.bool true) s) (h2 : Q (.bool false) s) : wpAny M A (compareOp .Is (.str a t) (.str b u)) Q E s := by
  show wpAny M A (do return .bool (← isSame (.str a t) (.str b u))) Q E s
  refine wpAny_bind ?_
  show wpAny M A (isSame.created (a == b) t u) _ E s
  refine is_created ht hu (fun _ => hne) hb fun r hr => ?_
  refine wpAny_pure ?_
  cases r with
  | true => exact h1 (beq_iff_eq.mp (hr rfl))
  | false => exact h2

/-- the ints, and each a token of its own time -/
def IntsT (lo hi : Nat) (vs : List Value) (ns : List Int) : Prop := vs.length = ns.length ∧ ∀ (i : Nat) (n : Int), ns[i]? = some n → ∃ t : Nat, vs[i]? = some (Value.int n t) ∧ lo ≤ t ∧ t < hi

set_option maxHeartbeats 8000000 in
theorem count_does {w mean mg mb} (a : Addr) (vs : List Value) (ns : List Int) (lo hi : Nat) (b : Int) (u : Nat) (hI : IntsT lo hi vs ns) (h0 : 1 ≤ lo) (hlu : hi ≤ u) (hu0 : 1 ≤ u) : Does w mean mg mb 126 [.ref a, .int b u] 2 (fun s => s.heap.IsList a vs.toArray) (fun _ _ _ v => ∃ t, v = .int (ns.count b) t) := by
  unfold Does
  intro dp un fr gd s Q E hd hu W hP hQ
  have X := W.X
  have T := W.T
  refine enter W [(Str.ofString "a", .ref a), (Str.ofString "b", .int b u)] _ (by k_is) (by k_is) (by show dp < _; omega) rfl rfl rfl (fun h₁ tk₁ ht₁ F N => ?_) rfl rfl rfl (by decide)
  k_fold
  k_steps
  rename_i h₂ F N
  dsimp only at *
  refine for_list (mu := []) (by rfl) (hP.at fun o e => F.keep _ _ e) ?_ (by simp) rfl rfl F
    (fun i m h _ => (∃ tc, m (Str.ofString "count") = some (Value.int ((ns.take i).count b) tc)) ∧ m (Str.ofString "b") = some (Value.int b u))
    (fun i m h h' _ _ hj _ _ => hj) ?_ ?_ ?_
  · intro q
    obtain ⟨o, ho, _⟩ := hP
    exact absurd (Heap.lt_size ho) (by rw [List.mem_singleton.mp q]; exact Nat.lt_irrefl _)
  · exact ⟨⟨_, rfl⟩, rfl⟩
  · rintro i v m₁ h tk hv htk ⟨⟨tp, e1⟩, e2⟩ F₁ hx₁
    dsimp only at htk
    obtain ⟨n, t, rfl, hn, ht1, ht2⟩ : ∃ (n : Int) (t : Nat), v = Value.int n t ∧ ns[i]? = some n ∧ lo ≤ t ∧ t < hi := by
      have hlt : i < ns.length := by rw [← hI.1]; exact (List.getElem?_eq_some_iff.mp hv).1
      obtain ⟨t, e, h1, h2⟩ := hI.2 i ns[i] (by simp [hlt])
      rw [hv] at e
      exact ⟨_, t, Option.some.inj e, by simp [hlt], h1, h2⟩
    replace F₁ := ((frSee ((frSee F₁ (Str.ofString "count") (by exact e1))) (Str.ofString "b") (by exact e2)))
    have N₁ := news_rest (h₀ := s.heap) (L := s.heap.objs.size) (h := h) (led := []) (by simp)
    dsimp only [List.nil_append, List.map_nil] at N₁
    have hB := booked_none (W.keeps F₁.keep)
    have htake : (ns.take (i + 1)).count b = (ns.take i).count b + if n = b then 1 else 0 := by
      rw [List.take_add_one, hn]
      simp [List.count_append, List.count_singleton]
    show wpAny _ _ _ _ _ _
    k_fold
    k_steps
    refine is_int (by omega) (by omega) (fun _ => by omega) hB (fun hab => ?_) ?_
    all_goals k_steps
    · have key : _ = _ := htake.trans (congrArg _ (if_pos hab))
      refine' TurnOk.go F₁ ?ta ?tb ?tc ?td; (case ta => assumption); (case tb => assumption); (case tc => exact fun _ h => h); (case td => exact ⟨⟨_, by rw [key]; rfl⟩, rfl⟩)
    · rename_i q _ _ _
      have key : _ = _ := htake.trans (congrArg _ (if_pos q))
      refine' TurnOk.go F₁ ?ta ?tb ?tc ?td; (case ta => assumption); (case tb => assumption); (case tc => exact fun _ h => h); (case td => exact ⟨⟨_, by rw [key]; rfl⟩, rfl⟩)
    · rename_i q
      have key : _ = _ := htake.trans (congrArg _ (if_neg q))
      refine' TurnOk.go F₁ ?ta ?tb ?tc ?td; (case ta => assumption); (case tb => assumption); (case tc => exact fun _ h => h); (case td => exact ⟨⟨_, by rw [key]; rfl⟩, rfl⟩)
  · rintro m₁ h tk htk ⟨⟨tp, e1⟩, e2⟩ F₁ hx₁
    dsimp only at htk
    rw [hI.1, List.take_length] at e1
    replace F₁ := (((frSee F₁ (Str.ofString "count") (by exact e1))))
    have N₁ := news_rest (h₀ := s.heap) (L := s.heap.objs.size) (h := h) (led := []) (by simp)
    dsimp only [List.nil_append, List.map_nil] at N₁
    show wpAny _ _ _ _ _ _
    k_fold
    k_steps
    exact hQ _ _ _ F₁.keep (by assumption) ⟨_, rfl⟩

set_option maxHeartbeats 8000000 in
theorem countS_does {w mean mg mb} (y c : Str) (t u : Nat) (cc : Nat) (hc : c = ⟨#[cc]⟩) (hu0 : 1 ≤ u) : Does w mean mg mb 126 [.str y t, .str c u] 2 (fun s => u < s.toks) (fun _ _ _ v => ∃ t, v = .int (y.cps.toList.count cc) t) := by
  unfold Does
  intro dp un fr gd s Q E hd hu W hP hQ
  replace hP : u < s.toks := hP
  have X := W.X
  have T := W.T
  refine enter W [(Str.ofString "a", .str y t), (Str.ofString "b", .str c u)] _ (by k_is) (by k_is) (by show dp < _; omega) rfl rfl rfl (fun h₁ tk₁ ht₁ F N => ?_) rfl rfl rfl (by decide)
  k_fold
  k_steps
  rename_i h₂ F N
  dsimp only at *
  refine for_str (mu := []) (by rfl) (by simp) rfl rfl F
    (fun i m h _ => (∃ tc, m (Str.ofString "count") = some (Value.int ((y.cps.toList.take i).count cc) tc)) ∧ m (Str.ofString "b") = some (Value.str c u))
    (fun i m h h' _ _ hj _ _ => hj) ?_ ?_ ?_
  · exact ⟨⟨_, rfl⟩, rfl⟩
  · rintro i n t m₁ h tk hn htk htk' ⟨⟨tp, e1⟩, e2⟩ F₁ hx₁
    dsimp only at htk
    replace F₁ := ((frSee ((frSee F₁ (Str.ofString "count") (by exact e1))) (Str.ofString "b") (by exact e2)))
    have N₁ := news_rest (h₀ := s.heap) (L := s.heap.objs.size) (h := h) (led := []) (by simp)
    dsimp only [List.nil_append, List.map_nil] at N₁
    have hB := booked_none (W.keeps F₁.keep)
    have htake : (y.cps.toList.take (i + 1)).count cc = (y.cps.toList.take i).count cc + if n = cc then 1 else 0 := by
      rw [List.take_add_one, Array.getElem?_toList, hn]
      simp [List.count_append, List.count_singleton]
    have hs : ∀ n : Nat, ((⟨#[n]⟩ : Str) = c) ↔ n = cc := fun n => by
      subst hc
      constructor
      · intro q
        have := congrArg (fun z : Str => z.cps) q
        simpa using this
      · rintro rfl; rfl
    show wpAny _ _ _ _ _ _
    k_fold
    k_steps
    refine is_str (by omega) (by omega) (by omega) hB (fun hab => ?_) ?_
    all_goals k_steps
    · have key : _ = _ := htake.trans (congrArg _ (if_pos ((hs n).mp hab)))
      refine' TurnOk.go F₁ ?ta ?tb ?tc ?td; (case ta => assumption); (case tb => assumption); (case tc => exact fun _ h => h); (case td => exact ⟨⟨_, by rw [key]; rfl⟩, rfl⟩)
    · rename_i q _ _ _
      have key : _ = _ := htake.trans (congrArg _ (if_pos ((hs n).mp (beq_iff_eq.mp q))))
      refine' TurnOk.go F₁ ?ta ?tb ?tc ?td; (case ta => assumption); (case tb => assumption); (case tc => exact fun _ h => h); (case td => exact ⟨⟨_, by rw [key]; rfl⟩, rfl⟩)
    · rename_i q
      have key : _ = _ := htake.trans (congrArg _ (if_neg (fun e => absurd (beq_iff_eq.mpr ((hs n).mpr e)) (by rw [q]; exact Bool.false_ne_true))))
      refine' TurnOk.go F₁ ?ta ?tb ?tc ?td; (case ta => assumption); (case tb => assumption); (case tc => exact fun _ h => h); (case td => exact ⟨⟨_, by rw [key]; rfl⟩, rfl⟩)
  · rintro m₁ h tk htk ⟨⟨tp, e1⟩, e2⟩ F₁ hx₁
    dsimp only at htk
    rw [← Array.length_toList, List.take_length] at e1
    replace F₁ := (((frSee F₁ (Str.ofString "count") (by exact e1))))
    have N₁ := news_rest (h₀ := s.heap) (L := s.heap.objs.size) (h := h) (led := []) (by simp)
    dsimp only [List.nil_append, List.map_nil] at N₁
    show wpAny _ _ _ _ _ _
    k_fold
    k_steps
    exact hQ _ _ _ F₁.keep (by assumption) ⟨_, rfl⟩
end Mine
end

section
set_option maxRecDepth 100000
open PySem PySem.W PySem.Calls PyProof.Rows PySem.Spec
set_option Elab.async false
set_option linter.unusedVariables false
namespace Mine
local macro_rules | `(tactic| walk_at "exec For") => `(tactic| (with_unfolding_all refine wpAny_For ?_ (by intro _; rfl)))
local macro_rules | `(tactic| walk_at "exec For Name Call cons nil") => `(tactic| (with_unfolding_all refine wpAny_For ?_ (by intro _; rfl)))
local macro_rules | `(tactic| walk_at "exec For Name Name cons nil") => `(tactic| (with_unfolding_all refine wpAny_For ?_ (by intro _; rfl)))

def prodTo (bs : List Int) (p : Int) : Nat → Int
  | 0 => 1
  | i + 1 => prodTo bs p i * (p + bs.getD i 0 - i)

theorem getD_in {bs : List Int} {lo hi : Int} (h : ∀ x ∈ bs, lo ≤ x ∧ x ≤ hi) (h0 : lo ≤ 0 ∧ 0 ≤ hi) (i : Nat) : lo ≤ bs.getD i 0 ∧ bs.getD i 0 ≤ hi := by
  rw [List.getD_eq_getElem?_getD]
  cases q : bs[i]? with
  | none => exact h0
  | some x => exact h x (List.mem_of_getElem? q)
set_option maxHeartbeats 8000000 in
theorem product_does {w mean mg mb} (b : Addr) (vals : List Value) (bs : List Int) (p : Int) (t : Tok) (hb : bs.length ≤ 4) (hbs : ∀ x ∈ bs, 0 ≤ x ∧ x ≤ 100) (hp : -3000000 ≤ p ∧ p ≤ 3000000) :
    Does w mean mg mb 145 [.ref b, .int p t] 2 (fun s => s.heap.IsList b vals.toArray ∧ IntsAre vals bs) (fun _ _ _ v => ∃ t, v = .int (prodTo bs p bs.length) t) := by
  unfold Does
  intro dp un fr gd s Q E hd hu W hP hQ
  obtain ⟨hL, hI⟩ := hP
  have X := W.X
  have T := W.T
  refine enter W [(Str.ofString "board", .ref b), (Str.ofString "point", .int p t)] _ (by k_is) (by k_is) (by show dp < _; omega) rfl rfl rfl (fun h₁ tk₁ ht₁ F N => ?_) rfl rfl rfl (by decide)
  try dsimp only
  k_fold
  k_steps
  rename_i h₂ tk₂ t₁ t₂ t₃ hR F N k
  dsimp only at *
  refine for_range (mu := []) (n := bs.length) (by rfl) hR rfl (by omega) (by simp) rfl rfl F
    (fun i m h _ => (∃ tp, m (Str.ofString "product") = some (Value.int (prodTo bs p i) tp)) ∧ m (Str.ofString "point") = some (Value.int p t) ∧ m (Str.ofString "board") = some (Value.ref b))
    (fun i m h h' _ _ hj _ _ => hj) ?_ ?_ ?_
  · exact ⟨⟨_, rfl⟩, rfl, rfl⟩
  · rintro i tt m₁ h tk hi htt htk ⟨⟨tp, e1⟩, e2, e3⟩ F₁ hx₁
    replace F₁ := (frSee ((frSee ((frSee F₁ (Str.ofString "product") (by exact e1))) (Str.ofString "point") (by exact e2))) (Str.ofString "board") (by exact e3))
    have N₁ := news_rest (h₀ := s.heap) (L := s.heap.objs.size) (h := h) (led := []) (by simp)
    dsimp only [List.nil_append, List.map_nil] at N₁
    have hg : 0 ≤ bs.getD (Int.toNat ↑i) 0 ∧ bs.getD (Int.toNat ↑i) 0 ≤ 100 := getD_in hbs (by omega) _
    show wpAny _ _ _ _ _ _
    k_fold
    k_steps
    refine' TurnOk.go F₁ ?ta ?tb ?tc ?td
    case ta => assumption
    case tb => assumption
    case tc => exact fun _ h => h
    case td => exact ⟨⟨_, rfl⟩, rfl, rfl⟩
  · rintro m₁ h tk htk ⟨⟨tp, e1⟩, e2, e3⟩ F₁ hx₁
    replace F₁ := (frSee F₁ (Str.ofString "product") (by exact e1))
    have N₁ := news_rest (h₀ := s.heap) (L := s.heap.objs.size) (h := h) (led := []) (by simp)
    dsimp only [List.nil_append, List.map_nil] at N₁
    show wpAny _ _ _ _ _ _
    k_fold
    k_steps
    exact hQ _ _ _ F₁.keep (by assumption) ⟨_, rfl⟩
end Mine
end

section
set_option maxRecDepth 100000
open PySem
set_option Elab.async false
set_option linter.unusedVariables false
namespace Mine
open PySem.Sre

def code1 : Array Nat := #[14, 4, 0, 1, 1, 6, 1, 16, 46, 1]
def code2 : Array Nat := #[14, 9, 4, 1, 2, 16, 10, 16, 13, 0, 7, 7, 16, 13, 16, 10, 15, 18, 5, 16, 10, 15, 13, 11, 16, 13, 5, 5, 0, 16, 10, 1, 15, 2, 0, 1]

/-- so many steps lead there -/
def To (m : M) (k : Nat) (m' : M) : Prop := Nat.repeat M.step k m = m'
theorem To.refl (m : M) : To m 0 m := rfl
theorem To.one (m : M) : To m 1 m.step := rfl
theorem repeat_succ' (k : Nat) (m : M) : Nat.repeat M.step (k + 1) m = Nat.repeat M.step k m.step := by
  induction k generalizing m with
  | zero => rfl
  | succ k ih => show M.step (Nat.repeat M.step (k + 1) m) = _; rw [ih]; rfl
theorem To.cons {m m' : M} {k : Nat} (h : To m.step k m') : To m (k + 1) m' := (repeat_succ' k m).trans h
theorem To.trans {a b c : M} {j k : Nat} (h : To a j b) (h' : To b k c) : To a (j + k) c := by
  induction j generalizing a with
  | zero => cases h; rw [Nat.zero_add]; exact h'
  | succ j ih =>
    have e : To a.step j b := (repeat_succ' j a).symm.trans h
    have := To.cons (ih e)
    rwa [show j + 1 + k = j + k + 1 from by omega]

theorem To.st {m m₁ m' : M} {k : Nat} (e : m.step = m₁) (h : To m₁ k m') : To m (k + 1) m' := To.cons (e ▸ h)
abbrev Fm := PySem.Sre.Frame
def at1 (T : Array Nat) (s pc pos hd : Nat) (out : Bool) (fr : List Fm) (wt : Nat) (an : Option Bool) (sn : Seen) (oc : Option PySem.Sre.Outcome) : M :=
  { code := code1, text := T, lim := T.size, start := s, lastStart := T.size, pc := pc, pos := pos, handed := hd, outermost := out, marks := #[], frames := fr, weight := wt, answer := an, seen := sn, outcome := oc }
def fr1 (s : Nat) (out : Bool) : Fm := { wait := .nextStart, pc := 5, pos := s, outermost := out }
def Line (T : Array Nat) (s : Nat) : Prop := s = 0 ∨ T[s - 1]?.getD 0 = 10

theorem s1_at (T : Array Nat) (s hd : Nat) (out : Bool) (fr : List Fm) (wt : Nat) (sn : Seen) (h : Line T s) :
    (at1 T s 5 s hd out fr wt none sn none).step = at1 T s 7 s hd out fr wt none ((sn.add 6).add 44) none := by
  unfold at1 Line at *
  simp [M.step, M.exec, M.word, code1, ops, M.isAt, h]
theorem s1_at' (T : Array Nat) (s hd : Nat) (out : Bool) (fr : List Fm) (wt : Nat) (sn : Seen) (h : ¬ Line T s) :
    (at1 T s 5 s hd out fr wt none sn none).step = at1 T s 5 s hd out fr wt (some false) ((sn.add 6).add 44) none := by
  unfold at1 Line at *
  simp [M.step, M.exec, M.word, code1, ops, M.isAt, M.say, h]
theorem s1_lit (T : Array Nat) (s hd : Nat) (out : Bool) (fr : List Fm) (wt : Nat) (sn : Seen) (h : s < T.size) (hc : T[s]?.getD 0 = 46) :
    (at1 T s 7 s hd out fr wt none sn none).step = at1 T s 9 (s + 1) hd out fr wt none (sn.add 16) none := by
  unfold at1
  have h' : ¬ T.size ≤ s := by omega
  simp [M.step, M.exec, M.word, code1, ops, accepts, itemWidth, M.say, h', hc]
theorem s1_lit' (T : Array Nat) (s hd : Nat) (out : Bool) (fr : List Fm) (wt : Nat) (sn : Seen) (h : ¬ (s < T.size ∧ T[s]?.getD 0 = 46)) :
    (at1 T s 7 s hd out fr wt none sn none).step = at1 T s 7 s hd out fr wt (some false) (sn.add 16) none := by
  unfold at1
  by_cases h' : T.size ≤ s
  · simp [M.step, M.exec, M.word, code1, ops, accepts, itemWidth, M.say, h']
  · have hc : ¬ T[s]?.getD 0 = 46 := fun q => h ⟨by omega, q⟩
    have hb : (T[s]?.getD 0 == 46) = false := by simpa using hc
    simp [M.step, M.exec, M.word, code1, ops, accepts, itemWidth, M.say, h', hb]
theorem s1_ok (T : Array Nat) (s p hd : Nat) (out : Bool) (fr : List Fm) (wt : Nat) (sn : Seen) :
    (at1 T s 9 p hd out fr wt none sn none).step = at1 T s 9 p p out fr wt (some true) (sn.add 1) none := by
  unfold at1
  simp [M.step, M.exec, M.word, code1, ops, M.say]
theorem s1_back (T : Array Nat) (s p hd pc : Nat) (out o : Bool) (sn : Seen) :
    (at1 T s pc p hd out [fr1 s o] 1 (some true) sn none).step = at1 T s 5 s hd o [] 0 (some true) sn none := by
  unfold at1 fr1
  simp [M.step, M.resume, M.say]
theorem s1_fin (T : Array Nat) (s p hd pc : Nat) (out b : Bool) (sn : Seen) :
    (at1 T s pc p hd out [] 0 (some b) sn none).step = at1 T s pc p hd out [] 0 (some b) sn (some (if b then .matched else .failed)) := by
  unfold at1
  simp [M.step]
theorem s1_next (T : Array Nat) (s p hd pc : Nat) (out o : Bool) (sn : Seen) (h : s < T.size) :
    (at1 T s pc p hd out [fr1 s o] 1 (some false) sn none).step = at1 T (s + 1) 5 (s + 1) (s + 1) false [fr1 (s + 1) false] 1 none sn none := by
  unfold at1 fr1
  simp [M.step, M.resume, M.say, M.putBack, M.attemptFrom, M.hasFirstSet, M.attemptAt, M.attempt, code1, ops, h]
theorem s1_none (T : Array Nat) (s p hd pc : Nat) (out o : Bool) (sn : Seen) (h : ¬ s < T.size) :
    (at1 T s pc p hd out [fr1 s o] 1 (some false) sn none).step = at1 T s 5 s hd o [] 0 (some false) sn none := by
  unfold at1 fr1
  simp [M.step, M.resume, M.say, h]
theorem start1_eq (T : Array Nat) (p : Nat) : forSearch code1 T 0 p T.size false =
    (if (decide (p > T.size) || decide (T.size - p < 1)) = true then M.say { at1 T p 5 p p true [] 0 none (({} : Seen).add 14) none with lastStart := 0 } false
     else M.attemptFrom { at1 T p 5 p p true [] 0 none (({} : Seen).add 14) none with lastStart := T.size } p true) := rfl
theorem start1 (T : Array Nat) (p : Nat) (h : p < T.size) : forSearch code1 T 0 p T.size false = at1 T p 5 p p true [fr1 p true] 1 none (({} : Seen).add 14) none := by
  have h' : ¬ (p > T.size) := by omega
  have h'' : ¬ (T.size - p < 1) := by omega
  rw [start1_eq, if_neg (by simp [h', h''])]
  rfl
theorem start1' (T : Array Nat) : forSearch code1 T 0 T.size T.size false = { at1 T T.size 5 T.size T.size true [] 0 (some false) (({} : Seen).add 14) none with lastStart := 0 } := by
  rw [start1_eq, if_pos (by simp)]
  rfl
theorem s1_fin0 (T : Array Nat) (s p hd pc : Nat) (out b : Bool) (sn : Seen) :
    (M.step { at1 T s pc p hd out [] 0 (some b) sn none with lastStart := 0 }).outcome = some (if b then .matched else .failed) := by
  unfold at1
  simp [M.step]

/-- where a row's first dot stands, from s on -/
def nx1 (T : Array Nat) (s : Nat) : Nat → Option Nat
  | 0 => none
  | n + 1 => if (s == 0 || T[s - 1]?.getD 0 == 10) && T[s]?.getD 0 == 46 then some s else nx1 T (s + 1) n

theorem run1 (T : Array Nat) : ∀ (n s : Nat), s + n = T.size → ∀ (o : Bool) (sn : Seen), ∃ k m', k ≤ 3 * n + 6 ∧ To (at1 T s 5 s s o [fr1 s o] 1 none sn none) k m' ∧
    match nx1 T s n with
    | some b => m'.outcome = some .matched ∧ m'.start = b ∧ m'.handed = b + 1
    | none => m'.outcome = some .failed := by
  intro n
  induction n with
  | zero =>
    intro s hs o sn
    have hn : ¬ s < T.size := by omega
    by_cases hl : Line T s
    · exact ⟨4, _, by omega, To.st (s1_at T s s o _ 1 sn hl) (To.st (s1_lit' T s s o _ 1 _ (fun q => hn q.1)) (To.st (s1_none T s s s 7 o o _ hn) (To.st (s1_fin T s s s 5 o false _) (To.refl _)))), rfl⟩
    · exact ⟨3, _, by omega, To.st (s1_at' T s s o _ 1 sn hl) (To.st (s1_none T s s s 5 o o _ hn) (To.st (s1_fin T s s s 5 o false _) (To.refl _))), rfl⟩
  | succ n ih =>
    intro s hs o sn
    have hn : s < T.size := by omega
    by_cases hl : Line T s
    · by_cases hc : T[s]?.getD 0 = 46
      · have e : nx1 T s (n + 1) = some s := by
          unfold nx1 Line at *
          rw [if_pos (by simpa [hc] using hl)]
        rw [e]
        exact ⟨5, _, by omega, To.st (s1_at T s s o _ 1 sn hl) (To.st (s1_lit T s s o _ 1 _ hn hc) (To.st (s1_ok T s (s + 1) s o _ 1 _) (To.st (s1_back T s (s + 1) (s + 1) 9 o o _) (To.st (s1_fin T s s (s + 1) 5 o true _) (To.refl _))))), rfl, rfl, rfl⟩
      · have e : nx1 T s (n + 1) = nx1 T (s + 1) n := by
          rw [nx1, if_neg (by simp [hc])]
        rw [e]
        obtain ⟨k, m', hk, ht, hm⟩ := ih (s + 1) (by omega) false ((((sn.add 6).add 44)).add 16)
        exact ⟨k + 3, m', by omega, To.st (s1_at T s s o _ 1 sn hl) (To.st (s1_lit' T s s o _ 1 _ (fun q => hc q.2)) (To.st (s1_next T s s s 7 o o _ hn) ht)), hm⟩
    · have e : nx1 T s (n + 1) = nx1 T (s + 1) n := by
        rw [nx1, if_neg]
        unfold Line at hl
        intro q
        simp only [Bool.and_eq_true, Bool.or_eq_true, beq_iff_eq] at q
        exact hl q.1
      rw [e]
      obtain ⟨k, m', hk, ht, hm⟩ := ih (s + 1) (by omega) false ((sn.add 6).add 44)
      exact ⟨k + 2, m', by omega, To.st (s1_at' T s s o _ 1 sn hl) (To.st (s1_next T s s s 5 o o _ hn) ht), hm⟩
theorem search1 (T : Array Nat) (s : Nat) (h : s ≤ T.size) : ∃ k m', k ≤ 3 * (T.size - s) + 6 ∧ To (forSearch code1 T 0 s T.size false) k m' ∧
    match nx1 T s (T.size - s) with
    | some b => m'.outcome = some .matched ∧ m'.start = b ∧ m'.handed = b + 1
    | none => m'.outcome = some .failed := by
  by_cases hs : s < T.size
  · rw [start1 T s hs]
    exact run1 T _ s (by omega) _ _
  · have : s = T.size := by omega
    subst this
    rw [start1', Nat.sub_self]
    exact ⟨1, _, by omega, To.one _, s1_fin0 ..⟩
end Mine
end

section
set_option maxRecDepth 100000
open PySem
set_option Elab.async false
set_option linter.unusedVariables false
set_option linter.unusedSimpArgs false
namespace Mine
open PySem.Sre

def at2 (T : Array Nat) (s pc pos hd : Nat) (out : Bool) (fr : List Fm) (wt : Nat) (an : Option Bool) (sn : Seen) (oc : Option PySem.Sre.Outcome) : M :=
  { code := code2, text := T, lim := T.size, start := s, lastStart := T.size, pc := pc, pos := pos, handed := hd, outermost := out, marks := #[], frames := fr, weight := wt, answer := an, seen := sn, outcome := oc }
def fr2 (s : Nat) : Fm := { wait := .nextStart, pc := 10, pos := s, outermost := true }
def br2 (pc s : Nat) (o : Bool) : Fm := { wait := .nextBranch, pc := pc, pos := s, outermost := o, kept := {} }
def lk2 (s : Nat) (o : Bool) : Fm := { wait := .lookNot, pc := 26, pos := s, outermost := o, kept := {} }

theorem set2 (c : Nat) (sn : Seen) : ∃ sn', inSet code2 c code2.size 5 true sn = .ok (c == 10 || c == 13, sn') := by
  by_cases h : c = 10
  · subst h; exact ⟨_, rfl⟩
  · by_cases h' : c = 13
    · subst h'; exact ⟨_, rfl⟩
    · refine ⟨((sn.add 16).add 16).add 0, ?_⟩
      have h1 : (c == 10) = false := by simpa using h
      have h2 : (c == 13) = false := by simpa using h'
      simp [inSet, code2, ops, h1, h2]
/-- the first end of a row from s on -/
def nx2 (T : Array Nat) (s : Nat) : Nat → Option Nat
  | 0 => none
  | n + 1 => if T[s]?.getD 0 == 10 || T[s]?.getD 0 == 13 then some s else nx2 T (s + 1) n
theorem admit2 (m : M) (hc : m.code = code2) (T : Array Nat) (hT : m.text = T) (hl : m.lim = T.size) : ∀ (n s : Nat), s + n = T.size → ∀ sn, ∃ sn', M.admitted m (n + 1) s sn = .ok (nx2 T s n, sn') := by
  intro n
  induction n with
  | zero =>
    intro s hs sn
    refine ⟨sn, ?_⟩
    rw [M.admitted, if_pos (by rw [hl]; omega)]; rfl
  | succ n ih =>
    intro s hs sn
    rw [M.admitted, if_neg (by rw [hl]; omega), hc, hT]
    obtain ⟨sn', e⟩ := set2 (T.getD s 0) sn
    rw [e, nx2]
    have e2 : T.getD s 0 = T[s]?.getD 0 := by simp
    rw [e2]
    cases hb : (T[s]?.getD 0 == 10 || T[s]?.getD 0 == 13) with
    | true => exact ⟨sn', rfl⟩
    | false =>
      obtain ⟨sn'', e3⟩ := ih (s + 1) (by omega) sn'
      exact ⟨sn'', e3⟩
theorem start2_eq (T : Array Nat) (p : Nat) : forSearch code2 T 0 p T.size false =
    (if (decide (p > T.size) || decide (T.size - p < 1)) = true then M.say { at2 T p 10 p p true [] 0 none (({} : Seen).add 14) none with lastStart := 0 } false
     else M.attemptFrom { at2 T p 10 p p true [] 0 none (({} : Seen).add 14) none with lastStart := T.size } p true) := rfl
theorem start2' (T : Array Nat) : forSearch code2 T 0 T.size T.size false = { at2 T T.size 10 T.size T.size true [] 0 (some false) (({} : Seen).add 14) none with lastStart := 0 } := by
  rw [start2_eq, if_pos (by simp)]
  rfl
theorem start2 (T : Array Nat) (p : Nat) (h : p < T.size) : ∃ sn, forSearch code2 T 0 p T.size false = match nx2 T p (T.size - p) with
    | some b => at2 T b 10 b b true [fr2 b] 1 none sn none
    | none => at2 T p 10 p p true [] 0 (some false) sn none := by
  have h' : ¬ (p > T.size) := by omega
  have h'' : ¬ (T.size - p < 1) := by omega
  rw [start2_eq, if_neg (by simp [h', h''])]
  unfold M.attemptFrom
  have hf : (M.hasFirstSet { at2 T p 10 p p true [] 0 none (({} : Seen).add 14) none with lastStart := T.size }) = true := rfl
  rw [hf]
  obtain ⟨sn, e⟩ := admit2 { at2 T p 10 p p true [] 0 none (({} : Seen).add 14) none with lastStart := T.size } rfl T rfl rfl (T.size - p) p (by omega) (({} : Seen).add 14)
  refine ⟨sn, ?_⟩
  have e' : M.admitted { at2 T p 10 p p true [] 0 none (({} : Seen).add 14) none with lastStart := T.size } (T.size + 1 - p) p (({} : Seen).add 14) = .ok (nx2 T p (T.size - p), sn) := by
    rw [show T.size + 1 - p = T.size - p + 1 from by omega]; exact e
  show (match M.admitted { at2 T p 10 p p true [] 0 none (({} : Seen).add 14) none with lastStart := T.size } (T.size + 1 - p) p (({} : Seen).add 14) with
    | .ok (some s, seen) => _
    | .ok (none, seen) => _
    | .error why => _) = _
  rw [e']
  cases nx2 T p (T.size - p) with
  | none => rfl
  | some b => rfl
-- the steps
theorem s2_branch (T : Array Nat) (s hd : Nat) (out : Bool) (fr : List Fm) (sn : Seen) :
    (at2 T s 10 s hd out fr 1 none sn none).step = at2 T s 12 s s out (br2 11 s out :: fr) 2 none (sn.add 7) none := by
  unfold at2 br2
  simp [M.step, M.exec, M.word, code2, ops, M.alternative, M.attempt, M.frame, M.keep]
theorem s2_lit13 (T : Array Nat) (s hd pc p : Nat) (out : Bool) (fr : List Fm) (wt : Nat) (sn : Seen) (hpc : pc = 12 ∨ pc = 24) (h : p < T.size) (hc : T[p]?.getD 0 = 13) :
    (at2 T s pc p hd out fr wt none sn none).step = at2 T s (pc + 2) (p + 1) hd out fr wt none (sn.add 16) none := by
  unfold at2
  have h' : ¬ T.size ≤ p := by omega
  rcases hpc with rfl | rfl <;> simp [M.step, M.exec, M.word, code2, ops, accepts, itemWidth, M.say, h', hc]
theorem s2_lit10 (T : Array Nat) (s hd pc p : Nat) (out : Bool) (fr : List Fm) (wt : Nat) (sn : Seen) (hpc : pc = 14 ∨ pc = 19 ∨ pc = 29) (h : p < T.size) (hc : T[p]?.getD 0 = 10) :
    (at2 T s pc p hd out fr wt none sn none).step = at2 T s (pc + 2) (p + 1) hd out fr wt none (sn.add 16) none := by
  unfold at2
  have h' : ¬ T.size ≤ p := by omega
  rcases hpc with rfl | rfl | rfl <;> simp [M.step, M.exec, M.word, code2, ops, accepts, itemWidth, M.say, h', hc]
theorem s2_lit13' (T : Array Nat) (s hd pc p : Nat) (out : Bool) (fr : List Fm) (wt : Nat) (sn : Seen) (hpc : pc = 12 ∨ pc = 24) (h : ¬ (p < T.size ∧ T[p]?.getD 0 = 13)) :
    (at2 T s pc p hd out fr wt none sn none).step = at2 T s pc p hd out fr wt (some false) (sn.add 16) none := by
  unfold at2
  by_cases h' : T.size ≤ p
  · rcases hpc with rfl | rfl <;> simp [M.step, M.exec, M.word, code2, ops, accepts, itemWidth, M.say, h']
  · have hb : (T[p]?.getD 0 == 13) = false := by simpa using fun q => h ⟨by omega, q⟩
    rcases hpc with rfl | rfl <;> simp [M.step, M.exec, M.word, code2, ops, accepts, itemWidth, M.say, h', hb]
theorem s2_lit10' (T : Array Nat) (s hd pc p : Nat) (out : Bool) (fr : List Fm) (wt : Nat) (sn : Seen) (hpc : pc = 14 ∨ pc = 19 ∨ pc = 29) (h : ¬ (p < T.size ∧ T[p]?.getD 0 = 10)) :
    (at2 T s pc p hd out fr wt none sn none).step = at2 T s pc p hd out fr wt (some false) (sn.add 16) none := by
  unfold at2
  by_cases h' : T.size ≤ p
  · rcases hpc with rfl | rfl | rfl <;> simp [M.step, M.exec, M.word, code2, ops, accepts, itemWidth, M.say, h']
  · have hb : (T[p]?.getD 0 == 10) = false := by simpa using fun q => h ⟨by omega, q⟩
    rcases hpc with rfl | rfl | rfl <;> simp [M.step, M.exec, M.word, code2, ops, accepts, itemWidth, M.say, h', hb]
theorem s2_jump (T : Array Nat) (s hd pc p : Nat) (out : Bool) (fr : List Fm) (wt : Nat) (sn : Seen) (hpc : pc = 16 ∨ pc = 21 ∨ pc = 32) :
    (at2 T s pc p hd out fr wt none sn none).step = at2 T s 35 p hd out fr wt none (sn.add 15) none := by
  unfold at2
  rcases hpc with rfl | rfl | rfl <;> simp [M.step, M.exec, M.word, code2, ops]
theorem s2_ok (T : Array Nat) (s hd pc p : Nat) (out : Bool) (fr : List Fm) (wt : Nat) (sn : Seen) (hpc : pc = 31 ∨ pc = 35) :
    (at2 T s pc p hd out fr wt none sn none).step = at2 T s pc p p out fr wt (some true) (sn.add 1) none := by
  unfold at2
  rcases hpc with rfl | rfl <;> simp [M.step, M.exec, M.word, code2, ops, M.say]
theorem s2_brOk (T : Array Nat) (s hd pc p q bp : Nat) (out o : Bool) (fr : List Fm) (sn : Seen) :
    (at2 T s pc p hd out (br2 bp q o :: fr) 2 (some true) sn none).step = at2 T s bp q hd o fr 1 (some true) sn none := by
  unfold at2 br2
  simp [M.step, M.resume, M.say, M.putBack]
theorem s2_br2 (T : Array Nat) (s hd pc p q : Nat) (out o : Bool) (fr : List Fm) (sn : Seen) :
    (at2 T s pc p hd out (br2 11 q o :: fr) 2 (some false) sn none).step = at2 T s 19 q q o (br2 18 q o :: fr) 2 none sn none := by
  unfold at2 br2
  simp [M.step, M.resume, M.say, M.putBack, M.alternative, M.attempt, M.frame, code2]
theorem s2_br3 (T : Array Nat) (s hd pc p q : Nat) (out o : Bool) (fr : List Fm) (sn : Seen) :
    (at2 T s pc p hd out (br2 18 q o :: fr) 2 (some false) sn none).step = at2 T s 24 q q o (br2 23 q o :: fr) 2 none sn none := by
  unfold at2 br2
  simp [M.step, M.resume, M.say, M.putBack, M.alternative, M.attempt, M.frame, code2]
theorem s2_look (T : Array Nat) (s hd p : Nat) (out : Bool) (fr : List Fm) (sn : Seen) :
    (at2 T s 26 p hd out fr 2 none sn none).step = at2 T s 29 p p false (lk2 p out :: fr) 3 none (sn.add 5) none := by
  unfold at2 lk2
  simp [M.step, M.exec, M.word, code2, ops, M.attempt, M.frame, M.keep]
theorem s2_lookOk (T : Array Nat) (s hd pc p q : Nat) (out o : Bool) (fr : List Fm) (sn : Seen) :
    (at2 T s pc p hd out (lk2 q o :: fr) 3 (some false) sn none).step = at2 T s 32 q hd o fr 2 none sn none := by
  unfold at2 lk2
  simp [M.step, M.resume, M.say, M.putBack, M.word, code2]
theorem s2_back (T : Array Nat) (s p hd pc q : Nat) (out : Bool) (sn : Seen) :
    (at2 T s pc p hd out [fr2 q] 1 (some true) sn none).step = at2 T s 10 q hd true [] 0 (some true) sn none := by
  unfold at2 fr2
  simp [M.step, M.resume, M.say]
theorem s2_fin (T : Array Nat) (s p hd pc : Nat) (out b : Bool) (sn : Seen) :
    (at2 T s pc p hd out [] 0 (some b) sn none).step = at2 T s pc p hd out [] 0 (some b) sn (some (if b then .matched else .failed)) := by
  unfold at2
  simp [M.step]
theorem s2_fin0 (T : Array Nat) (s p hd pc : Nat) (out b : Bool) (sn : Seen) :
    (M.step { at2 T s pc p hd out [] 0 (some b) sn none with lastStart := 0 }).outcome = some (if b then .matched else .failed) := by
  unfold at2
  simp [M.step]
theorem nx2_spec (T : Array Nat) : ∀ (n s b : Nat), nx2 T s n = some b → s ≤ b ∧ b < s + n ∧ (T[b]?.getD 0 = 10 ∨ T[b]?.getD 0 = 13) := by
  intro n
  induction n with
  | zero => intro s b h; cases h
  | succ n ih =>
    intro s b h
    rw [nx2] at h
    split at h
    · rename_i q
      cases h
      refine ⟨Nat.le_refl _, by omega, ?_⟩
      simpa using q
    · obtain ⟨h1, h2, h3⟩ := ih _ _ h
      exact ⟨by omega, by omega, h3⟩
/-- how long an end of a row is -/
def wd2 (T : Array Nat) (b : Nat) : Nat := if T[b]?.getD 0 = 13 ∧ b + 1 < T.size ∧ T[b + 1]?.getD 0 = 10 then 2 else 1
theorem search2 (T : Array Nat) (p : Nat) (h : p ≤ T.size) : ∃ k m', k ≤ 20 ∧ To (forSearch code2 T 0 p T.size false) k m' ∧
    match nx2 T p (T.size - p) with
    | some b => m'.outcome = some .matched ∧ m'.start = b ∧ m'.handed = b + wd2 T b
    | none => m'.outcome = some .failed := by
  by_cases hs : p < T.size
  · obtain ⟨sn, e⟩ := start2 T p hs
    rw [e]
    cases hb : nx2 T p (T.size - p) with
    | none => exact ⟨1, _, by omega, To.st (s2_fin T p p p 10 true false sn) (To.refl _), rfl⟩
    | some b =>
      dsimp only
      obtain ⟨h1, h2, h3⟩ := nx2_spec T _ _ _ hb
      have hbl : b < T.size := by omega
      rcases h3 with hc | hc
      · have e1 : wd2 T b = 1 := by unfold wd2; rw [if_neg (fun q => by rw [hc] at q; exact absurd q.1 (by decide))]
        rw [e1]
        exact ⟨9, _, by omega, To.st (s2_branch T b b true _ sn) (To.st (s2_lit13' T b b 12 b true _ 2 _ (.inl rfl) (fun q => by rw [hc] at q; exact absurd q.2 (by decide)))
          (To.st (s2_br2 T b b 12 b b true true _ _) (To.st (s2_lit10 T b b 19 b true _ 2 _ (.inr (.inl rfl)) hbl hc) (To.st (s2_jump T b b 21 (b + 1) true _ 2 _ (.inr (.inl rfl)))
          (To.st (s2_ok T b b 35 (b + 1) true _ 2 _ (.inr rfl)) (To.st (s2_brOk T b (b + 1) 35 (b + 1) b 18 true true _ _) (To.st (s2_back T b b (b + 1) 18 b true _) (To.st (s2_fin T b b (b + 1) 10 true true _) (To.refl _))))))))), rfl, rfl, rfl⟩
      · by_cases hn : b + 1 < T.size ∧ T[b + 1]?.getD 0 = 10
        · have e1 : wd2 T b = 2 := by unfold wd2; rw [if_pos ⟨hc, hn⟩]
          rw [e1]
          exact ⟨8, _, by omega, To.st (s2_branch T b b true _ sn) (To.st (s2_lit13 T b b 12 b true _ 2 _ (.inl rfl) hbl hc) (To.st (s2_lit10 T b b 14 (b + 1) true _ 2 _ (.inl rfl) hn.1 hn.2)
            (To.st (s2_jump T b b 16 (b + 2) true _ 2 _ (.inl rfl)) (To.st (s2_ok T b b 35 (b + 2) true _ 2 _ (.inr rfl)) (To.st (s2_brOk T b (b + 2) 35 (b + 2) b 11 true true _ _)
            (To.st (s2_back T b b (b + 2) 11 b true _) (To.st (s2_fin T b b (b + 2) 10 true true _) (To.refl _)))))))), rfl, rfl, rfl⟩
        · have e1 : wd2 T b = 1 := by unfold wd2; rw [if_neg (fun q => hn q.2)]
          rw [e1]
          have hx : ¬ (b < T.size ∧ T[b]?.getD 0 = 10) := fun q => by rw [hc] at q; exact absurd q.2 (by decide)
          exact ⟨15, _, by omega, To.st (s2_branch T b b true _ sn) (To.st (s2_lit13 T b b 12 b true _ 2 _ (.inl rfl) hbl hc) (To.st (s2_lit10' T b b 14 (b + 1) true _ 2 _ (.inl rfl) hn)
            (To.st (s2_br2 T b b 14 (b + 1) b true true _ _) (To.st (s2_lit10' T b b 19 b true _ 2 _ (.inr (.inl rfl)) hx) (To.st (s2_br3 T b b 19 b b true true _ _)
            (To.st (s2_lit13 T b b 24 b true _ 2 _ (.inr rfl) hbl hc) (To.st (s2_look T b b (b + 1) true _ _) (To.st (s2_lit10' T b (b + 1) 29 (b + 1) false _ 3 _ (.inr (.inr rfl)) hn)
            (To.st (s2_lookOk T b (b + 1) 29 (b + 1) (b + 1) false true _ _) (To.st (s2_jump T b (b + 1) 32 (b + 1) true _ 2 _ (.inr (.inr rfl))) (To.st (s2_ok T b (b + 1) 35 (b + 1) true _ 2 _ (.inr rfl))
            (To.st (s2_brOk T b (b + 1) 35 (b + 1) b 23 true true _ _) (To.st (s2_back T b b (b + 1) 23 b true _) (To.st (s2_fin T b b (b + 1) 10 true true _) (To.refl _))))))))))))))), rfl, rfl, rfl⟩
  · have : p = T.size := by omega
    subst this
    rw [start2', Nat.sub_self]
    exact ⟨1, _, by omega, To.one _, s2_fin0 ..⟩
end Mine
end

section
set_option maxRecDepth 100000
open PySem
set_option Elab.async false
set_option linter.unusedVariables false
set_option linter.unusedSimpArgs false
namespace Mine
open PySem.Sre
open PySem.Builtin.Re

theorem step_out {m : M} (h : m.outcome.isSome = true) : m.step = m := by
  unfold M.step
  rw [if_pos h]
theorem repeat_out {m : M} (h : m.outcome.isSome = true) : ∀ k, Nat.repeat M.step k m = m := by
  intro k
  induction k with
  | zero => rfl
  | succ k ih => rw [repeat_succ', step_out h]; exact ih
theorem runFor_eq : ∀ (n : Nat) (m : M), M.runFor n m = Nat.repeat M.step n m := by
  intro n
  induction n with
  | zero => intro m; rfl
  | succ n ih =>
    intro m
    rw [M.runFor]
    split
    · rename_i h; rw [repeat_out h]
    · rw [ih, repeat_succ']
section
variable {Md : Model} {A : Around} {E : Value → Shared → Prop} {s : Shared}
theorem drive : ∀ (turns k : Nat) (m m' : M) {Q : M → Shared → Prop}, To m k m' → m'.outcome.isSome = true → k ≤ 4 * turns → 0 < turns → Q m' s → wpAny Md A (reDrive turns m) Q E s := by
  intro turns
  induction turns with
  | zero => intro k m m' Q _ _ _ h; exact absurd h (Nat.lt_irrefl _)
  | succ turns ih =>
    intro k m m' Q ht ho hk _ hq
    rw [reDrive]
    have e : m.runFor reTurnSteps = Nat.repeat M.step 4 m := runFor_eq 4 m
    rw [e]
    by_cases h4 : k ≤ 4
    · have e' : Nat.repeat M.step 4 m = m' := by
        have : To m (k + (4 - k)) m' := ht.trans (repeat_out ho (4 - k))
        rwa [Nat.add_sub_cancel' h4] at this
      rw [e']
      show wpAny Md A (if m'.outcome.isSome = true then pure m' else _) Q E s
      rw [if_pos ho]
      exact wpAny_pure hq
    · have t4 : To (Nat.repeat M.step 4 m) (k - 4) m' := by
        have h1 : To m 4 (Nat.repeat M.step 4 m) := rfl
        have : ∀ (j l : Nat) (a : M), Nat.repeat M.step l (Nat.repeat M.step j a) = Nat.repeat M.step (j + l) a := by
          intro j l a
          exact (To.trans (rfl : To a j _) (rfl : To (Nat.repeat M.step j a) l _)).symm
        show Nat.repeat M.step (k - 4) (Nat.repeat M.step 4 m) = m'
        rw [this, show 4 + (k - 4) = k from by omega]; exact ht
      show wpAny Md A (if (Nat.repeat M.step 4 m).outcome.isSome = true then pure (Nat.repeat M.step 4 m) else (do rule "sre.turn"; reDrive turns (Nat.repeat M.step 4 m))) Q E s
      split
      · rename_i h
        have : Nat.repeat M.step 4 m = m' := by
          have := t4
          unfold To at this
          rwa [repeat_out h] at this
        rw [this]
        exact wpAny_pure hq
      · exact wpAny_bind (wpAny_rule (ih (k - 4) _ m' t4 ho (by omega) (by omega) hq))

theorem seen_loop (m : M) (l : List Nat) {Q : PUnit → Shared → Prop} (h : Q ⟨⟩ s) :
    wpAny Md A (forIn l PUnit.unit fun i _ => if m.seen.has i = true then (do rule (names.getD i ""); pure (ForInStep.yield PUnit.unit)) else pure (ForInStep.yield PUnit.unit)) Q E s := by
  induction l with
  | nil => rw [List.forIn_nil]; exact wpAny_pure h
  | cons i r ih =>
    rw [List.forIn_cons]
    refine wpAny_bind ?_
    split
    · exact wpAny_bind (wpAny_rule (wpAny_pure ih))
    · exact wpAny_pure ih
theorem run_end {m m' : M} {k : Nat} {Q : Option M → Shared → Prop} (ht : To m k m') (hk : k ≤ 2 ^ 40)
    (h : (m'.outcome = some .matched ∧ Q (some m') s) ∨ (m'.outcome = some .failed ∧ Q none s)) : wpAny Md A (reRunToEnd m) Q E s := by
  unfold reRunToEnd
  have ho : m'.outcome.isSome = true := by rcases h with h | h <;> rw [h.1] <;> rfl
  refine wpAny_bind (drive (2 ^ 64) k m m' ht ho (by omega) (by omega) ?_)
  refine wpAny_bind (seen_loop m' _ ?_)
  rcases h with ⟨e, q⟩ | ⟨e, q⟩
  · rw [e]; exact wpAny_pure q
  · rw [e]; exact wpAny_pure q
end
end Mine
end

section
set_option maxRecDepth 100000
open PySem PyProof.Rows
set_option Elab.async false
set_option linter.unusedVariables false
set_option linter.unusedSimpArgs false
namespace Mine
open PySem.Builtin.Re

section
variable {prog : Program} {w : World} {A : Around} {s : Shared} {E : Value → Shared → Prop}
theorem code_bi {id : String} {args : Args} {b : Builtin} {R : Result → Shared → Prop} (hp : plainId id = true) (hb : entryFor table id = some b)
    (h : wpAny (model prog w) A.in1 (b args) (fun fin s' => match fin with | .done f => R (.ok f) s' | .again c' => c'.quiet = true ∧ codeAny (model prog w) A c' R s') (fun e s' => R (.error e) s') s) :
    codeAny (model prog w) A (.builtin id args) R s := by
  refine codeAny_of_tree ?_
  rw [Around.under_plainId hp]
  have hden : (model prog w).den (.builtin id args) = b args := by
    show (match entryFor table id with | some b => b args | none => unsupported ((withoutEnding? id "#data").getD id)) = _
    rw [hb]
  rw [hden]
  exact h

/-- a pattern as it lies -/
def PatAt (h : Heap) (pa : Addr) (code : Array Nat) : Prop := ∃ o fs ca oc items n, h.get? pa = some o ∧ o.data = .fields fs ∧ fs.getD 5 .none = .ref ca ∧ reRawNat (fs.getD 6 .none) = 0 ∧ reRawNat (fs.getD 2 .none) = 0 ∧
  h.get? ca = some oc ∧ oc.data = .seq items n ∧ (items.map reRawOf).map (·.toNat) = code
theorem PatAt.keeps {h h' : Heap} {pa : Addr} {code : Array Nat} (P : PatAt h pa code) (k : ∀ b o, h.get? b = some o → h'.get? b = some o) : PatAt h' pa code := by
  obtain ⟨o, fs, ca, oc, items, n, h1, h2, h3, h4, h5, h6, h7, h8⟩ := P
  exact ⟨o, fs, ca, oc, items, n, k _ _ h1, h2, h3, h4, h5, k _ _ h6, h7, h8⟩

theorem target {pa : Addr} {code : Array Nat} {x : Str} {t : Tok} {Q : ReTarget → Shared → Prop} (P : PatAt s.heap pa code)
    (h : Q { pattern := .ref pa, string := .str x t, code := code, text := x.cps, kind := 0, groups := 0, pos := 0, lim := x.cps.size } s) : wpAny (model prog w) A (reWholeTarget (.ref pa) (.str x t)) Q E s := by
  obtain ⟨o, fs, ca, oc, items, n, h1, h2, h3, h4, h5, h6, h7, h8⟩ := P
  unfold reWholeTarget
  refine wpAny_bind (wpAny_fieldsOf h1 h2 ?_)
  refine wpAny_bind (m := reTextOf (.str x t)) (wpAny_of_eq (a := (x.cps, 0)) (by rfl) ?_)
  dsimp only
  rw [h4]
  refine wpAny_bind (m := pure ()) (wpAny_pure ?_)
  rw [h3]
  unfold reRawItems
  refine wpAny_bind (wpAny_bind (wpAny_seqItems h6 h7 (wpAny_pure ?_)))
  refine wpAny_pure ?_
  rw [h5]
  show Q { pattern := .ref pa, string := .str x t, code := (items.map reRawOf).map (·.toNat), text := x.cps, kind := 0, groups := 0, pos := 0, lim := x.cps.size } s
  rw [h8]; exact h

/-- one more at the end -/
theorem push_seq {l : Addr} {its : Array Value} {v : Value} {Q : Unit → Shared → Prop} (hl : s.heap.PlainList l its) (hz : its.size ≤ 100000)
    (h : ∀ h', h'.PlainList l (its.push v) → Heap.SameBut l s.heap h' → Q () { s with heap := h' }) : wpAny (model prog w) A (updateSeq l (·.push v)) Q E s := by
  obtain ⟨n, ho⟩ := hl
  refine wpAny_updateSeq ho rfl (h _ ⟨n + 1, ?_⟩ (Heap.SameBut.update ..)) (by rw [sizeLine_eq]; omega) (by rw [Array.size_push, sizeLine_eq]; omega)
  rw [Heap.get?_update_self _ ho (by rw [Obj.mapSeq_push_plain]; rfl), Obj.mapSeq_push_plain]

theorem slice {T : Array Nat} {b e : Nat} {Q : Value → Shared → Prop} (hz : T.size ≤ 100000) (h : ∀ t tk, Q (.str ⟨T.extract b e⟩ t) { s with toks := tk }) : wpAny (model prog w) A (reSlice T 0 b e) Q E s := by
  unfold reSlice
  rw [if_pos (by rfl)]
  refine wpAny_mkStr (h _ _) ?_
  show (T.extract b e).size ≤ _
  rw [Array.size_extract, sizeLine_eq]
  omega

def subL (T : Array Nat) (nx : Nat → Option Nat) (wd : Nat → Nat) (repl : Str) : Nat → Nat → List Str
  | 0, _ => []
  | n + 1, d => match nx d with
    | some b => (if d < b then [⟨T.extract d b⟩] else []) ++ repl :: subL T nx wd repl n (b + wd b)
    | none => if d < T.size then [⟨T.extract d T.size⟩] else []

theorem strsAre_append {vs vs' : List Value} {ss ss' : List Str} (h : StrsAre vs ss) (h' : StrsAre vs' ss') : StrsAre (vs ++ vs') (ss ++ ss') := by
  induction h with
  | nil => exact h'
  | cons y t _ ih => exact .cons y t ih

theorem sub_plain : plainId "re.Pattern.sub.loop" = true := by decide +kernel
theorem sub_entry : entryFor table "re.Pattern.sub.loop" = some Builtin.«re.Pattern.sub.loop» := entryFor_of_tree (by kernel_rfl)

theorem sub_loop {code : Array Nat} {nx : Array Nat → Nat → Option Nat} {wd : Array Nat → Nat → Nat}
    (hs : ∀ T s, s ≤ T.size → ∃ k m', k ≤ 3 * T.size + 20 ∧ To (PySem.Sre.forSearch code T 0 s T.size false) k m' ∧ match nx T s with
      | some b => m'.outcome = some .matched ∧ m'.start = b ∧ m'.handed = b + wd T b
      | none => m'.outcome = some .failed)
    (hb : ∀ T s b, nx T s = some b → s ≤ b ∧ 1 ≤ wd T b ∧ b + wd T b ≤ T.size)
    {pa l : Addr} {x repl : Str} {t u : Tok} {g : Heap} (P : PatAt g pa code) (hgl : g.get? l = none) (hz : x.cps.size ≤ 1000) (hr : repl.length ≤ 2) :
    ∀ (n d : Nat) (acc : List Str) (accv : List Value) (s : Shared) (nn : Int) (R : Result → Shared → Prop), x.cps.size - d < n → d ≤ x.cps.size → StrsAre accv acc → s.heap.PlainList l accv.toArray →
      (∀ b o, g.get? b = some o → s.heap.get? b = some o) → acc.length ≤ 2 * d → (acc.map (·.length)).sum ≤ 3 * d →
      (∀ h' tk tt, (∀ b o, g.get? b = some o → h'.get? b = some o) → R (.ok (.ret (.str (Txt.join ⟨#[]⟩ (acc ++ subL x.cps (nx x.cps) (wd x.cps) repl n d)) tt))) { s with heap := h', toks := tk }) →
      codeAny (model prog w) A (.builtin "re.Pattern.sub.loop" ⟨[.ref pa, .str x t, .str repl u, rawInt 0, rawInt 0, rawInt nn, rawInt d, rawInt d, .bool false, .ref l, .bool false], []⟩) R s := by
  intro n
  induction n with
  | zero => intro d acc accv s nn R h; exact absurd h (Nat.not_lt_zero _)
  | succ n ih =>
    intro d acc accv s nn R hn hd ha hl hk hal has hR
    refine code_bi sub_plain sub_entry ?_
    unfold Builtin.«re.Pattern.sub.loop»
    show wpAny _ _ (reWholeTarget (.ref pa) (.str x t) >>= _) _ _ _
    refine wpAny_bind (target (P.keeps hk) ?_)
    refine wpAny_bind (m := reLiteralCannotBeTurned (.str repl u)) (wpAny_of_eq (a := ()) (by rfl) ?_)
    refine wpAny_bind (m := reNextFound { pattern := .ref pa, string := .str x t, code := code, text := x.cps, kind := 0, groups := 0, pos := 0, lim := x.cps.size } d false) ?_
    unfold reNextFound
    obtain ⟨k, m', hkk, hto, hm⟩ := hs x.cps d hd
    refine run_end hto (by omega) ?_
    have len : ∀ {vs : List Value} {ss : List Str}, StrsAre vs ss → vs.length = ss.length := fun h => by
      induction h with
      | nil => rfl
      | cons y t _ ih => simp [ih]
    have sizeL : ∀ {vs : List Value} {ss : List Str} {h : Heap}, StrsAre vs ss → vs.toArray.size = ss.length := fun h => by rw [List.size_toArray]; exact len h
    cases hq : nx x.cps d with
    | none =>
      rw [hq] at hm
      refine .inr ⟨hm, ?_⟩
      have eR : subL x.cps (nx x.cps) (wd x.cps) repl (n + 1) d = if d < x.cps.size then [⟨x.cps.extract d x.cps.size⟩] else [] := by rw [subL, hq]
      rw [eR] at hR
      have fin : ∀ (hh : Heap) (tk : Nat) (acc' : List Str) (accv' : List Value), (∀ b o, g.get? b = some o → hh.get? b = some o) → StrsAre accv' acc' → hh.PlainList l accv'.toArray →
          acc'.length ≤ 2 * d + 1 → (acc'.map (·.length)).sum ≤ 3 * d + x.cps.size → acc' = acc ++ (if d < x.cps.size then [⟨x.cps.extract d x.cps.size⟩] else []) →
          wpAny (model prog w) A.in1 (do
            let joiner ← reSlice x.cps 0 0 0
            let items ← seqItems? (.ref l)
            if (items.getD #[]).isEmpty = true then (do let text ← pure joiner; ret text) else (do let text ← call (.builtin "str.join") [joiner, .ref l]; ret text))
            (fun fin s' => match fin with | .done f => R (.ok f) s' | .again c' => c'.quiet = true ∧ codeAny (model prog w) A c' R s') (fun e s' => R (.error e) s') { s with heap := hh, toks := tk } := by
        intro hh tk acc' accv' hk' ha' hl' hn1 hn2 hacc
        obtain ⟨n', ho'⟩ := id hl'
        rw [← hacc] at hR
        refine wpAny_bind (slice (by omega) fun tj tkj => ?_)
        have ej : (⟨x.cps.extract 0 0⟩ : Str) = ⟨#[]⟩ := by simp
        rw [ej]
        refine wpAny_bind (wpAny_seqItems (s := { s with heap := hh, toks := tkj }) ho' rfl ?_)
        cases acc' with
        | nil =>
          cases ha'
          exact wpAny_pure (hR hh tkj tj hk')
        | cons y ys =>
          cases ha' with
          | cons _ ty hr' =>
            show wpAny _ _ (call (.builtin "str.join") [.str ⟨#[]⟩ tj, .ref l] >>= fun text => ret text) _ _ _
            refine wpAny_bind (join_listW (s := { s with heap := hh, toks := tkj }) hl'.isList (StrsAre.cons y ty hr') (by show (0 : Nat) ≤ 16; omega) (by omega) fun t' k' => ?_)
            exact wpAny_pure (hR hh k' t' hk')
      show wpAny _ _ (if (Int.toNat (d : Int)) < x.cps.size then (reSlice x.cps 0 (Int.toNat (d : Int)) x.cps.size >>= fun v => updateSeq l (·.push v) >>= fun _ => (do
            let joiner ← reSlice x.cps 0 0 0
            let items ← seqItems? (.ref l)
            if (items.getD #[]).isEmpty = true then (do let text ← pure joiner; ret text) else (do let text ← call (.builtin "str.join") [joiner, .ref l]; ret text))) else (do
            let joiner ← reSlice x.cps 0 0 0
            let items ← seqItems? (.ref l)
            if (items.getD #[]).isEmpty = true then (do let text ← pure joiner; ret text) else (do let text ← call (.builtin "str.join") [joiner, .ref l]; ret text))) _ _ _
      by_cases hlt : d < x.cps.size
      · rw [if_pos (show Int.toNat (d : Int) < x.cps.size from hlt)]
        refine wpAny_bind (slice (by omega) fun tj tkj => ?_)
        refine wpAny_bind (push_seq (s := { s with toks := tkj }) hl (by rw [List.size_toArray, len ha]; omega) fun h' hl' hs' => ?_)
        refine fin h' tkj (acc ++ [⟨x.cps.extract d x.cps.size⟩]) (accv ++ [.str ⟨x.cps.extract d x.cps.size⟩ tj]) (fun b o e => ?_) (strsAre_append ha (.cons _ _ .nil)) (by simpa using hl') ?_ ?_ (by rw [if_pos hlt])
        · exact (hs'.2 b (fun q => by rw [q, hgl] at e; cases e)).trans (hk b o e)
        · simp; omega
        · simp only [List.map_append, List.sum_append, List.map_cons, List.map_nil, List.sum_cons, List.sum_nil, Str.length, Array.size_extract]
          simp only [Str.length] at has
          omega
      · rw [if_neg (show ¬ Int.toNat (d : Int) < x.cps.size from hlt)]
        exact fin s.heap s.toks acc accv hk ha hl (by omega) (by omega) (by rw [if_neg hlt, List.append_nil])
    | some b =>
      rw [hq] at hm
      refine .inl ⟨hm.1, ?_⟩
      obtain ⟨_, hms, hmh⟩ := hm
      obtain ⟨hb1, hb2, hb3⟩ := hb _ _ _ hq
      have eR : subL x.cps (nx x.cps) (wd x.cps) repl (n + 1) d = (if d < b then [⟨x.cps.extract d b⟩] else []) ++ repl :: subL x.cps (nx x.cps) (wd x.cps) repl n (b + wd x.cps b) := by rw [subL, hq]
      rw [eR] at hR
      have fin : ∀ (hh : Heap) (tk : Nat) (acc' : List Str) (accv' : List Value), (∀ b o, g.get? b = some o → hh.get? b = some o) → StrsAre accv' acc' → hh.PlainList l accv'.toArray →
          acc'.length ≤ 2 * d + 1 → (acc'.map (·.length)).sum ≤ 3 * d + (b - d) → acc' = acc ++ (if d < b then [⟨x.cps.extract d b⟩] else []) →
          wpAny (model prog w) A.in1 (do
            let item ← pure (Value.str repl u)
            if (item != Value.none) = true then (do updateSeq l (·.push item); again (.builtin "re.Pattern.sub.loop" ⟨[.ref pa, .str x t, .str repl u, rawInt 0, rawInt 0, rawInt (nn + 1), rawInt m'.handed, rawInt m'.handed, .bool (m'.handed == m'.start), .ref l, .bool false], []⟩)) else
              again (.builtin "re.Pattern.sub.loop" ⟨[.ref pa, .str x t, .str repl u, rawInt 0, rawInt 0, rawInt (nn + 1), rawInt m'.handed, rawInt m'.handed, .bool (m'.handed == m'.start), .ref l, .bool false], []⟩))
            (fun fin s' => match fin with | .done f => R (.ok f) s' | .again c' => c'.quiet = true ∧ codeAny (model prog w) A c' R s') (fun e s' => R (.error e) s') { s with heap := hh, toks := tk } := by
        intro hh tk acc' accv' hk' ha' hl' hn1 hn2 hacc
        refine wpAny_bind (wpAny_pure ?_)
        rw [if_pos (by rfl)]
        refine wpAny_bind (push_seq (s := { s with heap := hh, toks := tk }) hl' (by rw [List.size_toArray, len ha']; omega) fun h'' hl'' hs'' => ?_)
        refine wpAny_pure ⟨by exact Code.quiet_builtin _ (by decide +kernel), ?_⟩
        have e1 : (m'.handed == m'.start) = false := by rw [hmh, hms]; simp; omega
        rw [e1, hmh]
        refine ih (b + wd x.cps b) (acc' ++ [repl]) (accv' ++ [.str repl u]) { s with heap := h'', toks := tk } (nn + 1) R (by omega) (by omega) (strsAre_append ha' (.cons _ _ .nil)) (by simpa using hl'') (fun b o e => ?_) ?_ ?_ fun h3 tk3 tt hk3 => ?_
        · exact (hs''.2 b (fun q => by rw [q, hgl] at e; cases e)).trans (hk' b o e)
        · simp; omega
        · simp only [List.map_append, List.sum_append, List.map_cons, List.map_nil, List.sum_cons, List.sum_nil]
          omega
        · have := hR h3 tk3 tt hk3
          rw [hacc]
          simpa using this
      show wpAny _ _ (if (Int.toNat (d : Int)) < m'.start then (reSlice x.cps 0 (Int.toNat (d : Int)) m'.start >>= fun v => updateSeq l (·.push v) >>= fun _ => (do
            let item ← pure (Value.str repl u)
            if (item != Value.none) = true then (do updateSeq l (·.push item); again (.builtin "re.Pattern.sub.loop" ⟨[.ref pa, .str x t, .str repl u, rawInt 0, rawInt 0, rawInt (nn + 1), rawInt m'.handed, rawInt m'.handed, .bool (m'.handed == m'.start), .ref l, .bool false], []⟩)) else
              again (.builtin "re.Pattern.sub.loop" ⟨[.ref pa, .str x t, .str repl u, rawInt 0, rawInt 0, rawInt (nn + 1), rawInt m'.handed, rawInt m'.handed, .bool (m'.handed == m'.start), .ref l, .bool false], []⟩))) else (do
            let item ← pure (Value.str repl u)
            if (item != Value.none) = true then (do updateSeq l (·.push item); again (.builtin "re.Pattern.sub.loop" ⟨[.ref pa, .str x t, .str repl u, rawInt 0, rawInt 0, rawInt (nn + 1), rawInt m'.handed, rawInt m'.handed, .bool (m'.handed == m'.start), .ref l, .bool false], []⟩)) else
              again (.builtin "re.Pattern.sub.loop" ⟨[.ref pa, .str x t, .str repl u, rawInt 0, rawInt 0, rawInt (nn + 1), rawInt m'.handed, rawInt m'.handed, .bool (m'.handed == m'.start), .ref l, .bool false], []⟩))) _ _ _
      by_cases hlt : d < b
      · rw [if_pos (show Int.toNat (d : Int) < m'.start from by rw [hms]; exact hlt)]
        refine wpAny_bind (slice (by omega) fun tj tkj => ?_)
        refine wpAny_bind (push_seq (s := { s with toks := tkj }) hl (by rw [List.size_toArray, len ha]; omega) fun h' hl' hs' => ?_)
        rw [hms] at hl'
        refine fin h' tkj (acc ++ [⟨x.cps.extract d b⟩]) (accv ++ [.str ⟨x.cps.extract d b⟩ tj]) (fun b o e => ?_) (strsAre_append ha (.cons _ _ .nil)) (by simpa using hl') ?_ ?_ (by rw [if_pos hlt])
        · exact (hs'.2 b (fun q => by rw [q, hgl] at e; cases e)).trans (hk b o e)
        · simp; omega
        · simp only [List.map_append, List.sum_append, List.map_cons, List.map_nil, List.sum_cons, List.sum_nil, Str.length, Array.size_extract]
          simp only [Str.length] at has
          omega
      · rw [if_neg (show ¬ Int.toNat (d : Int) < m'.start from by rw [hms]; exact hlt)]
        exact fin s.heap s.toks acc accv hk ha hl (by omega) (by omega) (by rw [if_neg hlt, List.append_nil])
end
end Mine
end

section
set_option maxRecDepth 100000
open PySem PyProof.Rows
set_option Elab.async false
set_option linter.unusedVariables false
set_option linter.unusedSimpArgs false
namespace Mine
open PySem.Builtin.Re
theorem slot_sub : Slot "re.Pattern" "sub" "re.Pattern.sub" :=
  .of (owner := "re.Pattern") (n := "sub") (by rw [typeLookup_type, builtinLookup_eq_fast]; kernel_rfl) (by decide +kernel) (by decide +kernel) (by decide +kernel)
    (by first | exact .inl (by decide +kernel) | exact .inr (by decide +kernel)) (by rw [isSubtype_type]; kernel_rfl)
theorem subst_entry : entryFor table "re.Pattern.sub" = some Builtin.«re.Pattern.sub» := entryFor_of_tree (by kernel_rfl)
theorem args_sub (a b c : Value) : argsOk "re.Pattern.sub" ⟨[a, b, c], []⟩ := by unfold argsOk; kernel_rfl
theorem named_sub (a b : Value) : reNamed "re.Pattern.sub" "sub" ["repl", "string", "count"] 2 [a, b] [] = pure [some a, some b, none] := by kernel_rfl
theorem pa_re : PlainAttrs "re.Pattern" := ⟨⟨"object.__getattribute__", by rw [typeLookup_type, builtinLookup_eq_fast]; kernel_rfl, by decide +kernel⟩, by rw [typeLookup_type, builtinLookup_eq_fast]; kernel_rfl⟩
theorem ty_sub : typeOf (.builtin "re.Pattern.sub") = pure (.type "method_descriptor") := by show builtinType _ = _; rw [builtinType_eq_fast]; kernel_rfl
theorem str_no_call : typeLookup (.type "str") "__call__" = pure none := by rw [typeLookup_type, builtinLookup_eq_fast]; kernel_rfl

section
variable {prog : Program} {w : World} {A : Around} {s : Shared} {E : Value → Shared → Prop}
theorem call_sub {code : Array Nat} {nx : Array Nat → Nat → Option Nat} {wd : Array Nat → Nat → Nat}
    (hs : ∀ T s, s ≤ T.size → ∃ k m', k ≤ 3 * T.size + 20 ∧ To (PySem.Sre.forSearch code T 0 s T.size false) k m' ∧ match nx T s with
      | some b => m'.outcome = some .matched ∧ m'.start = b ∧ m'.handed = b + wd T b
      | none => m'.outcome = some .failed)
    (hb : ∀ T s b, nx T s = some b → s ≤ b ∧ 1 ≤ wd T b ∧ b + wd T b ≤ T.size)
    {pa : Addr} {x repl : Str} {t u : Tok} {Q : Value → Shared → Prop} (P : PatAt s.heap pa code) (hT : s.TypeIs (.ref pa) "re.Pattern") (hz : x.cps.size ≤ 1000) (hr : repl.length ≤ 2) (hlit : repl.cps.contains 92 = false)
    (h : ∀ h' tk tt, (∀ b o, s.heap.get? b = some o → h'.get? b = some o) → Q (.str (Txt.join ⟨#[]⟩ (subL x.cps (nx x.cps) (wd x.cps) repl (x.cps.size + 1) 0)) tt) { s with heap := h', toks := tk }) :
    wpAny (model prog w) A (call (.builtin "re.Pattern.sub") [.ref pa, .str repl u, .str x t]) Q E s := by
  refine wpAny_call (codeAny_call_builtin slot_sub.plain subst_entry (slot_sub.check _ _ _ _ _ _ _ _ hT (args_sub _ _ _) ?_))
  unfold Builtin.«re.Pattern.sub» reSubstitute
  show wpAny _ _ (reNamed "re.Pattern.sub" "sub" ["repl", "string", "count"] 2 [.str repl u, .str x t] [] >>= _) _ _ _
  refine wpAny_bind (wpAny_of_eq (named_sub _ _) ?_)
  refine wpAny_bind (m := pure (0 : Int)) (wpAny_pure ?_)
  refine wpAny_bind (wpAny_specialOf_val (v := .str repl u) (T := "str") (by rfl) str_no_call ?_)
  refine wpAny_bind (m := asStr? (.str repl u)) (wpAny_of_eq (a := some repl) (by rfl) ?_)
  refine wpAny_bind (m := pure !repl.cps.contains 92) (wpAny_pure ?_)
  rw [hlit]
  refine wpAny_bind (m := pure (Value.str repl u, 0)) (wpAny_pure ?_)
  refine wpAny_bind (m := holding [.str repl u] (reWholeTarget (.ref pa) (.str x t))) (wpAny_holding (target P ?_))
  refine wpAny_bind (m := newList []) ?_
  unfold newList
  refine wpAny_newObj_type ?_ (by size_fits)
  refine wpAny_pure ⟨Code.quiet_builtin _ (by decide +kernel), ?_⟩
  have keep : ∀ b o, s.heap.get? b = some o → (s.heap.push { cls := .type "list", data := .seq #[] }).get? b = some o := fun b o e => Heap.get?_push_of_some _ e
  exact sub_loop hs hb P (Heap.get?_none_of_le (Nat.le_refl _)) hz hr (x.cps.size + 1) 0 [] [] { s with heap := s.heap.push { cls := .type "list", data := .seq #[] } } 0 _ (by omega) (by omega) .nil ⟨0, Heap.get?_push_size _ rfl⟩ keep (by simp) (by simp) fun h' tk tt hk => h h' tk tt hk

/-- the newlines as CRLF -/
def crlf : Str := ⟨#[13, 10]⟩
def dots : Str := ⟨#[46, 46]⟩
def normS (x : Str) : Str := Txt.join ⟨#[]⟩ (subL x.cps (fun s => nx2 x.cps s (x.cps.size - s)) (wd2 x.cps) crlf (x.cps.size + 1) 0)
def stuffS (x : Str) : Str := Txt.join ⟨#[]⟩ (subL x.cps (fun s => nx1 x.cps s (x.cps.size - s)) (fun _ => 1) dots (x.cps.size + 1) 0)

theorem nx1_spec (T : Array Nat) : ∀ (n s b : Nat), nx1 T s n = some b → s ≤ b ∧ b < s + n := by
  intro n
  induction n with
  | zero => intro s b h; cases h
  | succ n ih =>
    intro s b h
    rw [nx1] at h
    split at h
    · cases h; exact ⟨Nat.le_refl _, by omega⟩
    · obtain ⟨h1, h2⟩ := ih _ _ h
      exact ⟨by omega, by omega⟩
theorem call_norm {pa : Addr} {x : Str} {t u : Tok} {Q : Value → Shared → Prop} (P : PatAt s.heap pa code2) (hT : s.TypeIs (.ref pa) "re.Pattern") (hz : x.cps.size ≤ 1000)
    (h : ∀ h' tk tt, (∀ b o, s.heap.get? b = some o → h'.get? b = some o) → Q (.str (normS x) tt) { s with heap := h', toks := tk }) :
    wpAny (model prog w) A (call (.builtin "re.Pattern.sub") [.ref pa, .str crlf u, .str x t]) Q E s :=
  call_sub (code := code2) (nx := fun T s => nx2 T s (T.size - s)) (wd := wd2) (fun T s hs => by
      obtain ⟨k, m', h1, h2, h3⟩ := search2 T s hs
      exact ⟨k, m', by omega, h2, h3⟩)
    (fun T s b e => by
      obtain ⟨h1, h2, h3⟩ := nx2_spec T _ _ _ e
      unfold wd2
      split <;> omega) P hT hz (by decide) (by decide +kernel) h
theorem call_stuff {pa : Addr} {x : Str} {t u : Tok} {Q : Value → Shared → Prop} (P : PatAt s.heap pa code1) (hT : s.TypeIs (.ref pa) "re.Pattern") (hz : x.cps.size ≤ 1000)
    (h : ∀ h' tk tt, (∀ b o, s.heap.get? b = some o → h'.get? b = some o) → Q (.str (stuffS x) tt) { s with heap := h', toks := tk }) :
    wpAny (model prog w) A (call (.builtin "re.Pattern.sub") [.ref pa, .str dots u, .str x t]) Q E s :=
  call_sub (code := code1) (nx := fun T s => nx1 T s (T.size - s)) (wd := fun _ _ => 1) (fun T s hs => by
      obtain ⟨k, m', h1, h2, h3⟩ := search1 T s hs
      exact ⟨k, m', by omega, h2, h3⟩)
    (fun T s b e => by
      obtain ⟨h1, h2⟩ := nx1_spec T _ _ _ e
      omega) P hT hz (by decide) (by decide +kernel) h
end
end Mine
end

section
set_option maxRecDepth 100000
open PySem PySem.W PySem.Calls PyProof.Rows PySem.Spec
set_option Elab.async false
set_option linter.unusedVariables false
namespace Mine
theorem pat1_at {w mean mg mb} {h : Heap} (W : Wd w mean mg mb h) : ∃ o, h.get? 36 = some o ∧ o.cls = .type "re.Pattern" ∧ o.dict = none ∧ PatAt h 36 code1 := by
  have h1 := W.X 36 _ (by k_is)
  have h2 := W.X 35 _ (by k_is)
  exact ⟨_, h1, rfl, rfl, _, _, 35, _, _, _, h1, rfl, rfl, rfl, rfl, h2, rfl, by kernel_rfl⟩
theorem pat2_at {w mean mg mb} {h : Heap} (W : Wd w mean mg mb h) : ∃ o, h.get? 41 = some o ∧ o.cls = .type "re.Pattern" ∧ o.dict = none ∧ PatAt h 41 code2 := by
  have h1 := W.X 41 _ (by k_is)
  have h2 := W.X 40 _ (by k_is)
  exact ⟨_, h1, rfl, rfl, _, _, 40, _, _, _, h1, rfl, rfl, rfl, rfl, h2, rfl, by kernel_rfl⟩
set_option maxHeartbeats 8000000 in
theorem quote_does {w mean mg mb} (x : Str) (t : Tok) (hz : x.cps.size ≤ 300) (hz' : (normS x).cps.size ≤ 1000) : Does w mean mg mb 48 [.str x t] 3 (fun _ => True) (fun _ _ _ v => ∃ t, v = .str (stuffS (normS x)) t) := by
  unfold Does
  intro dp un fr gd s Q E hd hu W _ hQ
  have X := W.X
  have T := W.T
  refine enter W [(Str.ofString "data", .str x t)] _ (by k_is) (by k_is) (by show dp < _; omega) rfl rfl rfl (fun h₁ tk₁ ht₁ F N => ?_) rfl rfl rfl (by decide)
  k_fold
  iterate 4 walk1
  obtain ⟨o1, p1, c1, d1, P1⟩ := pat1_at (W.keeps F.keep)
  refine getMethod_builtin ⟨_, p1, c1⟩ pa_re slot_sub ty_sub (fun a e => by cases e; exact ⟨_, p1, d1⟩) ?_
  iterate 6 walk1
  obtain ⟨o2, p2, c2, d2, P2⟩ := pat2_at (W.keeps F.keep)
  refine getMethod_builtin ⟨_, p2, c2⟩ pa_re slot_sub ty_sub (fun a e => by cases e; exact ⟨_, p2, d2⟩) ?_
  iterate 6 walk1
  refine call_norm (P2.keeps fun _ _ e => e) ⟨_, p2, c2⟩ (by omega) fun h₂ tk₂ t₂ hk₂ => ?_
  replace F := (frExt F hk₂)
  replace N := (newsExt N hk₂)
  iterate 1 walk1
  have p1' := hk₂ _ _ p1
  refine call_stuff (P1.keeps hk₂) ⟨_, p1', c1⟩ hz' fun h₃ tk₃ t₃ hk₃ => ?_
  replace F := (frExt F hk₃)
  replace N := (newsExt N hk₃)
  k_steps
  exact hQ _ _ _ F.keep (by assumption) ⟨_, rfl⟩
end Mine
end

section
set_option maxRecDepth 100000
open PySem PySem.W PySem.Calls PyProof.Rows PySem.Spec
set_option Elab.async false
set_option linter.unusedVariables false
namespace Mine
section
variable {M : Model} {A : Around} {R : GenEnd} {Y : Protocol} {n : Nat} {s₀ : Shared} {c : Code} {fs : List Frame} {s : Shared} {env : Env}
  {K : Flow → Sem Fin} {H : Value → Sem Fin} {gd : Bool → Bool} {lv : List Value → List Value}

theorem seg_If {test : Expr} {body orelse : List Stmt} {pos : Pos}
    (h : wpAny M (A.over c fs) (isTrue test env (eval test env)) (fun b s' => Seg M A R Y n s₀ c ((if b = true then execs body env else execs orelse env).wrap K H gd lv) fs s') (fun _ _ => False) s) :
    Seg M A R Y n s₀ c ((exec (.If test body orelse pos) env).wrap K H gd lv) fs s := by
  rw [arm_exec_If, Sem.bind_eq_wrap', Sem.wrap_wrap]
  refine seg_wrap (wpAny_standAt ?_)
  rw [Sem.bind_eq_wrap', Sem.wrap_wrap]
  exact seg_wrap (wpAny_mono h (fun b s' h' => h') fun _ _ x => x.elim)

/-- a plain statement inside -/
theorem seg_stmt {st : Stmt} (h : wpAny M (A.over c fs) (exec st env) (fun f s' => Seg M A R Y n s₀ c (K f) fs s') (fun _ _ => False) s) :
    Seg M A R Y n s₀ c ((exec st env).wrap K H gd lv) fs s := seg_wrap (wpAny_mono h (fun _ _ x => x) fun _ _ x => x.elim)

def forBack (env : Env) (r : Result) : Sem Flow := (match r with | .ok f => (.pure f : Sem Flow) | .error e => .raise e).onRaise fun (x : Value) => do
        if (← field x 1) == Value.none then unsupported "frame.own-activation:exception-without-traceback"
        setFlight x env.frame
theorem seg_For {target iter : Expr} {body orelse : List Stmt} {pos : Pos}
    (h : wpAny M (A.over c fs) (eval iter env) (fun x s₁ => wpAny M (A.over c fs) (pyIter x) (fun it s₂ =>
      ∀ p, Seg M A R Y n s₀ (.forLoop target it body orelse env) (M.den (.forLoop target it body orelse env)) (.ret (fun r => (forBack env r).wrap K H gd lv) none (gd false) (lv []) c p [] :: fs) s₂) (fun _ _ => False) s₁) (fun _ _ => False) s)
    (hs : ∀ x, foldedSetIterable iter env x = pure x) :
    Seg M A R Y n s₀ c ((exec (.For target iter body orelse pos) env).wrap K H gd lv) fs s := by
  rw [arm_exec_For, Sem.bind_eq_wrap', Sem.wrap_wrap]
  refine seg_wrap (wpAny_standAt ?_)
  rw [Sem.bind_eq_wrap', Sem.wrap_wrap]
  refine seg_wrap (wpAny_mono h (fun x s₁ h₁ => ?_) fun _ _ x => x.elim)
  rw [Sem.bind_eq_wrap', Sem.wrap_wrap]
  refine seg_wrap (wpAny_of_eq (hs x) ?_)
  rw [Sem.bind_eq_wrap', Sem.wrap_wrap]
  refine seg_wrap (wpAny_standAt ?_)
  rw [Sem.bind_eq_wrap', Sem.wrap_wrap]
  refine seg_wrap (wpAny_holding (wpAny_mono h₁ (fun it s₂ h₂ => ?_) fun _ _ x => x.elim))
  exact seg_call h₂
end

section
variable {prog : Program} {w : World} {A : Around} {R : GenEnd} {Y : Protocol} {n : Nat} {s₀ : Shared} {fs : List Frame} {s : Shared} {env : Env}

def forAgain (target : Expr) (it : Value) (body orelse : List Stmt) (env : Env) (f : Flow) : Sem Fin := match f with
  | .next | .cont => .pure (.again (.forLoop target it body orelse env))
  | .brk => .pure (.done .next)
  | .ret v => .pure (.done (.ret v))
def turnH (env : Env) (e : Value) : Sem Fin := (do noteFrame e env; theTreesLotGoes e : Sem Unit).wrap (fun _ => .raise e) .raise id id

theorem seg_block {stmts : List Stmt} (h : Seg (model prog w) A R Y n s₀ (.block stmts env) ((execs stmts env).wrap (fun f => .pure (.done f)) (turnH env) id id) fs s) :
    Seg (model prog w) A R Y n s₀ (.block stmts env) ((model prog w).den (.block stmts env)) fs s := by
  show Seg _ A R Y n s₀ _ (do return Fin.done (← (execs stmts env).onRaise (fun x => do noteFrame x env; theTreesLotGoes x))) fs s
  rw [Sem.bind_eq_wrap', Sem.onRaise_eq_wrap, Sem.wrap_wrap]
  rw [Sem.wrap_congr (execs stmts env) _ _ (K' := fun f => (.pure (.done f) : Sem Fin)) (H' := turnH env)
        (fun f => by rfl)
        (fun e => by show ((do noteFrame e env; theTreesLotGoes e : Sem Unit).bind (fun _ => .raise e)).wrap _ _ _ _ = _; rw [Sem.bind_eq_wrap, Sem.wrap_wrap]; rfl)]
  exact h

theorem seg_forLoop {target : Expr} {it : Value} {body orelse : List Stmt}
    (h : wpAny (model prog w) (A.over (.forLoop target it body orelse env) fs) (pyNext it) (fun r s₁ => match r with
      | none => Seg (model prog w) A R Y n s₀ (.block orelse env) ((model prog w).den (.block orelse env)) fs s₁
      | some v => wpAny (model prog w) (A.over (.forLoop target it body orelse env) fs) (letOwnedTupleGo target it v) (fun _ s₂ =>
          wpAny (model prog w) (A.over (.forLoop target it body orelse env) fs) (assign target env v) (fun _ s₃ =>
            Seg (model prog w) A R Y n s₀ (.forLoop target it body orelse env) ((execs body env).wrap (forAgain target it body orelse env) (turnH env) id id) fs s₃) (fun _ _ => False) s₂) (fun _ _ => False) s₁) (fun _ _ => False) s) :
    Seg (model prog w) A R Y n s₀ (.forLoop target it body orelse env) ((model prog w).den (.forLoop target it body orelse env)) fs s := by
  show Seg _ A R Y n s₀ _ ((forTurn target it body orelse env).onRaise (fun x => do noteFrame x env; theTreesLotGoes x)) fs s
  unfold forTurn
  rw [Sem.onRaise_eq_wrap, Sem.bind_eq_wrap', Sem.wrap_wrap]
  refine seg_wrap (wpAny_standAt ?_)
  rw [Sem.bind_eq_wrap', Sem.wrap_wrap]
  refine seg_wrap (wpAny_onRaise (wpAny_mono h (fun r s₁ h₁ => ?_) fun _ _ x => x.elim))
  cases r with
  | none => exact seg_again rfl h₁
  | some v =>
    show Seg _ A R Y n s₀ _ (Sem.wrap _ _ _ _ (letOwnedTupleGo target it v >>= _)) fs s₁
    rw [Sem.bind_eq_wrap', Sem.wrap_wrap]
    refine seg_wrap (wpAny_mono h₁ (fun _ s₂ h₂ => ?_) fun _ _ x => x.elim)
    rw [Sem.bind_eq_wrap', Sem.wrap_wrap]
    refine seg_wrap (wpAny_mono h₂ (fun _ s₃ h₃ => ?_) fun _ _ x => x.elim)
    rw [Sem.bind_eq_wrap', Sem.wrap_wrap]
    rw [Sem.wrap_congr (execs body env) _ _ (K' := forAgain target it body orelse env) (H' := turnH env)
        (fun f => by cases f <;> rfl)
        (fun e => by first | exact Sem.bind_eq_wrap _ _ | (show (do noteFrame e env; theTreesLotGoes e : Sem Unit).bind (fun _ => .raise e) = _; rw [Sem.bind_eq_wrap]; rfl))]
    exact h₃
end
end Mine
end

section
set_option maxRecDepth 100000
open PySem PySem.W PySem.Calls PyProof.Rows PySem.Spec
set_option Elab.async false
set_option linter.unusedVariables false
namespace Mine

theorem toN {a b : Nat} (h : a < b) : a < b := h
theorem toLe {a b : Nat} (h : a ≤ b) : a ≤ b := h
theorem toNe {a b : Nat} (h : a ≠ b) : a ≠ b := h
theorem toD {a b : Nat} (h : a < b ∨ a = b + 1) : a < b ∨ a = b + 1 := h
theorem nne {a b : Nat} (h : a < b ∨ b < a) : a ≠ b := by omega
def Since (B : Addr) (s₀ s₁ : Shared) : Prop := ∃ h tk, s₁ = { s₀ with heap := h, toks := tk } ∧ s₀.toks ≤ tk ∧ ∀ b o, (b < B ∨ b = B + 1) → s₀.heap.get? b = some o → h.get? b = some o
theorem Since.refl (B : Addr) (s : Shared) : Since B s s := ⟨s.heap, s.toks, rfl, Nat.le_refl _, fun _ _ _ e => e⟩
theorem Since.step {B : Addr} {s₀ s₁ : Shared} {h : Heap} {tk : Nat} (x : Since B s₀ s₁) (ht : s₁.toks ≤ tk) (hk : ∀ b o, (b < B ∨ b = B + 1) → s₁.heap.get? b = some o → h.get? b = some o) : Since B s₀ { s₁ with heap := h, toks := tk } := by
  obtain ⟨h₁, tk₁, rfl, ht₁, hk₁⟩ := x
  exact ⟨h, tk, rfl, Nat.le_trans ht₁ ht, fun b o hb e => hk b o hb (hk₁ b o hb e)⟩

/-- the generator, about to draw the i-th -/
def Live (h₀ : Heap) (L : Addr) (x : Str) (t : Tok) (e it : Addr) (i : Nat) (h : Heap) : Prop :=
  (∃ m, Fr h₀ L h m ∧ m (Str.ofString "escape") = some (.bool false)) ∧ L + 1 < e ∧ L + 1 < it ∧ e ≠ it ∧ (∃ old, IsEnum h e it i old) ∧ h.IsStrIter it (strIterType x) x t i
/-- what stands under all that others do -/
def Stable (h₀ : Heap) (L : Addr) (C : Heap → Prop) : Prop := ∀ h h' : Heap, C h → (∀ b o, L ≤ b → h.get? b = some o → h'.get? b = some o) → Ext h₀ h' → C h'
theorem Live.stable {h₀ : Heap} {L : Addr} {x : Str} {t : Tok} {e it : Addr} {i : Nat} : Stable h₀ L (Live h₀ L x t e it i) := by
  rintro h h' ⟨⟨m, F, hm⟩, he, hit, hne, ⟨old, hE⟩, o, h1, h2, h3⟩ hk hx
  exact ⟨⟨m, ⟨F.ns.at' fun o q => hk _ o (Nat.le_refl _) q, hx, F.above⟩, hm⟩, he, hit, hne, ⟨old, hk _ _ (Nat.le_of_lt (Nat.lt_of_succ_lt he)) hE⟩, o, hk _ _ (Nat.le_of_lt (Nat.lt_of_succ_lt hit)) h1, h2, h3⟩
def GR (L : Addr) : GenEnd := fun n s₀ r s₁ => r = .ok (.ret .none) ∧ (n = 0 ∧ Since L s₀ s₁)
def GY (h₀ : Heap) (L : Addr) (x : Str) (t : Tok) : Protocol := fun m s₀ v s₁ kap => ∃ i c, i + 1 + m = x.cps.size ∧ x.cps[i]? = some c ∧
  (∃ T tk u, v = .ref T ∧ s₁.heap.IsTuple T #[.int i tk, .str ⟨#[c]⟩ u]) ∧ Since L s₀ s₁ ∧ ∃ C, Stable h₀ L C ∧ C s₁.heap ∧ ∀ s'', C s''.heap → kap (.send .none) s''

section
variable {prog : Program} {w : World} {A : Around} {fs : List Frame} {s : Shared} {env : Env}
theorem drawsS (hh : A.handled = none) (it : Addr) (x : Str) (t : Tok) :
    Draws prog w A it [it] x.cps.size (fun i v => ∃ c u, x.cps[i]? = some c ∧ v = .str ⟨#[c]⟩ u) (fun i h => h.IsStrIter it (strIterType x) x t i) := by
  unfold strIterType
  cases ha : x.cps.all (· < 128)
  · exact Draws.strWide hh it x t
  · exact Draws.strAscii hh it x t

theorem gen_loop {h₀ : Heap} {x : Str} {t : Tok} {xi xv : Str} {pi pv pt : Pos} {x1} {body orelse : List Stmt} {e it : Addr} {R : GenEnd} {Y : Protocol}
    (hh : A.handled = none) (hhO : (A.over (.forLoop (.Tuple [.Name xi pi, .Name xv pv] x1 pt) (.ref e) body orelse env) fs).handled = none)
    (hxi : env.kindOf xi = some .local) (hxv : env.kindOf xv = some .local)
    (hp : (env.scope.kind == .class || (env.scope.kind == .module && env.locals != env.globals)) = false)
    (hxx : xi ≠ xv) (hxe : xi ≠ Str.ofString "escape" ∧ xv ≠ Str.ofString "escape")
    (step : ∀ i c u tk m (s₀ s : Shared), x.cps[i]? = some c → i < x.cps.size → Since env.locals s₀ s → Live h₀ env.locals x t e it (i + 1) s.heap → Fr h₀ env.locals s.heap m →
      m (Str.ofString "escape") = some (.bool false) → m xi = some (.int i tk) → m xv = some (.str ⟨#[c]⟩ u) →
      (∀ s'', Live h₀ env.locals x t e it (i + 1) s''.heap → Seg (model prog w) A R Y (x.cps.size - (i + 1)) s'' (.forLoop (.Tuple [.Name xi pi, .Name xv pv] x1 pt) (.ref e) body orelse env) ((model prog w).den (.forLoop (.Tuple [.Name xi pi, .Name xv pv] x1 pt) (.ref e) body orelse env)) fs s'') →
      Seg (model prog w) A R Y (x.cps.size - (i + 1) + 1) s₀ (.forLoop (.Tuple [.Name xi pi, .Name xv pv] x1 pt) (.ref e) body orelse env)
        ((execs body env).wrap (forAgain (.Tuple [.Name xi pi, .Name xv pv] x1 pt) (.ref e) body orelse env) (turnH env) id id) fs s)
    (done : ∀ m (s₀ s : Shared), Since env.locals s₀ s → Fr h₀ env.locals s.heap m → m (Str.ofString "escape") = some (.bool false) →
      Seg (model prog w) A R Y 0 s₀ (.block orelse env) ((model prog w).den (.block orelse env)) fs s) :
    ∀ k i, i + k = x.cps.size → ∀ s₀ s, Since env.locals s₀ s → Live h₀ env.locals x t e it i s.heap →
      Seg (model prog w) A R Y k s₀ (.forLoop (.Tuple [.Name xi pi, .Name xv pv] x1 pt) (.ref e) body orelse env) ((model prog w).den (.forLoop (.Tuple [.Name xi pi, .Name xv pv] x1 pt) (.ref e) body orelse env)) fs s := by
  intro k
  induction k with
  | zero =>
    intro i hi s₀ s hs hL
    obtain ⟨⟨m, F, hm⟩, he, hit, hne, ⟨old, hE⟩, hS⟩ := hL
    replace he := toN he
    replace hit := toN hit
    have hab := toLe F.above
    refine seg_forLoop ?_
    refine wpAny_with_toks (n := s.toks) (Nat.le_refl _) ?_
    refine wpAny_pyNext_enum_endD (drawsS (by exact hhO) it x t) hE (by rw [show x.cps.size = i by omega]; exact hS) fun h' hk htk => ?_
    refine done m s₀ _ (hs.step (Nat.le_refl _) fun b o hb q => hk b o (nne (by have := toD hb; omega)) q) ⟨F.ns.at' fun o q => hk _ o (nne (by omega)) q, fun b o q => hk b o (fun e' => ?_) (F.keep b o q), F.above⟩ hm
    have := toN (Heap.lt_size q)
    exact nne (by omega) e'
  | succ k ih =>
    intro i hi s₀ s hs hL
    obtain ⟨⟨m, F, hm⟩, he, hit, hne, ⟨old, hE⟩, hS⟩ := hL
    replace he := toN he
    replace hit := toN hit
    have hab := toLe F.above
    have hc : x.cps[i]? = some (x.cps[i]'(by omega)) := by simp [show i < x.cps.size by omega]
    have hk : x.cps.size - (i + 1) = k := by omega
    refine seg_forLoop ?_
    have big := toN F.ns.lt
    have eL := toN (Heap.lt_size hE)
    have itL := toN (show it < s.heap.objs.size by obtain ⟨o, ho, _⟩ := hS; exact Heap.lt_size ho)
    refine wpAny_with_toks (n := s.toks) (Nat.le_refl _) ?_
    refine wpAny_pyNext_enum_itemD (drawsS (by exact hhO) it x t) hE hS (by omega) hne (by simpa using hne) fun v h₁ tk₁ hP ho hS₁ hT₁ hz₁ hk₁ htk₁ => ?_
    obtain ⟨c, u, hcc, rfl⟩ := hP
    dsimp only at htk₁
    refine wpAny_letOwnedTupleGo_enum ho fun h₂ hE₂ hs₂ => ?_
    have hT₂ : h₂.IsTuple s.heap.objs.size #[.int i tk₁, .str ⟨#[c]⟩ u] := ⟨_, (hs₂.2 _ (nne (by omega))).trans hT₁, rfl, _, rfl⟩
    refine wpAny_assign_Tuple (by exact hhO) hT₂ rfl rfl fun h₃ hx₃ => ?_
    have hz₂ : h₂.objs.size = s.heap.objs.size + 1 := hs₂.1.trans hz₁
    have old₃ : ∀ b o, b < s.heap.objs.size → h₂.get? b = some o → h₃.get? b = some o := fun b o hb q => hx₃ b o (nne (by have := toN hb; show (b < h₂.objs.size ∨ h₂.objs.size < b); omega)) q
    have k₃ : ∀ b o, b ≠ e → b ≠ it → s.heap.get? b = some o → h₃.get? b = some o := fun b o hb hb' q => old₃ b o (Heap.lt_size q) ((hs₂.2 b hb).trans (hk₁ b o hb hb' q))
    have F₃ : Fr h₀ env.locals h₃ m := ⟨F.ns.at' fun o q => k₃ _ o (nne (by omega)) (nne (by omega)) q, fun b o q => k₃ b o (nne (by have := toN (Heap.lt_size q); omega)) (nne (by have := toN (Heap.lt_size q); omega)) (F.keep b o q), F.above⟩
    show wpAny _ _ (do holding [.str ⟨#[c]⟩ u] (assign (.Name xi pi) env (.int i tk₁)); do holding [] (assign (.Name xv pv) env (.str ⟨#[c]⟩ u)); pure ()) _ _ _
    refine wpAny_bind (wpAny_holding (wpAny_assign_Name (wpAny_storeName_local hxi F₃.ns (fun h₄ hn₄ hs₄ => ?_) hp)))
    refine wpAny_bind (wpAny_holding (wpAny_assign_Name (wpAny_storeName_local hxv hn₄ (fun h₅ hn₅ hs₅ => wpAny_pure ?_) hp)))
    replace hs₄ : Heap.SameBut env.locals h₃ h₄ := hs₄
    replace hs₅ : Heap.SameBut env.locals h₄ h₅ := hs₅
    have F₅ := (F₃.set hn₄ hs₄).set hn₅ hs₅
    have hi' : ((i : Int) + 1) = ((i + 1 : Nat) : Int) := by push_cast; rfl
    have L₅ : Live h₀ env.locals x t e it (i + 1) h₅ := by
      refine ⟨⟨_, F₅, ?_⟩, he, hit, hne, ⟨_, (hs₅.2 e (nne (by omega))).trans ((hs₄.2 e (nne (by omega))).trans (old₃ e _ eL (by rw [← hi']; exact hE₂)))⟩, ?_⟩
      · rw [if_neg (Ne.symm hxe.2), if_neg (Ne.symm hxe.1)]; exact hm
      · obtain ⟨o, h1, h2, h3⟩ := hS₁
        exact ⟨o, (hs₅.2 it (nne (by omega))).trans ((hs₄.2 it (nne (by omega))).trans (old₃ it _ itL ((hs₂.2 it (Ne.symm hne)).trans h1))), h2, h3⟩
    have key : ∀ tk, tk₁ + 1 ≤ tk → Seg (model prog w) A R Y (x.cps.size - (i + 1) + 1) s₀ (.forLoop (.Tuple [.Name xi pi, .Name xv pv] x1 pt) (.ref e) body orelse env)
        ((execs body env).wrap (forAgain (.Tuple [.Name xi pi, .Name xv pv] x1 pt) (.ref e) body orelse env) (turnH env) id id) fs { s with heap := h₅, toks := tk } := fun tk htk =>
      step i c u tk₁ _ s₀ { s with heap := h₅, toks := tk } hcc (by omega) (hs.step (Nat.le_trans htk₁ htk) fun b o hb q => (hs₅.2 b (nne (by have := toD hb; omega))).trans ((hs₄.2 b (nne (by have := toD hb; omega))).trans (k₃ b o (nne (by have := toD hb; omega)) (nne (by have := toD hb; omega)) q))) L₅ F₅
        (by rw [if_neg (Ne.symm hxe.2), if_neg (Ne.symm hxe.1)]; exact hm) (by rw [if_neg hxx, if_pos rfl]) (by rw [if_pos rfl])
        (fun s'' hL'' => by rw [hk]; exact ih (i + 1) (by omega) s'' s'' (Since.refl _ _) hL'')
    rw [hk] at key
    exact key _ (by first | exact Nat.le_refl _ | exact Nat.le_succ _ | exact Nat.le_succ_of_le (Nat.le_succ _))
end

section
variable {w : World} {mean : ExcName → Option Value} {mg mb : Str → Option Value} {A : Around} {s : Shared} {E : Value → Shared → Prop}

def GIt (prog : Program) (w : World) (A : Around) (h₀ : Heap) (L : Addr) (x : Str) (t : Tok) (a : Addr) (g : Nat) (i : Nat) (s : Shared) : Prop :=
  s.heap.IsGen a g ∧ a = L + 1 ∧ ∃ C, Stable h₀ L C ∧ C s.heap ∧ ∃ gs, s.gens[g]? = some gs ∧ gs.bare = true ∧
    ∀ s'', C s''.heap → gs.Goes (model prog w) A.in1 (GR L) (GY h₀ L x t) (x.cps.size - i) (.send .none) s''
theorem gen_enter {prog : Program} {h₀ : Heap} {x : Str} {t : Tok} {name qual : Str} {params : Arguments} {body : List Stmt} {scope : Scope} {dV kV doc pm cdv ct oc : Value} {an od : Option Addr} {osl : Array (Option Value)} {f : Addr} {args : List Value} {Q : Value → Shared → Prop}
    (W : Wd w mean mg mb h₀) (hk₀ : Ext h₀ s.heap) (hz₀ : h₀.objs.size ≤ s.heap.objs.size) (binds : List (Str × Value)) (m₀ : Str → Option Value)
    (ho : (hd.heap_39 w.params).lookup f = some ⟨oc, od, .func (fnOf name qual params body scope dV kV doc pm an cdv ct), osl⟩) (hcd : codeIn (hd.heap_39 w.params) cdv qual = true) (hroom : A.depth < recursionLimit)
    (hbind : bindArgs (fnOf name qual params body scope dV kV doc pm an cdv ct) ⟨args, []⟩ = pure binds) (hloc : (binds.all fun x => decide (scope.names.lookup x.1 = some .local)) = true)
    (hm : (fun y => binds.reverse.lookup y) = m₀)
    (hseg : ∀ (A' : Around) s₀ s', A'.handled = none → Since s.heap.objs.size s₀ s' → Fr h₀ s.heap.objs.size s'.heap m₀ → (∃ o, s'.heap.get? (s.heap.objs.size + 1) = some o) →
      Seg (model prog w) A' (GR s.heap.objs.size) (GY h₀ s.heap.objs.size x t) x.cps.size s₀ (.func body (envOf qual scope s.heap.objs.size f cdv)) ((model prog w).den (.func body (envOf qual scope s.heap.objs.size f cdv))) [] s')
    (h : ∀ h₁ (a : Addr) tk₁ gs, s.toks ≤ tk₁ → Ext s.heap h₁ → gs.bare = true → (∀ A₁ : Around, A₁.handled = none → GIt prog w A₁ h₀ s.heap.objs.size x t a s.gens.size 0 { s with heap := h₁, toks := tk₁, gens := s.gens.push gs }) →
      Q (.ref a) { s with heap := h₁, toks := tk₁, gens := s.gens.push gs })
    (hco : scope.isCoroutine = false) (hgen : scope.isGenerator = true) (hk : scope.kind = .function)
    (hcell : ∀ x ∈ scope.names, x.2 ≠ .cell) : wpAny (model prog w) A (call (.ref f) args) Q E s := by
  replace W := W.keeps hk₀
  refine wpAny_call (codeAny_call_generator (fd := fnOf name qual params body scope dV kV doc pm an cdv ct) (body := body) hroom (W.X _ _ ho) rfl hco hgen rfl (codeRec_of W.X hcd) ?_)
  refine BindsTo.of_eq hbind _ _ _ _ ?_
  refine wpAny_newFunctionEnv hcell (locs hloc) (fun h₁ hns₀ hsb₀ => ⟨W.T.nolimit.fresh _ hsb₀, ?_⟩) hk
  have k₁ : ∀ b o, s.heap.get? b = some o → h₁.get? b = some o := fun b o e => hsb₀.extBut b o (Nat.ne_of_lt (Heap.lt_size e)) (Heap.get?_push_of_some _ e)
  have hz : h₁.objs.size = s.heap.objs.size + 1 := by rw [hsb₀.1, Heap.size_push]
  refine h _ _ _ _ ?_ (fun b o e => Heap.get?_push_of_some _ (k₁ b o e)) rfl fun A₁ hA₁ => ⟨⟨_, _, _, Heap.get?_push_size _ rfl, rfl, rfl, rfl⟩, ?_, (fun h => Fr h₀ s.heap.objs.size h m₀ ∧ ∃ o, h.get? (s.heap.objs.size + 1) = some o), ?_, ?_, _, Array.getElem?_push_size .., rfl, ?_⟩
  · show s.toks ≤ s.toks + binds.length + 1 + 1
    omega
  · show h₁.objs.size = s.heap.objs.size + 1
    exact hz
  · exact fun h h' F hk hx => ⟨⟨F.1.ns.at' fun o q => hk _ o (Nat.le_refl _) q, hx, F.1.above⟩, let ⟨o, ho⟩ := F.2; ⟨o, hk _ _ (Nat.le_succ _) ho⟩⟩
  · exact ⟨⟨hm ▸ hns₀.push _, fun b o e => Heap.get?_push_of_some _ (k₁ b o (hk₀ b o e)), hz₀⟩, _, by rw [← hz]; exact Heap.get?_push_size _ rfl⟩
  · intro s'' hF
    exact ⟨rfl, hseg A₁.in1 s'' s'' hA₁ (Since.refl _ _) hF.1 hF.2⟩

theorem over_ar {A : Around} {c : Code} {fs : List Frame} (h : (A.over c fs).handled = none) : A.over c fs = Ar (A.over c fs).depth (A.over c fs).units (A.over c fs).frames (A.over c fs).guards := by
  generalize A.over c fs = B at *
  cases B
  dsimp only at h
  subst h
  rfl
theorem gen_make {dp un : Nat} {fr : Option (List Env)} {gd : Option (List Code)} {h₀ : Heap} {x : Str} {t : Tok} {Q : Value → Shared → Prop} (W : Wd w mean mg mb h₀) (hk₀ : Ext h₀ s.heap) (hz₀ : h₀.objs.size ≤ s.heap.objs.size) (hdp : dp < recursionLimit) (hx : 92 ∉ x.cps.toList)
    (h : ∀ h₁ (a : Addr) tk₁ gs, s.toks ≤ tk₁ → Ext s.heap h₁ → gs.bare = true → (∀ A₁ : Around, A₁.handled = none → GIt PySem.Challenge.rw_ta0013_01.row.prog w A₁ h₀ s.heap.objs.size x t a s.gens.size 0 { s with heap := h₁, toks := tk₁, gens := s.gens.push gs }) →
      Q (.ref a) { s with heap := h₁, toks := tk₁, gens := s.gens.push gs }) :
  wpAny (model PySem.Challenge.rw_ta0013_01.row.prog w) (Ar dp un fr gd) (call (.ref 63) [.str x t]) Q E s := by
  refine gen_enter (x := x) (t := t) W hk₀ hz₀ [(Str.ofString "addr", .str x t)] _ (by k_is) (by k_is) (by exact hdp) rfl rfl rfl ?_ h rfl rfl rfl (by decide)
  generalize hL : s.heap.objs.size = L
  intro A' s₀ s' hh hs F' hL1
  have hL1s := toN (show L + 1 < s'.heap.objs.size from let ⟨o, ho⟩ := hL1; Heap.lt_size ho)
  refine seg_func ?_
  have X := W.X
  have T := W.T
  have N₁ := news_rest (h₀ := h₀) (L := L) (h := s'.heap) (led := []) (by simp)
  dsimp only [List.nil_append, List.map_nil] at N₁
  have pre : ∀ h' m' news', Fr h₀ L h' m' → News h₀ L h' news' → (∀ p ∈ restOf h₀ L [] s'.heap, p ∈ news') → XB [L] s'.heap h' := fun _ _ _ F₁ N₁ hs => xb_of F' F₁ N₁ hs
  refine seg_execs_cons (seg_stmt ?_)
  rw [over_ar (A := A') (fs := []) hh]
  generalize (A'.over _ []).depth = d1
  generalize (A'.over _ []).units = u1
  generalize (A'.over _ []).frames = f1
  generalize (A'.over _ []).guards = g1
  show wpAny _ _ _ _ _ _
  k_fold
  k_steps
  refine seg_execs_cons (seg_stmt ?_)
  rw [over_ar (A := A') (fs := []) hh]
  generalize (A'.over _ []).depth = d2
  generalize (A'.over _ []).units = u2
  generalize (A'.over _ []).frames = f2
  generalize (A'.over _ []).guards = g2
  show wpAny _ _ _ _ _ _
  k_fold
  k_steps
  refine seg_execs_cons (seg_For ?_ (by intro _; rfl))
  rw [over_ar (A := A') (fs := []) hh]
  generalize (A'.over _ []).depth = d3
  generalize (A'.over _ []).units = u3
  generalize (A'.over _ []).frames = f3
  generalize (A'.over _ []).guards = g3
  show wpAny _ _ _ _ _ _
  k_fold
  iterate 6 walk1
  rename_i hA FA NA
  have hxb := pre _ _ _ FA NA (fun _ h => h)
  refine call_enumerate_str fun hB hE hS hzB hkB => ?_
  show wpAny _ _ _ _ _ _
  refine wpAny_pyIter_enum hE ?_
  intro p
  clear qk ek
  clear qk ek
  have hAL := toN (show L + 1 < hA.objs.size from let ⟨o, ho⟩ := hL1; Heap.lt_size (hxb _ o (by intro q; exact nne (.inr (Nat.lt_succ_self L)) (List.mem_singleton.mp q)) ho))
  dsimp only at hzB
  refine gen_loop (h₀ := h₀) (x := x) (t := t) hh (by exact hh) rfl rfl rfl (by decide) (by decide) ?step ?done x.cps.size 0 (Nat.zero_add _) _ _ ?since ⟨⟨_, (frExt FA hkB), rfl⟩, ?le, ?li, ?ne, ⟨_, hE⟩, hS⟩
  case le => exact toN (Nat.lt_succ_of_lt hAL)
  case li => exact hAL
  case ne => exact nne (Or.inr (Nat.lt_succ_self _))
  case since =>
    exact hs.step (by first | exact Nat.le_refl _ | exact Nat.le_succ _ | exact Nat.le_succ_of_le (Nat.le_succ _) | exact Nat.le_succ_of_le (Nat.le_succ_of_le (Nat.le_succ _))) fun b o hb q => hkB b o (hxb b o (by intro q; exact nne (by have := toD hb; omega) (List.mem_singleton.mp q)) q)
  case done =>
    intro m s₀ s hs F hm
    refine seg_block ?_
    refine seg_execs_nil ?_
    refine seg_leaf (.ok .next) ?_
    replace F := (frSee F (Str.ofString "escape") (by exact hm))
    have N₂ := news_rest (h₀ := h₀) (L := L) (h := s.heap) (led := []) (by simp)
    dsimp only [List.nil_append, List.map_nil] at N₂
    refine seg_execs_cons (seg_If ?_)
    rw [over_ar (A := A') (by exact hh)]
    generalize (A'.over _ _).depth = d5
    generalize (A'.over _ _).units = u5
    generalize (A'.over _ _).frames = f5
    generalize (A'.over _ _).guards = g5
    show wpAny _ _ _ _ _ _
    k_fold
    k_steps
    rw [if_neg Bool.false_ne_true]
    refine seg_execs_nil ?_
    exact seg_end (.ok (.ret .none)) ⟨rfl, rfl, hs⟩
  case step =>
    intro i c u tk m s₀ s hc hi hs hL F hm1 hm2 hm3 hk
    replace F := (frSee ((frSee ((frSee F (Str.ofString "escape") (by exact hm1))) (Str.ofString "pos") (by exact hm2))) (Str.ofString "ch") (by exact hm3))
    have N₂ := news_rest (h₀ := h₀) (L := L) (h := s.heap) (led := []) (by simp)
    dsimp only [List.nil_append, List.map_nil] at N₂
    have pre₂ : ∀ h' m' news', Fr h₀ L h' m' → News h₀ L h' news' → (∀ p ∈ restOf h₀ L [] s.heap, p ∈ news') → XB [L] s.heap h' := fun _ _ _ F₁ N₁ hs => xb_of F F₁ N₁ hs
    refine seg_execs_cons (seg_If ?_)
    rw [over_ar (A := A') (by exact hh)]
    generalize (A'.over _ _).depth = d4
    generalize (A'.over _ _).units = u4
    generalize (A'.over _ _).frames = f4
    generalize (A'.over _ _).guards = g4
    show wpAny _ _ _ _ _ _
    k_fold
    k_steps
    rw [if_neg Bool.false_ne_true]
    have hne : ((⟨#[c]⟩ : Str) == Str.ofString "\\") = false := by
      cases q : ((⟨#[c]⟩ : Str) == Str.ofString "\\") with
      | false => rfl
      | true =>
        have e : c = 92 := by
          have := congrArg (fun z : Str => z.cps.toList) (beq_iff_eq.mp q)
          have e2 : (Str.ofString "\\").cps.toList = [92] := by kernel_rfl
          dsimp only at this
          rw [e2] at this
          simpa using this
        subst e
        exact absurd (by rw [Array.mem_toList_iff]; exact Array.mem_of_getElem? hc) hx
    refine seg_execs_cons (seg_If ?_)
    rw [over_ar (A := A') (by exact hh)]
    generalize (A'.over _ _).depth = d6
    generalize (A'.over _ _).units = u6
    generalize (A'.over _ _).frames = f6
    generalize (A'.over _ _).guards = g6
    show wpAny _ _ _ _ _ _
    k_fold
    k_steps
    rw [hne, if_neg Bool.false_ne_true]
    refine seg_execs_cons (seg_Expr_Yield rfl rfl rfl (wpAny_mono (E := fun _ _ => False) ?_ (fun _ _ x => x) (fun _ _ x => x.elim)))
    rw [over_ar (A := A') (by exact hh)]
    generalize (A'.over _ _).depth = d7
    generalize (A'.over _ _).units = u7
    generalize (A'.over _ _).frames = f7
    generalize (A'.over _ _).guards = g7
    show wpAny _ _ _ _ _ _
    k_fold
    k_steps
    rename_i D' hD FD ND lD kap hkap
    refine ⟨i, c, by omega, hc, ⟨D', tk, u, rfl, ⟨_, (ND _ (List.mem_cons_self ..)).1, rfl, _, rfl⟩⟩, ?_, _, Live.stable, ?_, fun s'' hL'' => hkap .none s'' (seg_again rfl (hk s'' hL''))⟩
    · exact hs.step (Nat.le_succ _) fun b o hb q => pre₂ _ _ _ FD ND (fun p hp => List.mem_cons_of_mem _ hp) b o (by intro q; exact nne (by have := toD (b := L) hb; omega) (List.mem_singleton.mp q)) q
    · have kp : ∀ (b : Nat) o, L + 1 < b → s.heap.get? b = some o → hD.get? b = some o := fun b o hb q => pre₂ _ _ _ FD ND (fun p hp => List.mem_cons_of_mem _ hp) b o (by intro q; exact nne (by omega) (List.mem_singleton.mp q)) q
      obtain ⟨_, he', hit', hne', ⟨old, hE'⟩, o, h1, h2, h3⟩ := hL
      exact ⟨⟨_, FD, rfl⟩, he', hit', hne', ⟨old, kp _ _ he' hE'⟩, o, kp _ _ hit' h1, h2, h3⟩

theorem next_gen {prog : Program} {h₀ : Heap} {L a : Addr} {x : Str} {t : Tok} {g i : Nat} {Q : Option Value → Shared → Prop} (hh : A.handled = none) (hl : s.heap.NoLimit) (hroom : A.depth < recursionLimit)
    (G : GIt prog w A h₀ L x t a g i s) (hi : i ≤ x.cps.size)
    (hit : ∀ T tk u c h' tk' gs', i < x.cps.size → x.cps[i]? = some c → h'.IsTuple T #[.int i tk, .str ⟨#[c]⟩ u] → s.toks ≤ tk' → (∀ b o, (b < L ∨ b = L + 1) → s.heap.get? b = some o → h'.get? b = some o) →
      ((∀ y ∈ s.gens, y.bare = true) → ∀ y ∈ gs', y.bare = true) → GIt prog w A h₀ L x t a g (i + 1) { s with heap := h', toks := tk', gens := gs' } → Q (some (.ref T)) { s with heap := h', toks := tk', gens := gs' })
    (hend : ∀ h' tk' gs', i = x.cps.size → s.toks ≤ tk' → (∀ b o, (b < L ∨ b = L + 1) → s.heap.get? b = some o → h'.get? b = some o) →
      ((∀ y ∈ s.gens, y.bare = true) → ∀ y ∈ gs', y.bare = true) → Q none { s with heap := h', toks := tk', gens := gs' }) :
    wpAny (model prog w) A (pyNext (.ref a)) Q E s := by
  obtain ⟨hg, ha, C, hC, hCs, gs, hgs, hgb, hgo⟩ := G
  have hgo := hgo (s.setGen g .running) hCs
  unfold pyNext
  refine wpAny_bind (wpAny_attempt (wpAny_callSpecial?_slot (name := Str.ofString "__next__") hg.typeIs slot_gen_next
    (wpAny_call_entry slot_gen_next hg.typeIs entry_gen_next ?_ (args_gen_next _))))
  show wpAny _ A.in1 (Builtin.Generator.genWake (.ref a) (.send .none)) _ _ s
  unfold Builtin.Generator.genWake
  refine wpAny_bind (wpAny_holding (wpAny_genNumber hg (wpAny_bind (wpAny_genState hgs ?_))))
  cases gs with
  | running => exact hgo.elim
  | finished => exact hgo.elim
  | _ =>
    refine wpAny_bind (wpAny_roomToWake hl hroom ?_)
    show wpAny _ A.in1 (.resume g (.send .none) [] _) _ _ s
    refine wpAny_resumeQ hgs hgo (fun x' s₁ hx => ?_) (fun v s₁ gs' hb hv => ?_)
    · obtain ⟨rfl, hn, h₁, tk₁, rfl, ht₁, hk₁⟩ := hx
      show wpAny _ A.in1 (newExc (.type "StopIteration") [] >>= _) _ _ _
      refine wpAny_bind ?_
      simp only [newExc, newTuple]
      refine wpAny_bind (wpAny_newObj_type ?_ (by size_fits))
      refine wpAny_bind (m := firstArgMember _ _) (wpAny_of_eq (a := Value.none) (by first | rfl | (simp only [firstArgMember]; rfl)) ?_)
      refine wpAny_newObj_type ?_ (by size_fits)
      simp only [raiseNew]
      refine wpAny_bind (wpAny_bind (wpAny_handled ?_))
      first | rw [show A.in1.handled = none from hh] | rw [hh]
      refine wpAny_throw ?_
      refine wpAny_bind (wpAny_isInstance (T := "StopIteration") (b := true) ⟨_, Heap.get?_push_size _ rfl, rfl⟩ isSubtype_stop ?_)
      refine wpAny_pure (hend _ _ _ (by omega) ht₁ (fun b o hb q => Heap.get?_push_of_some _ (Heap.get?_push_of_some _ (hk₁ b o hb q))) ?_)
      exact (GenOnlyQ.of (g := g) ((GenOnly.setGen s g .running).trans (GenOnly.setGen _ g .finished)) (setGen_self (gs := .running) (setGen_self hgs)) rfl).bare
    · obtain ⟨j, c, hj, hc, ⟨T, tk, u, rfl, hT⟩, ⟨h₁, tk₁, rfl, ht₁, hk₁⟩, C', hC', hCs', hkap⟩ := hv
      cases hm : x.cps.size - i with
      | zero =>
        rw [hm] at hkap
        exact (hkap _ hCs').elim
      | succ k =>
        rw [hm] at hkap hj
        have hji : j = i := by omega
        subst hji
        refine wpAny_pure ⟨.ref T, rfl, wpAny_pure (hit T tk u c _ _ _ (by omega) hc hT ht₁ hk₁ ?_ ⟨?_, ha, C', hC', hCs', gs', setGen_self (gs := .running) (setGen_self hgs), hb, ?_⟩)⟩
        · exact (GenOnlyQ.of (g := g) ((GenOnly.setGen s g .running).trans (GenOnly.setGen _ g gs')) (setGen_self (gs := .running) (setGen_self hgs)) hb).bare
        · obtain ⟨o, nm, qn, ho, r⟩ := hg
          exact ⟨o, nm, qn, hk₁ a o (.inr ha) ho, r⟩
        · intro s'' hCs''
          have := hkap s'' hCs''
          rw [show x.cps.size - (j + 1) = k by omega]
          exact this
end
end Mine
end

section
set_option maxRecDepth 100000
open PySem PySem.W PySem.Calls PyProof.Rows PySem.Spec
set_option Elab.async false
set_option linter.unusedVariables false
namespace Mine

def Bare (gs : Array GenState) : Prop := ∀ y ∈ gs, y.bare = true
def SameG (s s₁ : Shared) : Prop := ∃ h tk gs, s₁ = { s with heap := h, toks := tk, gens := gs } ∧ s.toks ≤ tk ∧ (Bare s.gens → Bare gs)
theorem SameG.refl (s : Shared) : SameG s s := ⟨s.heap, s.toks, s.gens, rfl, Nat.le_refl _, fun h => h⟩
theorem SameG.trans {s s₁ s₂ : Shared} (x : SameG s s₁) (y : SameG s₁ s₂) : SameG s s₂ := by
  obtain ⟨h, tk, gs, rfl, ht, hb⟩ := x
  obtain ⟨h', tk', gs', rfl, ht', hb'⟩ := y
  exact ⟨h', tk', gs', rfl, Nat.le_trans ht ht', fun q => hb' (hb q)⟩

section
variable {w : World} {mean : ExcName → Option Value} {mg mb : Str → Option Value} {A : Around} {s : Shared} {E : Value → Shared → Prop}
theorem for_gen {prog : Program} {env : Env} {h₀ : Heap} {L a : Addr} {x : Str} {t : Tok} {g : Nat} {xi xv : Str} {pi pv pt : Pos} {x1} {body orelse : List Stmt} {m : Str → Option Value} {Q : Flow → Shared → Prop}
    (hh : A.handled = none) (W : Wd w mean mg mb h₀) (hroom : A.depth < recursionLimit)
    (hxi : env.kindOf xi = some .local) (hxv : env.kindOf xv = some .local)
    (hp : (env.scope.kind == .class || (env.scope.kind == .module && env.locals != env.globals)) = false)
    (G : GIt prog w A h₀ L x t a g 0 s) (hL : env.locals < L) (F : Fr h₀ env.locals s.heap m) (J : Nat → (Str → Option Value) → Prop) (h0 : J 0 m)
    (step : ∀ i c u tk m₁ (s₁ : Shared), x.cps[i]? = some c → J i m₁ → Fr h₀ env.locals s₁.heap (fun y => if y = xv then some (.str ⟨#[c]⟩ u) else if y = xi then some (.int i tk) else m₁ y) → SameG s s₁ →
      wpAny (model prog w) A (execs body env) (TurnOk s₁ h₀ env.locals [] (fun m' _ _ => J (i + 1) m') Q s₁.heap) (fun _ _ => False) s₁)
    (done : ∀ m₁ (s₁ : Shared), J x.cps.size m₁ → Fr h₀ env.locals s₁.heap m₁ → SameG s s₁ → wpAny (model prog w) A (execs orelse env) Q (fun _ _ => False) s₁) :
    codeAny (model prog w) A (.forLoop (.Tuple [.Name xi pi, .Name xv pv] x1 pt) (.ref a) body orelse env) (fun r s' => match r with | .ok f => Q f s' | .error e => cameBackBy (model prog w) A env E e s') s := by
  refine codeAny_forLoop_any (fun k s' => ∃ i m₁, SameG s s' ∧ GIt prog w A h₀ L x t a g i s' ∧ Fr h₀ env.locals s'.heap m₁ ∧ J i m₁ ∧ i ≤ x.cps.size ∧ k = x.cps.size + 1 - i) ?_ (x.cps.size + 1)
    ⟨0, m, SameG.refl _, G, F, h0, Nat.zero_le _, rfl⟩
  rintro k s' ⟨i, m₁, hS, hG, F', hJ, hi, rfl⟩
  have hl : s'.heap.NoLimit := W.T.nolimit.keeps F'.keep
  have hLn := toN hL
  have old : ∀ (b : Nat) o, h₀.get? b = some o → b < L := fun b o e => toN (Nat.lt_trans (Nat.lt_of_lt_of_le (Heap.lt_size e) F'.above) hL)
  refine next_gen hh hl hroom hG hi (fun T tk u c h' tk' gs' hlt hc hT ht hk hb hG' => ?_) (fun h' tk' gs' he ht hk hb => ?_)
  · have F₁ : Fr h₀ env.locals h' m₁ := ⟨F'.ns.at' fun o q => hk _ o (.inl hL) q, fun b o q => hk b o (.inl (old b o q)) (F'.keep b o q), F'.above⟩
    obtain ⟨hg, ha, C, hC, hCs, gs, hgs, hgb, hgo⟩ := hG'
    obtain ⟨og, nm, qn, hog, hcg, hdg, hsg⟩ := id hg
    show wpAny _ _ (letOwnedTupleGo _ _ _) _ _ _
    unfold letOwnedTupleGo
    refine wpAny_bind (wpAny_load hog ?_)
    rw [hcg, hdg]
    refine wpAny_pure ?_
    have hT' : ({ s' with heap := h', toks := tk', gens := gs' } : Shared).heap.IsTuple T #[.int i tk, .str ⟨#[c]⟩ u] := hT
    refine wpAny_assign_Tuple hh hT' rfl rfl fun h₃ hx₃ => ?_
    have k₃ : ∀ b o, h'.get? b = some o → h₃.get? b = some o := fun b o q => hx₃ b o (Nat.ne_of_lt (Heap.lt_size q)) q
    have F₃ := (frExt F₁ k₃)
    show wpAny _ _ (do holding [.str ⟨#[c]⟩ u] (assign (.Name xi pi) env (.int i tk)); do holding [] (assign (.Name xv pv) env (.str ⟨#[c]⟩ u)); pure ()) _ _ _
    refine wpAny_bind (wpAny_holding (wpAny_assign_Name (wpAny_storeName_local hxi F₃.ns (fun h₄ hn₄ hs₄ => ?_) hp)))
    refine wpAny_bind (wpAny_holding (wpAny_assign_Name (wpAny_storeName_local hxv hn₄ (fun h₅ hn₅ hs₅ => wpAny_pure ?_) hp)))
    replace hs₄ : Heap.SameBut env.locals h₃ h₄ := hs₄
    replace hs₅ : Heap.SameBut env.locals h₄ h₅ := hs₅
    have F₅ := (F₃.set hn₄ hs₄).set hn₅ hs₅
    have k₅ : ∀ b o, b ≠ env.locals → h'.get? b = some o → h₅.get? b = some o := fun b o hb q => (hs₅.2 b hb).trans ((hs₄.2 b hb).trans (k₃ b o q))
    suffices key : ∀ tk₅, tk' ≤ tk₅ → wpAny (model prog w) A (execs body env) (fun f s₃ => match f with
            | .next | .cont => ∃ k', k' < x.cps.size + 1 - i ∧ ∃ i m₁, SameG s s₃ ∧ GIt prog w A h₀ L x t a g i s₃ ∧ Fr h₀ env.locals s₃.heap m₁ ∧ J i m₁ ∧ i ≤ x.cps.size ∧ k' = x.cps.size + 1 - i
            | .brk => Q .next s₃
            | .ret v => Q (.ret v) s₃) (fun _ _ => False) { s' with heap := h₅, toks := tk₅, gens := gs' } from
      wpAny_mono (key _ (by first | exact Nat.le_refl _ | exact Nat.le_succ _ | exact Nat.le_succ_of_le (Nat.le_succ _))) (fun f s₃ h₃ => by cases f <;> exact h₃) fun _ _ (e : False) => e.elim
    intro tk₅ htk₅
    have S₅ : SameG s { s' with heap := h₅, toks := tk₅, gens := gs' } := hS.trans ⟨h₅, tk₅, gs', rfl, Nat.le_trans ht htk₅, hb⟩
    have go := step i c u tk m₁ { s' with heap := h₅, toks := tk₅, gens := gs' } hc hJ F₅ S₅
    refine wpAny_with_toks (n := tk₅) (Nat.le_refl _) (wpAny_mono go (fun f s₃ h₃ ht₃ => ?_) fun _ _ (e : False) => e.elim)
    have fin : (∃ h' tk m', s₃ = { ({ s' with heap := h₅, toks := tk₅, gens := gs' } : Shared) with heap := h', toks := tk } ∧ Fr h₀ env.locals h' m' ∧ XB (env.locals :: []) h₅ h' ∧ J (i + 1) m') →
        ∃ k', k' < x.cps.size + 1 - i ∧ ∃ i m₁, SameG s s₃ ∧ GIt prog w A h₀ L x t a g i s₃ ∧ Fr h₀ env.locals s₃.heap m₁ ∧ J i m₁ ∧ i ≤ x.cps.size ∧ k' = x.cps.size + 1 - i := by
      rintro ⟨h₆, tk₆, m', rfl, F₆, hx₆, hJ₆⟩
      have k₆ : ∀ b o, b ≠ env.locals → h'.get? b = some o → h₆.get? b = some o := fun b o hb q => hx₆ b o (by simpa using hb) (k₅ b o hb q)
      refine ⟨x.cps.size + 1 - (i + 1), by omega, i + 1, m', S₅.trans ⟨h₆, tk₆, gs', rfl, ht₃, fun q => q⟩, ⟨⟨og, nm, qn, k₆ a og (by rw [ha]; exact nne (.inr (by omega))) hog, hcg, hdg, hsg⟩, ha, C, hC, hC _ _ hCs (fun b o hb q => k₆ b o (nne (.inr (by have := toLe hb; omega))) q) F₆.keep, gs, hgs, hgb, hgo⟩, F₆, hJ₆, hlt, rfl⟩
    cases f with
    | next => exact fin h₃
    | cont => exact fin h₃
    | brk => exact h₃
    | ret v => exact h₃
  · have F₁ : Fr h₀ env.locals h' m₁ := ⟨F'.ns.at' fun o q => hk _ o (.inl hL) q, fun b o q => hk b o (.inl (old b o q)) (F'.keep b o q), F'.above⟩
    subst he
    exact wpAny_mono (done m₁ { s' with heap := h', toks := tk', gens := gs' } hJ F₁ (hS.trans ⟨h', tk', gs', rfl, ht, hb⟩)) (fun _ _ q => q) fun _ _ e => e.elim

set_option maxHeartbeats 8000000 in
theorem strip_does (x : Str) (t : Tok) (hx : 34 ∉ x.cps.toList) : Does w mean mg mb 70 [.str x t] 2 (fun _ => True) (fun _ _ _ v => v = .str x t) := by
  unfold Does
  intro dp un fr gd s Q E hd hu W _ hQ
  have X := W.X
  have T := W.T
  refine enter W [(Str.ofString "addr", .str x t)] _ (by k_is) (by k_is) (by show dp < _; omega) rfl rfl rfl (fun h₁ tk₁ ht₁ F N => ?_) rfl rfl rfl (by decide)
  have hE : (Builtin.Str.occurrences x (Str.ofString "\"") 0 x.length 1).isEmpty = true := by
    rw [show Str.ofString "\"" = ⟨#[34]⟩ from by kernel_rfl, empty_one]
    simp [hx]
  show wpAny _ _ _ _ _ _
  k_fold
  iterate 6 walk1
  rw [hE]
  k_steps
  exact hQ _ _ _ F.keep (by assumption) rfl

theorem cp (c d : Nat) (z : Str) (hz : z = ⟨#[d]⟩) : ((⟨#[c]⟩ : Str) == z) = true ↔ c = d := by
  subst hz
  constructor
  · intro q
    have := congrArg (fun z : Str => z.cps) (beq_iff_eq.mp q)
    simpa using this
  · rintro rfl; exact beq_self_eq_true _
theorem bare_push {a : Array GenState} {g : GenState} (ha : Bare a) (hg : g.bare = true) : Bare (a.push g) := by
  intro y hy
  rcases Array.mem_push.mp hy with h | rfl
  · exact ha y h
  · exact hg
/-- the rest of the rim's check -/
def rimFrom : List Nat → Nat → Bool
  | [], n => n == 0
  | c :: l, n => if c = 40 then rimFrom l (n + 1) else if c = 41 then (if n = 0 then false else rimFrom l (n - 1)) else rimFrom l n
def DoesG (w : World) (mean : ExcName → Option Value) (mg mb : Str → Option Value) (f : Addr) (vs : List Value) (d : Nat) (P : Shared → Prop) (R : Value → Prop) : Prop :=
  ∀ (dp un : Nat) (fr : Option (List Env)) (gd : Option (List Code)) (s : Shared) (Q E : Value → Shared → Prop), dp + d < recursionLimit → un + 8 * d + 8 < cLine → Wd w mean mg mb s.heap → P s →
    (∀ v h' tk' gs', Ext s.heap h' → s.toks ≤ tk' → (Bare s.gens → Bare gs') → R v → Q v { s with heap := h', toks := tk', gens := gs' }) →
    wpAny (model PySem.Challenge.rw_ta0013_01.row.prog w) (Ar dp un fr gd) (call (.ref f) vs) Q E s
set_option maxHeartbeats 8000000 in
theorem check_does (x : Str) (t : Tok) (hx : 34 ∉ x.cps.toList) (hx' : 92 ∉ x.cps.toList) (hz : x.cps.size < 100000) : DoesG w mean mg mb 77 [.str x t] 4 (fun _ => True) (fun v => v = .bool (rimFrom x.cps.toList 0)) := by
  unfold DoesG
  intro dp un fr gd s Q E hd hu W _ hQ
  have X := W.X
  have T := W.T
  refine enter W [(Str.ofString "addr", .str x t)] _ (by k_is) (by k_is) (by show dp < _; omega) rfl rfl rfl (fun h₁ tk₁ ht₁ F N => ?_) rfl rfl rfl (by decide)
  k_fold
  k_steps
  refine Does.use (strip_does x t hx) W F N (by show dp + 1 + 2 < _; omega) (by show un + 3 + 8 * 2 + 8 < _; omega) trivial (fun v h₂ tk₂ F₂ N₂ he ht hr => ?_)
  subst hr
  dsimp only at ht
  k_steps
  refine wpAny_For ?_ (by intro _; rfl)
  k_steps
  rename_i h₃ F₃ N₃
  refine gen_make W F₃.keep ?_ (by show dp + 1 < _; omega) hx' fun h₄ a tk₄ gs ht₄ he₄ hb₄ hG => ?_
  · exact Nat.le_of_lt (Nat.lt_of_le_of_lt F₃.above F₃.ns.lt)
  have hL := F₃.ns.lt
  have F₄ := (frExt F₃ he₄)
  show wpAny _ _ _ _ _ _
  refine wpAny_pyIter_gen (hG (Ar dp un fr gd) rfl).1 ?_
  refine for_gen (h₀ := s.heap) (by rfl) W (by show dp + 1 < _; omega) rfl rfl rfl (hG _ rfl) hL F₄
    (fun i m => ∃ (n : Nat) (tn : Tok), m (Str.ofString "opens") = some (.int n tn) ∧ n ≤ i ∧ rimFrom x.cps.toList 0 = rimFrom (x.cps.toList.drop i) n) ?_ ?_ ?_
  · exact ⟨0, _, rfl, Nat.le_refl _, rfl⟩
  · rintro i c u tk m₁ s₁ hc ⟨n, tn, e1, hn, hrim⟩ F₅ hS
    have hi : i < x.cps.size := (Array.getElem?_eq_some_iff.mp hc).1
    have hd' : x.cps.toList.drop i = c :: x.cps.toList.drop (i + 1) := by
      rw [List.drop_eq_getElem_cons (by simpa using hi)]
      have := (Array.getElem?_eq_some_iff.mp hc).2
      simp [this]
    rw [hd', rimFrom] at hrim
    replace F₅ := (frSee F₅ (Str.ofString "opens") (by exact e1))
    have N₅ := news_rest (h₀ := s.heap) (L := s.heap.objs.size) (h := s₁.heap) (led := []) (by simp)
    dsimp only [List.nil_append, List.map_nil] at N₅
    show wpAny _ _ _ _ _ _
    k_fold
    k_steps
    · rename_i q _ _ _
      rw [if_pos ((cp c 40 _ (by kernel_rfl)).mp q)] at hrim
      refine' TurnOk.go F₅ ?ta ?tb ?tc ?td; (case ta => assumption); (case tb => assumption); (case tc => exact fun _ h => h); (case td => exact ⟨n + 1, _, rfl, by omega, hrim⟩)
    · rename_i q _ q' _ _ F₆ _ hlt
      rw [if_neg (fun e => by rw [(cp c 40 _ (by kernel_rfl)).mpr e] at q; cases q), if_pos ((cp c 41 _ (by kernel_rfl)).mp q'), if_pos (by omega)] at hrim
      obtain ⟨h₅, tk₅, gs₅, rfl, ht₅, hb₅⟩ := hS
      exact fun htk => hQ _ _ _ gs₅ F₆.keep htk (fun hb => hb₅ (bare_push hb hb₄)) (by rw [hrim])
    · rename_i q _ q' _ _ F₆ _ hlt
      rw [if_neg (fun e => by rw [(cp c 40 _ (by kernel_rfl)).mpr e] at q; cases q), if_pos ((cp c 41 _ (by kernel_rfl)).mp q'), if_neg (by omega)] at hrim
      refine' TurnOk.go F₅ ?ta ?tb ?tc ?td; (case ta => assumption); (case tb => assumption); (case tc => exact fun _ h => h); (case td => exact ⟨n - 1, _, (congrArg (fun z : Int => some (Value.int z _)) (show (n : Int) - 1 = ((n - 1 : Nat) : Int) by omega)), by omega, hrim⟩)
    · rename_i q _ q'
      rw [if_neg (fun e => by rw [(cp c 40 _ (by kernel_rfl)).mpr e] at q; cases q), if_neg (fun e => by rw [(cp c 41 _ (by kernel_rfl)).mpr e] at q'; cases q')] at hrim
      refine' TurnOk.go F₅ ?ta ?tb ?tc ?td; (case ta => assumption); (case tb => assumption); (case tc => exact fun _ h => h); (case td => exact ⟨n, _, rfl, by omega, hrim⟩)
  · rintro m₁ s₁ ⟨n, tn, e1, hn, hrim⟩ F₅ hS
    replace F₅ := (frSee F₅ (Str.ofString "opens") (by exact e1))
    have N₅ := news_rest (h₀ := s.heap) (L := s.heap.objs.size) (h := s₁.heap) (led := []) (by simp)
    dsimp only [List.nil_append, List.map_nil] at N₅
    rw [← Array.length_toList, List.drop_length, rimFrom] at hrim
    show wpAny _ _ _ _ _ _
    k_fold
    k_steps
    obtain ⟨h₅, tk₅, gs₅, rfl, ht₅, hb₅⟩ := hS
    exact hQ _ _ _ gs₅ F₅.keep (by assumption) (fun hb => hb₅ (bare_push hb hb₄)) (by rw [hrim]; cases n <;> rfl)
end
end Mine
end

section
set_option maxRecDepth 100000
open PySem PySem.W PySem.Calls PyProof.Rows PySem.Spec
set_option Elab.async false
set_option linter.unusedVariables false
namespace Mine
local macro_rules | `(tactic| walk_at "exec For") => `(tactic| (with_unfolding_all refine wpAny_For ?_ (by intro _; rfl)))
local macro_rules | `(tactic| walk_at "exec For Name Call cons nil") => `(tactic| (with_unfolding_all refine wpAny_For ?_ (by intro _; rfl)))
local macro_rules | `(tactic| walk_at "exec For Name Call cons cons") => `(tactic| (with_unfolding_all refine wpAny_For ?_ (by intro _; rfl)))
def flagNames : List Str := [Str.ofString "OPTIMIZED", Str.ofString "NEWLOCALS", Str.ofString "VARARGS", Str.ofString "VARKEYWORDS", Str.ofString "NESTED", Str.ofString "GENERATOR", Str.ofString "NOFREE"]
theorem fl_zero : ∀ i : Nat, i < 32 → (Builtin.bitAnd (if 0 = 0 then 0 else 2 ^ 0 - 2 ^ i) (1 * 2 ^ (i : Int).toNat) != 0) = false := by
  have : ∀ i : Fin 32, (Builtin.bitAnd (if 0 = 0 then 0 else 2 ^ 0 - 2 ^ i.1) (1 * 2 ^ (i.1 : Int).toNat) != 0) = false := by decide +kernel
  exact fun i hi => this ⟨i, hi⟩
theorem fl_and (n i : Nat) (hn : n ≤ 7) (hi : i < n) : (Builtin.bitAnd (if n = 0 then 0 else 2 ^ n - 2 ^ i) (1 * 2 ^ (i : Int).toNat) != 0) = true := by
  have : ∀ n : Fin 8, ∀ i : Fin 8, i.1 < n.1 → (Builtin.bitAnd (if n.1 = 0 then 0 else 2 ^ n.1 - 2 ^ i.1) (1 * 2 ^ (i.1 : Int).toNat) != 0) = true := by decide +kernel
  exact this ⟨n, by omega⟩ ⟨i, by omega⟩ hi
theorem fl_xor (n i : Nat) (hn : n ≤ 7) (hi : i < n) : Builtin.bitXor (if n = 0 then 0 else 2 ^ n - 2 ^ i) (1 * 2 ^ (i : Int).toNat) = 2 ^ n - 2 ^ (i + 1) := by
  have : ∀ n : Fin 8, ∀ i : Fin 8, i.1 < n.1 → Builtin.bitXor (if n.1 = 0 then 0 else 2 ^ n.1 - 2 ^ i.1) (1 * 2 ^ (i.1 : Int).toNat) = 2 ^ n.1 - 2 ^ (i.1 + 1) := by decide +kernel
  exact this ⟨n, by omega⟩ ⟨i, by omega⟩ hi
theorem fl_fit (i : Nat) (hi : i < 7) : (PySem.baseText "0x" 16 (1 * 2 ^ (i : Int).toNat)).length ≤ sizeLine := by
  have h := (PySem.baseText_length "0x" 16 (1 * 2 ^ (i : Int).toNat)).2
  have : ∀ i : Fin 7, ((1 : Int) * 2 ^ (i.1 : Int).toNat).natAbs ≤ 64 := by decide +kernel
  have := this ⟨i, hi⟩
  have h2 : (Str.ofString "0x").length = 2 := by kernel_rfl
  rw [sizeLine_eq]
  dsimp only at this
  omega
theorem fl_at (i : Nat) (hi : i < 7) : KTD.datumAt ((1 : Int) * 2 ^ (i : Int).toNat) [(1, PyData.str { cps := #[79, 80, 84, 73, 77, 73, 90, 69, 68] }), (2, PyData.str { cps := #[78, 69, 87, 76, 79, 67, 65, 76, 83] }), (4, PyData.str { cps := #[86, 65, 82, 65, 82, 71, 83] }), (8, PyData.str { cps := #[86, 65, 82, 75, 69, 89, 87, 79, 82, 68, 83] }), (16, PyData.str { cps := #[78, 69, 83, 84, 69, 68] }), (32, PyData.str { cps := #[71, 69, 78, 69, 82, 65, 84, 79, 82] }), (64, PyData.str { cps := #[78, 79, 70, 82, 69, 69] }), (128, PyData.str { cps := #[67, 79, 82, 79, 85, 84, 73, 78, 69] }), (256, PyData.str { cps := #[73, 84, 69, 82, 65, 66, 76, 69, 95, 67, 79, 82, 79, 85, 84, 73, 78, 69] }), (512, PyData.str { cps := #[65, 83, 89, 78, 67, 95, 71, 69, 78, 69, 82, 65, 84, 79, 82] })] = some (.str (flagNames.getD i ⟨#[]⟩)) := by
  have h : i = 0 ∨ i = 1 ∨ i = 2 ∨ i = 3 ∨ i = 4 ∨ i = 5 ∨ i = 6 := by omega
  rcases h with rfl | rfl | rfl | rfl | rfl | rfl | rfl <;> kernel_rfl
theorem fl_ne (n i : Nat) (hn : n ≤ 7) (hi : i + 1 < n) : (2 : Int) ^ n - 2 ^ (i + 1) ≠ 0 := by
  have : ∀ n : Fin 8, ∀ i : Fin 8, i.1 + 1 < n.1 → (2 : Int) ^ n.1 - 2 ^ (i.1 + 1) ≠ 0 := by decide +kernel
  exact this ⟨n, by omega⟩ ⟨i, by omega⟩ hi
theorem fl_take (i : Nat) (hi : i < 7) : flagNames.take (i + 1) = flagNames.take i ++ [flagNames.getD i ⟨#[]⟩] := by
  have h : i = 0 ∨ i = 1 ∨ i = 2 ∨ i = 3 ∨ i = 4 ∨ i = 5 ∨ i = 6 := by omega
  rcases h with rfl | rfl | rfl | rfl | rfl | rfl | rfl <;> rfl
theorem strs_snoc : ∀ {vs : List Value} {ss : List Str}, StrsAre vs ss → ∀ y t, StrsAre (vs ++ [.str y t]) (ss ++ [y])
  | _, _, .nil, y, t => .cons y t .nil
  | _, _, .cons a b r, y, t => .cons a b (strs_snoc r y t)
theorem hex0 : PySem.baseText "0x" 16 0 = ⟨#[48, 120, 48]⟩ := by
  unfold baseText
  rw [if_neg (by decide)]
  have : Nat.toDigits 16 (0 : Int).natAbs = ['0'] := by decide
  rw [this]
  kernel_rfl
theorem hex0_fit : (PySem.baseText "0x" 16 0).length ≤ sizeLine := by
  rw [hex0, sizeLine_eq]
  show 3 ≤ _
  omega
theorem hex_zero {prog : Program} {w : World} {A : Around} {s : Shared} {E : Value → Shared → Prop} {t : Tok} {Q : Value → Shared → Prop} (h : ∀ y0, y0 = Str.ofString "0x0" → Q (.str y0 s.toks) { s with toks := s.toks + 1 }) : wpAny (model prog w) A (call (.builtin "hex") [.int 0 t]) Q E s := by
  have h' := h ⟨#[48, 120, 48]⟩ (by kernel_rfl)
  rw [← hex0] at h'
  generalize hz : (0 : Int) = z at *
  exact P.hex_of_int h' (by rw [← hz]; exact hex0_fit)
theorem strs_nil {vs : Array Value} (h : StrsAre vs.toList []) : vs = #[] := by
  have : ∀ l, StrsAre l [] → l = [] := by
    intro l h
    cases h
    rfl
  exact Array.toList_inj.mp (this _ h)
theorem fl_join (n : Nat) (hn : n ≤ 7) : ((flagNames.take n).map (·.length)).sum + (flagNames.take n).length * (Str.ofString ", ").length ≤ 16777216 := by
  have : ∀ n : Fin 8, ((flagNames.take n.1).map (·.length)).sum + (flagNames.take n.1).length * (Str.ofString ", ").length ≤ 16777216 := by decide +kernel
  exact this ⟨n, by omega⟩
section
variable {w : World} {mean : ExcName → Option Value} {mg mb : Str → Option Value}
set_option maxHeartbeats 8000000 in
theorem pretty_does (n : Nat) (hn : n ≤ 7) (t : Tok) : Does w mean mg mb 56 [.int (2 ^ n - 1) t] 2 (fun _ => True) (fun _ _ _ v => ∃ t, v = .str (if n = 0 then Str.ofString "0x0" else Txt.join (Str.ofString ", ") (flagNames.take n)) t) := by
  unfold Does
  intro dp un fr gd s Q E hd hu W _ hQ
  have X := W.X
  have T := W.T
  refine enter W [(Str.ofString "flags", .int (2 ^ n - 1) t)] _ (by k_is) (by k_is) (by show dp < _; omega) rfl rfl rfl (fun h₁ tk₁ ht₁ F N => ?_) rfl rfl rfl (by decide)
  k_fold
  k_steps
  rename_i l hA l1 hB FB NB hC tkC t1 u1 v1 hR FC NC kC
  dsimp only at *
  have hl := (NC _ (List.mem_cons_self ..))
  refine for_range (mu := [l]) (n := 32) (by rfl) hR rfl (by omega) ?_ rfl rfl FC
    (fun i m h _ => (n = 0 ∨ i < n) ∧ (∃ tf, m (Str.ofString "flags") = some (.int (if n = 0 then 0 else 2 ^ n - 2 ^ i) tf)) ∧ m (Str.ofString "names") = some (.ref l) ∧
      ∃ vs k, h.get? l = some (PySem.W.listOf vs k) ∧ StrsAre vs.toList (if n = 0 then [] else flagNames.take i))
    ?_ ?_ ?_ ?_
  · intro b hb
    rw [List.mem_singleton.mp hb]
    exact Heap.lt_size hl.1
  · rintro i m h h' tk tk' ⟨h1, h2, h3, vs, k, h4, h5⟩ hk ht
    exact ⟨h1, h2, h3, vs, k, hk _ _ _ _ h4 rfl, h5⟩
  · refine ⟨by omega, ⟨t, ?_⟩, rfl, #[], 0, hl.1, ?_⟩
    · show some (Value.int (2 ^ n - 1) t) = _
      by_cases e : n = 0
      · subst e; rfl
      · rw [if_neg e]; rfl
    · have : (if n = 0 then ([] : List Str) else flagNames.take 0) = [] := by split <;> rfl
      rw [this]
      exact .nil
  · rintro i ti m₁ h tk' hi htt htk ⟨h1, ⟨tf, h2⟩, h3, vs, k, h4, h5⟩ F₁ hx₁
    replace F₁ := (frSee ((frSee F₁ (Str.ofString "flags") (by exact h2))) (Str.ofString "names") (by exact h3))
    have N₁ := news_rest (h₀ := s.heap) (L := s.heap.objs.size) (h := h) (led := [(l, PySem.W.listOf vs k)]) (by
      intro p hp
      rw [List.mem_singleton.mp hp]
      exact ⟨h4, hl.2.1, hl.2.2⟩)
    have off := rest_off (h₀ := s.heap) (L := s.heap.objs.size) (mu := [l]) (h := h) (List.mem_singleton.mpr (rfl : l = l))
    dsimp only [List.cons_append, List.nil_append, List.map_nil, List.map_cons] at N₁
    show wpAny _ _ _ _ _ _
    show wpAny _ _ _ _ _ _
    k_fold
    iterate 15 walk1
    by_cases hn0 : n = 0
    · subst hn0
      rw [if_neg (by rw [fl_zero i hi]; exact Bool.false_ne_true)]
      k_steps
      refine' TurnOk.go F₁ ?ta ?tb ?tc ?td; (case ta => assumption); (case tb => assumption); (case tc => exact fun p hp => List.mem_cons_of_mem _ hp)
      case td => exact ⟨.inl rfl, ⟨_, rfl⟩, rfl, vs, k, by rename_i N' _; exact (N' _ (List.mem_cons_self ..)).1, h5⟩
    · have hin : i < n := by omega
      rw [if_pos (fl_and n i hn hin)]
      k_steps
      rename_i kyX
      have hfit := fl_fit i (by omega)
      refine P.hex_of_int ?_ hfit
      iterate 1 walk1
      clear hfit
      refine call_get2_intTab (KTD.Keyed.keep kyX (by kt_keeps) _ _) (PyProof.V.Flat.str _ _) fun v hv => ?_
      rw [KTD.lookup_keyed] at hv
      replace hv := Eq.mp (congrArg (fun o => PyProof.V.Flat v (Option.getD o (PyData.str (baseText "0x" 16 (1 * 2 ^ (i : Int).toNat))))) (fl_at i (by omega))) hv
      clear kyX
      obtain ⟨tv, rfl⟩ := PyProof.V.Flat.str_inv hv
      clear hv
      have hvs : StrsAre (vs.push (.str (flagNames.getD i ⟨#[]⟩) tv)).toList (flagNames.take (i + 1)) := by
        rw [Array.toList_push, fl_take i (by omega)]
        rw [if_neg hn0] at h5
        exact strs_snoc h5 _ _
      k_steps
      all_goals rename_i hD FD ND hz
      all_goals rw [fl_xor n i hn hin] at hz
      · refine' TurnOk.go F₁ ?ta ?tb ?tc ?td; (case ta => assumption); (case tb => assumption); (case tc => exact fun p hp => List.mem_cons_of_mem _ hp)
        case td =>
          refine ⟨.inr (by
            by_cases e : i + 1 = n
            · subst e; omega
            · omega), ⟨_, congrArg (fun z => some (Value.int z _)) ((fl_xor n i hn hin).trans (if_neg hn0).symm)⟩, rfl, _, _, (ND _ (List.mem_cons_self ..)).1, by rw [if_neg hn0]; exact hvs⟩
      · have hin' : i + 1 = n := by
          by_cases e : i + 1 = n
          · exact e
          · exact absurd hz (fl_ne n i hn (by omega))
        have hvs' := hvs
        rw [hin'] at hvs'
        clear hvs h5 hz off
        generalize vs.push (.str (flagNames.getD i ⟨#[]⟩) tv) = vs' at ND hvs'
        show wpAny _ _ _ _ _ _
        k_steps
        refine join_list ⟨_, (ND _ (List.mem_cons_self ..)).1, rfl, _, rfl⟩ hvs' (fl_join n hn) fun tj kj => ?_
        k_steps
        exact hQ _ _ _ FD.keep (by assumption) ⟨_, by rw [if_neg hn0]⟩
  · rintro m₁ h tk' htk ⟨h1, ⟨tf, h2⟩, h3, vs, k, h4, h5⟩ F₁ hx₁
    have hn0 : n = 0 := by omega
    subst hn0
    rw [if_pos rfl] at h2 h5
    have hvs := strs_nil h5
    subst hvs
    clear h5
    replace F₁ := (frSee ((frSee F₁ (Str.ofString "flags") (by exact h2))) (Str.ofString "names") (by exact h3))
    have N₁ := news_rest (h₀ := s.heap) (L := s.heap.objs.size) (h := h) (led := [(l, PySem.W.listOf #[] k)]) (by
      intro p hp
      rw [List.mem_singleton.mp hp]
      exact ⟨h4, hl.2.1, hl.2.2⟩)
    have off := rest_off (h₀ := s.heap) (L := s.heap.objs.size) (mu := [l]) (h := h) (List.mem_singleton.mpr (rfl : l = l))
    dsimp only [List.cons_append, List.nil_append, List.map_nil, List.map_cons] at N₁
    show wpAny _ _ _ _ _ _
    k_fold
    iterate 13 walk1
    refine hex_zero fun y0 hy => ?_
    iterate 1 walk1
    refine append_head F₁ N₁ off ?_
    intro hE FE NE
    k_steps
    refine join_list (ys := [y0]) ⟨_, (NE _ (List.mem_cons_self ..)).1, rfl, _, rfl⟩ (.cons _ _ .nil) (by
      have : (Str.ofString "0x0").length = 3 := by kernel_rfl
      have h2 : (Str.ofString ", ").length = 2 := by kernel_rfl
      rw [h2, hy]
      simp only [List.map_cons, List.map_nil, List.sum_cons, List.sum_nil, List.length_cons, List.length_nil, this]
      omega) fun tj kj => ?_
    k_steps
    exact hQ _ _ _ FE.keep (by assumption) ⟨_, by rw [hy]; rfl⟩
end
end Mine
end

section
set_option maxRecDepth 100000
open PySem PySem.W PySem.Calls PyProof.Rows PySem.Spec
set_option Elab.async false
set_option linter.unusedVariables false
namespace Mine
local macro_rules | `(tactic| walk_at "exec For") => `(tactic| (with_unfolding_all refine wpAny_For ?_ (by intro _; rfl)))
local macro_rules | `(tactic| walk_at "exec For Name Call cons nil") => `(tactic| (with_unfolding_all refine wpAny_For ?_ (by intro _; rfl)))
local macro_rules | `(tactic| walk_at "exec For Name Name cons nil") => `(tactic| (with_unfolding_all refine wpAny_For ?_ (by intro _; rfl)))

theorem news_xb {h₀ h h' : Heap} {L : Addr} {mu : List Addr} {news : List (Addr × Obj)} (N : News h₀ L h news) (x : XB (L :: mu) h h') (hmu : ∀ p ∈ news, p.1 ∉ mu) : News h₀ L h' news := fun p hp =>
  ⟨x p.1 p.2 (fun q => by rcases List.mem_cons.mp q with e | e; exact (N p hp).2.1 e; exact hmu p hp e) (N p hp).1, (N p hp).2⟩
/-- c * p * (p - 1) * ... -/
def fallT (c p : Int) : Nat → Int
  | 0 => c
  | d + 1 => fallT c p d * (p - d)
def sumTo (cs : List Int) (p : Int) : Nat → Int
  | 0 => 0
  | i + 1 => sumTo cs p i + fallT (cs.getD i 0) p (cs.length - 1 - i)
set_option maxHeartbeats 8000000 in
theorem sum_does {w mean mg mb} (b : Addr) (vals : List Value) (cs : List Int) (p : Int) (t : Tok) (hb : cs.length ≤ 5) (hp : -3000000 ≤ p ∧ p ≤ 3000000) :
    Does w mean mg mb 138 [.ref b, .int p t] 3 (fun s => s.heap.IsList b vals.toArray ∧ IntsAre vals cs) (fun _ _ _ v => ∃ t, v = .int (sumTo cs p cs.length) t) := by
  unfold Does
  intro dp un fr gd s Q E hd hu W hP hQ
  obtain ⟨hL, hI⟩ := hP
  have X := W.X
  have T := W.T
  refine enter W [(Str.ofString "counts", .ref b), (Str.ofString "point", .int p t)] _ (by k_is) (by k_is) (by show dp < _; omega) rfl rfl rfl (fun h₁ tk₁ ht₁ F N => ?_) rfl rfl rfl (by decide)
  try dsimp only
  k_fold
  k_steps
  rename_i h₂ tk₂ t₁ t₂ t₃ hR F N k
  dsimp only at *
  refine for_range (mu := []) (n := cs.length) (by rfl) hR rfl (by omega) (by simp) rfl rfl F
    (fun i m h _ => (∃ tp, m (Str.ofString "total") = some (Value.int (sumTo cs p i) tp)) ∧ m (Str.ofString "point") = some (Value.int p t) ∧ m (Str.ofString "counts") = some (Value.ref b))
    (fun i m h h' _ _ hj _ _ => hj) ?_ ?_ ?_
  · exact ⟨⟨_, rfl⟩, rfl, rfl⟩
  · rintro i tt m₁ h tk hi htt htk ⟨⟨tp, e1⟩, e2, e3⟩ F₁ hx₁
    replace F₁ := (frSee ((frSee ((frSee F₁ (Str.ofString "total") (by exact e1))) (Str.ofString "point") (by exact e2))) (Str.ofString "counts") (by exact e3))
    have N₁ := news_rest (h₀ := s.heap) (L := s.heap.objs.size) (h := h) (led := []) (by simp)
    dsimp only [List.nil_append, List.map_nil] at N₁
    show wpAny _ _ _ _ _ _
    k_fold
    k_steps
    rename_i tT hT FT NT hI2 tkI tI1 tI2 tI3 hRI FI NI kI
    dsimp only at *
    refine for_range (mu := []) (n := cs.length - 1 - i) (by rfl) hRI (by omega) (by omega) (by simp) rfl rfl FI
      (fun d m h _ => (∃ tp, m (Str.ofString "term") = some (Value.int (fallT (cs.getD i 0) p d) tp)) ∧ m (Str.ofString "total") = some (Value.int (sumTo cs p i) tp) ∧ m (Str.ofString "point") = some (Value.int p t) ∧ m (Str.ofString "counts") = some (Value.ref b))
      (fun i m h h' _ _ hj _ _ => hj) ?_ ?_ ?_
    · exact ⟨⟨_, rfl⟩, rfl, rfl, rfl⟩
    · rintro d td m₂ h₄ tk₄ hd' htd htk₄ ⟨⟨tq, f1⟩, f2, f3, f4⟩ F₂ hx₂
      replace F₂ := (frSee ((frSee ((frSee ((frSee F₂ (Str.ofString "term") (by exact f1))) (Str.ofString "total") (by exact f2))) (Str.ofString "point") (by exact f3))) (Str.ofString "counts") (by exact f4))
      have N₂ := news_rest (h₀ := s.heap) (L := s.heap.objs.size) (h := h₄) (led := []) (by simp)
      dsimp only [List.nil_append, List.map_nil] at N₂
      show wpAny _ _ _ _ _ _
      k_fold
      k_steps
      refine Does.use (sub_does p d t td) W F₂ N₂ (by show dp + 1 + 1 < _; omega) (by show un + 3 + 8 * 1 + 8 < _; omega) trivial (fun v h₅ tk₅ F₅ N₅ he ht hr => ?_)
      obtain ⟨tr, rfl⟩ := hr
      dsimp only at ht
      k_steps
      refine Does.use (mul_does _ _ _ _ (by mul_fits)) W F₅ N₅ (by show dp + 1 + 1 < _; omega) (by show un + 3 + 8 * 1 + 8 < _; omega) trivial (fun v h₆ tk₆ F₆ N₆ he' ht' hr => ?_)
      obtain ⟨tr', rfl⟩ := hr
      dsimp only at ht'
      k_steps
      refine' TurnOk.go F₂ ?ta ?tb ?tc ?td; (case ta => assumption); (case tb => assumption); (case tc => exact fun _ h => h); (case td => exact ⟨⟨_, rfl⟩, rfl, rfl, rfl⟩)
    · rintro m₂ h₄ tk₄ htk₄ ⟨⟨tq, f1⟩, f2, f3, f4⟩ F₂ hx₂
      replace F₂ := (frSee ((frSee ((frSee ((frSee F₂ (Str.ofString "term") (by exact f1))) (Str.ofString "total") (by exact f2))) (Str.ofString "point") (by exact f3))) (Str.ofString "counts") (by exact f4))
      have N₂ := news_xb NI hx₂ (by simp)
      show wpAny _ _ _ _ _ _
      k_fold
      k_steps
      refine Does.use (add_does _ _ _ _) W F₂ N₂ (by show dp + 1 + 1 < _; omega) (by show un + 3 + 8 * 1 + 8 < _; omega) trivial (fun v h₅ tk₅ F₅ N₅ he ht hr => ?_)
      obtain ⟨tr, rfl⟩ := hr
      dsimp only at ht
      k_steps
      refine' TurnOk.go F₁ ?ta ?tb ?tc ?td; (case ta => assumption); (case tb => assumption); (case tc => exact fun _ h => h); (case td => exact ⟨⟨_, rfl⟩, rfl, rfl⟩)
  · rintro m₁ h tk htk ⟨⟨tp, e1⟩, e2, e3⟩ F₁ hx₁
    replace F₁ := (frSee F₁ (Str.ofString "total") (by exact e1))
    have N₁ := news_rest (h₀ := s.heap) (L := s.heap.objs.size) (h := h) (led := []) (by simp)
    dsimp only [List.nil_append, List.map_nil] at N₁
    show wpAny _ _ _ _ _ _
    k_fold
    k_steps
    exact hQ _ _ _ F₁.keep (by assumption) ⟨_, rfl⟩
end Mine
end

section
set_option maxRecDepth 100000
open PySem PySem.W PySem.Calls PyProof.Rows PySem.Spec
set_option Elab.async false
set_option linter.unusedVariables false
namespace Mine
local macro_rules | `(tactic| walk_at "exec For") => `(tactic| (with_unfolding_all refine wpAny_For ?_ (by intro _; rfl)))
local macro_rules | `(tactic| walk_at "exec For Name Call cons nil") => `(tactic| (with_unfolding_all refine wpAny_For ?_ (by intro _; rfl)))
local macro_rules | `(tactic| walk_at "exec For Name Name cons nil") => `(tactic| (with_unfolding_all refine wpAny_For ?_ (by intro _; rfl)))
theorem intsAre_get : ∀ {vs : List Value} {ns : List Int}, IntsAre vs ns → ∀ {i : Nat} {v : Value}, vs[i]? = some v → ∃ n t, v = .int n t ∧ ns[i]? = some n
  | _, _, .nil, i, v, h => by simp at h
  | _, _, .cons a b r, 0, v, h => ⟨_, _, (Option.some.inj h).symm, rfl⟩
  | _, _, .cons a b r, i + 1, v, h => intsAre_get r h
theorem intsAre_len : ∀ {vs : List Value} {ns : List Int}, IntsAre vs ns → vs.length = ns.length
  | _, _, .nil => rfl
  | _, _, .cons a b r => congrArg (· + 1) (intsAre_len r)

def aheadOf (bs : List Int) (i : Nat) : Int := if i = 0 then 0 else bs.getD (i - 1) 0
def rimTo (bs : List Int) : Nat → Str
  | 0 => Str.ofString ""
  | i + 1 => rimTo bs i ++ Txt.mul (Str.ofString "(") (bs.getD i 0 - aheadOf bs i) ++ Str.ofString ")"
set_option maxHeartbeats 8000000 in
theorem rim_does {w mean mg mb} (b : Addr) (vals : List Value) (bs : List Int) (hb : bs.length ≤ 4) (hbs : ∀ x ∈ bs, 0 ≤ x ∧ x ≤ 100) :
    Does w mean mg mb 152 [.ref b] 2 (fun s => s.heap.IsList b vals.toArray ∧ IntsAre vals bs) (fun _ _ _ v => ∃ t, v = .str (rimTo bs bs.length) t) := by
  unfold Does
  intro dp un fr gd s Q E hd hu W hP hQ
  obtain ⟨hL, hI⟩ := hP
  have X := W.X
  have T := W.T
  refine enter W [(Str.ofString "board", .ref b)] _ (by k_is) (by k_is) (by show dp < _; omega) rfl rfl rfl (fun h₁ tk₁ ht₁ F N => ?_) rfl rfl rfl (by decide)
  try dsimp only
  k_fold
  k_steps
  rename_i h₂ F N
  dsimp only at *
  refine for_list (mu := []) (by rfl) (hL.at fun o e => F.keep _ _ e) ?_ (by simp) rfl rfl F
    (fun i m h _ => (∃ tc y, m (Str.ofString "rim") = some (Value.str y tc) ∧ y.length ≤ 200 * i ∧ y = rimTo bs i) ∧ (∃ a ta, m (Str.ofString "ahead") = some (Value.int a ta) ∧ 0 ≤ a ∧ a ≤ 100 ∧ a = aheadOf bs i))
    (fun i m h h' _ _ hj _ _ => hj) ?_ ?_ ?_
  · intro q
    obtain ⟨o, ho, _⟩ := hL
    exact absurd (Heap.lt_size ho) (by rw [List.mem_singleton.mp q]; exact Nat.lt_irrefl _)
  · exact ⟨⟨_, _, rfl, Nat.le_of_eq (by kernel_rfl), rfl⟩, ⟨_, _, rfl, by omega, by omega, rfl⟩⟩
  · rintro i v m₁ h tk hv htk ⟨⟨tc, y, e1, hy, hyr⟩, a, ta, e2, ha0, ha1, ha⟩ F₁ hx₁
    obtain ⟨n, tn, rfl, hn⟩ := intsAre_get hI hv
    have hn2 := hbs n (List.mem_of_getElem? hn)
    have hi : i < bs.length := (List.getElem?_eq_some_iff.mp hn).1
    have hr : (List.replicate (n - a).toNat ()).length ≤ 100 := by rw [List.length_replicate]; omega
    replace F₁ := ((frSee ((frSee F₁ (Str.ofString "rim") (by exact e1))) (Str.ofString "ahead") (by exact e2)))
    have N₁ := news_rest (h₀ := s.heap) (L := s.heap.objs.size) (h := h) (led := []) (by simp)
    dsimp only [List.nil_append, List.map_nil] at N₁
    show wpAny _ _ _ _ _ _
    k_fold
    k_steps
    rename_i z1 z2 _ _ l1 _ _ l2 _ _ _ _
    have hc1 : (Str.ofString ")").length = 1 := by kernel_rfl
    have hbd : bs.getD i 0 = n := by rw [List.getD_eq_getElem?_getD, hn]; rfl
    refine' TurnOk.go F₁ ?ta ?tb ?tc ?td; (case ta => assumption); (case tb => assumption); (case tc => exact fun _ h => h)
    case td =>
      refine ⟨⟨_, _, rfl, ?_, ?_⟩, ⟨_, _, rfl, by omega, by omega, ?_⟩⟩
      · by_cases hz : n - a < 0
        · have := z1 hz
          omega
        · have := z2 (by omega)
          omega
      · rw [rimTo, hbd, ← hyr, ← ha]
      · unfold aheadOf
        rw [if_neg (by omega), Nat.add_sub_cancel, hbd]
  · rintro m₁ h tk htk ⟨⟨tc, y, e1, hy, hyr⟩, a, ta, e2, ha0, ha1, ha⟩ F₁ hx₁
    replace F₁ := (((frSee F₁ (Str.ofString "rim") (by exact e1))))
    have N₁ := news_rest (h₀ := s.heap) (L := s.heap.objs.size) (h := h) (led := []) (by simp)
    dsimp only [List.nil_append, List.map_nil] at N₁
    show wpAny _ _ _ _ _ _
    k_fold
    k_steps
    exact hQ _ _ _ F₁.keep (by assumption) ⟨_, by rw [hyr, intsAre_len hI]⟩
end Mine
end

section
set_option maxRecDepth 100000
open PySem PySem.W PySem.Calls PyProof.Rows PySem.Spec
set_option Elab.async false
set_option linter.unusedVariables false
namespace Mine
section
variable {prog : Program} {w : World} {A : Around} {s : Shared} {E : Value → Shared → Prop} {env : Env}
/-- what the comprehension has made -/
def MadeC (F : Nat → Value → Nat → Nat → Prop) (lo hi : Nat) (i : Nat) (ys : List Value) : Prop := ys.length = i ∧ ∀ j, j < i → ∃ y a b, ys[j]? = some y ∧ F j y a b ∧ lo ≤ a ∧ b ≤ hi

set_option maxHeartbeats 4000000 in
theorem comp_core {elt iter : Expr} {x : Str} {px : Pos} {scope : Scope} {cl : List (Str × Addr)} {pos pos2 : Pos} {n : Nat} {P : Nat → Value → Nat → Nat → Prop} (F : Nat → Value → Nat → Nat → Prop) {use : Option (Value → Sem Unit)} {Q : Value → Shared → Prop}
    (hclos : closureFor scope env = pure cl) (hkind : scope.kind = .function) (hnames : ∀ x ∈ scope.names, x.2 = .local → scope.names.lookup x.1 = some .local) (hx : scope.names.lookup x = some .local) (hcell : ∀ y ∈ scope.names, y.2 ≠ .cell)
    (hfold : ∀ v, foldedSetIterable iter env v = pure v) (hn : n < 100000) (B : Nat) (R : Heap → Prop) (hR : ∀ h h' : Heap, R h → (∀ b o, (∃ o', s.heap.get? b = some o') → h.get? b = some o → h'.get? b = some o) → R h') (hmono : ∀ h : Heap, R h → ∀ b o, s.heap.get? b = some o → b < h.objs.size) (hB : ∀ h : Heap, R h → B ≤ h.objs.size)
    (hiter : wpAny (model prog w) A (eval iter env) (fun xv s₁ => wpAny (model prog w) A (pyIter xv) (fun it s₂ => ∃ I fp wr St h₂ tk₂, it = .ref I ∧ s₂ = { s with heap := h₂, toks := tk₂ } ∧ s.toks ≤ tk₂ ∧ R h₂ ∧
      Wk prog w A I fp wr n P St ∧ (∀ i (s : Shared) (Q : Value → Shared → Prop) (E : Value → Shared → Prop), St i s.heap → Q (.ref I) s → wpAny (model prog w) A (pyIter (.ref I)) Q E s) ∧ St 0 h₂ ∧ (∀ b ∈ fp, b < h₂.objs.size) ∧ (∀ b ∈ wr, s.heap.get? b = none)) E s₁) E s)
    (helt : ∀ i v C m (s₁ : Shared) (E' : Value → Shared → Prop) t₀ t₁, i < n → P i v t₀ t₁ → s.toks ≤ t₀ → t₁ ≤ s₁.toks → s₁.gens = s.gens → R s₁.heap → B ≤ C → s₁.heap.Ns C m → m x = some v →
      wpAny (model prog w) A (eval elt (compEnvC scope cl C env)) (fun y s₂ => ∃ h' tk, s₂ = { s₁ with heap := h', toks := tk } ∧ Ext s₁.heap h' ∧ s₁.toks ≤ tk ∧ F i y s₁.toks tk) E' s₁)
    (h : ∀ D C h' tk ys k m, s.heap.get? D = none → s.heap.get? C = none → D ≠ C → R h' → s.toks ≤ tk → h'.get? D = some { cls := .type "list", data := .seq (List.toArray ys) k } → h'.Ns C m → MadeC F s.toks tk n ys → compPost (model prog w) A E use Q (.ref D) C (.ok .next) { s with heap := h', toks := tk }) :
    wpAny (model prog w) A (comprehension (.ListComp elt [⟨.Name x px, iter, [], 0⟩] scope pos) scope env pos2 (newList []) false (eval iter env) use) Q E s := by
  refine wpAny_comprehension_free rfl hfold hclos hkind hnames (wpAny_mono hiter (fun xv s₁ h₁ => wpAny_mono h₁ (fun it s₂ h₂ => ?_) fun _ _ e => e) fun _ _ e => e)
  obtain ⟨I, fp, wr, St, h₂, tk₂, rfl, rfl, ht₂, he₂, W, hself, hst, hfp, hwr⟩ := h₂
  refine wpAny_newList ?_ (by simp)
  refine wpAny_newFunctionEnv hcell (by simp) (fun h₃ hn₃ hs₃ => ?_) hkind
  have hz : (h₂.push { cls := .type "list", data := .seq (List.toArray ([] : List Value)) }).objs.size = h₂.objs.size + 1 := Heap.size_push ..
  dsimp only at hn₃ hs₃ ⊢
  rw [hz] at hn₃ hs₃ ⊢
  generalize hD : h₂.objs.size = D at *
  have hpD : (h₂.push { cls := .type "list", data := .seq (List.toArray ([] : List Value)) }).get? D = some { cls := .type "list", data := .seq (List.toArray ([] : List Value)) 0 } := by rw [← hD]; exact Heap.get?_push_size _ rfl
  have k₃ : ∀ b o, h₂.get? b = some o → h₃.get? b = some o := fun b o e => (hs₃.extBut b o (Nat.ne_of_lt (Nat.lt_succ_of_lt (hD ▸ Heap.lt_size e))) (Heap.get?_push_of_some _ (Heap.get?_push_of_some _ e)))
  have hD₃ : h₃.get? D = some { cls := .type "list", data := .seq (List.toArray ([] : List Value)) 0 } := hs₃.extBut D _ (Nat.ne_of_lt (Nat.lt_succ_self _)) (Heap.get?_push_of_some _ hpD)
  have hDs : s.heap.get? D = none := by
    cases q : s.heap.get? D with
    | none => rfl
    | some o => exact absurd (hmono _ he₂ _ _ q) (by rw [hD]; exact Nat.lt_irrefl _)
  have hBC : B ≤ D + 1 := Nat.le_succ_of_le (hD ▸ hB _ he₂)
  have hDw : D ∉ wr := fun q => Nat.lt_irrefl _ (hfp D (W.sub D q))
  have hCw : D + 1 ∉ wr := fun q => Nat.lt_irrefl _ (Nat.lt_of_succ_lt (hfp (D + 1) (W.sub _ q)))
  have hDf : D ∉ fp := fun q => Nat.lt_irrefl _ (hfp D q)
  have hCf : D + 1 ∉ fp := fun q => Nat.lt_irrefl _ (Nat.lt_of_succ_lt (hfp (D + 1) q))
  have hCs : s.heap.get? (D + 1) = none := by
    cases q : s.heap.get? (D + 1) with
    | none => rfl
    | some o => exact absurd (hmono _ he₂ _ _ q) (by rw [hD]; exact Nat.not_lt_of_le (Nat.le_succ _))
  have old : ∀ b o, s.heap.get? b = some o → b ≠ D ∧ b ≠ D + 1 ∧ b ∉ wr := fun b o e =>
    ⟨(fun q => by subst q; rw [hDs] at e; cases e), (fun q => by subst q; rw [hCs] at e; cases e), (fun q => by rw [hwr b q] at e; cases e)⟩
  have loop : ∀ (A' : Around) (it : Value), it = .ref I → A' = A → ∀ tk₃, s.toks ≤ tk₃ → codeAny (model prog w) A (.compLoop (.ListComp elt [⟨.Name x px, iter, [], 0⟩] scope pos) 0 (.ref I) (.ref D) (compEnvC scope cl (D + 1) env))
      (compPost (model prog w) A E use Q (.ref D) (D + 1)) { s with heap := h₃, toks := tk₃ } := by
    intro A' it hit hA tk₃ htk₃
    refine codeAny_compLoop_list (fun k s' => ∃ i h tk m ys kk, s' = { s with heap := h, toks := tk } ∧ s.toks ≤ tk ∧ R h ∧ St i h ∧ h.Ns (D + 1) m ∧ h.get? D = some { cls := .type "list", data := .seq (List.toArray ys) kk } ∧ MadeC F s.toks tk i ys ∧ i ≤ n ∧ k = n + 1 - i) ?_ (n + 1)
      ⟨0, h₃, tk₃, _, [], 0, rfl, htk₃, hR h₂ h₃ he₂ (fun b o _ e => k₃ b o e), W.frame _ _ _ hst fun b hb o e => k₃ b o e, hn₃, hD₃, ⟨rfl, fun j hj => absurd hj (Nat.not_lt_zero _)⟩, Nat.zero_le _, rfl⟩
    rintro k s' ⟨i, h, tk, m, ys, kk, rfl, htk, heh, hSt, hNs, hDh, hM, hin, rfl⟩
    by_cases hlt : i < n
    · refine W.item i _ _ _ hlt hSt fun v h' tk' hP htk' hSt' hk' => ?_
      have hN' : h'.Ns (D + 1) m := hNs.at' fun o e => hk' _ o hCw e
      refine wpAny_assign_Name (wpAny_storeName_local (lookup_relabel_local hx) hN' (fun h₄ hn₄ hs₄ => ?_) (by show (scope.kind == .class || (scope.kind == .module && _)) = false; rw [hkind]; rfl))
      replace hs₄ : Heap.SameBut (D + 1) h' h₄ := hs₄
      have k₄ : ∀ b o, b ≠ D + 1 → b ∉ wr → h.get? b = some o → h₄.get? b = some o := fun b o hb hb' e => (hs₄.2 b hb).trans (hk' b o hb' e)
      have e₄ : R h₄ := hR h h₄ heh (fun b o ⟨o', q⟩ e => k₄ b o (old b o' q).2.1 (old b o' q).2.2 e)
      refine wpAny_mono (helt i v (D + 1) _ _ (fun _ _ => False) tk tk' hlt hP htk (by first | exact Nat.le_refl _ | exact Nat.le_succ _) rfl e₄ hBC hn₄ (by rw [if_pos rfl])) (fun y s₅ h₅ => ?_) fun _ _ (e : False) => e.elim
      obtain ⟨h₅, tk₅, rfl, he₅, ht₅, hF⟩ := h₅
      have hD₅ : h₅.PlainList D (List.toArray ys) := ⟨kk, he₅ _ _ (k₄ D _ (Nat.ne_of_lt (Nat.lt_succ_self D)) hDw hDh)⟩
      refine wpAny_list_append_plain hD₅ (fun h₆ hD₆ hs₆ => ?_) (by rw [sizeLine_eq, List.size_toArray, hM.1]; omega)
      replace hs₆ : Heap.SameBut D h₅ h₆ := hs₆
      obtain ⟨k₆, hD₆⟩ := hD₆
      have hmono' : tk ≤ tk₅ := Nat.le_trans htk' (Nat.le_trans (by first | exact Nat.le_refl _ | exact Nat.le_succ _) ht₅)
      refine ⟨n + 1 - (i + 1), by omega, i + 1, h₆, tk₅, (fun z => if z = x then some v else m z), ys ++ [y], k₆, rfl, Nat.le_trans htk hmono', hR h₄ h₆ e₄ (fun b o ⟨o', q⟩ e => (hs₆.2 b (old b o' q).1).trans (he₅ b o e)), ?_, ?_, ?_, ?_, hlt, rfl⟩
      · exact W.frame _ _ _ hSt' fun b hb o e => (hs₆.2 b fun q => hDf (q ▸ hb)).trans (he₅ b o ((hs₄.2 b fun q => hCf (q ▸ hb)).trans e))
      · exact hn₄.at' fun o e => (hs₆.2 _ (Nat.ne_of_gt (Nat.lt_succ_self D))).trans (he₅ _ o e)
      · rw [hD₆]; simp
      · refine ⟨by simp [hM.1], fun j hj => ?_⟩
        by_cases e : j = i
        · subst e
          exact ⟨y, _, tk₅, by rw [List.getElem?_append_right (by rw [hM.1]; exact Nat.le_refl _), hM.1, Nat.sub_self]; rfl, hF, Nat.le_trans htk (Nat.le_trans htk' (by first | exact Nat.le_refl _ | exact Nat.le_succ _)), Nat.le_refl _⟩
        · obtain ⟨z, a, b, hz, hFz, ha, hb⟩ := hM.2 j (by omega)
          exact ⟨z, a, b, by rw [List.getElem?_append_left (by rw [hM.1]; omega)]; exact hz, hFz, ha, Nat.le_trans hb hmono'⟩
    · have hkeep : ∀ h' : Heap, (∀ b o, (∃ o', s.heap.get? b = some o') → h.get? b = some o → h'.get? b = some o) → R h' := fun h' k => hR h h' heh k
      have hie : i = n := by omega
      subst hie
      refine W.done _ _ _ hSt fun h' tk' htk' hk' => ?_
      exact h D (D + 1) h' tk' ys kk m hDs hCs (Nat.ne_of_lt (Nat.lt_succ_self D)) (hkeep h' (fun b o ⟨o', q⟩ e => hk' b o (old b o' q).2.2 e)) (Nat.le_trans htk htk') (hk' D _ hDw hDh) (hNs.at' fun o e => hk' _ o hCw e)
        ⟨hM.1, fun j hj => let ⟨z, a, b, hz, hFz, ha, hb⟩ := hM.2 j hj; ⟨z, a, b, hz, hFz, ha, Nat.le_trans hb htk'⟩⟩
  refine codeAny_compStart_list (loop A _ rfl rfl _ (by first | exact ht₂ | exact Nat.le_trans ht₂ (Nat.le_add_right _ _))) ?_
  refine hself 0 _ _ _ (W.frame _ _ _ hst fun b hb o e => k₃ b o e) (loop A _ rfl rfl _ (by first | exact ht₂ | exact Nat.le_trans ht₂ (Nat.le_add_right _ _)))
set_option maxHeartbeats 4000000 in
theorem comp_walkR {elt iter : Expr} {x : Str} {px : Pos} {scope : Scope} {cl : List (Str × Addr)} {pos : Pos} {n : Nat} {P : Nat → Value → Nat → Nat → Prop} (F : Nat → Value → Nat → Nat → Prop) {Q : Value → Shared → Prop}
    (hclos : closureFor scope env = pure cl) (hkind : scope.kind = .function) (hnames : ∀ x ∈ scope.names, x.2 = .local → scope.names.lookup x.1 = some .local) (hx : scope.names.lookup x = some .local) (hcell : ∀ y ∈ scope.names, y.2 ≠ .cell)
    (hfold : ∀ v, foldedSetIterable iter env v = pure v) (hn : n < 100000) (B : Nat) (R : Heap → Prop) (hR : ∀ h h' : Heap, R h → (∀ b o, (∃ o', s.heap.get? b = some o') → h.get? b = some o → h'.get? b = some o) → R h') (hmono : ∀ h : Heap, R h → ∀ b o, s.heap.get? b = some o → b < h.objs.size) (hB : ∀ h : Heap, R h → B ≤ h.objs.size)
    (hiter : wpAny (model prog w) A (eval iter env) (fun xv s₁ => wpAny (model prog w) A (pyIter xv) (fun it s₂ => ∃ I fp wr St h₂ tk₂, it = .ref I ∧ s₂ = { s with heap := h₂, toks := tk₂ } ∧ s.toks ≤ tk₂ ∧ R h₂ ∧
      Wk prog w A I fp wr n P St ∧ (∀ i (s : Shared) (Q : Value → Shared → Prop) (E : Value → Shared → Prop), St i s.heap → Q (.ref I) s → wpAny (model prog w) A (pyIter (.ref I)) Q E s) ∧ St 0 h₂ ∧ (∀ b ∈ fp, b < h₂.objs.size) ∧ (∀ b ∈ wr, s.heap.get? b = none)) E s₁) E s)
    (helt : ∀ i v C m (s₁ : Shared) (E' : Value → Shared → Prop) t₀ t₁, i < n → P i v t₀ t₁ → s.toks ≤ t₀ → t₁ ≤ s₁.toks → s₁.gens = s.gens → R s₁.heap → B ≤ C → s₁.heap.Ns C m → m x = some v →
      wpAny (model prog w) A (eval elt (compEnvC scope cl C env)) (fun y s₂ => ∃ h' tk, s₂ = { s₁ with heap := h', toks := tk } ∧ Ext s₁.heap h' ∧ s₁.toks ≤ tk ∧ F i y s₁.toks tk) E' s₁)
    (h : ∀ D h' tk ys k, s.heap.get? D = none → R h' → s.toks ≤ tk → h'.get? D = some { cls := .type "list", data := .seq (List.toArray ys) k } → MadeC F s.toks tk n ys → Q (.ref D) { s with heap := h', toks := tk }) :
    wpAny (model prog w) A (eval (.ListComp elt [⟨.Name x px, iter, [], 0⟩] scope pos) env) Q E s := by
  rw [eval_ListComp]
  show wpAny _ _ (comprehension _ scope env _ (newList []) false (eval iter env) none) _ _ _
  refine comp_core F hclos hkind hnames hx hcell hfold hn B R hR hmono hB hiter helt fun D C h' tk ys k m hD hC hDC hRh ht hg hN hM => ?_
  refine ⟨m, hN, fun h₆ hs₆ => h D h₆ tk ys k hD (hR h' h₆ hRh fun b o ⟨o', q⟩ e => (hs₆.2 b fun q' => by rw [q', hC] at q; cases q).trans e) ht ((hs₆.2 D hDC).trans hg) hM⟩
set_option maxHeartbeats 4000000 in
theorem comp_assign {elt iter : Expr} {x y : Str} {px py : Pos} {scope : Scope} {cl : List (Str × Addr)} {pos spos : Pos} {n : Nat} {P : Nat → Value → Nat → Nat → Prop} (F : Nat → Value → Nat → Nat → Prop) {Q : Flow → Shared → Prop} {m : Str → Option Value}
    (hsw : swapsWith (.ListComp elt [⟨.Name x px, iter, [], 0⟩] scope pos) (some (.Name y py)) spos.line env = pure true)
    (hclos : closureFor scope env = pure cl) (hkind : scope.kind = .function) (hnames : ∀ x ∈ scope.names, x.2 = .local → scope.names.lookup x.1 = some .local) (hx : scope.names.lookup x = some .local) (hcell : ∀ y ∈ scope.names, y.2 ≠ .cell)
    (hfold : ∀ v, foldedSetIterable iter env v = pure v) (hn : n < 100000) (B : Nat) (R : Heap → Prop) (hR : ∀ h h' : Heap, R h → (∀ b o, (∃ o', s.heap.get? b = some o') → h.get? b = some o → h'.get? b = some o) → R h') (hmono : ∀ h : Heap, R h → ∀ b o, s.heap.get? b = some o → b < h.objs.size) (hB : ∀ h : Heap, R h → B ≤ h.objs.size)
    (hy : env.kindOf y = some .local) (hp : (env.scope.kind == .class || (env.scope.kind == .module && env.locals != env.globals)) = false) (hns : ∀ h : Heap, R h → h.Ns env.locals m) (hL : ∃ o, s.heap.get? env.locals = some o)
    (hiter : wpAny (model prog w) A (eval iter env) (fun xv s₁ => wpAny (model prog w) A (pyIter xv) (fun it s₂ => ∃ I fp wr St h₂ tk₂, it = .ref I ∧ s₂ = { s with heap := h₂, toks := tk₂ } ∧ s.toks ≤ tk₂ ∧ R h₂ ∧
      Wk prog w A I fp wr n P St ∧ (∀ i (s : Shared) (Q : Value → Shared → Prop) (E : Value → Shared → Prop), St i s.heap → Q (.ref I) s → wpAny (model prog w) A (pyIter (.ref I)) Q E s) ∧ St 0 h₂ ∧ (∀ b ∈ fp, b < h₂.objs.size) ∧ (∀ b ∈ wr, s.heap.get? b = none)) E s₁) E s)
    (helt : ∀ i v C m (s₁ : Shared) (E' : Value → Shared → Prop) t₀ t₁, i < n → P i v t₀ t₁ → s.toks ≤ t₀ → t₁ ≤ s₁.toks → s₁.gens = s.gens → R s₁.heap → B ≤ C → s₁.heap.Ns C m → m x = some v →
      wpAny (model prog w) A (eval elt (compEnvC scope cl C env)) (fun y s₂ => ∃ h' tk, s₂ = { s₁ with heap := h', toks := tk } ∧ Ext s₁.heap h' ∧ s₁.toks ≤ tk ∧ F i y s₁.toks tk) E' s₁)
    (h : ∀ D h₁ h₂ tk tk₂ ys k, s.heap.get? D = none → R h₁ → s.toks ≤ tk → tk ≤ tk₂ → (∀ b o, b ≠ env.locals → (∃ o', s.heap.get? b = some o') → h₁.get? b = some o → h₂.get? b = some o) → h₂.Ns env.locals (fun z => if z = y then some (.ref D) else m z) → h₂.get? D = some { cls := .type "list", data := .seq (List.toArray ys) k } → MadeC F s.toks tk n ys → Q .next { s with heap := h₂, toks := tk₂ }) :
    wpAny (model prog w) A (exec (.Assign [.Name y py] (.ListComp elt [⟨.Name x px, iter, [], 0⟩] scope pos) spos) env) Q E s := by
  rw [exec_Assign_Name_used _ _ _ _ hsw]
  refine wpAny_bind (wpAny_standAt (wpAny_bind ?_))
  show wpAny _ A (do let _ ← comprehension (.ListComp elt [⟨.Name x px, iter, [], 0⟩] scope pos) scope env _ (newList []) false (eval iter env) (some (assign (.Name y py) env))) _ _ s
  refine wpAny_bind (wpAny_mono (comp_core (Q := fun _ s' => Q .next s') F hclos hkind hnames hx hcell hfold hn B R hR hmono hB hiter helt fun D C h' tk ys k m' hD hC hDC hRh ht hg hN hM => ?_) (fun _ s' hq => wpAny_pure (wpAny_pure hq)) fun _ _ e => e)
  show wpAny _ A (assign (.Name y py) env (.ref D)) _ _ _
  obtain ⟨oL, hoL⟩ := hL
  have hLC : env.locals ≠ C := fun q => by rw [q, hC] at hoL; cases hoL
  have hLD : env.locals ≠ D := fun q => by rw [q, hD] at hoL; cases hoL
  refine wpAny_assign_Name (wpAny_storeName_local hy (hns h' hRh) (fun h₂ hn₂ hs₂ => ?_) hp)
  replace hs₂ : Heap.SameBut env.locals h' h₂ := hs₂
  refine ⟨m', hN.at' fun o e => (hs₂.2 C (Ne.symm hLC)).trans e, fun h₃ hs₃ => ?_⟩
  replace hs₃ : Heap.SameBut C h₂ h₃ := hs₃
  exact h D h' h₃ tk (tk + 1) ys k hD hRh ht (Nat.le_succ _) (fun b o hb ⟨o', q⟩ e => (hs₃.2 b fun q' => by rw [q', hC] at q; cases q).trans ((hs₂.2 b hb).trans e)) (hn₂.at' fun o e => (hs₃.2 _ hLC).trans e) ((hs₃.2 D hDC).trans ((hs₂.2 D (Ne.symm hLD)).trans hg)) hM
theorem comp_walk {elt iter : Expr} {x : Str} {px : Pos} {scope : Scope} {cl : List (Str × Addr)} {pos : Pos} {n : Nat} {P : Nat → Value → Nat → Nat → Prop} (F : Nat → Value → Nat → Nat → Prop) {Q : Value → Shared → Prop}
    (hclos : closureFor scope env = pure cl) (hkind : scope.kind = .function) (hnames : ∀ x ∈ scope.names, x.2 = .local → scope.names.lookup x.1 = some .local) (hx : scope.names.lookup x = some .local) (hcell : ∀ y ∈ scope.names, y.2 ≠ .cell)
    (hfold : ∀ v, foldedSetIterable iter env v = pure v) (hn : n < 100000) (B : Nat) (hB : ∀ h : Heap, Ext s.heap h → B ≤ h.objs.size)
    (hiter : wpAny (model prog w) A (eval iter env) (fun xv s₁ => wpAny (model prog w) A (pyIter xv) (fun it s₂ => ∃ I fp wr St h₂ tk₂, it = .ref I ∧ s₂ = { s with heap := h₂, toks := tk₂ } ∧ s.toks ≤ tk₂ ∧ Ext s.heap h₂ ∧
      Wk prog w A I fp wr n P St ∧ (∀ i (s : Shared) (Q : Value → Shared → Prop) (E : Value → Shared → Prop), St i s.heap → Q (.ref I) s → wpAny (model prog w) A (pyIter (.ref I)) Q E s) ∧ St 0 h₂ ∧ (∀ b ∈ fp, b < h₂.objs.size) ∧ (∀ b ∈ wr, s.heap.get? b = none)) E s₁) E s)
    (helt : ∀ i v C m (s₁ : Shared) (E' : Value → Shared → Prop) t₀ t₁, i < n → P i v t₀ t₁ → s.toks ≤ t₀ → t₁ ≤ s₁.toks → s₁.gens = s.gens → Ext s.heap s₁.heap → B ≤ C → s₁.heap.Ns C m → m x = some v →
      wpAny (model prog w) A (eval elt (compEnvC scope cl C env)) (fun y s₂ => ∃ h' tk, s₂ = { s₁ with heap := h', toks := tk } ∧ Ext s₁.heap h' ∧ s₁.toks ≤ tk ∧ F i y s₁.toks tk) E' s₁)
    (h : ∀ D h' tk ys k, s.heap.get? D = none → Ext s.heap h' → s.toks ≤ tk → h'.get? D = some { cls := .type "list", data := .seq (List.toArray ys) k } → MadeC F s.toks tk n ys → Q (.ref D) { s with heap := h', toks := tk }) :
    wpAny (model prog w) A (eval (.ListComp elt [⟨.Name x px, iter, [], 0⟩] scope pos) env) Q E s :=
  comp_walkR F hclos hkind hnames hx hcell hfold hn B (fun h => Ext s.heap h) (fun h h' e k b o q => k b o ⟨o, q⟩ (e b o q)) (fun h e b o q => Heap.lt_size (e b o q)) hB hiter helt h
end
end Mine
end

section
set_option maxRecDepth 100000
open PySem PySem.W PySem.Calls PyProof.Rows PySem.Spec
set_option Elab.async false
set_option linter.unusedVariables false
namespace Mine
section
variable {w : World} {mean : ExcName → Option Value} {mg mb : Str → Option Value} {A : Around} {s : Shared} {E : Value → Shared → Prop}
/-- enter, where the def has cells -/
theorem enterC {prog : Program} {name qual : Str} {params : Arguments} {body : List Stmt} {scope : Scope} {dV kV doc pm cdv ct oc : Value} {an od : Option Addr} {osl : Array (Option Value)} {f : Addr} {args : List Value} {Q : Value → Shared → Prop}
    (W : Wd w mean mg mb s.heap) (binds : List (Str × Value)) (m₀ : Str → Option Value)
    (ho : (hd.heap_39 w.params).lookup f = some ⟨oc, od, .func (fnOf name qual params body scope dV kV doc pm an cdv ct), osl⟩) (hcd : codeIn (hd.heap_39 w.params) cdv qual = true) (hroom : A.depth < recursionLimit)
    (hbind : bindArgs (fnOf name qual params body scope dV kV doc pm an cdv ct) ⟨args, []⟩ = pure binds) (hloc : (binds.all fun x => decide (scope.names.lookup x.1 = some .local)) = true)
    (hm : bindL (envOfC qual scope s.heap.objs.size f cdv).kindOf binds (fun _ => none) = m₀)
    (hnd : ((cellsFrom 0 scope.names []).map (·.1)).Nodup)
    (h : ∀ h₁ tk₁ cells, s.toks ≤ tk₁ → Fr s.heap s.heap.objs.size h₁ m₀ → News s.heap s.heap.objs.size h₁ cells →
      CellsAre (bindC (envOfC qual scope s.heap.objs.size f cdv).kindOf binds fun _ => none) (cellsFrom (s.heap.objs.size + 1) scope.names []) cells →
      wpAny (model prog w) (A.deeper (envOfC qual scope s.heap.objs.size f cdv)) (execs body (envOfC qual scope s.heap.objs.size f cdv))
        (fun fl s' => s.toks ≤ s'.toks → Q (match fl with | .ret v => v | _ => .none) s')
        (fun _ _ => False)
        { s with heap := h₁, toks := tk₁ })
    (hco : scope.isCoroutine = false) (hgen : scope.isGenerator = false) (hk : scope.kind = .function) : wpAny (model prog w) A (call (.ref f) args) Q E s := by
  refine wpAny_call (codeAny_call_function (fd := fnOf name qual params body scope dV kV doc pm an cdv ct) (body := body) hroom (W.X _ _ ho) rfl hco hgen rfl (codeRec_of W.X hcd) ?_)
  rw [hbind]
  refine wpAny_pure ?_
  refine wpAny_with_toks (n := s.toks) (Nat.le_refl _) (wpAny_newFunctionEnv_cells hk (fun x hx => .inl (locs hloc x hx)) fun env he s₁ X ht => ?_)
  subst he
  refine ⟨W.T.nolimit.keeps X.toInCall.keep, codeAny_func ?_⟩
  obtain ⟨h₁, tk, rfl, _⟩ := X.done
  obtain ⟨cells, N, Y⟩ := Cl.news (h₀ := s.heap) (h := h₁) (L := s.heap.objs.size) (cm := bindC (envOfC qual scope s.heap.objs.size f cdv).kindOf binds fun _ => none) (cs := cellsFrom (s.heap.objs.size + 1) scope.names []) (Nat.le_refl _)
    fun n c hm => ⟨X.cell n c (lookup_of_mem_nodup (cellsFrom_names scope.names 0 (s.heap.objs.size + 1) [] [] rfl ▸ hnd) hm), X.above n c hm⟩
  have go := h h₁ tk cells ht (hm ▸ ⟨X.toInCall.ns, X.toInCall.keep, Nat.le_refl _⟩) N Y
  exact wpAny_with_toks (n := s.toks) ht (wpAny_mono go (fun _ _ q => q) (fun _ _ (x : False) => x.elim))
end
end Mine
end

section
set_option maxRecDepth 100000
open PySem PySem.W PySem.Calls PyProof.Rows PySem.Spec
set_option Elab.async false
set_option linter.unusedVariables false
namespace Mine
/-- one way with one rook more, in these columns -/
def addOf (way : List Str) (cols : List Str) : List (List Str) := (cols.filter fun c => !(way.any fun x => x == c)).map fun c => way ++ [c]
/-- the ways with one rook more, in these columns -/
def moreOf (ws : List (List Str)) (cols : List Str) : List (List Str) := ws.flatMap fun way => addOf way cols
def waysTo (bs : List Nat) : Nat → List (List Str)
  | 0 => [[]]
  | i + 1 => waysTo bs i ++ moreOf (waysTo bs i) (flagNames.take (bs.getD i 0))
theorem moreOf_nil (cols : List Str) : moreOf [] cols = [] := rfl
theorem moreOf_snoc (ws : List (List Str)) (way : List Str) (cols : List Str) : moreOf (ws ++ [way]) cols = moreOf ws cols ++ addOf way cols := by
  simp [moreOf]
theorem addOf_snoc (way : List Str) (cols : List Str) (c : Str) : addOf way (cols ++ [c]) = addOf way cols ++ if (way.any fun x => x == c) = true then [] else [way ++ [c]] := by
  unfold addOf
  rw [List.filter_append, List.map_append]
  congr 1
  cases h : (way.any fun x => x == c) <;> simp [List.filter_cons, h]
theorem addOf_len (way cols : List Str) : (addOf way cols).length ≤ cols.length := by
  unfold addOf
  rw [List.length_map]
  exact List.length_filter_le ..
theorem moreOf_len (ws : List (List Str)) (cols : List Str) : (moreOf ws cols).length ≤ ws.length * cols.length := by
  induction ws with
  | nil => simp [moreOf]
  | cons w r ih =>
    have e : moreOf (w :: r) cols = addOf w cols ++ moreOf r cols := rfl
    rw [e, List.length_append, List.length_cons, Nat.succ_mul]
    have := addOf_len w cols
    omega
theorem cols_len (d : Nat) : (flagNames.take d).length ≤ 7 := Nat.le_trans (List.length_take_le' ..) (by decide)
theorem ways_len (bs : List Nat) : ∀ i, (waysTo bs i).length ≤ 8 ^ i
  | 0 => Nat.le_refl _
  | i + 1 => by
    have h1 := ways_len bs i
    have h2 := moreOf_len (waysTo bs i) (flagNames.take (bs.getD i 0))
    have h3 := cols_len (bs.getD i 0)
    have h4 : (waysTo bs i).length * (flagNames.take (bs.getD i 0)).length ≤ 8 ^ i * 7 := Nat.mul_le_mul h1 h3
    show (waysTo bs i ++ moreOf (waysTo bs i) (flagNames.take (bs.getD i 0))).length ≤ 8 ^ (i + 1)
    rw [List.length_append, Nat.pow_succ]
    omega
theorem mem_addOf {way cols ss : List Str} (h : ss ∈ addOf way cols) : ss.length = way.length + 1 := by
  unfold addOf at h
  obtain ⟨c, _, rfl⟩ := List.mem_map.mp h
  simp
theorem way_len (bs : List Nat) : ∀ i, ∀ ss ∈ waysTo bs i, ss.length ≤ i
  | 0, ss, h => by
    rw [List.mem_singleton.mp h]; exact Nat.le_refl _
  | i + 1, ss, h => by
    rcases List.mem_append.mp h with h | h
    · exact Nat.le_succ_of_le (way_len bs i ss h)
    · obtain ⟨way, hw, hs⟩ := List.mem_flatMap.mp h
      rw [mem_addOf hs]
      exact Nat.succ_le_succ (way_len bs i way hw)
theorem moreOf_take (ws : List (List Str)) (cols : List Str) (j : Nat) (way : List Str) (h : ws[j]? = some way) : moreOf (ws.take (j + 1)) cols = moreOf (ws.take j) cols ++ addOf way cols := by
  rw [List.take_add_one, h]
  exact moreOf_snoc _ _ _
theorem addOf_take (way cols : List Str) (j : Nat) (c : Str) (h : cols[j]? = some c) : addOf way (cols.take (j + 1)) = addOf way (cols.take j) ++ if (way.any fun x => x == c) = true then [] else [way ++ [c]] := by
  rw [List.take_add_one, h]
  exact addOf_snoc _ _ _
end Mine
end

section
set_option maxRecDepth 100000
open PySem PySem.W PySem.Calls PyProof.Rows PySem.Spec
set_option Elab.async false
set_option linter.unusedVariables false
namespace Mine
/-- the iterator that a comprehension takes up -/
def Up (prog : Program) (w : World) (A : Around) (s : Shared) (n : Nat) (P : Nat → Value → Nat → Nat → Prop) (it : Value) (s₂ : Shared) : Prop := ∃ I fp wr St h₂ tk₂, it = .ref I ∧ s₂ = { s with heap := h₂, toks := tk₂ } ∧ s.toks ≤ tk₂ ∧ Ext s.heap h₂ ∧
      Wk prog w A I fp wr n P St ∧ (∀ i (s : Shared) (Q : Value → Shared → Prop) (E : Value → Shared → Prop), St i s.heap → Q (.ref I) s → wpAny (model prog w) A (pyIter (.ref I)) Q E s) ∧ St 0 h₂ ∧ (∀ b ∈ fp, b < h₂.objs.size) ∧ (∀ b ∈ wr, s.heap.get? b = none)
section
variable {prog : Program} {w : World} {A : Around} {s : Shared} {E : Value → Shared → Prop}
theorem iter_list {h : Heap} {tk : Nat} {l : Addr} {vs : List Value} (he : Ext s.heap h) (ht : s.toks ≤ tk) (hh : A.handled = none) (hl : h.IsList l vs.toArray) :
    wpAny (model prog w) A (pyIter (.ref l)) (Up prog w A s vs.length fun i v _ _ => vs[i]? = some v) E { s with heap := h, toks := tk } := by
  obtain ⟨ol, hol, hcl, nl, hdl⟩ := id hl
  have hlt := Heap.lt_size hol
  refine wpAny_pyIter_list hl ?_
  have W := Wk.of (Walks.list (prog := prog) (w := w) hh h.objs.size l (Nat.ne_of_lt hlt) vs.toArray)
  have W' : Wk prog w A h.objs.size [h.objs.size, l] [h.objs.size] vs.length (fun i v _ _ => vs[i]? = some v) (fun i h' => h'.IsListIter h.objs.size l i ∧ h'.IsList l vs.toArray) := by simpa using W
  refine ⟨h.objs.size, _, _, _, _, tk, rfl, rfl, ht, fun b o e => Heap.get?_push_of_some _ (he _ _ e), W', fun i s Q E st hQ => wpAny_pyIter_listiter st.1 hQ, ⟨⟨_, Heap.get?_push_size _ rfl, rfl, rfl⟩, hl.at fun o e => Heap.get?_push_of_some _ e⟩, ?_, ?_⟩
  · intro b hb
    dsimp only
    rw [Heap.size_push]
    rcases List.mem_cons.mp hb with rfl | hb
    · exact Nat.lt_succ_self _
    · rw [List.mem_singleton.mp hb]; exact Nat.lt_succ_of_lt hlt
  · intro b hb
    rw [List.mem_singleton.mp hb]
    cases q : s.heap.get? h.objs.size with
    | none => rfl
    | some o => exact absurd (Heap.lt_size (he _ _ q)) (Nat.lt_irrefl _)
theorem iter_range {h : Heap} {tk : Nat} {r : Addr} {b₀ : Int} {t₀ u₀ v₀ : Tok} {n : Nat} (he : Ext s.heap h) (ht : s.toks ≤ tk) (hh : A.handled = none) (hr : IsRange h r 0 b₀ 1 t₀ u₀ v₀) (hb : b₀ = (n : Int)) (hn : n < 1000000) :
    wpAny (model prog w) A (pyIter (.ref r)) (Up prog w A s n fun i v t₀ t₁ => v = .int (i : Int) t₀ ∧ t₁ = t₀ + 1) E { s with heap := h, toks := tk } := by
  subst hb
  have hrs : Builtin.Range.rangeSize 0 (n : Int) 1 = (n : Int) := by
    have := rangeSize_nat 0 n
    simpa using this
  refine wpAny_pyIter_range hr (small_one (by omega) (by omega) (by omega) (by omega)) ?_
  have W := Wk.range (prog := prog) (w := w) hh h.objs.size n
  refine ⟨h.objs.size, _, _, _, _, tk, rfl, rfl, ht, fun b o e => Heap.get?_push_of_some _ (he _ _ e), W, fun i s Q E st hQ => wpAny_pyIter_rangeiter st hQ, by show IsRangeIter _ _ _ _ _; rw [hrs]; simpa using Heap.get?_push_size _ rfl, ?_, ?_⟩
  · intro b hb
    rw [List.mem_singleton.mp hb]
    dsimp only
    rw [Heap.size_push]
    exact Nat.lt_succ_self _
  · intro b hb
    rw [List.mem_singleton.mp hb]
    cases q : s.heap.get? h.objs.size with
    | none => rfl
    | some o => exact absurd (Heap.lt_size (he _ _ q)) (Nat.lt_irrefl _)
theorem madeC_ints {lo hi n : Nat} {ys : List Value} {ns : List Int} (hn : ns.length = n) (M : MadeC (fun i y a b => ∃ t : Nat, y = .int (ns.getD i 0) t ∧ a ≤ t ∧ t < b) lo hi n ys) : IntsT lo hi ys ns := by
  refine ⟨by rw [M.1, hn], fun i k hk => ?_⟩
  have hi' : i < n := by rw [← hn]; exact (List.getElem?_eq_some_iff.mp hk).1
  obtain ⟨y, a, b, hy, ⟨t, e, h1, h2⟩, h3, h4⟩ := M.2 i hi'
  rw [List.getD_eq_getElem?_getD, hk] at e
  exact ⟨t, by rw [hy, e]; rfl, by omega, by omega⟩
theorem intsT_are : ∀ {vs : List Value} {ns : List Int} {lo hi : Nat}, IntsT lo hi vs ns → IntsAre vs ns
  | [], [], _, _, _ => .nil
  | [], _ :: _, _, _, h => by cases h.1
  | _ :: _, [], _, _, h => by cases h.1
  | v :: vs, n :: ns, lo, hi, h => by
    obtain ⟨t, e, _⟩ := h.2 0 n rfl
    cases e
    exact .cons _ _ (intsT_are (lo := lo) (hi := hi) ⟨Nat.succ.inj h.1, fun i k hk => h.2 (i + 1) k hk⟩)
end
end Mine
namespace Mine
theorem intsAre_of : ∀ {vs : List Value} {ns : List Int}, vs.length = ns.length → (∀ (i : Nat) (n : Int), ns[i]? = some n → ∃ t : Nat, vs[i]? = some (Value.int n t)) → IntsAre vs ns
  | [], [], _, _ => .nil
  | [], _ :: _, h, _ => by cases h
  | _ :: _, [], h, _ => by cases h
  | v :: vs, n :: ns, hl, h => by
    obtain ⟨t, e⟩ := h 0 n rfl
    cases e
    exact .cons _ _ (intsAre_of (Nat.succ.inj hl) fun i k hk => h (i + 1) k hk)
theorem madeC_are {lo hi n : Nat} {ys : List Value} {f : Nat → Int} (M : MadeC (fun i y _ _ => ∃ t : Nat, y = .int (f i) t) lo hi n ys) : IntsAre ys ((List.range n).map f) := by
  refine intsAre_of (by rw [M.1, List.length_map, List.length_range]) fun i k hk => ?_
  rw [List.getElem?_map] at hk
  cases q : (List.range n)[i]? with
  | none => rw [q] at hk; cases hk
  | some j =>
    rw [q] at hk
    cases hk
    obtain ⟨hi', e⟩ := List.getElem?_eq_some_iff.mp q
    rw [List.getElem_range] at e
    subst e
    rw [List.length_range] at hi'
    obtain ⟨y, a, b, hy, ⟨t, e⟩, _⟩ := M.2 i hi'
    exact ⟨t, by rw [hy, e]⟩
theorem wpAny_tkgen {M : Model} {A : Around} {α : Type} {c : Sem α} {Q : α → Shared → Prop} {E : Value → Shared → Prop} {s : Shared} (n : Nat) (hn : n ≤ s.toks) (k : ∀ tk : Nat, n ≤ tk → wpAny M A c Q E { s with toks := tk }) : wpAny M A c Q E s := k s.toks hn
end Mine
namespace Mine
section
variable {prog : Program} {w : World} {A : Around} {s : Shared} {E : Value → Shared → Prop}
theorem iter_listR {R : Heap → Prop} {h : Heap} {tk : Nat} {l : Addr} {vs : List Value} (hR : ∀ h', Ext h h' → R h') (hfree : s.heap.get? h.objs.size = none) (ht : s.toks ≤ tk) (hh : A.handled = none) (hl : h.IsList l vs.toArray) :
    wpAny (model prog w) A (pyIter (.ref l)) (fun it s₂ => ∃ I fp wr St h₂ tk₂, it = .ref I ∧ s₂ = { s with heap := h₂, toks := tk₂ } ∧ s.toks ≤ tk₂ ∧ R h₂ ∧
      Wk prog w A I fp wr vs.length (fun i v _ _ => vs[i]? = some v) St ∧ (∀ i (s : Shared) (Q : Value → Shared → Prop) (E : Value → Shared → Prop), St i s.heap → Q (.ref I) s → wpAny (model prog w) A (pyIter (.ref I)) Q E s) ∧ St 0 h₂ ∧ (∀ b ∈ fp, b < h₂.objs.size) ∧ (∀ b ∈ wr, s.heap.get? b = none)) E { s with heap := h, toks := tk } := by
  obtain ⟨ol, hol, hcl, nl, hdl⟩ := id hl
  have hlt := Heap.lt_size hol
  refine wpAny_pyIter_list hl ?_
  have W := Wk.of (Walks.list (prog := prog) (w := w) hh h.objs.size l (Nat.ne_of_lt hlt) vs.toArray)
  have W' : Wk prog w A h.objs.size [h.objs.size, l] [h.objs.size] vs.length (fun i v _ _ => vs[i]? = some v) (fun i h' => h'.IsListIter h.objs.size l i ∧ h'.IsList l vs.toArray) := by simpa using W
  refine ⟨h.objs.size, _, _, _, _, tk, rfl, rfl, ht, hR _ fun b o e => Heap.get?_push_of_some _ e, W', fun i s Q E st hQ => wpAny_pyIter_listiter st.1 hQ, ⟨⟨_, Heap.get?_push_size _ rfl, rfl, rfl⟩, hl.at fun o e => Heap.get?_push_of_some _ e⟩, ?_, ?_⟩
  · intro b hb
    dsimp only
    rw [Heap.size_push]
    rcases List.mem_cons.mp hb with rfl | hb
    · exact Nat.lt_succ_self _
    · rw [List.mem_singleton.mp hb]; exact Nat.lt_succ_of_lt hlt
  · intro b hb
    rw [List.mem_singleton.mp hb]
    exact hfree
end
end Mine
end

section
set_option maxRecDepth 100000
open PySem PySem.W PySem.Calls PyProof.Rows PySem.Spec
set_option Elab.async false
set_option linter.unusedVariables false
namespace Mine
local macro_rules | `(tactic| walk_at "exec For") => `(tactic| (with_unfolding_all refine wpAny_For ?_ (by intro _; rfl)))
local macro_rules | `(tactic| walk_at "exec For Name Call cons nil") => `(tactic| (with_unfolding_all refine wpAny_For ?_ (by intro _; rfl)))
local macro_rules | `(tactic| walk_at "exec For Name Name cons nil") => `(tactic| (with_unfolding_all refine wpAny_For ?_ (by intro _; rfl)))
section
variable {w : World} {mean : ExcName → Option Value} {mg mb : Str → Option Value}

/-- a way as it lies: a list of texts, not at x -/
def WayAt (h : Heap) (x : Addr) (v : Value) (ss : List Str) : Prop := ∃ a vs n, v = .ref a ∧ a ≠ x ∧ h.get? a = some { cls := .type "list", data := .seq (List.toArray vs) n } ∧ StrsAre vs ss
def WaysAre (h : Heap) (x : Addr) (vs : List Value) (ws : List (List Str)) : Prop := vs.length = ws.length ∧ ∀ (i : Nat) (ss : List Str), ws[i]? = some ss → ∃ v, vs[i]? = some v ∧ WayAt h x v ss
theorem ns_not_seq {h : Heap} {L : Addr} {m : Str → Option Value} {o : Obj} {its : Array Value} {n : Nat} (x : h.Ns L m) (e : h.get? L = some o) (q : o.data = .seq its n) : False := by
  obtain ⟨oL, es, ep, hoL, hdL, _⟩ := x
  rw [e] at hoL
  cases hoL
  rw [q] at hdL
  cases hdL
theorem WaysAre.keep {h h' : Heap} {x : Addr} {vs : List Value} {ws : List (List Str)} (X : WaysAre h x vs ws) (hk : LP h h') : WaysAre h' x vs ws := by
  refine ⟨X.1, fun j ss hj => ?_⟩
  obtain ⟨v, hv, a, vs, n, rfl, ha, hg, hs⟩ := X.2 j ss hj
  exact ⟨_, hv, a, vs, n, rfl, ha, hk _ _ _ _ hg rfl, hs⟩
theorem WaysAre.xb {h h' : Heap} {x : Addr} {vs : List Value} {ws : List (List Str)} (X : WaysAre h x vs ws) (hk : ∀ (b : Addr) (o : Obj) (its : Array Value) (n : Nat), b ≠ x → h.get? b = some o → o.data = .seq its n → h'.get? b = some o) : WaysAre h' x vs ws := by
  refine ⟨X.1, fun j ss hj => ?_⟩
  obtain ⟨v, hv, a, vs, n, rfl, ha, hg, hs⟩ := X.2 j ss hj
  exact ⟨_, hv, a, vs, n, rfl, ha, hk _ _ _ _ ha hg rfl, hs⟩
theorem WaysAre.push {h : Heap} {x : Addr} {vs : List Value} {ws : List (List Str)} {v : Value} {ss : List Str} (X : WaysAre h x vs ws) (Y : WayAt h x v ss) : WaysAre h x (vs ++ [v]) (ws ++ [ss]) := by
  refine ⟨by rw [List.length_append, List.length_append, X.1]; rfl, fun j tt hj => ?_⟩
  by_cases e : j < ws.length
  · rw [List.getElem?_append_left e] at hj
    obtain ⟨v', h1, h2⟩ := X.2 j tt hj
    exact ⟨v', by rw [List.getElem?_append_left (by rw [X.1]; exact e)]; exact h1, h2⟩
  · rw [List.getElem?_append_right (by omega)] at hj
    have : j - ws.length = 0 := by
      cases q : j - ws.length with
      | zero => rfl
      | succ k => rw [q] at hj; simp at hj
    rw [this] at hj
    cases hj
    exact ⟨v, by rw [List.getElem?_append_right (by rw [X.1]; omega), X.1, this]; rfl, Y⟩
theorem WaysAre.join {h : Heap} {x : Addr} {vs vs' : List Value} {ws ws' : List (List Str)} (X : WaysAre h x vs ws) (Y : WaysAre h x vs' ws') : WaysAre h x (vs ++ vs') (ws ++ ws') := by
  refine ⟨by rw [List.length_append, List.length_append, X.1, Y.1], fun j tt hj => ?_⟩
  by_cases e : j < ws.length
  · rw [List.getElem?_append_left e] at hj
    rw [List.getElem?_append_left (by rw [X.1]; exact e)]
    exact X.2 j tt hj
  · rw [List.getElem?_append_right (by omega)] at hj
    rw [List.getElem?_append_right (by rw [X.1]; omega), X.1]
    exact Y.2 _ tt hj
theorem WaysAre.off {h : Heap} {x L : Addr} {m : Str → Option Value} {vs : List Value} {ws : List (List Str)} (X : WaysAre h x vs ws) (hL : h.Ns L m) : WaysAre h L vs ws := by
  refine ⟨X.1, fun j ss hj => ?_⟩
  obtain ⟨v, hv, a, vs, n, rfl, ha, hg, hs⟩ := X.2 j ss hj
  exact ⟨_, hv, a, vs, n, rfl, fun q => ns_not_seq hL (q ▸ hg) rfl, hg, hs⟩
theorem strs_get : ∀ {vs : List Value} {ns : List Str}, StrsAre vs ns → ∀ {i : Nat} {v : Value}, vs[i]? = some v → ∃ n t, v = .str n t ∧ ns[i]? = some n
  | _, _, .nil, i, v, h => by simp at h
  | _, _, .cons a b r, 0, v, h => ⟨_, _, (Option.some.inj h).symm, rfl⟩
  | _, _, .cons a b r, i + 1, v, h => strs_get r h
theorem strs_len : ∀ {vs : List Value} {ns : List Str}, StrsAre vs ns → vs.length = ns.length
  | _, _, .nil => rfl
  | _, _, .cons a b r => congrArg (· + 1) (strs_len r)
theorem strs_take : ∀ {vs : List Value} {ns : List Str}, StrsAre vs ns → ∀ k, StrsAre (vs.take k) (ns.take k)
  | _, _, _, 0 => .nil
  | _, _, .nil, k + 1 => .nil
  | _, _, .cons a b r, k + 1 => .cons a b (strs_take r k)
theorem strs_upto {vs : List Value} {ns : List Str} (h : StrsAre vs ns) (d : Nat) : StrsAre (slicePick vs.toArray none (some (d : Int)) none).toList (ns.take d) := by
  have e : sliceBounds none (some (d : Int)) none vs.toArray.size = (((0 : Nat) : Int), ((min d vs.toArray.size : Nat) : Int), 1) := by
    simp only [sliceBounds, Option.getD_none, show (1 : Int) > 0 by decide, if_true, if_neg (show ¬ ((d : Int) < 0) by omega)]
    congr 1
    congr 1
    omega
  rw [kmk_pick_nat _ e]
  show StrsAre ((vs.drop 0).take (min d vs.toArray.size - 0)) _
  rw [List.drop_zero, Nat.sub_zero, List.size_toArray, kmk_take_min]
  exact strs_take h _
theorem fl_some (d : Nat) (hd : d ≤ 7) (h0 : d ≠ 0) : (Txt.join (Str.ofString ", ") (flagNames.take d)).length ≠ 0 ∧ (Txt.join (Str.ofString ", ") (flagNames.take d)).length ≤ 1000 := by
  have : ∀ d : Fin 8, d.1 ≠ 0 → (Txt.join (Str.ofString ", ") (flagNames.take d.1)).length ≠ 0 ∧ (Txt.join (Str.ofString ", ") (flagNames.take d.1)).length ≤ 1000 := by decide +kernel
  exact this ⟨d, by omega⟩ h0
def countsOf (bs : List Nat) : List Int := (List.range (bs.length + 1)).map fun k : Nat => ((((waysTo bs bs.length).map fun ss => (ss.length : Int)).count (k : Int) : Nat) : Int)
set_option maxHeartbeats 8000000 in
theorem rooks_does (b : Addr) (vals : List Value) (bs : List Nat) (hb : bs.length ≤ 4) (hbs : ∀ x ∈ bs, x ≤ 7) :
    Does w mean mg mb 131 [.ref b] 3 (fun s => s.heap.IsList b vals.toArray ∧ IntsAre vals (bs.map (fun n : Nat => (n : Int))) ∧ 1 ≤ s.toks) (fun s h' _ v => ∃ D zs k, v = .ref D ∧ s.heap.get? D = none ∧ h'.get? D = some { cls := .type "list", data := .seq (List.toArray zs) k } ∧ IntsAre zs (countsOf bs)) := by
  unfold Does
  intro dp un fr gd s Q E hd hu W hP hQ
  obtain ⟨hL, hI, h1t⟩ := hP
  have X := W.X
  have T := W.T
  refine enterC W [(Str.ofString "board", .ref b)] (fun y => if y = Str.ofString "board" then some (.ref b) else none) (by k_is) (by k_is) (by show dp < _; omega) rfl rfl rfl (by decide) (fun h₁ tk₁ cells ht₁ F N Y => ?_) rfl rfl rfl
  obtain ⟨oc, rfl, hoc⟩ := CellsAre.one Y
  try dsimp only
  k_fold
  iterate 20 walk1
  refine wpAny_tkgen s.toks (by dsimp only; omega) fun tkA htA => ?_
  try dsimp only
  iterate 10 walk1
  refine wpAny_tkgen s.toks (by dsimp only; omega) fun tkB htB => ?_
  try dsimp only
  k_steps
  rename_i nl h₂ lt1 h₃ el h₄ lt2 wl h₅ lt3 h₆ F₆ N₆
  dsimp only at *
  have nW := N₆ _ (.head _)
  have nE := N₆ _ (.tail _ (.head _))
  have nN := N₆ _ (.tail _ (.tail _ (.head _)))
  have nC := N₆ _ (.tail _ (.tail _ (.tail _ (.head _))))
  dsimp only at nW nE nN nC
  obtain ⟨nvs, nk, hnl₆, hnS⟩ : ∃ (nvs : List Value) (nk : Nat), h₆.get? nl = some { cls := .type "list", data := .seq (List.toArray nvs) nk } ∧ StrsAre nvs flagNames :=
    ⟨_, _, nN.1, .cons _ _ (.cons _ _ (.cons _ _ (.cons _ _ (.cons _ _ (.cons _ _ (.cons _ _ .nil))))))⟩
  have hn7 : nvs.length = 7 := strs_len hnS
  refine for_list (mu := []) (by rfl) (hL.at fun o e => F₆.keep _ _ e) ?_ (by simp) rfl rfl F₆
    (fun i m h _ => m (Str.ofString "board") = some (.ref b) ∧ m (Str.ofString "names") = some (.ref nl) ∧ ∃ wl wvs wk, m (Str.ofString "ways") = some (.ref wl) ∧
      h.get? wl = some { cls := .type "list", data := .seq (List.toArray wvs) wk } ∧ ∃ x, WaysAre h x wvs (waysTo bs i))
    ?_ ?_ ?_ ?_
  · intro q
    obtain ⟨o, ho, _⟩ := hL
    exact absurd (Heap.lt_size ho) (by rw [List.mem_singleton.mp q]; exact Nat.lt_irrefl _)
  · rintro i m h h' tk tk' ⟨h1, h2, wl, wvs, wk, h3, h4, x, h5⟩ hk ht
    exact ⟨h1, h2, wl, wvs, wk, h3, hk _ _ _ _ h4 rfl, x, h5.keep hk⟩
  · refine ⟨rfl, rfl, wl, [.ref el], 0, rfl, nW.1, s.heap.objs.size, rfl, fun j ss hj => ?_⟩
    cases j with
    | zero =>
      cases hj
      exact ⟨.ref el, rfl, el, [], 0, rfl, nE.2.1, nE.1, .nil⟩
    | succ j => simp [waysTo] at hj
  · rintro i v m₁ h tk' hv htk ⟨h1, h2, wl, wvs, wk, h3, h4, xw, h5⟩ F₁ hx₁
    obtain ⟨n, tn, rfl, hn⟩ := intsAre_get hI hv
    have hnl := hx₁ nl _ (by intro q; exact nN.2.1 (List.mem_singleton.mp q)) hnl₆
    replace F₁ := (frSee ((frSee ((frSee F₁ (Str.ofString "board") (by exact h1))) (Str.ofString "names") (by exact h2))) (Str.ofString "ways") (by exact h3))
    have N₁ := news_rest (h₀ := s.heap) (L := s.heap.objs.size) (h := h) (led := [(nl, _)]) (by
      intro p hp
      rw [List.mem_singleton.mp hp]
      exact ⟨hnl, nN.2.1, nN.2.2⟩)
    dsimp only [List.cons_append, List.nil_append, List.map_nil, List.map_cons] at N₁
    have pre : ∀ h' m' news', Fr s.heap s.heap.objs.size h' m' → News s.heap s.heap.objs.size h' news' → (∀ p ∈ restOf s.heap s.heap.objs.size [nl] h, p ∈ news') → XB [s.heap.objs.size, nl] h h' := fun _ _ _ F₁' N₁' hs => xb_of F₁ F₁' N₁' hs
    show wpAny _ _ _ _ _ _
    k_fold
    k_steps
    rename_i F₂ N₂
    obtain ⟨d, rfl, hd7, hbd, hib⟩ : ∃ d : Nat, n = (d : Int) ∧ d ≤ 7 ∧ bs.getD i 0 = d ∧ i < bs.length := by
      rw [List.getElem?_map] at hn
      cases q : bs[i]? with
      | none => rw [q] at hn; cases hn
      | some d =>
        rw [q] at hn
        exact ⟨d, (Option.some.inj hn).symm, hbs d (List.mem_of_getElem? q), by rw [List.getD_eq_getElem?_getD, q]; rfl, (List.getElem?_eq_some_iff.mp q).1⟩
    have hcols := strs_upto hnS d
    generalize hcv : slicePick nvs.toArray none (some (d : Int)) none = cols at N₂ hcols
    refine Does.use (lshift_does d _ _ hd7) W F₂ N₂ (by show dp + 1 + 1 < _; omega) (by show un + 3 + 8 * 1 + 8 < _; omega) trivial (fun v h₇ tk₇ F₇ N₇ he ht hr => ?_)
    obtain ⟨tr, rfl⟩ := hr
    dsimp only at ht
    k_steps
    refine Does.use (sub_does _ _ _ _) W F₇ N₇ (by show dp + 1 + 1 < _; omega) (by show un + 3 + 8 * 1 + 8 < _; omega) trivial (fun v h₈ tk₈ F₈ N₈ he' ht' hr => ?_)
    obtain ⟨tr', rfl⟩ := hr
    dsimp only at ht'
    k_steps
    refine Does.use (pretty_does d hd7 _) W F₈ N₈ (by show dp + 1 + 2 < _; omega) (by show un + 3 + 8 * 2 + 8 < _; omega) trivial (fun v h₉ tk₉ F₉ N₉ he'' ht'' hr => ?_)
    obtain ⟨tp, rfl⟩ := hr
    dsimp only at ht''
    show wpAny _ _ _ _ _ _
    refine wpAny_mono (Q := fun v s₁ => ∃ t tk, v = .str (if d = 0 then Str.ofString "0x0" else Txt.join (Str.ofString ", ") (flagNames.take d)) t ∧ tk₉ ≤ tk ∧ s₁ = { s with heap := h₉, toks := tk }) (E := fun _ _ => False) ?_ (fun v s₁ hv => ?_) (fun _ _ e => e.elim)
    · k_fold
      k_steps
      refine wpAny_with_toks (n := tk₉) (by dsimp only; omega) (join_list ⟨_, (N₉ _ (.head _)).1, rfl, _, rfl⟩ hcols (fl_join d hd7) fun tj kj htj => ?_)
      dsimp only at htj
      show wpAny _ _ _ _ _ _
      by_cases hd0 : d = 0
      · have e : Txt.join (Str.ofString ", ") (flagNames.take d) = ⟨#[]⟩ := by subst hd0; rfl
        rw [e]
        refine SBL.truthy (by decide) ?_
        rw [if_neg (by decide)]
        k_steps
        all_goals first | (rw [if_pos hd0]) | omega | (dsimp only; omega) | rfl
      · have hy1 := fl_some d hd7 hd0
        obtain ⟨yj, hyj⟩ : ∃ yj, yj = Txt.join (Str.ofString ", ") (flagNames.take d) := ⟨_, rfl⟩
        rw [← hyj] at hy1 ⊢
        refine SBL.truthy (by omega) ?_
        rw [if_pos (by rw [bne_iff_ne]; omega)]
        exact ⟨tj, _, by rw [if_neg hd0, hyj], by dsimp only; omega, rfl⟩
    · obtain ⟨tz, tkz, rfl, htz, rfl⟩ := hv
      generalize (if d = 0 then Str.ofString "0x0" else Txt.join (Str.ofString ", ") (flagNames.take d)) = z
      show wpAny _ _ _ _ _ _
      iterate 2 walk1
      rw [if_neg (by simp)]
      k_steps
      rename_i ml hM lt4 hN FN NN
      dsimp only at lt4 NN FN ⊢
      have hxN := pre _ _ _ FN NN (fun p hp => .tail _ (.tail _ (.tail _ hp)))
      have nM := NN _ (.head _)
      have nC' := NN _ (.tail _ (.head _))
      have nL' := NN _ (.tail _ (.tail _ (.head _)))
      dsimp only at nM nC' nL'
      have keepN : LP h hN := fun b o its n e q => by
        by_cases e1 : b = nl
        · subst e1; rw [hnl] at e; cases e; exact nL'.1
        · refine hxN b o (fun q' => ?_) e
          rcases List.mem_cons.mp q' with e2 | q'
          · subst e2
            exact ns_not_seq F₁.ns e q
          · exact e1 (List.mem_singleton.mp q')
      have h4' := keepN _ _ _ _ h4 rfl
      have h5' := h5.keep keepN
      have bigM : ∀ a o, h.get? a = some o → a ≠ ml := fun a o e => Nat.ne_of_lt (Nat.lt_trans (Nat.lt_succ_of_lt (Heap.lt_size e)) lt4.1)
      have wlM : wl ≠ ml := bigM _ _ h4
      have wlL : wl ≠ s.heap.objs.size := fun q => ns_not_seq F₁.ns (q ▸ h4) rfl
      generalize hca : h.objs.size + 1 = ca at *
      refine for_list (l := wl) (vs := wvs) (mu := [ml]) (by rfl) ⟨_, h4', rfl, _, rfl⟩ ?_ ?_ rfl rfl FN
        (fun j m h _ => m (Str.ofString "board") = some (.ref b) ∧ m (Str.ofString "names") = some (.ref nl) ∧ m (Str.ofString "ways") = some (.ref wl) ∧ m (Str.ofString "columns") = some (.ref ca) ∧ m (Str.ofString "more") = some (.ref ml) ∧
          ∃ mvs mk, h.get? ml = some { cls := .type "list", data := .seq (List.toArray mvs) mk } ∧ WaysAre h ml mvs (moreOf ((waysTo bs i).take j) (flagNames.take d))) ?_ ?_ ?_ ?_
      · intro q
        rcases List.mem_cons.mp q with q | q
        · exact wlL q
        · exact wlM (List.mem_singleton.mp q)
      · intro b hb
        rw [List.mem_singleton.mp hb]
        exact Heap.lt_size nM.1
      · rintro j m h h' tk tk' ⟨g1, g2, g3, g4, g5, mvs, mk, g6, g7⟩ hk ht
        exact ⟨g1, g2, g3, g4, g5, mvs, mk, hk _ _ _ _ g6 rfl, g7.keep hk⟩
      · exact ⟨rfl, rfl, rfl, rfl, rfl, [], 0, nM.1, rfl, fun j ss hj => by simp [moreOf_nil] at hj⟩
      · rintro j v m₂ hj tkj hv₂ htk₂ ⟨g1, g2, g3, g4, g5, mvs, mk, g6, g7⟩ F₂ hx₂
        dsimp only at htk₂
        have hjl : j < (waysTo bs i).length := by rw [← h5'.1]; exact (List.getElem?_eq_some_iff.mp hv₂).1
        obtain ⟨ss, hss⟩ : ∃ ss, (waysTo bs i)[j]? = some ss := ⟨_, List.getElem?_eq_getElem hjl⟩
        obtain ⟨v', hv', wa, was, wak, rfl, hwx, hwg, hws⟩ := h5.2 j ss hss
        rw [hv₂] at hv'
        cases hv'
        have hwM : wa ≠ ml := bigM _ _ hwg
        have keep2 : ∀ (b : Addr) (o : Obj) (its : Array Value) (n : Nat), b ≠ ml → hN.get? b = some o → o.data = .seq its n → hj.get? b = some o := fun b o its n hb e q =>
          hx₂ b o (fun q' => by
            rcases List.mem_cons.mp q' with e2 | q'
            · subst e2
              exact ns_not_seq FN.ns e q
            · exact hb (List.mem_singleton.mp q')) e
        have hwg₂ := keep2 _ _ _ _ hwM (keepN _ _ _ _ hwg rfl) rfl
        have hca₂ := keep2 _ _ _ _ (by intro q; exact Nat.ne_of_lt lt4.1 q) nC'.1 rfl
        replace F₂ := (frSee ((frSee ((frSee ((frSee ((frSee F₂ (Str.ofString "board") (by exact g1))) (Str.ofString "names") (by exact g2))) (Str.ofString "ways") (by exact g3))) (Str.ofString "columns") (by exact g4))) (Str.ofString "more") (by exact g5))
        have N₂ := news_rest (h₀ := s.heap) (L := s.heap.objs.size) (h := hj) (led := [(ml, { cls := .type "list", data := .seq (List.toArray mvs) mk })]) (by
          intro p hp
          rw [List.mem_singleton.mp hp]
          exact ⟨g6, nM.2.1, nM.2.2⟩)
        dsimp only [List.cons_append, List.nil_append, List.map_nil, List.map_cons] at N₂
        show wpAny _ _ _ _ _ _
        k_fold
        k_steps
        refine for_list (l := ca) (vs := cols.toList) (mu := [ml]) (by rfl) ⟨_, hca₂, rfl, _, rfl⟩ ?_ ?_ rfl rfl F₂
          (fun c m h _ => m (Str.ofString "board") = some (.ref b) ∧ m (Str.ofString "names") = some (.ref nl) ∧ m (Str.ofString "ways") = some (.ref wl) ∧ m (Str.ofString "columns") = some (.ref ca) ∧ m (Str.ofString "more") = some (.ref ml) ∧ m (Str.ofString "way") = some (.ref wa) ∧
            ∃ mvs mk, h.get? ml = some { cls := .type "list", data := .seq (List.toArray mvs) mk } ∧ WaysAre h ml mvs (moreOf ((waysTo bs i).take j) (flagNames.take d) ++ addOf ss ((flagNames.take d).take c))) ?_ ?_ ?_ ?_
        · intro q
          rcases List.mem_cons.mp q with q | q
          · exact ns_not_seq F₂.ns (q ▸ hca₂) rfl
          · exact Nat.ne_of_lt lt4.1 (List.mem_singleton.mp q)
        · intro b hb
          rw [List.mem_singleton.mp hb]
          exact Heap.lt_size g6
        · rintro c m h h' tk tk' ⟨k1, k2, k3, k4, k5, k6, mvs, mk, k7, k8⟩ hk ht
          exact ⟨k1, k2, k3, k4, k5, k6, mvs, mk, hk _ _ _ _ k7 rfl, k8.keep hk⟩
        · exact ⟨rfl, rfl, rfl, rfl, rfl, rfl, mvs, mk, g6, by rw [List.take_zero]; simpa [addOf] using g7⟩
        · rintro c v m₃ hc tkc hv₃ htk₃ ⟨k1, k2, k3, k4, k5, k6, mvs, mk, k7, k8⟩ F₃ hx₃
          dsimp only at htk₃
          obtain ⟨cn, tcn, rfl, hcn⟩ := strs_get hcols hv₃
          have haddc := addOf_take ss _ c cn hcn
          have hwa2 : wa ∉ [s.heap.objs.size, ml] := fun q' => by
            rcases List.mem_cons.mp q' with e2 | q'
            · exact ns_not_seq F₂.ns (e2 ▸ hwg₂) rfl
            · exact hwM (List.mem_singleton.mp q')
          have hwg₃ := hx₃ wa _ hwa2 hwg₂
          replace F₃ := (frSee ((frSee ((frSee ((frSee ((frSee ((frSee F₃ (Str.ofString "board") (by exact k1))) (Str.ofString "names") (by exact k2))) (Str.ofString "ways") (by exact k3))) (Str.ofString "columns") (by exact k4))) (Str.ofString "more") (by exact k5))) (Str.ofString "way") (by exact k6))
          have N₃ := news_rest (h₀ := s.heap) (L := s.heap.objs.size) (h := hc) (led := [(ml, { cls := .type "list", data := .seq (List.toArray mvs) mk })]) (by
            intro p hp
            rw [List.mem_singleton.mp hp]
            exact ⟨k7, nM.2.1, nM.2.2⟩)
          have pre₃ : ∀ h' m' news', Fr s.heap s.heap.objs.size h' m' → News s.heap s.heap.objs.size h' news' → (∀ p ∈ restOf s.heap s.heap.objs.size [ml] hc, p ∈ news') → XB [s.heap.objs.size, ml] hc h' := fun _ _ _ F' N' hs => xb_of F₃ F' N' hs
          have hnsc := F₃.ns
          have off := rest_off (h₀ := s.heap) (L := s.heap.objs.size) (mu := [ml]) (h := hc) (List.mem_singleton.mpr (rfl : ml = ml))
          dsimp only [List.cons_append, List.nil_append, List.map_nil, List.map_cons] at N₃
          show wpAny _ _ _ _ _ _
          k_fold
          k_steps
          refine Does.use (contains_does wa was ss cn _ hws) W F₃ N₃ (by show dp + 1 + 1 < _; omega) (by show un + 3 + 8 * 1 + 8 < _; omega) ⟨_, hwg₃, rfl, _, rfl⟩ (fun v h₁₁ tk₁₁ F₄ N₄ he₄ ht₄ hr => ?_)
          subst hr
          dsimp only at ht₄
          cases hbb : ss.any fun x => x == cn
          · k_steps
            rename_i lc h₁₂ F₅ N₅ l1
            replace l1 := l1.1
            have x₁₂ := pre₃ _ _ _ F₅ N₅ (fun p hp => .tail _ (.tail _ hp))
            have nc := N₅ _ (.head _)
            dsimp only at nc
            refine Does.use (concat_does wa lc was [.str cn tcn] wak (by
              have := way_len bs i ss (List.mem_of_getElem? hss)
              have := strs_len hws
              show was.length + 1 < _
              omega)) W F₅ N₅ (by show dp + 1 + 1 < _; omega) (by show un + 3 + 8 * 1 + 8 < _; omega) ⟨x₁₂ _ _ hwa2 hwg₃, ⟨_, nc.1, rfl, _, rfl⟩⟩ (fun v h₁₃ tk₁₃ F₆ N₆ he₆ ht₆ hr => ?_)
            obtain ⟨r, rn, rfl, hr₁, hr₂⟩ := hr
            try dsimp only at ht₆
            try dsimp only at hr₂
            k_steps
            have hrm : r ≠ ml := by
              intro q
              rw [q, (N₅ _ (.tail _ (.head _))).1] at hr₂
              cases hr₂
            have hlm : lc ≠ ml := fun q => by
              rw [q] at l1
              exact Nat.lt_irrefl _ l1
            refine append_at (N₆ _ (.tail _ (.head _))).1 (fun h₁₄ hs₁₄ ho₁₄ => ?_) ?_
            · have F₇ := F₆.change hs₁₄ (N₆ _ (.tail _ (.head _))).2.1 (N₆ _ (.tail _ (.head _))).2.2
              have N₇ := N₆.setSecond hlm off hs₁₄ ho₁₄
              have hmid : ∀ (b : Addr) (o : Obj) (its : Array Value) (n : Nat), b ≠ ml → hc.get? b = some o → o.data = .seq its n → h₁₄.get? b = some o := fun b o its n hb e q =>
                (hs₁₄.2 b hb).trans (he₆ _ _ (x₁₂ _ _ (fun q' => by
                  rcases List.mem_cons.mp q' with e2 | q'
                  · exact ns_not_seq hnsc (e2 ▸ e) q
                  · exact hb (List.mem_singleton.mp q')) e))
              have w1 := (k8.xb hmid).push (v := .ref r) (ss := ss ++ [cn]) ⟨r, _, rn, rfl, hrm, (hs₁₄.2 r hrm).trans hr₁, strs_snoc hws _ _⟩
              rw [hbb, if_neg Bool.false_ne_true] at haddc
              rw [List.append_assoc, ← haddc] at w1
              show wpAny _ _ _ _ _ _
              k_steps
              exact ⟨_, _, _, rfl, F₇, pre₃ _ _ _ F₇ N₇ (fun _ h => .tail _ (.tail _ h)), ⟨rfl, rfl, rfl, rfl, rfl, rfl, _, mk + 1, by rw [ho₁₄]; simp, w1⟩⟩
            · have q1 := k8.1
              rw [List.length_append] at q1
              have q2 := moreOf_len ((waysTo bs i).take j) (flagNames.take d)
              have q3 := addOf_len ss ((flagNames.take d).take c)
              have q4 := ways_len bs i
              have q5 := cols_len d
              have q6 : ((waysTo bs i).take j).length ≤ 8 ^ i := Nat.le_trans (List.length_take_le' ..) q4
              have q7 : 8 ^ i ≤ 8 ^ 4 := Nat.pow_le_pow_right (by decide) (by omega)
              have q8 : ((waysTo bs i).take j).length * (flagNames.take d).length ≤ 8 ^ 4 * 7 := Nat.mul_le_mul (Nat.le_trans q6 q7) q5
              have q9 : ((flagNames.take d).take c).length ≤ (flagNames.take d).length := List.length_take_le' ..
              rw [sizeLine_eq, List.size_toArray]
              omega
          · rw [hbb, if_pos rfl, List.append_nil] at haddc
            k_steps
            refine' TurnOk.go F₃ ?ta ?tb ?tc ?td; (case ta => assumption); (case tb => assumption); (case tc => exact fun _ h => .tail _ h)
            case td => exact ⟨rfl, rfl, rfl, rfl, rfl, rfl, mvs, mk, he₄ _ _ k7, by rw [haddc]; exact k8.keep fun b o its n e _ => he₄ _ _ e⟩
        · rintro m₃ hc tkc htk₃ ⟨k1, k2, k3, k4, k5, k6, mvs, mk, k7, k8⟩ F₃ hx₃
          dsimp only at htk₃
          rw [strs_len hcols, List.take_length, ← moreOf_take _ _ _ _ hss] at k8
          replace F₃ := (frSee ((frSee ((frSee ((frSee ((frSee ((frSee F₃ (Str.ofString "board") (by exact k1))) (Str.ofString "names") (by exact k2))) (Str.ofString "ways") (by exact k3))) (Str.ofString "columns") (by exact k4))) (Str.ofString "more") (by exact k5))) (Str.ofString "way") (by exact k6))
          show wpAny _ _ _ _ _ _
          k_fold
          k_steps
          exact ⟨_, _, _, rfl, F₃, hx₃, ⟨rfl, rfl, rfl, rfl, rfl, mvs, mk, k7, k8⟩⟩
      · rintro m₂ hj tkj htk₂ ⟨g1, g2, g3, g4, g5, mvs, mk, g6, g7⟩ F₂ hx₂
        dsimp only at htk₂
        rw [h5'.1, List.take_length] at g7
        have hwl₂ := hx₂ wl _ (fun q' => by
          rcases List.mem_cons.mp q' with e2 | q'
          · exact wlL e2
          · exact wlM (List.mem_singleton.mp q')) h4'
        have keep2 : ∀ (b : Addr) (o : Obj) (its : Array Value) (n : Nat), b ≠ ml → hN.get? b = some o → o.data = .seq its n → hj.get? b = some o := fun b o its n hb e q =>
          hx₂ b o (fun q' => by
            rcases List.mem_cons.mp q' with e2 | q'
            · subst e2
              exact ns_not_seq FN.ns e q
            · exact hb (List.mem_singleton.mp q')) e
        have pre₂ : ∀ h' m' news', Fr s.heap s.heap.objs.size h' m' → News s.heap s.heap.objs.size h' news' → (∀ p ∈ restOf s.heap s.heap.objs.size [ml] hj, p ∈ news') → XB [s.heap.objs.size, ml] hj h' := fun _ _ _ F' N' hs => xb_of F₂ F' N' hs
        replace F₂ := (frSee ((frSee ((frSee ((frSee ((frSee F₂ (Str.ofString "board") (by exact g1))) (Str.ofString "names") (by exact g2))) (Str.ofString "ways") (by exact g3))) (Str.ofString "columns") (by exact g4))) (Str.ofString "more") (by exact g5))
        have N₂ := news_rest (h₀ := s.heap) (L := s.heap.objs.size) (h := hj) (led := [(ml, { cls := .type "list", data := .seq (List.toArray mvs) mk })]) (by
          intro p hp
          rw [List.mem_singleton.mp hp]
          exact ⟨g6, nM.2.1, nM.2.2⟩)
        dsimp only [List.cons_append, List.nil_append, List.map_nil, List.map_cons] at N₂
        show wpAny _ _ _ _ _ _
        k_fold
        k_steps
        refine Does.use (concat_does wl ml wvs mvs wk (by
          have q1 := h5'.1
          have q2 := g7.1
          have q3 := moreOf_len (waysTo bs i) (flagNames.take d)
          have q4 := ways_len bs i
          have q5 := cols_len d
          have q7 : 8 ^ i ≤ 8 ^ 4 := Nat.pow_le_pow_right (by decide) (by omega)
          have q8 : (waysTo bs i).length * (flagNames.take d).length ≤ 8 ^ 4 * 7 := Nat.mul_le_mul (Nat.le_trans q4 q7) q5
          omega)) W F₂ N₂ (by show dp + 1 + 1 < _; omega) (by show un + 3 + 8 * 1 + 8 < _; omega) ⟨hwl₂, ⟨_, g6, rfl, _, rfl⟩⟩ (fun v h₁₃ tk₁₃ F₆ N₆ he₆ ht₆ hr => ?_)
        obtain ⟨r, rn, rfl, hr₁, hr₂⟩ := hr
        try dsimp only at ht₆
        replace hr₂ : hj.get? r = none := hr₂
        have hns₂ := F₂.ns
        have hrL : r ≠ s.heap.objs.size := fun q => by
          obtain ⟨oL, es, ep, hoL, hdL, _⟩ := hns₂
          rw [← q] at hoL
          replace hoL : hj.get? r = some oL := hoL
          rw [hr₂] at hoL
          cases hoL
        have hrs : s.heap.get? r = none := by
          cases q : s.heap.get? r with
          | none => rfl
          | some o =>
            have := F₂.keep _ _ q
            rw [hr₂] at this
            cases this
        replace N₆ : News s.heap s.heap.objs.size h₁₃ ((r, { cls := .type "list", data := .seq (wvs ++ mvs).toArray rn }) :: (ml, { cls := .type "list", data := .seq (List.toArray mvs) mk }) :: restOf s.heap s.heap.objs.size [ml] hj) := fun p hp => by
          rcases List.mem_cons.mp hp with e | hp
          · subst e
            exact ⟨hr₁, hrL, hrs⟩
          · exact N₆ p hp
        clear hr₁
        k_steps
        rename_i hE FE NE
        have xE := pre₂ _ _ _ FE NE (fun _ h => .tail _ (.tail _ h))
        have xA : XB [s.heap.objs.size] h hE := fun b o hb e => by
          have hb1 : b ≠ s.heap.objs.size := fun q => hb (List.mem_singleton.mpr q)
          have hb2 := bigM _ _ e
          have hb3 : b ∉ [s.heap.objs.size, ml] := fun q => by
            rcases List.mem_cons.mp q with q | q
            · exact hb1 q
            · exact hb2 (List.mem_singleton.mp q)
          have e1 : hN.get? b = some o := by
            by_cases e1 : b = nl
            · subst e1; rw [hnl] at e; cases e; exact nL'.1
            · exact hxN b o (fun q' => by
                rcases List.mem_cons.mp q' with e2 | q'
                · exact hb1 e2
                · exact e1 (List.mem_singleton.mp q')) e
          exact xE b o hb3 (hx₂ b o hb3 e1)
        have wA := (h5.keep (h' := hE) fun b o its n e q => xA b o (fun q' => ns_not_seq F₁.ns (List.mem_singleton.mp q' ▸ e) q) e).off FE.ns
        have wB := (g7.xb (h' := hE) fun b o its n hb e q => xE b o (fun q' => by
            rcases List.mem_cons.mp q' with e2 | q'
            · exact ns_not_seq hns₂ (e2 ▸ e) q
            · exact hb (List.mem_singleton.mp q')) e).off FE.ns
        exact ⟨_, _, _, rfl, FE, xA, ⟨rfl, rfl, r, _, rn, rfl, (NE _ (.head _)).1, _, by
          have := wA.join wB
          rw [← hbd] at this
          exact this⟩⟩
  · rintro m₁ h tk' htk ⟨h1, h2, wl, wvs, wk, h3, h4, x, h5⟩ F₁ hx₁
    dsimp only at htk
    have hvl : vals.length = bs.length := by rw [intsAre_len hI, List.length_map]
    rw [hvl] at h5
    have hoc₁ := hx₁ (s.heap.objs.size + 1) _ (by intro q; exact nC.2.1 (List.mem_singleton.mp q)) nC.1
    replace F₁ := (frSee ((frSee ((frSee F₁ (Str.ofString "board") (by exact h1))) (Str.ofString "names") (by exact h2))) (Str.ofString "ways") (by exact h3))
    have N₁ := news_rest (h₀ := s.heap) (L := s.heap.objs.size) (h := h) (led := [(s.heap.objs.size + 1, oc)]) (by
      intro p hp
      rw [List.mem_singleton.mp hp]
      exact ⟨hoc₁, nC.2.1, nC.2.2⟩)
    dsimp only [List.cons_append, List.nil_append, List.map_nil, List.map_cons] at N₁
    show wpAny _ _ _ _ _ _
    k_fold
    iterate 3 walk1
    have hwn : wvs.length = (waysTo bs bs.length).length := h5.1
    have hw4 : (waysTo bs bs.length).length ≤ 4096 := Nat.le_trans (ways_len bs _) (Nat.pow_le_pow_right (n := 8) (by decide) hb)
    have hext : ∀ h' : Heap, Ext h h' → s.heap.objs.size ≤ h'.objs.size := fun h' e => Nat.le_trans F₁.above (Nat.le_of_lt (((frExt F₁ e)).ns.lt))
    refine comp_walk (n := wvs.length) (P := fun i v _ _ => wvs[i]? = some v) (fun i y a b => ∃ t : Nat, y = .int (((waysTo bs bs.length).map fun ss => (ss.length : Int)).getD i 0) t ∧ a ≤ t ∧ t < b) (cl := []) (by rfl) rfl (by decide) rfl (by decide) (fun _ => rfl) (by omega) s.heap.objs.size hext ?_ ?_ ?_
    · iterate 1 walk1
      exact iter_list (fun _ _ e => e) (Nat.le_refl _) rfl ⟨_, h4, rfl, _, rfl⟩
    · intro i v C m s₁ E' t₀ t₁ hi hv ht₀ ht₁ hg he hC hN hx
      obtain ⟨ss, hss⟩ : ∃ ss, (waysTo bs bs.length)[i]? = some ss := ⟨_, List.getElem?_eq_getElem (by omega)⟩
      obtain ⟨v', hv', wa, was, wak, rfl, _, hwg, hws⟩ := h5.2 i ss hss
      rw [hv] at hv'
      cases hv'
      have F₂ := (frExt F₁ he)
      have hlen := strs_len hws
      have hl4 := way_len bs _ ss (List.mem_of_getElem? hss)
      have hget : ((waysTo bs bs.length).map fun ss => (ss.length : Int)).getD i 0 = (was.length : Int) := by
        rw [List.getD_eq_getElem?_getD, List.getElem?_map, hss, hlen]; rfl
      rw [hget]
      k_steps
      refine len_list ⟨_, he _ _ hwg, rfl, _, rfl⟩ (by rw [List.size_toArray]; omega) ?_
      exact ⟨_, _, rfl, fun _ _ e => e, by show s₁.toks ≤ s₁.toks + 1 + 1; omega, s₁.toks + 1, by rw [List.size_toArray], by omega, by show s₁.toks + 1 < s₁.toks + 1 + 1; omega⟩
    · intro D h' tkD ys kD hD he ht hD' hM
      have hIT := madeC_ints (by rw [List.length_map, ← hwn]) hM
      have F₂ := (frExt F₁ he)
      have N₂ := (newsExt N₁ he)
      dsimp only at hIT ht hD
      generalize hns : ((waysTo bs bs.length).map fun ss => (ss.length : Int)) = ns at hIT
      have DL : D ≠ s.heap.objs.size := fun q => by
        obtain ⟨oL, es, ep, hoL, hdL, _⟩ := F₁.ns
        replace hoL : h.get? s.heap.objs.size = some oL := hoL
        rw [← q, hD] at hoL
        cases hoL
      have Ds : s.heap.get? D = none := by
        cases q : s.heap.get? D with
        | none => rfl
        | some o =>
          have := F₁.keep _ _ q
          rw [hD] at this
          cases this
      replace N₂ : News s.heap s.heap.objs.size h' ((s.heap.objs.size + 1, oc) :: (D, { cls := .type "list", data := .seq (List.toArray ys) kD }) :: restOf s.heap s.heap.objs.size [s.heap.objs.size + 1] h) := fun p hp => by
        rcases List.mem_cons.mp hp with e | hp
        · exact N₂ p (e ▸ .head _)
        · rcases List.mem_cons.mp hp with e | hp
          · subst e
            exact ⟨hD', DL, Ds⟩
          · exact N₂ p (.tail _ hp)
      have DC : D ≠ s.heap.objs.size + 1 := fun q => by
        rw [q, hoc₁] at hD
        cases hD
      have off := rest_off (h₀ := s.heap) (L := s.heap.objs.size) (mu := [s.heap.objs.size + 1]) (h := h) (List.mem_singleton.mpr (rfl : s.heap.objs.size + 1 = s.heap.objs.size + 1))
      show wpAny _ _ _ _ _ _
      clear N₁ F₁
      k_steps
      refine stCN (own := []) (c := s.heap.objs.size + 1) F₂ N₂ (by rfl) hoc (fun _ hp => nomatch hp) (fun p hp => ?_) (fun h₈ o₈ F₈ N₈ hd₈ => ?_) (by rfl) (by rfl)
      · rcases List.mem_cons.mp hp with e | hp
        · subst e; exact DC
        · exact off p hp
      show wpAny _ _ _ _ _ _
      refine wpAny_execs_cons ?_
      iterate 1 walk1
      have hext₈ : ∀ h' : Heap, Ext h₈ h' → s.heap.objs.size ≤ h'.objs.size := fun h' e => Nat.le_trans F₈.above (Nat.le_of_lt (((frExt F₈ e)).ns.lt))
      refine comp_walk (n := bs.length + 1) (P := fun i v t₀ t₁ => v = .int (i : Int) t₀ ∧ t₁ = t₀ + 1) (fun i y a b => ∃ t : Nat, y = .int (ns.count (i : Int)) t) (cl := [(Str.ofString "sizes", s.heap.objs.size + 1)]) (by rfl) rfl (by decide) rfl (by decide) (fun _ => rfl) (by omega) s.heap.objs.size hext₈ ?_ ?_ ?_
      · refine wpAny_with_toks (n := tkD) (Nat.le_refl _) ?_
        k_steps
        rename_i h₁₀ tk₁₀ t1 u1 v1 hR F₁₀ N₁₀ hk₁₀ ht₁₀
        exact iter_range (n := bs.length + 1) (s := { s with heap := h₈, toks := tkD }) hk₁₀ ht₁₀ rfl hR (by rw [List.length_map]; rfl) (by omega)
      · intro i v C m s₁ E' t₀ t₁ hi hv ht₀ ht₁ hg he₉ hC hN hx
        obtain ⟨rfl, rfl⟩ := hv
        dsimp only at ht₀ hg he₉ hN
        have F₉ := (frExt F₈ he₉)
        have N₉ := (newsExt N₈ he₉)
        k_steps
        refine Does.use (count_does D ys ns tk' tkD i t₀ hIT (by omega) ht₀ (by omega)) W F₉ N₉ (by show dp + 1 + 2 < _; omega) (by show un + 3 + 8 * 2 + 8 < _; omega) ⟨_, (N₉ _ (.tail _ (.head _))).1, rfl, _, rfl⟩ (fun v h₁₁ tk₁₁ F₁₁ N₁₁ he₁₁ ht₁₁ hr => ?_)
        exact ⟨_, _, rfl, he₁₁, ht₁₁, hr⟩
      · intro D₂ h₉ tk₉ zs kz hD₂ he₉ ht₉ hD₂' hM₂
        have hz := madeC_are hM₂
        have Ds₂ : s.heap.get? D₂ = none := by
          cases q : s.heap.get? D₂ with
          | none => rfl
          | some o =>
            have := F₈.keep _ _ q
            rw [show h₈.get? D₂ = none from hD₂] at this
            cases this
        exact fun hh => hQ _ _ _ (fun b o q => he₉ _ _ (F₈.keep b o q)) hh ⟨D₂, zs, kz, rfl, Ds₂, hD₂', by unfold countsOf; rw [hns]; exact hz⟩
end
end Mine
end

section
set_option maxRecDepth 100000
open PySem PySem.W PySem.Calls PyProof.Rows PySem.Spec
set_option Elab.async false
set_option linter.unusedVariables false
namespace Mine
local macro_rules | `(tactic| walk_at "exec For") => `(tactic| (with_unfolding_all refine wpAny_For ?_ (by intro _; rfl)))
local macro_rules | `(tactic| walk_at "exec For Name Call cons nil") => `(tactic| (with_unfolding_all refine wpAny_For ?_ (by intro _; rfl)))
local macro_rules | `(tactic| walk_at "exec For Name Name cons nil") => `(tactic| (with_unfolding_all refine wpAny_For ?_ (by intro _; rfl)))
section
variable {w : World} {mean : ExcName → Option Value} {mg mb : Str → Option Value}
theorem DoesG.use {dp un : Nat} {fr : Option (List Env)} {gd : Option (List Code)} {s : Shared} {E : Value → Shared → Prop} {f : Addr} {vs : List Value} {d : Nat} {P : Shared → Prop} {R : Value → Prop} {h₀ : Heap} {L : Addr} {m : Str → Option Value} {news : List (Addr × Obj)} {Q : Value → Shared → Prop}
    (C : DoesG w mean mg mb f vs d P R) (W : Wd w mean mg mb h₀) (F : Fr h₀ L s.heap m) (N : News h₀ L s.heap news) (hd : dp + d < recursionLimit) (hu : un + 8 * d + 8 < cLine) (hP : P s)
    (h : ∀ v h' tk' gs', Fr h₀ L h' m → News h₀ L h' news → Ext s.heap h' → s.toks ≤ tk' → (Bare s.gens → Bare gs') → R v → Q v { s with heap := h', toks := tk', gens := gs' }) :
    wpAny (model PySem.Challenge.rw_ta0013_01.row.prog w) (Ar dp un fr gd) (call (.ref f) vs) Q E s :=
  C dp un fr gd s Q E hd hu (W.keeps F.keep) hP fun v h' tk' gs' e ht hb r => h v h' tk' gs' ((frExt F e)) ((newsExt N e)) e ht hb r
abbrev ofNats (bs : List Nat) : List Int := bs.map fun n : Nat => (n : Int)
/-- the last of the counts -/
def lastOf (bs : List Nat) : Int := (countsOf bs).getD bs.length 0
/-- the board's last -/
def endOf (bs : List Nat) : Int := (ofNats bs).getD (bs.length - 1) 0
structure LawOf (bs : List Nat) : Prop where
  sum : ∀ p, sumTo (countsOf bs) p (countsOf bs).length = prodTo (ofNats bs) p (ofNats bs).length
  chars : ∀ c ∈ (rimTo (ofNats bs) (ofNats bs).length).cps.toList, c = 40 ∨ c = 41
  size : (rimTo (ofNats bs) (ofNats bs).length).cps.size ≤ 100
  chars2 : ∀ c ∈ (rimTo (ofNats bs) (ofNats bs).length ++ Txt.mul (Str.ofString ")") (endOf bs - bs.length)).cps.toList, c = 40 ∨ c = 41
  size2 : (rimTo (ofNats bs) (ofNats bs).length ++ Txt.mul (Str.ofString ")") (endOf bs - bs.length)).cps.size ≤ 200
  rim : rimFrom (rimTo (ofNats bs) (ofNats bs).length).cps.toList 0 = (decide (0 < lastOf bs) && decide (endOf bs = bs.length))
  rim2 : rimFrom (rimTo (ofNats bs) (ofNats bs).length ++ Txt.mul (Str.ofString ")") (endOf bs - bs.length)).cps.toList 0 = decide (0 < lastOf bs)
set_option maxHeartbeats 8000000 in
theorem stands_does (b du p : Addr) (vals dvals pvals : List Value) (bs : List Nat) (ps : List Int) (hb : bs.length ≤ 4) (hb1 : 1 ≤ bs.length) (hbs : ∀ x ∈ bs, x ≤ 7) (H : LawOf bs) (hps : ∀ x ∈ ps, -3000000 ≤ x ∧ x ≤ 3000000) :
    DoesG w mean mg mb 159 [.ref b, .ref du, .ref p] 8 (fun s => s.heap.IsList b vals.toArray ∧ IntsAre vals (bs.map (fun n : Nat => (n : Int))) ∧ s.heap.IsList du dvals.toArray ∧ IntsAre dvals (bs.map (fun n : Nat => (n : Int))) ∧ s.heap.IsList p pvals.toArray ∧ IntsAre pvals ps ∧ 1 ≤ s.toks) (fun v => v = .bool true) := by
  unfold DoesG
  intro dp un fr gd s Q E hd hu W hP hQ
  obtain ⟨hL, hI, hLd, hId, hLp, hIp, h1t⟩ := hP
  have X := W.X
  have T := W.T
  refine enter W [(Str.ofString "board", .ref b), (Str.ofString "due", .ref du), (Str.ofString "points", .ref p)] _ (by k_is) (by k_is) (by show dp < _; omega) rfl rfl rfl (fun h₁ tk₁ ht₁ F N => ?_) rfl rfl rfl (by decide)
  try dsimp only
  k_fold
  k_steps
  refine Does.use (rooks_does b vals bs hb hbs) W F N (by show dp + 1 + 3 < _; omega) (by show un + 3 + 8 * 3 + 8 < _; omega) ⟨hL.at fun o e => F.keep _ _ e, hI, by dsimp only; omega⟩ (fun v h₂ tk₂ F₂ N₂ he₂ ht₂ hr => ?_)
  obtain ⟨D, zs, kz, rfl, hDn, hD, hz⟩ := hr
  dsimp only at ht₂ hDn
  have DL : D ≠ s.heap.objs.size := fun q => by
    obtain ⟨oL, es, ep, hoL, hdL, _⟩ := F.ns
    replace hoL : h₁.get? s.heap.objs.size = some oL := hoL
    rw [← q, hDn] at hoL
    cases hoL
  have Ds : s.heap.get? D = none := by
    cases q : s.heap.get? D with
    | none => rfl
    | some o =>
      have := F.keep _ _ q
      rw [hDn] at this
      cases this
  have hzl : zs.length = bs.length + 1 := by rw [intsAre_len hz]; unfold countsOf; rw [List.length_map, List.length_range]
  replace N₂ : News s.heap s.heap.objs.size h₂ [(D, { cls := .type "list", data := .seq (List.toArray zs) kz })] := fun p hp => by
    rw [List.mem_singleton.mp hp]
    exact ⟨hD, DL, Ds⟩
  clear N F
  have hne : decide (countsOf bs = []) = false := by
    rw [decide_eq_false_iff_not]
    intro q
    have := congrArg List.length q
    unfold countsOf at this
    rw [List.length_map, List.length_range] at this
    cases this
  k_steps
  rename_i el h₃ F₃ N₃ l1
  refine for_list (mu := []) (by rfl) (hLp.at fun o e => F₃.keep _ _ e) ?_ (by simp) rfl rfl F₃
    (fun i m h _ => m (Str.ofString "counts") = some (.ref D) ∧ m (Str.ofString "due") = some (.ref du) ∧ m (Str.ofString "board") = some (.ref b))
    (fun i m h h' _ _ hj _ _ => hj) ⟨rfl, rfl, rfl⟩ ?_ ?_
  · intro q
    obtain ⟨o, ho, _⟩ := hLp
    exact absurd (Heap.lt_size ho) (by rw [List.mem_singleton.mp q]; exact Nat.lt_irrefl _)
  · rintro i v m₁ h tk' hv htk ⟨g1, g2, g3⟩ F₁ hx₁
    obtain ⟨x, tx, rfl, hx⟩ := intsAre_get hIp hv
    have hx2 := hps x (List.mem_of_getElem? hx)
    have hD₁ := hx₁ D _ (by intro q; exact DL (List.mem_singleton.mp q)) (N₃ _ (.tail _ (.head _))).1
    replace F₁ := (frSee ((frSee ((frSee F₁ (Str.ofString "counts") (by exact g1))) (Str.ofString "due") (by exact g2))) (Str.ofString "board") (by exact g3))
    have N₁ := news_rest (h₀ := s.heap) (L := s.heap.objs.size) (h := h) (led := [(D, _)]) (by
      intro p hp
      rw [List.mem_singleton.mp hp]
      exact ⟨hD₁, DL, Ds⟩)
    dsimp only [List.cons_append, List.nil_append, List.map_nil, List.map_cons] at N₁
    show wpAny _ _ _ _ _ _
    k_fold
    k_steps
    refine Does.use (sum_does D zs (countsOf bs) x tx (by unfold countsOf; rw [List.length_map, List.length_range]; omega) hx2) W F₁ N₁ (by show dp + 1 + 3 < _; omega) (by show un + 3 + 8 * 3 + 8 < _; omega) ⟨⟨_, hD₁, rfl, _, rfl⟩, hz⟩ (fun v h₇ tk₇ F₇ N₇ he ht hr => ?_)
    obtain ⟨tr, rfl⟩ := hr
    k_steps
    refine Does.use (product_does du dvals (ofNats bs) x tx (by unfold ofNats; rw [List.length_map]; omega) (fun y hy => by
      obtain ⟨n, hn, rfl⟩ := List.mem_map.mp hy
      have := hbs n hn
      omega) hx2) W F₇ N₇ (by show dp + 1 + 2 < _; omega) (by show un + 3 + 8 * 2 + 8 < _; omega) ⟨hLd.at fun o e => F₇.keep _ _ e, hId⟩ (fun v h₈ tk₈ F₈ N₈ he₈ ht₈ hr => ?_)
    obtain ⟨tr', rfl⟩ := hr
    rw [H.sum x]
    generalize prodTo (ofNats bs) x (ofNats bs).length = z
    k_steps
    · rename z ≠ z => q
      exact absurd rfl q
    · exact ⟨_, _, _, rfl, F₈, fun b o _ q => he₈ _ _ (he _ _ q), ⟨rfl, rfl, rfl⟩⟩
  · rintro m₁ h tk' htk ⟨g1, g2, g3⟩ F₁ hx₁
    have hD₁ := hx₁ D _ (by intro q; exact DL (List.mem_singleton.mp q)) (N₃ _ (.tail _ (.head _))).1
    replace F₁ := (frSee ((frSee ((frSee F₁ (Str.ofString "counts") (by exact g1))) (Str.ofString "due") (by exact g2))) (Str.ofString "board") (by exact g3))
    have N₁ := news_rest (h₀ := s.heap) (L := s.heap.objs.size) (h := h) (led := [(D, _)]) (by
      intro p hp
      rw [List.mem_singleton.mp hp]
      exact ⟨hD₁, DL, Ds⟩)
    dsimp only [List.cons_append, List.nil_append, List.map_nil, List.map_cons] at N₁
    show wpAny _ _ _ _ _ _
    k_fold
    k_steps
    refine Does.use (rim_does du dvals (ofNats bs) (by unfold ofNats; rw [List.length_map]; omega) (fun y hy => by
      obtain ⟨n, hn, rfl⟩ := List.mem_map.mp hy
      have := hbs n hn
      omega)) W F₁ N₁ (by show dp + 1 + 2 < _; omega) (by show un + 3 + 8 * 2 + 8 < _; omega) ⟨hLd.at fun o e => F₁.keep _ _ e, hId⟩ (fun v h₇ tk₇ F₇ N₇ he ht hr => ?_)
    obtain ⟨tr, rfl⟩ := hr
    k_steps
    rename_i h₉ F₉ N₉
    have hl : (-1 + ((countsOf bs).length : Int)).toNat = bs.length := by
      unfold countsOf
      rw [List.length_map, List.length_range]
      omega
    rw [hl, show (countsOf bs).getD bs.length 0 = lastOf bs from rfl] at F₉
    have hch := H.chars
    refine DoesG.use (check_does _ _ (fun q => by rcases hch _ q with e | e <;> cases e) (fun q => by rcases hch _ q with e | e <;> cases e) (Nat.lt_of_le_of_lt H.size (by decide))) W F₉ N₉ (by show dp + 1 + 4 < _; omega) (by show un + 3 + 8 * 4 + 8 < _; omega) trivial (fun v h₁₀ tk₁₀ gs₁₀ F₁₀ N₁₀ he₁₀ ht₁₀ hb₁₀ hr => ?_)
    subst hr
    rw [H.rim]
    have hr2 := H.rim2
    have hch2 := H.chars2
    have hsz2 := H.size2
    have hsz := H.size
    generalize hfb : decide (0 < lastOf bs) = fb at *
    have hend : 0 ≤ endOf bs ∧ endOf bs ≤ 7 := getD_in (fun y hy => by
      obtain ⟨n, hn, rfl⟩ := List.mem_map.mp hy
      have := hbs n hn
      omega) (by omega) _
    have e1 : (-1 + ((List.map (fun n : Nat => (n : Int)) bs).length : Int)).toNat = bs.length - 1 := by
      rw [List.length_map]
      omega
    have e2 : (List.map (fun n : Nat => (n : Int)) bs).getD (-1 + ((List.map (fun n : Nat => (n : Int)) bs).length : Int)).toNat 0 = endOf bs := by rw [e1]; rfl
    have e3 : (List.map (fun n : Nat => (n : Int)) bs).length = bs.length := List.length_map _
    have hrl : (rimTo (ofNats bs) (ofNats bs).length).length ≤ 100 := hsz
    generalize hrim : rimTo (ofNats bs) (ofNats bs).length = rim at *
    cases fb
    · k_steps
      · rename_i q _
        exact absurd q (by rw [Bool.false_and]; decide)
      rw [e2, e3]
      refine DoesG.use (check_does _ _ (fun q => by rcases hch2 _ q with e | e <;> cases e) (fun q => by rcases hch2 _ q with e | e <;> cases e) (Nat.lt_of_le_of_lt hsz2 (by decide))) W F₁₀ N₁₀ (by show dp + 1 + 4 < _; omega) (by show un + 3 + 8 * 4 + 8 < _; omega) trivial (fun v h₁₁ tk₁₁ gs₁₁ F₁₁ N₁₁ he₁₁ ht₁₁ hb₁₁ hr => ?_)
      subst hr
      rw [hr2]
      k_steps
      exact hQ _ _ _ gs₁₁ F₁₁.keep (by assumption) (fun q => hb₁₁ (hb₁₀ q)) rfl
    · k_steps
      · rename_i q _
        rw [e2, e3] at q
        exfalso
        by_cases e : endOf bs = bs.length <;> simp [e] at q
      rw [e2, e3]
      refine DoesG.use (check_does _ _ (fun q => by rcases hch2 _ q with e | e <;> cases e) (fun q => by rcases hch2 _ q with e | e <;> cases e) (Nat.lt_of_le_of_lt hsz2 (by decide))) W F₁₀ N₁₀ (by show dp + 1 + 4 < _; omega) (by show un + 3 + 8 * 4 + 8 < _; omega) trivial (fun v h₁₁ tk₁₁ gs₁₁ F₁₁ N₁₁ he₁₁ ht₁₁ hb₁₁ hr => ?_)
      subst hr
      rw [hr2]
      k_steps
      exact hQ _ _ _ gs₁₁ F₁₁.keep (by assumption) (fun q => hb₁₁ (hb₁₀ q)) rfl
end
end Mine
end

section
set_option maxRecDepth 100000
open PySem PySem.W PySem.Calls PyProof.Rows PySem.Spec
set_option Elab.async false
set_option linter.unusedVariables false
namespace Mine
def dotsTo (xs : List Int) (mo : Int) : Nat → Int
  | 0 => 0
  | i + 1 => dotsTo xs mo i + (xs.getD i 0).fmod mo
def tailN (x : Int) : Nat := ((x.fdiv 18).fmod 55000).toNat
def tailOf (x : Int) : Nat := if tailN x = 46 ∨ tailN x = 13 ∨ tailN x = 10 then 97 else tailN x
def tailS (x : Int) : Str := ⟨#[tailOf x]⟩
def lineEnd (x : Int) : Str := [Str.ofString "\n", Str.ofString "\r", Str.ofString "\r\n"].getD ((x.fdiv 6).fmod 3).toNat ⟨#[]⟩
def mailTo (xs : List Int) (mo : Int) : Nat → Str
  | 0 => Str.ofString ""
  | i + 1 => mailTo xs mo i ++ Txt.mul (Str.ofString ".") (dotsTo xs mo (i + 1)) ++ tailS (xs.getD i 0) ++ lineEnd (xs.getD i 0)
def dueTo (xs : List Int) (mo : Int) : Nat → Str
  | 0 => Str.ofString ""
  | i + 1 => dueTo xs mo i ++ Txt.mul (Str.ofString ".") (if 0 < dotsTo xs mo (i + 1) then dotsTo xs mo (i + 1) + 1 else 0) ++ tailS (xs.getD i 0) ++ Str.ofString "\r\n"
def boardTo (xs : List Int) (mo : Int) : Nat → List Int
  | 0 => []
  | i + 1 => boardTo xs mo i ++ [dotsTo xs mo (i + 1)]
theorem dots_in {xs : List Int} {mo : Int} (hmo : mo = 2 ∨ mo = 3) : ∀ i, 0 ≤ dotsTo xs mo i ∧ dotsTo xs mo i ≤ 2 * i
  | 0 => by simp [dotsTo]
  | i + 1 => by
    have ih := dots_in (xs := xs) hmo i
    have h1 : 0 ≤ (xs.getD i 0).fmod mo := Int.fmod_nonneg_of_pos _ (by omega)
    have h2 : (xs.getD i 0).fmod mo < mo := Int.fmod_lt_of_pos _ (by omega)
    show 0 ≤ dotsTo xs mo i + _ ∧ dotsTo xs mo i + _ ≤ 2 * ((i + 1 : Nat) : Int)
    omega
def MostQ (s : Shared) (tk₀ : Nat) (Dv : Value) (D : Addr) (l : Addr) (mo : Int) (o : Obj) (f : Flow) (s₁ : Shared) : Prop :=
  f = .next ∧ ∃ h tk t, s₁ = { s with heap := h, toks := tk } ∧ tk₀ ≤ tk ∧ Fr s.heap s.heap.objs.size h (fun y => if y = Str.ofString "most" then some (.int mo t) else if y = Str.ofString "drawn" then some (.ref D) else if y = Str.ofString "drawn" then some Dv else List.lookup y [(Str.ofString "script", Value.ref l)].reverse) ∧ News s.heap s.heap.objs.size h [(D, o)]
end Mine
namespace Mine
theorem board_len (xs : List Int) (mo : Int) : ∀ i, (boardTo xs mo i).length = i
  | 0 => rfl
  | i + 1 => by
    rw [boardTo, List.length_append, board_len xs mo i]
    rfl
end Mine
namespace Mine
def StepQ (s : Shared) (h₀ : Heap) (L : Addr) (m : Str → Option Value) (x y : Str) (news : List (Addr × Obj)) (f : Flow) (s₁ : Shared) : Prop :=
  f = .next ∧ ∃ h' tk t news', s₁ = { s with heap := h', toks := tk } ∧ Fr h₀ L h' (fun z => if z = x then some (.str y t) else m z) ∧ News h₀ L h' news' ∧ (∀ p ∈ news, p ∈ news')
theorem step_str {prog : Program} {w : World} {A : Around} {env : Env} {st : Stmt} {rest : List Stmt} {Q : Flow → Shared → Prop} {E : Value → Shared → Prop} {s s' : Shared} {h₀ : Heap} {L : Addr} {h : Heap} {m : Str → Option Value} {news : List (Addr × Obj)}
    (F : Fr h₀ L h m) (N : News h₀ L h news) (x y : Str)
    (h1 : wpAny (model prog w) A (exec st env) (StepQ s h₀ L m x y news) (fun _ _ => False) s')
    (k : ∀ h' tk t news', Fr h₀ L h' (fun z => if z = x then some (.str y t) else m z) → News h₀ L h' news' → (∀ p ∈ news, p ∈ news') → wpAny (model prog w) A (execs rest env) Q E { s with heap := h', toks := tk }) : wpAny (model prog w) A (execs (st :: rest) env) Q E s' := by
  refine wpAny_execs_cons (wpAny_mono h1 (fun f s₁ hf => ?_) (fun _ _ e => e.elim))
  obtain ⟨rfl, h', tk, t, news', rfl, F', N', hs⟩ := hf
  exact k h' tk t news' F' N' hs
end Mine
namespace Mine
theorem chr_eq (a b : Nat) (z : Str) (hz : z = ⟨#[b]⟩) : (z == (⟨#[a]⟩ : Str)) = decide (a = b) := by
  subst hz
  by_cases e : a = b
  · subst e; simp
  · have : (⟨#[b]⟩ : Str) ≠ ⟨#[a]⟩ := fun q => e (by
      have := congrArg (fun z : Str => z.cps) q
      simpa using this.symm)
    simp [e, this]
theorem tail_any (x : Int) : tailS x = (if ([Str.ofString ".", Str.ofString "\x0d", Str.ofString "\n"].any fun z => z == ⟨#[tailN x]⟩) = true then Str.ofString "a" else ⟨#[tailN x]⟩) := by
  simp only [List.any_cons, List.any_nil, Bool.or_false]
  rw [chr_eq (tailN x) 46 _ (by kernel_rfl), chr_eq (tailN x) 13 _ (by kernel_rfl), chr_eq (tailN x) 10 _ (by kernel_rfl)]
  unfold tailS tailOf
  by_cases h1 : tailN x = 46 ∨ tailN x = 13 ∨ tailN x = 10
  · rw [if_pos h1, if_pos (by rcases h1 with h | h | h <;> simp [h])]
    kernel_rfl
  · rw [if_neg h1, if_neg]
    simp only [Bool.or_eq_true, decide_eq_true_eq]
    exact h1
end Mine
namespace Mine
def lineTok (x : Int) (a b c : Tok) : Tok := if ((x.fdiv 6).fmod 3) = 0 then a else if ((x.fdiv 6).fmod 3) = 1 then b else c
theorem line_in (x : Int) : 0 ≤ (x.fdiv 6).fmod 3 ∧ (x.fdiv 6).fmod 3 < 3 := ⟨Int.fmod_nonneg_of_pos _ (by decide), Int.fmod_lt_of_pos _ (by decide)⟩
theorem lineEnd_at (x : Int) (a b c : Tok) : ([Value.str (Str.ofString "\n") a, Value.str (Str.ofString "\r") b, Value.str (Str.ofString "\r\n") c] : List Value)[((x.fdiv 6).fmod 3).toNat]? = some (.str (lineEnd x) (lineTok x a b c)) := by
  have h := line_in x
  unfold lineEnd lineTok
  generalize (x.fdiv 6).fmod 3 = z at *
  have : z = 0 ∨ z = 1 ∨ z = 2 := by omega
  rcases this with rfl | rfl | rfl <;> rfl
theorem lineEnd_cases (x : Int) : lineEnd x = Str.ofString "\n" ∨ lineEnd x = Str.ofString "\r" ∨ lineEnd x = Str.ofString "\r\n" := by
  have h := line_in x
  unfold lineEnd
  generalize (x.fdiv 6).fmod 3 = z at *
  have : z = 0 ∨ z = 1 ∨ z = 2 := by omega
  rcases this with rfl | rfl | rfl
  · exact .inl rfl
  · exact .inr (.inl rfl)
  · exact .inr (.inr rfl)
theorem lineEnd_len (x : Int) : (lineEnd x).length ≤ 2 := by
  rcases lineEnd_cases x with h | h | h <;> rw [h] <;> exact Nat.le_of_ble_eq_true (by kernel_rfl)
theorem app_len (a b : Str) : (a ++ b).length = a.length + b.length := by
  show (a ++ b).cps.size = a.cps.size + b.cps.size
  rw [PySem.Str.cps_append, Array.size_append]
theorem mul_cps (c : Nat) (z : Str) (hz : z = ⟨#[c]⟩) (d : Int) : (Txt.mul z d).cps.toList = List.replicate d.toNat c := by
  subst hz
  have fold : ∀ (k : Nat) (a : Array Nat), ((List.replicate k #[c]).foldl (fun x y => x ++ y) a).toList = a.toList ++ List.replicate k c := by
    intro k
    induction k with
    | zero => intro a; simp
    | succ k ih =>
      intro a
      rw [List.replicate_succ, List.foldl_cons, ih, List.replicate_succ]
      simp
  unfold Txt.mul
  by_cases h1 : d < 1
  · rw [if_pos h1]
    have : d.toNat = 0 := by omega
    rw [this]
    rfl
  · rw [if_neg h1]
    by_cases h2 : d = 1
    · subst h2
      rfl
    · rw [if_neg (by
        have : (⟨#[c]⟩ : Str).length = 1 := rfl
        simp [h2, this])]
      show ((List.replicate d.toNat #[c]).foldl (fun x y => x ++ y) #[]).toList = _
      rw [fold]
      simp
theorem mul_len (c : Nat) (z : Str) (hz : z = ⟨#[c]⟩) (d : Int) : (Txt.mul z d).length = d.toNat := by
  show (Txt.mul z d).cps.size = _
  rw [← Array.length_toList, mul_cps c z hz, List.length_replicate]
theorem dot_str : Str.ofString "." = ⟨#[46]⟩ := by kernel_rfl
theorem mail_len {xs : List Int} {mo : Int} (hmo : mo = 2 ∨ mo = 3) : ∀ i, i ≤ 4 → (mailTo xs mo i).length ≤ 20 * i
  | 0, _ => Nat.le_of_ble_eq_true (by kernel_rfl)
  | i + 1, h => by
    have ih := mail_len (xs := xs) hmo i (by omega)
    have hd := dots_in (xs := xs) hmo (i + 1)
    have hl := lineEnd_len (xs.getD i 0)
    have ht : (tailS (xs.getD i 0)).length = 1 := rfl
    rw [mailTo, app_len, app_len, app_len, mul_len 46 _ dot_str]
    omega
theorem due_len {xs : List Int} {mo : Int} (hmo : mo = 2 ∨ mo = 3) : ∀ i, i ≤ 4 → (dueTo xs mo i).length ≤ 20 * i
  | 0, _ => Nat.le_of_ble_eq_true (by kernel_rfl)
  | i + 1, h => by
    have ih := due_len (xs := xs) hmo i (by omega)
    have hd := dots_in (xs := xs) hmo (i + 1)
    have hl : (Str.ofString "\r\n").length = 2 := by kernel_rfl
    have ht : (tailS (xs.getD i 0)).length = 1 := rfl
    rw [dueTo, app_len, app_len, app_len, mul_len 46 _ dot_str]
    split <;> omega
theorem ints_snoc : ∀ {vs : List Value} {ns : List Int}, IntsAre vs ns → ∀ n t, IntsAre (vs ++ [.int n t]) (ns ++ [n])
  | _, _, .nil, n, t => .cons n t .nil
  | _, _, .cons a b r, n, t => .cons a b (ints_snoc r n t)
end Mine
namespace Mine
def boardN (dr : List Int) (mo : Int) : List Nat := (boardTo dr mo dr.length).map Int.toNat
def dueN (dr : List Int) (mo : Int) : List Nat := (boardN dr mo).map fun d => if 0 < d then d + 1 else 0
/-- the plain law's facts of the drawn ints -/
structure FactsOf (dr : List Int) (mo : Int) : Prop where
  quote : stuffS (normS (mailTo dr mo dr.length)) = dueTo dr mo dr.length
  norm : (normS (mailTo dr mo dr.length)).cps.size ≤ 1000
  board : ofNats (boardN dr mo) = boardTo dr mo dr.length
  len : (boardN dr mo).length = dr.length
  le : ∀ x ∈ boardN dr mo, x ≤ 6
  law : LawOf (boardN dr mo)
  law' : LawOf (dueN dr mo)
  rows : (Txt.split (dueTo dr mo dr.length) (Str.ofString "\r\n")).dropLast.map (fun r : Str => ((r.cps.toList.count 46 : Nat) : Int)) = ofNats (dueN dr mo)
def PtsQ (s : Shared) (h₀ : Heap) (L : Addr) (m : Str → Option Value) (pts : List Int) (news : List (Addr × Obj)) (f : Flow) (s₁ : Shared) : Prop :=
  f = .next ∧ ∃ P ws h' tk, s₁ = { s with heap := h', toks := tk } ∧ 1 ≤ tk ∧ Fr h₀ L h' (fun z => if z = Str.ofString "points" then some (.ref P) else m z) ∧ News h₀ L h' ((P, PySem.W.listOf (List.toArray ws) 0) :: news) ∧ IntsAre ws pts
theorem step_pts {prog : Program} {w : World} {A : Around} {env : Env} {st : Stmt} {rest : List Stmt} {Q : Flow → Shared → Prop} {E : Value → Shared → Prop} {s s' : Shared} {h₀ : Heap} {L : Addr} {h : Heap} {m : Str → Option Value} {news : List (Addr × Obj)}
    (F : Fr h₀ L h m) (N : News h₀ L h news) (pts : List Int)
    (h1 : wpAny (model prog w) A (exec st env) (PtsQ s h₀ L m pts news) (fun _ _ => False) s')
    (k : ∀ P ws h' tk, 1 ≤ tk → Fr h₀ L h' (fun z => if z = Str.ofString "points" then some (.ref P) else m z) → News h₀ L h' ((P, PySem.W.listOf (List.toArray ws) 0) :: news) → IntsAre ws pts → wpAny (model prog w) A (execs rest env) Q E { s with heap := h', toks := tk }) : wpAny (model prog w) A (execs (st :: rest) env) Q E s' := by
  refine wpAny_execs_cons (wpAny_mono h1 (fun f s₁ hf => ?_) (fun _ _ e => e.elim))
  obtain ⟨rfl, P, ws, h', tk, rfl, ht, F', N', hs⟩ := hf
  exact k P ws h' tk ht F' N' hs
def ptsOf (n : Nat) (S : Int) : List Int := rangeKs 0 n ++ [S.fmod 2000001 - 1000000]
end Mine
namespace Mine
theorem pts_in {n : Nat} {S : Int} (hn : n ≤ 10) : ∀ x ∈ ptsOf n S, -3000000 ≤ x ∧ x ≤ 3000000 := by
  intro x hx
  rcases List.mem_append.mp hx with h | h
  · have := mem_rangeKs h
    omega
  · rw [List.mem_singleton.mp h]
    have h1 : 0 ≤ S.fmod 2000001 := Int.fmod_nonneg_of_pos _ (by decide)
    have h2 : S.fmod 2000001 < 2000001 := Int.fmod_lt_of_pos _ (by decide)
    omega
end Mine
namespace Mine
theorem due_ints (bs : List Nat) : (bs.map fun n : Nat => (n : Int)).map (fun k : Int => if 0 < k then k + 1 else 0) = (bs.map fun d => if 0 < d then d + 1 else 0).map fun n : Nat => (n : Int) := by
  rw [List.map_map, List.map_map]
  apply List.map_congr_left
  intro d _
  show (if 0 < (d : Int) then (d : Int) + 1 else 0) = (((if 0 < d then d + 1 else 0) : Nat) : Int)
  by_cases h : 0 < d
  · rw [if_pos h, if_pos (by omega)]; rfl
  · rw [if_neg h, if_neg (by omega)]; rfl
end Mine
end

section
set_option maxRecDepth 100000
open PySem PySem.W PySem.Calls PyProof.Rows PySem.Spec
set_option Elab.async false
set_option linter.unusedVariables false
namespace Mine
local macro_rules | `(tactic| walk_at "exec For") => `(tactic| (with_unfolding_all refine wpAny_For ?_ (by intro _; rfl)))
local macro_rules | `(tactic| walk_at "exec For Name Call cons nil") => `(tactic| (with_unfolding_all refine wpAny_For ?_ (by intro _; rfl)))
local macro_rules | `(tactic| walk_at "exec For Name Name cons nil") => `(tactic| (with_unfolding_all refine wpAny_For ?_ (by intro _; rfl)))
section
variable {w : World} {mean : ExcName → Option Value} {mg mb : Str → Option Value}
theorem strs_init {vs : List Value} {ns : List Str} (h : StrsAre vs ns) : StrsAre (slicePick vs.toArray none (some (-1)) none).toList ns.dropLast := by
  have e : sliceBounds none (some (-1)) none vs.toArray.size = (((0 : Nat) : Int), ((vs.length - 1 : Nat) : Int), 1) := by
    simp only [sliceBounds, Option.getD_none, show (1 : Int) > 0 by decide, if_true, if_pos (show ((-1 : Int) < 0) by omega), List.size_toArray]
    congr 1
    congr 1
    omega
  rw [kmk_pick_nat _ e]
  show StrsAre ((vs.drop 0).take (vs.length - 1 - 0)) _
  rw [List.drop_zero, Nat.sub_zero, List.dropLast_eq_take, ← strs_len h]
  exact strs_take h _
theorem range_getD (rows : List Str) (f : Str → Int) : (List.range rows.length).map (fun i => f (rows.getD i ⟨#[]⟩)) = rows.map f := by
  apply List.ext_getElem
  · simp
  · intro i h1 h2
    simp at h1 h2 ⊢
    rw [List.getElem?_eq_getElem h1]
    rfl
theorem Wk.weaken {prog : Program} {A : Around} {I : Addr} {fp wr : List Addr} {n : Nat} {P P' : Nat → Value → Nat → Nat → Prop} {St : Nat → Heap → Prop} (W : Wk prog w A I fp wr n P St) (h : ∀ i v a b, a ≤ b → P i v a b → P' i v a b) : Wk prog w A I fp wr n P' St where
  sub := W.sub
  frame := W.frame
  item := fun i s Q E hi st k => W.item i s Q E hi st fun v h' tk hP ht => k v h' tk (h _ _ _ _ ht hP) ht
  done := W.done
set_option maxHeartbeats 8000000 in
theorem law_does (hF : ∀ (dr : List Int) (mo : Int), (dr.length = 3 ∧ mo = 3 ∨ dr.length = 4 ∧ mo = 2) → (∀ x ∈ dr, 0 ≤ x ∧ x < 1000000) → FactsOf dr mo) (l : Addr) (vals : List Value) (ns : List Int) (hn : ns.length ≤ 63) :
    DoesG w mean mg mb 164 [.ref l] 10 (fun s => s.heap.IsList l vals.toArray ∧ IntsAre vals ns) (fun v => v = .bool true) := by
  unfold DoesG
  intro dp un fr gd s Q E hd hu W hP hQ
  obtain ⟨hL, hI⟩ := hP
  have X := W.X
  have T := W.T
  refine enter W [(Str.ofString "script", .ref l)] _ (by k_is) (by k_is) (by show dp < _; omega) rfl rfl rfl (fun h₁ tk₁ ht₁ F N => ?_) rfl rfl rfl (by decide)
  try dsimp only
  k_fold
  iterate 10 walk1
  rename_i D1 ws h₂ F₂ N₂ hI₁ hC₁ hLe l1 hk1 hk2 g hI8 hL8 D2 h₃ tk₃ F₃ N₃ hDD
  obtain ⟨xs, hxs⟩ : ∃ xs : List Int, xs = (ns.take 4).map (fun k : Int => k.fmod 1000000) := ⟨_, rfl⟩
  have hx4 : xs.length ≤ 4 := by
    rw [hxs, List.length_map]
    exact List.length_take_le ..
  have hxb : ∀ x ∈ xs, 0 ≤ x ∧ x < 1000000 := by
    intro x hx
    rw [hxs] at hx
    obtain ⟨k, _, rfl⟩ := List.mem_map.mp hx
    exact ⟨Int.fmod_nonneg_of_pos _ (by decide), Int.fmod_lt_of_pos _ (by decide)⟩
  rw [← hxs] at hI8 hL8
  have nD := N₃ _ (.head _)
  replace N₃ : News s.heap s.heap.objs.size h₃ [(D2, LCg.lst ys)] := fun p hp => by
    rw [List.mem_singleton.mp hp]
    exact nD
  clear hxs N₂ F₂ hI₁ hDD hk2 hL8 hC₁ hLe l1 hk1
  iterate 26 walk1
  rename_i el h₄ F₄ N₄ l2
  have hi3 : IntsAre [Value.int 1747 tk₃, Value.int 1772 (tk₃ + 1), Value.int 840 (tk₃ + 1 + 1)] [1747, 1772, 840] := .cons _ _ (.cons _ _ (.cons _ _ .nil))
  have hpick := slice_ints_fromW hi3 (x := (xs.length : Int)) (by omega)
  refine slice_list (s := ⟨h₄, _, _, _, _⟩) (l := el) F₄ N₄ ⟨_, (N₄ _ (.head _)).1, rfl, _, rfl⟩ (.int _ _) .none (fun h₅ F₅ N₅ => ?_)
  dsimp only at N₅
  generalize slicePick (List.toArray [Value.int 1747 tk₃, Value.int 1772 (tk₃ + 1), Value.int 840 (tk₃ + 1 + 1)]) (some (xs.length : Int)) none none = ws5 at *
  obtain ⟨ys2, hys2⟩ : ∃ ys2 : List Int, ys2 = List.drop (xs.length : Int).toNat [1747, 1772, 840] := ⟨_, rfl⟩
  rw [← hys2] at hpick
  show wpAny _ _ _ _ _ _
  have hy2 : xs.length + ys2.length = 3 ∨ xs.length + ys2.length = 4 := by
    rw [hys2, List.length_drop]
    have : ([1747, 1772, 840] : List Int).length = 3 := rfl
    omega
  have hyb : ∀ x ∈ ys2, 0 ≤ x ∧ x < 1000000 := by
    intro x hx
    rw [hys2] at hx
    have := List.mem_of_mem_drop hx
    simp only [List.mem_cons, List.not_mem_nil, or_false] at this
    omega
  refine kmk_add_ints (a := D2) (b := h₄.objs.size + 1) F₅ N₅ ⟨_, (N₅ _ (.tail _ (.tail _ (.head _)))).1, rfl, _, rfl⟩ ⟨_, (N₅ _ (.head _)).1, rfl, _, by rw [Array.toArray_toList]⟩ hI8 hpick (fun D dv h₆ F₆ N₆ _ hdI => ?_) (by rw [sizeLine_eq]; omega)
  obtain ⟨dr, hdr⟩ : ∃ dr : List Int, dr = xs ++ ys2 := ⟨_, rfl⟩
  have hd34 : dr.length = 3 ∨ dr.length = 4 := by rw [hdr, List.length_append]; exact hy2
  have hdb : ∀ x ∈ dr, 0 ≤ x ∧ x < 1000000 := by
    intro x hx
    rw [hdr] at hx
    rcases List.mem_append.mp hx with h | h
    · exact hxb x h
    · exact hyb x h
  rw [← hdr] at hdI
  have nD6 := N₆ _ (.head _)
  replace N₆ : News s.heap s.heap.objs.size h₆ [(D, PySem.W.listOf dv.toArray 0)] := fun p hp => by
    rw [List.mem_singleton.mp hp]
    exact nD6
  clear hdr N₅ F₅ N₄ F₄ hpick hi3 hys2 hy2 hyb hxb hx4 nD hI8
  show wpAny _ _ _ _ _ _
  refine wpAny_tkgen 1 (by show 1 ≤ tk₃ + 1 + 1 + 1 + 1 + 1; omega) fun tk₆ ht₆ => ?_
  try dsimp only
  iterate 1 walk1
  rename_i h₇ F₇ N₇
  show wpAny _ _ _ _ _ _
  refine wpAny_tkgen 1 (by show 1 ≤ tk₆ + 1; omega) fun tk₇ ht₇ => ?_
  try dsimp only
  refine wpAny_execs_cons (wpAny_mono (Q := MostQ s tk₇ (.ref D2) D l (if dr.length = 3 then 3 else 2) (PySem.W.listOf dv.toArray 0)) (E := fun _ _ => False) ?_ (fun f s₁ hf => ?_) (fun _ _ e => e.elim))
  · k_steps
    · rename_i q h₈ F₈ N₈
      exact ⟨rfl, h₈, _, _, rfl, by dsimp only; omega, by rw [if_pos (by omega)]; exact F₈, N₈⟩
    · rename_i q h₈ F₈ N₈
      exact ⟨rfl, h₈, _, _, rfl, by dsimp only; omega, by rw [if_neg (by omega)]; exact F₈, N₈⟩
  · obtain ⟨rfl, h₈, tk₈, tm, rfl, ht₈, F₈, N₈⟩ := hf
    clear F₇ N₇
    obtain ⟨mo, hmo⟩ : ∃ mo : Int, mo = (if dr.length = 3 then (3 : Int) else 2) := ⟨_, rfl⟩
    rw [← hmo] at F₈
    show wpAny _ _ _ _ _ _
    k_steps
    rename_i bl h₉ ltb _ _ _ h₁₀ F₁₀ N₁₀
    have nDx := N₁₀ _ (.tail _ (.head _))
    have nB := N₁₀ _ (.head _)
    dsimp only at nDx nB
    have hmo23 : mo = 2 ∨ mo = 3 := by rw [hmo]; split <;> omega
    refine for_list (l := D) (vs := dv) (mu := [bl]) (by rfl) ⟨_, nDx.1, rfl, _, rfl⟩ ?_ ?_ rfl rfl F₁₀
      (fun i m h _ => m (Str.ofString "script") = some (.ref l) ∧ m (Str.ofString "drawn") = some (.ref D) ∧ (∃ t, m (Str.ofString "most") = some (.int mo t)) ∧ m (Str.ofString "board") = some (.ref bl) ∧ (∃ t, m (Str.ofString "dots") = some (.int (dotsTo dr mo i) t)) ∧
        (∃ t y, m (Str.ofString "mail") = some (.str y t) ∧ y.length ≤ 20 * i ∧ y = mailTo dr mo i) ∧ (∃ t y, m (Str.ofString "due") = some (.str y t) ∧ y.length ≤ 20 * i ∧ y = dueTo dr mo i) ∧
        ∃ bv bk, h.get? bl = some { cls := .type "list", data := .seq (List.toArray bv) bk } ∧ IntsAre bv (boardTo dr mo i)) ?_ ?_ ?_ ?_
    · intro q
      rcases List.mem_cons.mp q with q | q
      · exact nDx.2.1 q
      · exact Nat.ne_of_lt ltb (List.mem_singleton.mp q)
    · intro b hb
      rw [List.mem_singleton.mp hb]
      exact Heap.lt_size nB.1
    · rintro i m h h' tk tk' ⟨g1, g2, g3, g4, g5, g6, g7, bv, bk, g8, g9⟩ hk ht
      exact ⟨g1, g2, g3, g4, g5, g6, g7, bv, bk, hk _ _ _ _ g8 rfl, g9⟩
    · exact ⟨rfl, rfl, ⟨_, rfl⟩, rfl, ⟨_, rfl⟩, ⟨_, _, rfl, mail_len (xs := dr) hmo23 0 (by omega), rfl⟩, ⟨_, _, rfl, due_len (xs := dr) hmo23 0 (by omega), rfl⟩, [], 0, nB.1, .nil⟩
    · rintro i v m₁ h tk' hv htk ⟨g1, g2, ⟨tm', g3⟩, g4, ⟨td, g5⟩, ⟨ta, ym, g6, hym, hym'⟩, ⟨tb, yd, g7, hyd, hyd'⟩, bv, bk, g8, g9⟩ F₁ hx₁
      obtain ⟨x, tx, rfl, hx⟩ := intsAre_get hdI hv
      have hx2 := hdb x (List.mem_of_getElem? hx)
      have hi4 : i < 4 := by
        have := (List.getElem?_eq_some_iff.mp hx).1
        omega
      have hgx : dr.getD i 0 = x := by rw [List.getD_eq_getElem?_getD, hx]; rfl
      have hdts := dots_in (xs := dr) hmo23 i
      have hdts' := dots_in (xs := dr) hmo23 (i + 1)
      have hdd : dotsTo dr mo (i + 1) = dotsTo dr mo i + x.fmod mo := by rw [dotsTo, hgx]
      replace F₁ := (frSee ((frSee ((frSee ((frSee ((frSee ((frSee ((frSee F₁ (Str.ofString "script") (by exact g1))) (Str.ofString "drawn") (by exact g2))) (Str.ofString "most") (by exact g3))) (Str.ofString "board") (by exact g4))) (Str.ofString "dots") (by exact g5))) (Str.ofString "mail") (by exact g6))) (Str.ofString "due") (by exact g7))
      have N₁ := news_rest (h₀ := s.heap) (L := s.heap.objs.size) (h := h) (led := [(bl, { cls := .type "list", data := .seq (List.toArray bv) bk })]) (by
        intro p hp
        rw [List.mem_singleton.mp hp]
        exact ⟨g8, nB.2.1, nB.2.2⟩)
      have pre : ∀ h' m' news', Fr s.heap s.heap.objs.size h' m' → News s.heap s.heap.objs.size h' news' → (∀ p ∈ restOf s.heap s.heap.objs.size [bl] h, p ∈ news') → XB [s.heap.objs.size, bl] h h' := fun _ _ _ F' N' hs => xb_of F₁ F' N' hs
      have off := rest_off (h₀ := s.heap) (L := s.heap.objs.size) (mu := [bl]) (h := h) (List.mem_singleton.mpr (rfl : bl = bl))
      dsimp only [List.cons_append, List.nil_append, List.map_nil, List.map_cons] at N₁
      show wpAny _ _ _ _ _ _
      k_fold
      k_steps
      rename_i h₁₁ F₁₁ N₁₁
      rw [← hdd] at F₁₁ ⊢
      obtain ⟨dd, hdd'⟩ : ∃ dd, dd = dotsTo dr mo (i + 1) := ⟨_, rfl⟩
      rw [← hdd'] at F₁₁ hdts' ⊢
      have hd0 : 0 ≤ dd ∧ dd ≤ 8 := by omega
      refine append_head F₁₁ N₁₁ off (fun h₁₂ F₁₂ N₁₂ => ?_) (by
        have := intsAre_len g9
        rw [board_len] at this
        rw [sizeLine_eq, List.size_toArray]
        omega)
      clear F₁₁ N₁₁
      show wpAny _ _ _ _ _ _
      have hchr : ((x.fdiv 18).fmod 55000).toNat = tailN x := rfl
      have hts : tailS x = (if ([Str.ofString ".", Str.ofString "\x0d", Str.ofString "\n"].any fun z => z == ⟨#[tailN x]⟩) = true then Str.ofString "a" else ⟨#[tailN x]⟩) := tail_any x
      refine step_str (s := s) F₁₂ N₁₂ (Str.ofString "tail") ⟨#[tailN x]⟩ ?_ ?_
      · k_steps
        rename_i h₁₃ F₁₃ N₁₃
        rw [hchr] at F₁₃
        exact ⟨rfl, _, _, _, _, rfl, F₁₃, N₁₃, fun _ h => h⟩
      clear F₁₂ N₁₂
      intro h₁₃ tk₁₃ t₁₃ news₁₃ F₁₃ N₁₃ hs₁₃
      refine step_str (s := s) F₁₃ N₁₃ (Str.ofString "tail") (tailS x) ?_ ?_
      · k_steps
        · rename_i q h₁₄ F₁₄ N₁₄
          exact ⟨rfl, _, _, _, _, rfl, by rw [hts, if_pos q]; exact F₁₄, N₁₄, fun _ h => .tail _ h⟩
        · rename_i l₁₄ h₁₄ F₁₄ N₁₄ l1 q
          exact ⟨rfl, _, _, _, _, rfl, by rw [hts, if_neg (by rw [q]; exact Bool.false_ne_true)]; exact (frSee F₁₄ (Str.ofString "tail") rfl), N₁₄, fun _ h => .tail _ h⟩
      clear F₁₃ N₁₃
      intro h₁₄ tk₁₄ t₁₄ news₁₄ F₁₄ N₁₄ hs₁₄
      obtain ⟨c, hc⟩ : ∃ c, c = tailS x := ⟨_, rfl⟩
      have hcl : c.length = 1 := by rw [hc]; rfl
      have hlel : (lineEnd x).length ≤ 2 := lineEnd_len x
      obtain ⟨le, hle⟩ : ∃ le, le = lineEnd x := ⟨_, rfl⟩
      rw [← hle] at hlel
      rw [← hc] at F₁₄
      refine step_str (s := s) F₁₄ N₁₄ (Str.ofString "mail") (mailTo dr mo (i + 1)) ?_ ?_
      · k_steps
        rename_i l₁₅ h₁₅ F₁₅ N₁₅ l1
        refine item_litK (vs := [_, _, _]) ⟨_, (N₁₅ _ (.head _)).1, rfl, _, rfl⟩ (line_in x).1 (by have := (line_in x).2; omega) (lineEnd_at x _ _ _) ?_
        rw [← hle]
        k_steps
        rename_i F₁₆ N₁₆
        exact ⟨rfl, _, _, _, _, rfl, by rw [mailTo, ← hym', hgx, ← hdd', ← hc, ← hle]; exact F₁₆, N₁₆, fun _ h => .tail _ h⟩
      clear F₁₄ N₁₄
      intro h₁₅ tk₁₅ t₁₅ news₁₅ F₁₅ N₁₅ hs₁₅
      refine step_str (s := s) F₁₅ N₁₅ (Str.ofString "due") (dueTo dr mo (i + 1)) ?_ ?_
      · k_steps
        · rename_i q _ _ _ _ _ _ _ _ _ _ _ _ _ F₁₆ N₁₆
          exact ⟨rfl, _, _, _, _, rfl, by rw [dueTo, ← hyd', hgx, ← hdd', ← hc, if_pos (by omega)]; exact F₁₆, N₁₆, fun _ h => h⟩
        · rename_i q _ _ _ _ _ _ _ _ _ _ _ _ _ F₁₆ N₁₆
          exact ⟨rfl, _, _, _, _, rfl, by rw [dueTo, ← hyd', hgx, ← hdd', ← hc, if_neg (by omega)]; exact F₁₆, N₁₆, fun _ h => h⟩
      clear F₁₅ N₁₅
      intro h₁₆ tk₁₆ t₁₆ news₁₆ F₁₆ N₁₆ hs₁₆
      k_steps
      have hnb : ∀ p, p ∈ (bl, { cls := .type "list", data := .seq (bv.toArray.push (Value.int dd (tk' + 1))) (bk + 1) }) :: restOf s.heap s.heap.objs.size [bl] h → p ∈ news₁₆ := fun p hp => hs₁₆ _ (hs₁₅ _ (hs₁₄ _ (hs₁₃ _ hp)))
      have hl1 := mail_len (xs := dr) hmo23 (i + 1) (by omega)
      have hl2 := due_len (xs := dr) hmo23 (i + 1) (by omega)
      exact ⟨_, _, _, rfl, F₁₆, pre _ _ _ F₁₆ N₁₆ fun p hp => hnb p (.tail _ hp), ⟨rfl, rfl, ⟨_, rfl⟩, rfl, ⟨_, by rw [← hdd']; rfl⟩, ⟨_, _, rfl, hl1, rfl⟩, ⟨_, _, rfl, hl2, rfl⟩, bv ++ [.int dd (tk' + 1)], bk + 1, by
        rw [(N₁₆ _ (hnb _ (.head _))).1]
        simp, by rw [boardTo, ← hdd']; exact ints_snoc g9 _ _⟩⟩
    · rintro m₁ h tk' htk ⟨g1, g2, ⟨tm', g3⟩, g4, ⟨td, g5⟩, ⟨ta, ym, g6, hym, hym'⟩, ⟨tb, yd, g7, hyd, hyd'⟩, bv, bk, g8, g9⟩ F₁ hx₁
      have hdl : dv.length = dr.length := intsAre_len hdI
      rw [hdl] at hym hym' hyd hyd' g9
      have FO : FactsOf dr mo := hF dr mo (by rw [hmo]; split <;> omega) hdb
      have hD₁ := hx₁ D _ (by
        intro q
        rcases List.mem_cons.mp q with q | q
        · exact nDx.2.1 q
        · exact Nat.ne_of_lt ltb (List.mem_singleton.mp q)) nDx.1
      replace F₁ := (frSee ((frSee ((frSee ((frSee ((frSee ((frSee ((frSee F₁ (Str.ofString "script") (by exact g1))) (Str.ofString "drawn") (by exact g2))) (Str.ofString "most") (by exact g3))) (Str.ofString "board") (by exact g4))) (Str.ofString "dots") (by exact g5))) (Str.ofString "mail") (by exact g6))) (Str.ofString "due") (by exact g7))
      have N₁ : News s.heap s.heap.objs.size h [(bl, { cls := .type "list", data := .seq (List.toArray bv) bk }), (D, PySem.W.listOf dv.toArray 0)] := by
        intro p hp
        rcases List.mem_cons.mp hp with e | hp
        · subst e
          exact ⟨g8, nB.2.1, nB.2.2⟩
        · rw [List.mem_singleton.mp hp]
          exact ⟨hD₁, nDx.2.1, nDx.2.2⟩
      have hyml : ym.cps.size ≤ 80 := by
        have : ym.length = ym.cps.size := rfl
        omega
      show wpAny _ _ _ _ _ _
      k_fold
      k_steps
      refine Does.use (quote_does ym ta (by omega) (by rw [hym']; exact FO.norm)) W F₁ N₁ (by show dp + 1 + 3 < _; omega) (by show un + 3 + 8 * 3 + 8 < _; omega) trivial (fun v h₁₂ tk₁₂ F₁₂ N₁₂ he₁₂ ht₁₂ hr => ?_)
      obtain ⟨ts, rfl⟩ := hr
      have hq : stuffS (normS ym) = yd := by rw [hym', hyd']; exact FO.quote
      rw [hq]
      clear F₁ N₁
      have hyy : (yd != yd) = false := by simp
      iterate 11 walk1
      rename_i h₁₃ tk₁₃ F₁₃ N₁₃
      refine step_pts (s := s) F₁₃ N₁₃ (ptsOf (dr.length + 1) ns.sum) ?_ ?_
      · k_steps
        rename_i P ws hx hws lx hy F₁₄ N₁₄
        have e5 : ((dr.length : Int) + 1 - 0).toNat = dr.length + 1 := by omega
        rw [e5] at hws
        exact ⟨rfl, P, ws, _, _, rfl, by dsimp only; omega, F₁₄, fun p hp => by
          rcases List.mem_cons.mp hp with e | hp
          · exact N₁₄ p (e ▸ .head _)
          · exact N₁₄ p (.tail _ (.tail _ (.tail _ hp))), hws⟩
      clear F₁₃ N₁₃
      intro P ws h₁₄ tk₁₄ ht₁₄ F₁₄ N₁₄ hws
      have hbI : IntsAre bv ((boardN dr mo).map (fun n : Nat => (n : Int))) := by
        have := FO.board
        unfold ofNats at this
        rw [this]
        exact g9
      have nP := N₁₄ _ (.head _)
      have nBl := N₁₄ _ (.tail _ (.head _))
      dsimp only at nP nBl
      k_steps
      have hlen := FO.len
      refine DoesG.use (stands_does bl bl P bv bv ws (boardN dr mo) (ptsOf (dr.length + 1) ns.sum) (by omega) (by omega) (fun x hx => Nat.le_succ_of_le (FO.le x hx)) FO.law (pts_in (by omega))) W F₁₄ N₁₄ (by show dp + 1 + 8 < _; omega) (by show un + 3 + 8 * 8 + 8 < _; omega) ⟨⟨_, nBl.1, rfl, _, rfl⟩, hbI, ⟨_, nBl.1, rfl, _, rfl⟩, hbI, ⟨_, nP.1, rfl, _, rfl⟩, hws, ht₁₄⟩ (fun v h₁₅ tk₁₅ gs₁₅ F₁₅ N₁₅ he₁₅ ht₁₅ hb₁₅ hr => ?_)
      subst hr
      dsimp only at ht₁₅
      clear F₁₄ N₁₄
      iterate 3 walk1
      obtain ⟨rows, hrows⟩ : ∃ rows : List Str, rows = (Txt.split yd (Str.ofString "\r\n")).dropLast := ⟨_, rfl⟩
      have hrn : rows.map (fun r : Str => ((r.cps.toList.count 46 : Nat) : Int)) = ofNats (dueN dr mo) := by rw [hrows, hyd']; exact FO.rows
      have hrl : rows.length = dr.length := by
        have := congrArg List.length hrn
        rw [List.length_map] at this
        rw [this]
        unfold ofNats dueN
        rw [List.length_map, List.length_map, hlen]
      have K₁₅ := news_rest (h₀ := s.heap) (L := s.heap.objs.size) (h := h₁₅) (led := [(P, PySem.W.listOf ws.toArray 0), (bl, { cls := .type "list", data := .seq (List.toArray bv) bk })]) (by
        intro p hp
        rcases List.mem_cons.mp hp with e | hp
        · exact N₁₅ p (e ▸ .head _)
        · rw [List.mem_singleton.mp hp]
          exact N₁₅ _ (.tail _ (.head _)))
      have nDb : D ≠ s.heap.objs.size := nDx.2.1
      dsimp only [List.cons_append, List.nil_append, List.map_nil, List.map_cons] at K₁₅
      have base : ∀ h' m' news', Fr s.heap s.heap.objs.size h' m' → News s.heap s.heap.objs.size h' news' → (∀ p ∈ (P, PySem.W.listOf ws.toArray 0) :: (bl, { cls := .type "list", data := .seq (List.toArray bv) bk }) :: restOf s.heap s.heap.objs.size [P, bl] h₁₅, p ∈ news') → XB [s.heap.objs.size] h₁₅ h' := fun h' m' news' F' N' hs b o hb e => by
        by_cases hbP : b = P
        · have := N₁₅ _ (.head _)
          dsimp only at this
          rw [hbP, this.1] at e
          cases e
          rw [hbP]
          exact (N' _ (hs _ (.head _))).1
        · by_cases hbl : b = bl
          · have := N₁₅ _ (.tail _ (.head _))
            dsimp only at this
            rw [hbl, this.1] at e
            cases e
            rw [hbl]
            exact (N' _ (hs _ (.tail _ (.head _)))).1
          · exact xb_of F₁₅ F' N' (mu := [P, bl]) (fun p hp => hs _ (.tail _ (.tail _ hp))) b o (fun q => by
              rcases List.mem_cons.mp q with q | q
              · exact hb (List.mem_singleton.mpr q)
              · rcases List.mem_cons.mp q with q | q
                · exact hbP q
                · exact hbl (List.mem_singleton.mp q)) e
      have e2 := F₁₅.ns
      obtain ⟨m₁₅, hm₁₅⟩ : ∃ m, m = _ ∧ Fr s.heap s.heap.objs.size h₁₅ m := ⟨_, rfl, F₁₅⟩
      clear N₁₅
      have keepL : ∀ b o, s.heap.get? b = some o → b ≠ s.heap.objs.size := fun b o e q => Nat.lt_irrefl _ (q ▸ Heap.lt_size e)
      have hoL : ∃ o, h₁₅.get? s.heap.objs.size = some o := by
        obtain ⟨oL, _, _, q, _⟩ := e2
        exact ⟨oL, q⟩
      refine wpAny_execs_cons ?_
      refine comp_assign (m := m₁₅) (n := rows.length) (P := fun i v a b => (∃ t, v = .str (rows.getD i ⟨#[]⟩) t) ∧ a ≤ b) (fun i y a b => ∃ t : Nat, y = .int ((rows.getD i ⟨#[]⟩).cps.toList.count 46) t) (cl := []) (by with_unfolding_all rfl) (by rfl) rfl (by decide) rfl (by decide) (fun _ => rfl) (by omega) s.heap.objs.size
        (fun h => XB [s.heap.objs.size] h₁₅ h ∧ Fr s.heap s.heap.objs.size h m₁₅) ?_ ?_ ?_ rfl rfl (fun h r => r.2.ns) hoL ?_ ?_ ?_
      · rintro h h' ⟨xb, Fh⟩ k
        exact ⟨fun b o hb e => k b o ⟨o, e⟩ (xb b o hb e), ⟨Fh.ns.at' fun o e => k _ o hoL e, fun b o e => k b o ⟨o, F₁₅.keep _ _ e⟩ (Fh.keep b o e), Fh.above⟩⟩
      · rintro h ⟨xb, Fh⟩ b o e
        by_cases q : b = s.heap.objs.size
        · rw [q]; exact Fh.ns.lt
        · exact Heap.lt_size (xb b o (fun q' => q (List.mem_singleton.mp q')) e)
      · rintro h ⟨xb, Fh⟩
        exact Nat.le_trans Fh.above (Nat.le_of_lt Fh.ns.lt)
      · refine wpAny_with_toks (n := tk₁₅) (Nat.le_refl _) ?_
        k_steps
        rename_i lst h₁₆ k₁₆ a7 a6 a5 a4 F₁₆ N₁₆ h₁₇ F₁₇ N₁₇ htk₁₇
        have hst := strs_init a6
        rw [a7, ← hrows] at hst
        have hvl := strs_len hst
        have xb₁₇ := base _ _ _ F₁₇ N₁₇ (fun p hp => .tail _ (.tail _ hp))
        rw [← hm₁₅.1] at F₁₇
        refine wpAny_mono (iter_listR (s := ⟨h₁₅, gs₁₅, s.drawn, tk₁₅, s.os⟩) (R := fun h => XB [s.heap.objs.size] h₁₅ h ∧ Fr s.heap s.heap.objs.size h m₁₅) (h := h₁₇) (vs := (slicePick (strValues lst).toArray none (some (-1)) none).toList) ?_ ?_ htk₁₇ rfl ⟨_, (N₁₇ _ (.head _)).1, rfl, _, by rw [Array.toArray_toList]⟩) (fun it s₂ hit => ?_) (fun _ _ e => e)
        · intro h' e
          exact ⟨fun b o hb q => e _ _ (xb₁₇ b o hb q), (frExt F₁₇ e)⟩
        · cases q : h₁₅.get? h₁₇.objs.size with
          | none => rfl
          | some o =>
            by_cases q' : h₁₇.objs.size = s.heap.objs.size
            · exact absurd F₁₇.ns.lt (by rw [q']; exact Nat.lt_irrefl _)
            · exact absurd (Heap.lt_size (xb₁₇ _ _ (fun z => q' (List.mem_singleton.mp z)) q)) (Nat.lt_irrefl _)
        · obtain ⟨I, fp, wr, St, h₂, tk₂, rfl, rfl, q1, q2, q3, q4, q5, q6, q7⟩ := hit
          rw [hvl] at q3
          exact ⟨I, fp, wr, St, h₂, tk₂, rfl, rfl, q1, q2, q3.weaken (fun i v a b hab hv => by
            obtain ⟨z, t, e, hz⟩ := strs_get hst hv
            exact ⟨⟨t, by rw [e, List.getD_eq_getElem?_getD, hz]; rfl⟩, hab⟩), q4, q5, q6, q7⟩
      · rintro i v C m s₁ E' t₀ t₁ hi ⟨⟨tv, rfl⟩, htt⟩ ht₀ ht₁ hg hr hC hN hx
        have F₁₆ := hr.2
        have N₁₆ : News s.heap s.heap.objs.size s₁.heap [] := fun _ hp => nomatch hp
        k_steps
        refine Does.use (countS_does (rows.getD i ⟨#[]⟩) (Str.ofString ".") tv s₁.toks 46 dot_str (by dsimp only at ht₀; omega)) W F₁₆ N₁₆ (by show dp + 1 + 2 < _; omega) (by show un + 3 + 8 * 2 + 8 < _; omega) (by show s₁.toks < s₁.toks + 1; omega) (fun v h' tk' F' N' he ht hr => ?_)
        exact ⟨_, _, rfl, he, by dsimp only at ht; omega, hr⟩
      · intro A₀ h₁₆ h₁₇ tk₁₆ tk₁₇ ys ky hA r₁₆ ht₁₆ ht₁₇ hk hns₁₇ hgA hM
        dsimp only at hA ht₁₆ hk
        have hyI := madeC_are hM
        have hyE : (List.range rows.length).map (fun i => (((rows.getD i ⟨#[]⟩).cps.toList.count 46 : Nat) : Int)) = ofNats (dueN dr mo) := by rw [← hrn]; exact range_getD rows (fun r : Str => ((r.cps.toList.count 46 : Nat) : Int))
        rw [hyE] at hyI
        have AL : A₀ ≠ s.heap.objs.size := fun q => by
          obtain ⟨oL, q'⟩ := hoL
          rw [← q, hA] at q'
          cases q'
        have As : s.heap.get? A₀ = none := by
          cases q : s.heap.get? A₀ with
          | none => rfl
          | some o =>
            have := F₁₅.keep _ _ q
            rw [hA] at this
            cases this
        have F₁₇ : Fr s.heap s.heap.objs.size h₁₇ (fun z => if z = Str.ofString "after" then some (.ref A₀) else m₁₅ z) := ⟨hns₁₇, fun b o e => hk b o (keepL b o e) ⟨o, F₁₅.keep _ _ e⟩ (r₁₆.2.keep _ _ e), r₁₆.2.above⟩
        have N₁₇ : News s.heap s.heap.objs.size h₁₇ [(A₀, { cls := .type "list", data := .seq (List.toArray ys) ky }), (P, PySem.W.listOf ws.toArray 0), (bl, { cls := .type "list", data := .seq (List.toArray bv) bk })] := by
          intro p hp
          rcases List.mem_cons.mp hp with e | hp
          · subst e
            exact ⟨hgA, AL, As⟩
          · have := K₁₅ p (by
              rcases List.mem_cons.mp hp with e | hp
              · exact e ▸ .head _
              · exact .tail _ (List.mem_singleton.mp hp ▸ .head _))
            exact ⟨hk _ _ this.2.1 ⟨_, this.1⟩ (r₁₆.1 _ _ (fun q => this.2.1 (List.mem_singleton.mp q)) this.1), this.2⟩
        rw [hm₁₅.1] at F₁₇
        clear F₁₅ K₁₅
        show wpAny _ _ _ _ _ _
        iterate 8 walk1
        refine wpAny_with_toks (n := 1) (by dsimp only; omega) ?_
        k_steps
        rename_i gg hy8 hl8 D₂ h₁₈ tk₁₈ F₁₈ N₁₈ hne ht₁₈
        try dsimp only at ht₁₈
        have n1 := N₁₈ _ (.head _)
        have n2 := N₁₈ _ (.tail _ (.head _))
        have n3 := N₁₈ _ (.tail _ (.tail _ (.head _)))
        dsimp only at n1 n2 n3
        rw [due_ints] at hy8
        refine DoesG.use (stands_does A₀ D₂ P _ _ ws (dueN dr mo) (ptsOf (dr.length + 1) ns.sum) (by unfold dueN; rw [List.length_map]; omega) (by unfold dueN; rw [List.length_map]; omega) (fun x hx => by
          obtain ⟨d, hd', rfl⟩ := List.mem_map.mp hx
          have := FO.le d hd'
          split <;> omega) FO.law' (pts_in (by omega))) W F₁₈ N₁₈ (by show dp + 1 + 8 < _; omega) (by show un + 3 + 8 * 8 + 8 < _; omega) ⟨⟨_, n2.1, rfl, _, rfl⟩, hyI, ⟨_, n1.1, rfl, _, rfl⟩, hy8, ⟨_, n3.1, rfl, _, rfl⟩, hws, ht₁₈⟩ (fun v h₁₉ tk₁₉ gs₁₉ F₁₉ N₁₉ he₁₉ ht₁₉ hb₁₉ hr => ?_)
        subst hr
        exact fun htt => hQ _ _ _ gs₁₉ F₁₉.keep htt (fun q => hb₁₉ (hb₁₅ q)) rfl
end
end Mine
end

section
set_option maxRecDepth 100000
open PySem PyProof.Rows
set_option Elab.async false
set_option linter.unusedVariables false
namespace Mine
theorem join_empty (ps : List Str) : (Txt.join ⟨#[]⟩ ps).cps.toList = ps.flatMap (fun p => p.cps.toList) := by
  show ((ps.drop 1).foldl (fun (acc : Array Nat) (p : Str) => acc ++ #[] ++ p.cps) (ps.headD Str.empty).cps).toList = _
  have key : ∀ (r : List Str) (a : Array Nat), (r.foldl (fun (acc : Array Nat) (p : Str) => acc ++ #[] ++ p.cps) a).toList = a.toList ++ r.flatMap (fun p => p.cps.toList) := by
    intro r
    induction r with
    | nil => intro a; simp
    | cons p r ih =>
      intro a
      rw [List.foldl_cons, ih]
      simp
  cases ps with
  | nil => rfl
  | cons p r =>
    show (r.foldl _ p.cps).toList = _
    rw [key]
    rfl
theorem drop_get {T : Array Nat} {d c : Nat} {l : List Nat} (h : T.toList.drop d = c :: l) : T[d]? = some c ∧ T.toList.drop (d + 1) = l ∧ d < T.size := by
  have h1 : T.toList[d]? = some c := by
    have := congrArg List.head? h
    rw [List.head?_drop] at this
    exact this
  refine ⟨by rw [← Array.getElem?_toList]; exact h1, ?_, ?_⟩
  · rw [← List.drop_drop, h]; rfl
  · have := (List.getElem?_eq_some_iff.mp h1).1
    simpa using this
theorem drop_cons {T : Array Nat} {d : Nat} (h : d < T.size) : T.toList.drop d = T[d]?.getD 0 :: T.toList.drop (d + 1) := by
  rw [List.drop_eq_getElem_cons (by simpa using h)]
  congr 1
  rw [Array.getElem?_eq_getElem h]
  simp
theorem ext_cons {T : Array Nat} {d b : Nat} (h : d < T.size) (hb : d < b) : (T.extract d b).toList = T[d]?.getD 0 :: (T.extract (d + 1) b).toList := by
  rw [Array.toList_extract, Array.toList_extract, List.extract_eq_take_drop, List.extract_eq_take_drop, drop_cons h]
  have : b - d = (b - (d + 1)) + 1 := by omega
  rw [this, List.take_succ_cons]
theorem ext_nil {T : Array Nat} {d : Nat} : (T.extract d d).toList = [] := by
  rw [Array.toList_extract, List.extract_eq_take_drop, Nat.sub_self, List.take_zero]

def normL : Bool → List Nat → List Nat
  | _, [] => []
  | pr, c :: l => if c = 13 then 13 :: 10 :: normL true l else if c = 10 then (if pr then normL false l else 13 :: 10 :: normL false l) else c :: normL false l
theorem normL_pr {l : List Nat} (h : l.head? ≠ some 10) : normL true l = normL false l := by
  cases l with
  | nil => rfl
  | cons c l =>
    have : c ≠ 10 := fun q => h (by rw [q]; rfl)
    simp [normL, this]
def stuffL : Bool → List Nat → List Nat
  | _, [] => []
  | st, c :: l => if st = true ∧ c = 46 then 46 :: 46 :: stuffL false l else c :: stuffL (c == 10) l

theorem nx2_norm (T : Array Nat) : ∀ (m d : Nat), d + m = T.size → match nx2 T d m with
    | some b => d ≤ b ∧ b < T.size ∧ normL false (T.toList.drop d) = (T.extract d b).toList ++ [13, 10] ++ normL false (T.toList.drop (b + wd2 T b))
    | none => normL false (T.toList.drop d) = (T.extract d T.size).toList := by
  intro m
  induction m with
  | zero =>
    intro d h
    have : d = T.size := by omega
    subst this
    show normL false _ = _
    rw [ext_nil, List.drop_eq_nil_of_le (by simp)]
    rfl
  | succ m ih =>
    intro d h
    have hd : d < T.size := by omega
    rw [nx2]
    by_cases hc : (T[d]?.getD 0 == 10 || T[d]?.getD 0 == 13) = true
    · rw [if_pos hc]
      refine ⟨Nat.le_refl _, hd, ?_⟩
      rw [ext_nil, drop_cons hd, List.nil_append]
      simp only [Bool.or_eq_true, beq_iff_eq] at hc
      rcases hc with hc | hc
      · have hw : wd2 T d = 1 := by
          unfold wd2
          rw [if_neg (by rw [hc]; omega)]
        rw [hw, hc]
        rfl
      · by_cases hn : d + 1 < T.size ∧ T[d + 1]?.getD 0 = 10
        · have hw : wd2 T d = 2 := by
            unfold wd2
            rw [if_pos ⟨hc, hn⟩]
          rw [hw, hc, drop_cons hn.1, hn.2]
          rfl
        · have hw : wd2 T d = 1 := by
            unfold wd2
            rw [if_neg (fun q => hn q.2)]
          rw [hw, hc]
          show 13 :: 10 :: normL true _ = _
          rw [normL_pr]
          · rfl
          · intro q
            by_cases h1 : d + 1 < T.size
            · rw [drop_cons h1] at q
              exact hn ⟨h1, Option.some.inj q⟩
            · rw [List.drop_eq_nil_of_le (by simp; omega)] at q
              cases q
    · rw [if_neg hc]
      have hi := ih (d + 1) (by omega)
      simp only [Bool.or_eq_true, beq_iff_eq, not_or] at hc
      have e1 : normL false (T.toList.drop d) = T[d]?.getD 0 :: normL false (T.toList.drop (d + 1)) := by
        rw [drop_cons hd]
        simp [normL, hc.1, hc.2]
      cases q : nx2 T (d + 1) m with
      | some b =>
        rw [q] at hi
        obtain ⟨h1, h2, h3⟩ := hi
        refine ⟨by omega, h2, ?_⟩
        rw [e1, h3, ext_cons hd (by omega)]
        rfl
      | none =>
        rw [q] at hi
        rw [e1, hi, ext_cons hd (by omega)]
theorem sub_norm (T : Array Nat) : ∀ (n d : Nat), T.size - d < n → d ≤ T.size → (subL T (fun s => nx2 T s (T.size - s)) (wd2 T) crlf n d).flatMap (fun p => p.cps.toList) = normL false (T.toList.drop d) := by
  intro n
  induction n with
  | zero => intro d h; omega
  | succ n ih =>
    intro d h hd
    have hx := nx2_norm T (T.size - d) d (by omega)
    rw [subL]
    cases q : nx2 T d (T.size - d) with
    | none =>
      rw [q] at hx
      dsimp only
      by_cases hlt : d < T.size
      · rw [if_pos hlt, hx]
        simp
      · have : d = T.size := by omega
        subst this
        rw [if_neg (Nat.lt_irrefl _), hx, ext_nil]
        rfl
    | some b =>
      rw [q] at hx
      obtain ⟨h1, h2, h3⟩ := hx
      dsimp only
      have hw : 1 ≤ wd2 T b ∧ b + wd2 T b ≤ T.size := by
        unfold wd2
        split <;> omega
      rw [List.flatMap_append, List.flatMap_cons, ih _ (by omega) (by omega), h3]
      by_cases hlt : d < b
      · rw [if_pos hlt]
        simp [crlf]
      · have : d = b := by omega
        subst this
        rw [if_neg (Nat.lt_irrefl _), ext_nil]
        simp [crlf]
theorem norm_list (x : Str) : (normS x).cps.toList = normL false x.cps.toList := by
  unfold normS
  rw [join_empty, sub_norm _ _ _ (by omega) (by omega), List.drop_zero]

theorem nx1_stuff (T : Array Nat) : ∀ (m d : Nat), d + m = T.size → match nx1 T d m with
    | some b => d ≤ b ∧ b < T.size ∧ T[b]?.getD 0 = 46 ∧ stuffL (d == 0 || T[d - 1]?.getD 0 == 10) (T.toList.drop d) = (T.extract d b).toList ++ [46, 46] ++ stuffL false (T.toList.drop (b + 1))
    | none => stuffL (d == 0 || T[d - 1]?.getD 0 == 10) (T.toList.drop d) = (T.extract d T.size).toList := by
  intro m
  induction m with
  | zero =>
    intro d h
    have : d = T.size := by omega
    subst this
    show stuffL _ _ = _
    rw [ext_nil, List.drop_eq_nil_of_le (by simp)]
    rfl
  | succ m ih =>
    intro d h
    have hd : d < T.size := by omega
    rw [nx1]
    by_cases hc : ((d == 0 || T[d - 1]?.getD 0 == 10) && T[d]?.getD 0 == 46) = true
    · rw [if_pos hc]
      obtain ⟨hc1, hc2⟩ := Bool.and_eq_true_iff.mp hc
      rw [beq_iff_eq] at hc2
      refine ⟨Nat.le_refl _, hd, hc2, ?_⟩
      rw [ext_nil, drop_cons hd, List.nil_append, hc2, stuffL, if_pos ⟨hc1, rfl⟩]
      rfl
    · rw [if_neg hc]
      have hi := ih (d + 1) (by omega)
      rw [Nat.add_sub_cancel, show (d + 1 == 0) = false from rfl, Bool.false_or] at hi
      have e1 : stuffL (d == 0 || T[d - 1]?.getD 0 == 10) (T.toList.drop d) = T[d]?.getD 0 :: stuffL (T[d]?.getD 0 == 10) (T.toList.drop (d + 1)) := by
        rw [drop_cons hd, stuffL, if_neg]
        rintro ⟨h1, h2⟩
        exact hc (by rw [h1, h2]; rfl)
      cases q : nx1 T (d + 1) m with
      | some b =>
        rw [q] at hi
        obtain ⟨h1, h2, h3, h4⟩ := hi
        refine ⟨by omega, h2, h3, ?_⟩
        rw [e1, h4, ext_cons hd (by omega)]
        rfl
      | none =>
        rw [q] at hi
        rw [e1, hi, ext_cons hd (by omega)]
theorem sub_stuff (T : Array Nat) : ∀ (n d : Nat), T.size - d < n → d ≤ T.size → (subL T (fun s => nx1 T s (T.size - s)) (fun _ => 1) dots n d).flatMap (fun p => p.cps.toList) = stuffL (d == 0 || T[d - 1]?.getD 0 == 10) (T.toList.drop d) := by
  intro n
  induction n with
  | zero => intro d h; omega
  | succ n ih =>
    intro d h hd
    have hx := nx1_stuff T (T.size - d) d (by omega)
    rw [subL]
    cases q : nx1 T d (T.size - d) with
    | none =>
      rw [q] at hx
      dsimp only
      by_cases hlt : d < T.size
      · rw [if_pos hlt, hx]
        simp
      · have : d = T.size := by omega
        subst this
        rw [if_neg (Nat.lt_irrefl _), hx, ext_nil]
        rfl
    | some b =>
      rw [q] at hx
      obtain ⟨h1, h2, hb, h3⟩ := hx
      dsimp only
      have hi := ih (b + 1) (by omega) (by omega)
      rw [Nat.add_sub_cancel, hb, show (b + 1 == 0 || (46 : Nat) == 10) = false from rfl] at hi
      rw [List.flatMap_append, List.flatMap_cons, hi, h3]
      by_cases hlt : d < b
      · rw [if_pos hlt]
        simp [dots]
      · have : d = b := by omega
        subst this
        rw [if_neg (Nat.lt_irrefl _), ext_nil]
        simp [dots]
theorem stuff_list (x : Str) : (stuffS x).cps.toList = stuffL true x.cps.toList := by
  unfold stuffS
  rw [join_empty, sub_stuff _ _ _ (by omega) (by omega), List.drop_zero]
  rfl
end Mine
end

section
set_option maxRecDepth 100000
open PySem PySem.W PySem.Calls PyProof.Rows PySem.Spec
set_option Elab.async false
set_option linter.unusedVariables false
namespace Mine
theorem app_list (a b : Str) : (a ++ b).cps.toList = a.cps.toList ++ b.cps.toList := by
  rw [PySem.Str.cps_append, Array.toList_append]
/-- the row of the due text -/
def dueRow (xs : List Int) (mo : Int) (i : Nat) : List Nat := List.replicate (if 0 < dotsTo xs mo (i + 1) then dotsTo xs mo (i + 1) + 1 else 0).toNat 46 ++ [tailOf (xs.getD i 0)]
def midRow (xs : List Int) (mo : Int) (i : Nat) : List Nat := List.replicate (dotsTo xs mo (i + 1)).toNat 46 ++ [tailOf (xs.getD i 0)]
def midTo (xs : List Int) (mo : Int) : Nat → List Nat
  | 0 => []
  | i + 1 => midTo xs mo i ++ midRow xs mo i ++ [13, 10]
theorem tail_ok (x : Int) : tailOf x ≠ 46 ∧ tailOf x ≠ 13 ∧ tailOf x ≠ 10 := by
  unfold tailOf
  split
  · omega
  · rename_i h
    omega
theorem mail_list (xs : List Int) (mo : Int) (i : Nat) : (mailTo xs mo (i + 1)).cps.toList = (mailTo xs mo i).cps.toList ++ midRow xs mo i ++ (lineEnd (xs.getD i 0)).cps.toList := by
  rw [mailTo, app_list, app_list, app_list, mul_cps 46 _ dot_str]
  unfold midRow
  simp [tailS]
theorem crlf_str : Str.ofString "\r\n" = ⟨#[13, 10]⟩ := by kernel_rfl
theorem lf_str : Str.ofString "\n" = ⟨#[10]⟩ := by kernel_rfl
theorem cr_str : Str.ofString "\r" = ⟨#[13]⟩ := by kernel_rfl
theorem empty_str : (Str.ofString "").cps.toList = [] := by kernel_rfl
theorem due_list (xs : List Int) (mo : Int) (i : Nat) : (dueTo xs mo (i + 1)).cps.toList = (dueTo xs mo i).cps.toList ++ dueRow xs mo i ++ [13, 10] := by
  rw [dueTo, app_list, app_list, app_list, mul_cps 46 _ dot_str, crlf_str]
  unfold dueRow
  simp [tailS]
theorem norm_rep (k : Nat) (l : List Nat) : normL false (List.replicate k 46 ++ l) = List.replicate k 46 ++ normL false l := by
  induction k with
  | zero => rfl
  | succ k ih =>
    rw [List.replicate_succ, List.cons_append, normL, if_neg (by omega), if_neg (by omega), ih]
    rfl
theorem norm_row (xs : List Int) (mo : Int) (i : Nat) (l : List Nat) (hl : l.head? ≠ some 10) : normL false (midRow xs mo i ++ (lineEnd (xs.getD i 0)).cps.toList ++ l) = midRow xs mo i ++ [13, 10] ++ normL false l := by
  have ht := tail_ok (xs.getD i 0)
  unfold midRow
  rw [List.append_assoc, List.append_assoc, norm_rep]
  have e1 : ∀ r, normL false ([tailOf (xs.getD i 0)] ++ r) = tailOf (xs.getD i 0) :: normL false r := by
    intro r
    rw [List.cons_append, List.nil_append, normL, if_neg ht.2.1, if_neg ht.2.2]
  rw [e1]
  have e2 : normL false ((lineEnd (xs.getD i 0)).cps.toList ++ l) = 13 :: 10 :: normL false l := by
    rcases lineEnd_cases (xs.getD i 0) with h | h | h
    · rw [h, lf_str]
      rfl
    · rw [h, cr_str]
      show 13 :: 10 :: normL true l = _
      rw [normL_pr hl]
    · rw [h, crlf_str]
      rfl
  rw [e2]
  simp
theorem row_head (xs : List Int) (mo : Int) (i : Nat) (l : List Nat) : (midRow xs mo i ++ l).head? ≠ some 10 := by
  have ht := tail_ok (xs.getD i 0)
  unfold midRow
  cases (dotsTo xs mo (i + 1)).toNat with
  | zero =>
    intro q
    exact ht.2.2 (Option.some.inj q)
  | succ k =>
    intro q
    cases (Option.some.inj q)
theorem norm_mail (xs : List Int) (mo : Int) : ∀ (i : Nat) (l : List Nat), l.head? ≠ some 10 → normL false ((mailTo xs mo i).cps.toList ++ l) = midTo xs mo i ++ normL false l
  | 0, l, h => by rw [mailTo, empty_str]; rfl
  | i + 1, l, h => by
    rw [mail_list, List.append_assoc, List.append_assoc, norm_mail xs mo i _ (row_head xs mo i _), ← List.append_assoc (midRow xs mo i), norm_row xs mo i l h, midTo]
    simp
theorem stuff_rep (k : Nat) (l : List Nat) : stuffL false (List.replicate k 46 ++ l) = List.replicate k 46 ++ stuffL false l := by
  induction k with
  | zero => rfl
  | succ k ih =>
    rw [List.replicate_succ, List.cons_append, stuffL, if_neg (by simp)]
    rw [show ((46 : Nat) == 10) = false from rfl, ih]
    rfl
theorem stuff_tail (b : Bool) (t : Nat) (l : List Nat) (h : t ≠ 46 ∧ t ≠ 10) : stuffL b (t :: 13 :: 10 :: l) = t :: 13 :: 10 :: stuffL true l := by
  rw [stuffL, if_neg (fun q => h.1 q.2), stuffL, if_neg (by omega), stuffL, if_neg (by omega)]
  rfl
theorem stuff_row (xs : List Int) (mo : Int) (i : Nat) (l : List Nat) : stuffL true (midRow xs mo i ++ [13, 10] ++ l) = dueRow xs mo i ++ [13, 10] ++ stuffL true l := by
  have ht := tail_ok (xs.getD i 0)
  unfold midRow dueRow
  generalize dotsTo xs mo (i + 1) = d
  cases q : d.toNat with
  | zero =>
    rw [if_neg (by omega)]
    show stuffL true (tailOf (xs.getD i 0) :: 13 :: 10 :: l) = _
    rw [stuff_tail _ _ _ ⟨ht.1, ht.2.2⟩]
    rfl
  | succ k =>
    rw [if_pos (by omega)]
    have e : (d + 1).toNat = k + 2 := by omega
    rw [e, List.replicate_succ, List.cons_append, List.cons_append, List.cons_append, stuffL, if_pos ⟨rfl, rfl⟩]
    rw [List.append_assoc, List.append_assoc, stuff_rep]
    show 46 :: 46 :: (List.replicate k 46 ++ stuffL false (tailOf (xs.getD i 0) :: 13 :: 10 :: l)) = _
    rw [stuff_tail _ _ _ ⟨ht.1, ht.2.2⟩, List.replicate_succ, List.replicate_succ]
    simp
theorem stuff_mid (xs : List Int) (mo : Int) : ∀ (i : Nat) (l : List Nat), stuffL true (midTo xs mo i ++ l) = (dueTo xs mo i).cps.toList ++ stuffL true l
  | 0, l => by rw [dueTo, empty_str]; rfl
  | i + 1, l => by
    rw [midTo, List.append_assoc, List.append_assoc, stuff_mid xs mo i, ← List.append_assoc (midRow xs mo i), stuff_row, due_list]
    simp
theorem str_ext {a b : Str} (h : a.cps.toList = b.cps.toList) : a = b := by
  cases a; cases b
  congr 1
  exact Array.toList_inj.mp h
theorem norm_eq (xs : List Int) (mo : Int) (i : Nat) : (normS (mailTo xs mo i)).cps.toList = midTo xs mo i := by
  have := norm_mail xs mo i [] (by simp)
  rw [List.append_nil] at this
  rw [norm_list, this]
  simp [normL]
theorem quote_law (xs : List Int) (mo : Int) (i : Nat) : stuffS (normS (mailTo xs mo i)) = dueTo xs mo i := by
  apply str_ext
  have := stuff_mid xs mo i []
  rw [List.append_nil] at this
  rw [stuff_list, norm_eq, this]
  simp [stuffL]
theorem mid_len {xs : List Int} {mo : Int} (hmo : mo = 2 ∨ mo = 3) : ∀ i, i ≤ 4 → (midTo xs mo i).length ≤ 20 * i
  | 0, _ => Nat.le_refl _
  | i + 1, h => by
    have ih := mid_len (xs := xs) hmo i (by omega)
    have hd := dots_in (xs := xs) hmo (i + 1)
    rw [midTo, List.length_append, List.length_append, midRow, List.length_append, List.length_replicate]
    show _ + (_ + 1) + 2 ≤ _
    omega
theorem norm_len {xs : List Int} {mo : Int} (hmo : mo = 2 ∨ mo = 3) (i : Nat) (h : i ≤ 4) : (normS (mailTo xs mo i)).cps.size ≤ 1000 := by
  rw [← Array.length_toList, norm_eq]
  have := mid_len (xs := xs) hmo i h
  omega
end Mine
end

section
set_option maxRecDepth 100000
open PySem PySem.W PySem.Calls PyProof.Rows PySem.Spec
set_option Elab.async false
set_option linter.unusedVariables false
namespace Mine
open PySem.Builtin.Str PySem.StrLaws
def nl2 : Str := ⟨#[13, 10]⟩
def posOf : List (List Nat) → Nat → List Nat
  | [], _ => []
  | r :: rs, a => (a + r.length) :: posOf rs (a + r.length + 2)
theorem len_list (x : Str) : x.cps.toList.length = x.length := by simp [Str.length]
theorem sub_no {x : Str} {a c : Nat} {l : List Nat} (h : x.cps.toList.drop a = c :: l) (hc : c ≠ 13) : subAt x nl2 a = false := by
  rw [subAt_eq, h]
  show (List.take 2 (c :: l) == [13, 10]) = false
  cases l <;> simp [hc]
theorem sub_hit {x : Str} {a : Nat} {l : List Nat} (h : x.cps.toList.drop a = 13 :: 10 :: l) : subAt x nl2 a = true := by
  rw [subAt_eq, h]
  rfl
theorem drop_lt {x : Str} {a c : Nat} {l : List Nat} (h : x.cps.toList.drop a = c :: l) : a < x.length ∧ x.cps.toList.drop (a + 1) = l := by
  refine ⟨?_, ?_⟩
  · rw [← len_list]
    rcases Nat.lt_or_ge a x.cps.toList.length with q | q
    · exact q
    · rw [List.drop_eq_nil_of_le q] at h; cases h
  · rw [← List.drop_drop, h]; rfl
theorem occ_skip {x : Str} {a c lim : Nat} {l : List Nat} {st : Array Nat × Nat} (h : x.cps.toList.drop a = c :: l) (hc : c ≠ 13) :
    forIn (m := Id) (List.range' a (x.length + 1 - a)) st (occBody x nl2 x.length lim) = forIn (m := Id) (List.range' (a + 1) (x.length + 1 - (a + 1))) st (occBody x nl2 x.length lim) := by
  have hl := (drop_lt h).1
  have e : x.length + 1 - a = (x.length + 1 - (a + 1)) + 1 := by omega
  rw [e, List.range'_succ, List.forIn_cons]
  unfold occBody
  rw [if_neg (fun q => by rw [sub_no h hc] at q; cases q.2)]
  rfl
theorem occ_hit {x : Str} {a lim free : Nat} {l : List Nat} {found : Array Nat} (h : x.cps.toList.drop a = 13 :: 10 :: l) (hf : free ≤ a) (hs : found.size < lim) :
    forIn (m := Id) (List.range' a (x.length + 1 - a)) (found, free) (occBody x nl2 x.length lim) = forIn (m := Id) (List.range' (a + 2) (x.length + 1 - (a + 2))) (found.push a, a + 2) (occBody x nl2 x.length lim) := by
  have hl := drop_lt h
  have hl2 := drop_lt hl.2
  have e : x.length + 1 - a = (x.length + 1 - (a + 1)) + 1 := by omega
  have step : forIn (m := Id) (List.range' a (x.length + 1 - a)) (found, free) (occBody x nl2 x.length lim) = forIn (m := Id) (List.range' (a + 1) (x.length + 1 - (a + 1))) (found.push a, a + 2) (occBody x nl2 x.length lim) := by
    rw [e, List.range'_succ, List.forIn_cons]
    have : ((((found, free) : Array Nat × Nat).fst.size < lim ∧ ((found, free) : Array Nat × Nat).snd ≤ a) ∧ a + nl2.length ≤ x.length) ∧ subAt x nl2 a = true := ⟨⟨⟨hs, hf⟩, by show a + 2 ≤ _; omega⟩, sub_hit h⟩
    conv => lhs; unfold occBody
    rw [if_pos this]
    rfl
  rw [step, occ_skip hl.2 (by omega)]
theorem occ_end {x : Str} {a lim : Nat} {st : Array Nat × Nat} (h : x.cps.toList.drop a = []) (ha : a ≤ x.length) :
    (forIn (m := Id) (List.range' a (x.length + 1 - a)) st (occBody x nl2 x.length lim)).run.fst = st.fst := by
  have hl : a = x.length := by
    have := congrArg List.length h
    rw [List.length_drop, len_list] at this
    simp at this
    omega
  subst hl
  have e : x.length + 1 - x.length = 0 + 1 := by omega
  rw [e, List.range'_succ, List.forIn_cons]
  unfold occBody
  rw [if_neg (fun q => by have := q.1.2; have e2 : nl2.length = 2 := rfl; omega)]
  rfl
theorem occ_row {x : Str} {lim : Nat} {st : Array Nat × Nat} : ∀ (r : List Nat) (a : Nat) (l : List Nat), x.cps.toList.drop a = r ++ l → 13 ∉ r →
    forIn (m := Id) (List.range' a (x.length + 1 - a)) st (occBody x nl2 x.length lim) = forIn (m := Id) (List.range' (a + r.length) (x.length + 1 - (a + r.length))) st (occBody x nl2 x.length lim)
  | [], a, l, h, hr => rfl
  | c :: r, a, l, h, hr => by
    rw [occ_skip h (fun q => hr (q ▸ .head _)), occ_row r (a + 1) l (drop_lt h).2 (fun q => hr (.tail _ q))]
    have : a + 1 + r.length = a + (c :: r).length := by simp; omega
    rw [this]
theorem occ_rows {x : Str} {lim : Nat} : ∀ (rows : List (List Nat)) (a free : Nat) (found : Array Nat), x.cps.toList.drop a = rows.flatMap (fun r => r ++ [13, 10]) → (∀ r ∈ rows, 13 ∉ r) → a ≤ x.length → free ≤ a → found.size + rows.length < lim →
    (forIn (m := Id) (List.range' a (x.length + 1 - a)) (found, free) (occBody x nl2 x.length lim)).run.fst.toList = found.toList ++ posOf rows a
  | [], a, free, found, h, hr, ha, hf, hs => by
    rw [occ_end h ha]
    simp [posOf]
  | r :: rs, a, free, found, h, hr, ha, hf, hs => by
    rw [List.flatMap_cons, List.append_assoc] at h
    have h2 : x.cps.toList.drop (a + r.length) = 13 :: 10 :: rs.flatMap (fun r => r ++ [13, 10]) := by
      rw [← List.drop_drop, h, List.drop_left]
      rfl
    have h3 := drop_lt h2
    have h4 := drop_lt h3.2
    rw [List.length_cons] at hs
    rw [occ_row r a _ h (hr r (.head _)), occ_hit h2 (by omega) (by omega), occ_rows rs (a + r.length + 2) _ _ h4.2 (fun r' h' => hr r' (.tail _ h')) (by omega) (by omega) (by rw [Array.size_push]; omega)]
    simp [posOf]
theorem parts_rows {x : Str} : ∀ (rows : List (List Nat)) (a : Nat), x.cps.toList.drop a = rows.flatMap (fun r => r ++ [13, 10]) → partsFrom x 2 a (posOf rows a) = rows.map (fun r => (⟨r.toArray⟩ : Str)) ++ [⟨#[]⟩]
  | [], a, h => by
    show [strSub x a x.length] = _
    congr 1
    apply str_ext
    rw [strSub_toList]
    simp at h ⊢
    simp [h]
  | r :: rs, a, h => by
    rw [List.flatMap_cons, List.append_assoc] at h
    have h2 : x.cps.toList.drop (a + r.length) = 13 :: 10 :: rs.flatMap (fun r => r ++ [13, 10]) := by
      rw [← List.drop_drop, h, List.drop_left]
      rfl
    have h4 := (drop_lt (drop_lt h2).2).2
    show strSub x a (a + r.length) :: partsFrom x 2 (a + r.length + 2) (posOf rs (a + r.length + 2)) = _
    rw [parts_rows rs _ h4]
    have e : strSub x a (a + r.length) = ⟨r.toArray⟩ := by
      apply str_ext
      rw [strSub_toList]
      first
        | rw [h, Nat.add_sub_cancel_left, List.take_left]
        | (rw [List.drop_take, h, Nat.add_sub_cancel_left, List.take_left])
    rw [e]
    rfl
theorem split_rows (x : Str) (rows : List (List Nat)) (h : x.cps.toList = rows.flatMap (fun r => r ++ [13, 10])) (hr : ∀ r ∈ rows, 13 ∉ r) (hn : rows ≠ []) : Txt.split x nl2 = rows.map (fun r => (⟨r.toArray⟩ : Str)) ++ [⟨#[]⟩] := by
  have hlen : rows.length * 2 ≤ x.length := by
    rw [← len_list, h]
    clear h hr hn
    induction rows with
    | nil => simp
    | cons r rs ih =>
      rw [List.flatMap_cons, List.length_append, List.length_append, List.length_cons]
      show _ ≤ r.length + 2 + _
      omega
  have hpos : 1 ≤ rows.length := by
    cases rows with
    | nil => exact absurd rfl hn
    | cons r rs => simp
  have ho : occurrences x nl2 0 x.length (x.length + 1) = posOf rows 0 := by
    rw [occ_eq]
    have := occ_rows (x := x) (lim := x.length + 1) rows 0 0 #[] (by rw [List.drop_zero]; exact h) hr (Nat.zero_le _) (Nat.le_refl _) (by simp; omega)
    rw [show x.length + 1 - 0 = x.length + 1 from rfl] at this ⊢
    rw [this]
    simp
  have hk : Builtin.Str.strKind nl2 ≤ Builtin.Str.strKind x := by
    cases rows with
    | nil => exact absurd rfl hn
    | cons r rs =>
      have h2 : x.cps.toList.drop r.length = 13 :: 10 :: rs.flatMap (fun r => r ++ [13, 10]) := by
        rw [h, List.flatMap_cons, List.append_assoc, List.drop_left]
        rfl
      exact PySem.W.kind_le _ _ (sub_hit h2)
  unfold Txt.split
  rw [if_neg (by
    simp only [Bool.or_eq_true, decide_eq_true_eq, not_or]
    have e2 : nl2.length = 2 := rfl
    omega), ho, if_neg (by
    cases rows with
    | nil => exact absurd rfl hn
    | cons r rs => simp [posOf]), partsBetween_eq, show nl2.length = 2 from rfl, parts_rows rows 0 (by rw [List.drop_zero]; exact h)]
end Mine
end

section
set_option maxRecDepth 100000
open PySem PySem.W PySem.Calls PyProof.Rows PySem.Spec
set_option Elab.async false
set_option linter.unusedVariables false
namespace Mine
def cntW (bs : List Nat) (i k : Nat) : Nat := ((waysTo bs i).map List.length).count k
theorem countP_or {α : Type} (p q : α → Bool) : ∀ l : List α, (∀ c ∈ l, ¬ (p c = true ∧ q c = true)) → l.countP (fun c => p c || q c) = l.countP p + l.countP q
  | [], _ => rfl
  | c :: l, h => by
    have ih := countP_or p q l fun d hd => h d (.tail _ hd)
    have hc := h c (.head _)
    rw [List.countP_cons, List.countP_cons, List.countP_cons, ih]
    cases hp : p c <;> cases hq : q c <;> simp [hp, hq] at hc ⊢ <;> omega
theorem flags_count : ∀ d : Nat, d ≤ 7 → ∀ w ∈ flagNames.take d, (flagNames.take d).countP (fun c => w == c) = 1 := by
  have : ∀ d : Fin 8, ∀ w ∈ flagNames.take d.1, (flagNames.take d.1).countP (fun c => w == c) = 1 := by decide +kernel
  intro d hd
  exact this ⟨d, by omega⟩
theorem flags_len : ∀ d : Nat, d ≤ 7 → (flagNames.take d).length = d := by
  intro d hd
  rw [List.length_take]
  have : flagNames.length = 7 := rfl
  omega
theorem in_count (d : Nat) (hd : d ≤ 7) : ∀ way : List Str, way.Nodup → (∀ c ∈ way, c ∈ flagNames.take d) → (flagNames.take d).countP (fun c => way.any fun x => x == c) = way.length
  | [], _, _ => by simp
  | w :: r, hn, hs => by
    obtain ⟨h1, h2⟩ := List.nodup_cons.mp hn
    have ih := in_count d hd r h2 fun c hc => hs c (.tail _ hc)
    have e : (flagNames.take d).countP (fun c => (w :: r).any fun x => x == c) = (flagNames.take d).countP (fun c => w == c) + (flagNames.take d).countP (fun c => r.any fun x => x == c) := by
      rw [← countP_or]
      · rfl
      · rintro c hc ⟨q1, q2⟩
        rw [beq_iff_eq] at q1
        subst q1
        rw [List.any_eq_true] at q2
        obtain ⟨x, hx, he⟩ := q2
        rw [beq_iff_eq] at he
        exact h1 (he ▸ hx)
    rw [e, ih, flags_count d hd w (hs w (.head _)), List.length_cons]
    omega
theorem addOf_length (d : Nat) (hd : d ≤ 7) (way : List Str) (hn : way.Nodup) (hs : ∀ c ∈ way, c ∈ flagNames.take d) : (addOf way (flagNames.take d)).length = d - way.length := by
  unfold addOf
  rw [List.length_map, ← List.countP_eq_length_filter]
  have h1 := in_count d hd way hn hs
  have h2 : (flagNames.take d).countP (fun c => way.any fun x => x == c) + (flagNames.take d).countP (fun c => !(way.any fun x => x == c)) = (flagNames.take d).length := by
    rw [List.length_eq_countP_add_countP (fun c => way.any fun x => x == c)]
    congr 1
    apply List.countP_congr
    intro c _
    simp
    exact ⟨fun h q => h c q rfl, fun h x hx e => h (e ▸ hx)⟩
  have h3 := flags_len d hd
  omega
/-- the columns go up -/
def Rising (bs : List Nat) : Prop := ∀ i j, i ≤ j → j < bs.length → bs.getD i 0 ≤ bs.getD j 0
theorem take_sub {i j : Nat} (h : i ≤ j) {c : Str} (hc : c ∈ flagNames.take i) : c ∈ flagNames.take j := by
  have : flagNames.take i = (flagNames.take j).take i := by rw [List.take_take, Nat.min_eq_left h]
  rw [this] at hc
  exact List.mem_of_mem_take hc
theorem ways_ok (bs : List Nat) : ∀ i, ∀ way ∈ waysTo bs i, way.Nodup ∧ ∀ c ∈ way, ∃ j, j < i ∧ c ∈ flagNames.take (bs.getD j 0)
  | 0, way, h => by
    rw [List.mem_singleton.mp h]
    exact ⟨List.nodup_nil, fun c hc => nomatch hc⟩
  | i + 1, way, h => by
    rcases List.mem_append.mp h with h | h
    · obtain ⟨h1, h2⟩ := ways_ok bs i way h
      exact ⟨h1, fun c hc => let ⟨j, hj, q⟩ := h2 c hc; ⟨j, by omega, q⟩⟩
    · obtain ⟨w, hw, hm⟩ := List.mem_flatMap.mp h
      obtain ⟨h1, h2⟩ := ways_ok bs i w hw
      unfold addOf at hm
      obtain ⟨c, hc, rfl⟩ := List.mem_map.mp hm
      obtain ⟨hc1, hc2⟩ := List.mem_filter.mp hc
      have hcw : c ∉ w := fun q => by
        have : (w.any fun x => x == c) = true := List.any_eq_true.mpr ⟨c, q, beq_self_eq_true c⟩
        rw [this] at hc2
        cases hc2
      refine ⟨?_, fun z hz => ?_⟩
      · rw [List.nodup_append]
        exact ⟨h1, by simp, fun a ha b hb => by rw [List.mem_singleton.mp hb]; exact fun q => hcw (q ▸ ha)⟩
      · rcases List.mem_append.mp hz with hz | hz
        · obtain ⟨j, hj, q⟩ := h2 z hz
          exact ⟨j, by omega, q⟩
        · rw [List.mem_singleton.mp hz]
          exact ⟨i, by omega, hc1⟩
theorem count_const {l : List (List Str)} {n : Nat} (h : ∀ w ∈ l, w.length = n) (k : Nat) : (l.map List.length).count k = if n = k then l.length else 0 := by
  induction l with
  | nil => simp
  | cons w r ih =>
    rw [List.map_cons, List.count_cons, ih fun w hw => h w (.tail _ hw), h w (.head _)]
    by_cases e : n = k
    · simp [e]
    · simp [e]
theorem more_count (d : Nat) (hd : d ≤ 7) (k : Nat) : ∀ ws : List (List Str), (∀ way ∈ ws, way.Nodup ∧ ∀ c ∈ way, c ∈ flagNames.take d) → ((moreOf ws (flagNames.take d)).map List.length).count (k + 1) = (d - k) * (ws.map List.length).count k
  | [], _ => by simp [moreOf]
  | w :: r, h => by
    have ih := more_count d hd k r fun way hw => h way (.tail _ hw)
    have hw := h w (.head _)
    have e : moreOf (w :: r) (flagNames.take d) = addOf w (flagNames.take d) ++ moreOf r (flagNames.take d) := rfl
    rw [e, List.map_append, List.count_append, ih, count_const (fun z hz => mem_addOf hz), addOf_length d hd w hw.1 hw.2, List.map_cons, List.count_cons]
    by_cases q : w.length = k
    · rw [if_pos (by omega), q, if_pos (by simp)]
      rw [Nat.mul_add, Nat.mul_one]
      omega
    · rw [if_neg (by omega), if_neg (by simpa using q), Nat.add_zero, Nat.zero_add]
theorem more_zero (ws : List (List Str)) (cols : List Str) : ((moreOf ws cols).map List.length).count 0 = 0 := by
  rw [List.count_eq_zero]
  intro h
  obtain ⟨z, hz, e⟩ := List.mem_map.mp h
  obtain ⟨w, _, hm⟩ := List.mem_flatMap.mp hz
  rw [mem_addOf hm] at e
  cases e
theorem cnt_zero (bs : List Nat) (i : Nat) : cntW bs (i + 1) 0 = cntW bs i 0 := by
  unfold cntW
  rw [waysTo, List.map_append, List.count_append, more_zero, Nat.add_zero]
theorem cnt_succ (bs : List Nat) (hr : Rising bs) (h7 : ∀ x ∈ bs, x ≤ 7) (i k : Nat) (hi : i < bs.length) : cntW bs (i + 1) (k + 1) = cntW bs i (k + 1) + (bs.getD i 0 - k) * cntW bs i k := by
  unfold cntW
  have hd : bs.getD i 0 ≤ 7 := by
    rw [List.getD_eq_getElem?_getD, List.getElem?_eq_getElem hi]
    exact h7 _ (List.getElem_mem hi)
  rw [waysTo, List.map_append, List.count_append, more_count _ hd]
  intro way hw
  obtain ⟨h1, h2⟩ := ways_ok bs i way hw
  exact ⟨h1, fun c hc => let ⟨j, hj, q⟩ := h2 c hc; take_sub (hr j i (by omega) hi) q⟩
theorem cnt_base (bs : List Nat) : cntW bs 0 0 = 1 ∧ ∀ k, cntW bs 0 (k + 1) = 0 := ⟨rfl, fun k => by unfold cntW; simp [waysTo]⟩
theorem count_cast (l : List (List Str)) (k : Nat) : (l.map fun ss => (ss.length : Int)).count (k : Int) = (l.map List.length).count k := by
  induction l with
  | nil => rfl
  | cons w r ih =>
    rw [List.map_cons, List.map_cons, List.count_cons, List.count_cons, ih]
    congr 1
    by_cases e : w.length = k
    · simp [e]
    · have : ¬ (w.length : Int) = (k : Int) := by omega
      simp [e, this]
theorem counts_eq (bs : List Nat) : countsOf bs = (List.range (bs.length + 1)).map fun k : Nat => (cntW bs bs.length k : Int) := by
  unfold countsOf cntW
  apply List.map_congr_left
  intro k _
  rw [count_cast]
end Mine
end

section
set_option maxRecDepth 100000
open PySem PySem.W PySem.Calls PyProof.Rows PySem.Spec
set_option Elab.async false
set_option linter.unusedVariables false
namespace Mine
theorem poly3 (a b c p : Int) : 0 + 1 * (p - 0) * (p - 1) * (p - 2) + (a + b + c) * (p - 0) * (p - 1) + ((b - 1) * a + (c - 1) * (a + b)) * (p - 0) + (c - 2) * ((b - 1) * a) = 1 * (p + a - 0) * (p + b - 1) * (p + c - 2) := by grind
theorem poly4 (a b c d p : Int) : 0 + 1 * (p - 0) * (p - 1) * (p - 2) * (p - 3) + (a + b + c + d) * (p - 0) * (p - 1) * (p - 2) + ((b - 1) * a + (c - 1) * (a + b) + (d - 1) * (a + b + c)) * (p - 0) * (p - 1) + ((c - 2) * ((b - 1) * a) + (d - 2) * ((b - 1) * a + (c - 1) * (a + b))) * (p - 0) + (d - 3) * ((c - 2) * ((b - 1) * a)) = 1 * (p + a - 0) * (p + b - 1) * (p + c - 2) * (p + d - 3) := by grind
theorem sub_cast (m n k : Nat) (h : m < k → n = 0) : (((m - k) * n : Nat) : Int) = ((m : Int) - k) * n := by
  by_cases q : m < k
  · rw [h q]; simp
  · rw [Int.natCast_mul, Int.natCast_sub (by omega)]
theorem cnt3 (a b c : Nat) (hr : Rising [a, b, c]) (h7 : ∀ x ∈ [a, b, c], x ≤ 7) :
    cntW [a, b, c] 3 0 = 1 ∧ cntW [a, b, c] 3 1 = a + b + c ∧ cntW [a, b, c] 3 2 = (b - 1) * a + (c - 1) * (a + b) ∧ cntW [a, b, c] 3 3 = (c - 2) * ((b - 1) * a) := by
  have b0 := (cnt_base [a, b, c]).1
  have bs := (cnt_base [a, b, c]).2
  have R := fun i k (hi : i < 3) => cnt_succ [a, b, c] hr h7 i k hi
  have z := cnt_zero [a, b, c]
  have g0 : List.getD [a, b, c] 0 0 = a := rfl
  have g1 : List.getD [a, b, c] 1 0 = b := rfl
  have g2 : List.getD [a, b, c] 2 0 = c := rfl
  have z1 := z 0
  have z2 := z 1
  have z3 := z 2
  have r10 := R 0 0 (by omega)
  have r11 := R 0 1 (by omega)
  have r12 := R 0 2 (by omega)
  have r20 := R 1 0 (by omega)
  have r21 := R 1 1 (by omega)
  have r22 := R 1 2 (by omega)
  have r30 := R 2 0 (by omega)
  have r31 := R 2 1 (by omega)
  have r32 := R 2 2 (by omega)
  simp only [bs, b0, g0, g1, g2, Nat.zero_add, Nat.mul_zero, Nat.mul_one, Nat.sub_zero, Nat.add_zero, Nat.reduceAdd] at *
  rw [r10] at r20 r21
  rw [r11] at r21 r22
  rw [r12] at r22
  rw [z1] at z2 r20
  rw [z2] at z3 r30
  simp only [Nat.mul_zero, Nat.add_zero, Nat.zero_add, Nat.mul_one] at *
  refine ⟨z3, ?_, ?_, ?_⟩
  · rw [r30, r20]
  · rw [r31, r21, r20]
  · rw [r32, r22, r21]; simp
theorem cnt4 (a b c d : Nat) (hr : Rising [a, b, c, d]) (h7 : ∀ x ∈ [a, b, c, d], x ≤ 7) :
    cntW [a, b, c, d] 4 0 = 1 ∧ cntW [a, b, c, d] 4 1 = a + b + c + d ∧ cntW [a, b, c, d] 4 2 = (b - 1) * a + (c - 1) * (a + b) + (d - 1) * (a + b + c) ∧ cntW [a, b, c, d] 4 3 = (c - 2) * ((b - 1) * a) + (d - 2) * ((b - 1) * a + (c - 1) * (a + b)) ∧ cntW [a, b, c, d] 4 4 = (d - 3) * ((c - 2) * ((b - 1) * a)) := by
  have b0 := (cnt_base [a, b, c, d]).1
  have bs := (cnt_base [a, b, c, d]).2
  have R := fun i k (hi : i < 4) => cnt_succ [a, b, c, d] hr h7 i k hi
  have z := cnt_zero [a, b, c, d]
  have g0 : List.getD [a, b, c, d] 0 0 = a := rfl
  have g1 : List.getD [a, b, c, d] 1 0 = b := rfl
  have g2 : List.getD [a, b, c, d] 2 0 = c := rfl
  have g3 : List.getD [a, b, c, d] 3 0 = d := rfl
  have z1 := z 0
  have z2 := z 1
  have z3 := z 2
  have z4 := z 3
  have r10 := R 0 0 (by omega)
  have r11 := R 0 1 (by omega)
  have r12 := R 0 2 (by omega)
  have r13 := R 0 3 (by omega)
  have r20 := R 1 0 (by omega)
  have r21 := R 1 1 (by omega)
  have r22 := R 1 2 (by omega)
  have r23 := R 1 3 (by omega)
  have r30 := R 2 0 (by omega)
  have r31 := R 2 1 (by omega)
  have r32 := R 2 2 (by omega)
  have r33 := R 2 3 (by omega)
  have r40 := R 3 0 (by omega)
  have r41 := R 3 1 (by omega)
  have r42 := R 3 2 (by omega)
  have r43 := R 3 3 (by omega)
  simp only [bs, b0, g0, g1, g2, g3, Nat.zero_add, Nat.mul_zero, Nat.mul_one, Nat.sub_zero, Nat.add_zero, Nat.reduceAdd] at *
  rw [r10] at r20 r21
  rw [r11] at r21 r22
  rw [r12] at r22 r23
  rw [r13] at r23
  rw [z1] at z2 r20
  rw [z2] at z3 r30
  rw [z3] at z4 r40
  simp only [Nat.mul_zero, Nat.add_zero, Nat.zero_add, Nat.mul_one] at *
  rw [r22] at r32 r33
  rw [r23] at r33
  simp only [Nat.mul_zero, Nat.add_zero, Nat.zero_add, Nat.mul_one] at *
  refine ⟨z4, ?_, ?_, ?_, ?_⟩
  · rw [r40, r30, r20]
  · rw [r41, r31, r30, r21, r20]
  · rw [r42, r32, r31, r21, r20]
  · rw [r43, r33, r32, r21]; simp
theorem counts3 (a b c : Nat) (hr : Rising [a, b, c]) (h7 : ∀ x ∈ [a, b, c], x ≤ 7) (hab : a ≤ b) (hbc : b ≤ c) :
    countsOf [a, b, c] = [1, (a : Int) + b + c, ((b : Int) - 1) * a + ((c : Int) - 1) * ((a : Int) + b), ((c : Int) - 2) * (((b : Int) - 1) * a)] := by
  obtain ⟨h0, h1, h2, h3⟩ := cnt3 a b c hr h7
  rw [counts_eq]
  show [(cntW [a, b, c] 3 0 : Int), (cntW [a, b, c] 3 1 : Int), (cntW [a, b, c] 3 2 : Int), (cntW [a, b, c] 3 3 : Int)] = _
  rw [h0, h1, h2, h3]
  have e1 := sub_cast b a 1 (by omega)
  have e2 := sub_cast c (a + b) 1 (by omega)
  have e3 := sub_cast c ((b - 1) * a) 2 (fun q => by
    have : b = 0 ∨ b = 1 := by omega
    rcases this with rfl | rfl
    · have : a = 0 := by omega
      subst this; rfl
    · simp)
  rw [Int.natCast_add ((b - 1) * a), e3, e1, e2]
  simp
theorem counts4 (a b c d : Nat) (hr : Rising [a, b, c, d]) (h7 : ∀ x ∈ [a, b, c, d], x ≤ 7) (hab : a ≤ b) (hbc : b ≤ c) (hcd : c ≤ d) :
    countsOf [a, b, c, d] = [1, (a : Int) + b + c + d, ((b : Int) - 1) * a + ((c : Int) - 1) * ((a : Int) + b) + ((d : Int) - 1) * ((a : Int) + b + c), ((c : Int) - 2) * (((b : Int) - 1) * a) + ((d : Int) - 2) * (((b : Int) - 1) * a + ((c : Int) - 1) * ((a : Int) + b)), ((d : Int) - 3) * (((c : Int) - 2) * (((b : Int) - 1) * a))] := by
  obtain ⟨h0, h1, h2, h3, h4⟩ := cnt4 a b c d hr h7
  rw [counts_eq]
  show [(cntW [a, b, c, d] 4 0 : Int), (cntW [a, b, c, d] 4 1 : Int), (cntW [a, b, c, d] 4 2 : Int), (cntW [a, b, c, d] 4 3 : Int), (cntW [a, b, c, d] 4 4 : Int)] = _
  rw [h0, h1, h2, h3, h4]
  have e1 := sub_cast b a 1 (by omega)
  have e2 := sub_cast c (a + b) 1 (by omega)
  have e4 := sub_cast d (a + b + c) 1 (by omega)
  have z3 : c < 2 → (b - 1) * a = 0 := fun q => by
    have : b = 0 ∨ b = 1 := by omega
    rcases this with rfl | rfl
    · have : a = 0 := by omega
      subst this; rfl
    · simp
  have e3 := sub_cast c ((b - 1) * a) 2 z3
  have e5 := sub_cast d ((b - 1) * a + (c - 1) * (a + b)) 2 (fun q => by
    rw [z3 (by omega)]
    have : c = 0 ∨ c = 1 := by omega
    rcases this with rfl | rfl
    · have hA : a = 0 := by omega
      have hB : b = 0 := by omega
      rw [hA, hB]
    · simp)
  have e6 := sub_cast d ((c - 2) * ((b - 1) * a)) 3 (fun q => by
    by_cases q' : c < 2
    · rw [z3 q']; simp
    · have : c = 2 := by omega
      subst this; simp)
  rw [Int.natCast_add ((c - 2) * ((b - 1) * a)), Int.natCast_add ((b - 1) * a + (c - 1) * (a + b)), e6, e5, e4, e3, Int.natCast_add ((b - 1) * a), e1, e2]
  simp
end Mine
end

section
set_option maxRecDepth 100000
open PySem PySem.W PySem.Calls PyProof.Rows PySem.Spec
set_option Elab.async false
set_option linter.unusedVariables false
namespace Mine
theorem open_str : Str.ofString "(" = ⟨#[40]⟩ := by kernel_rfl
theorem close_str : Str.ofString ")" = ⟨#[41]⟩ := by kernel_rfl
theorem rim_rep (k : Nat) (l : List Nat) : ∀ n, rimFrom (List.replicate k 40 ++ l) n = rimFrom l (n + k) := by
  induction k with
  | zero => intro n; rfl
  | succ k ih =>
    intro n
    rw [List.replicate_succ, List.cons_append, rimFrom, if_pos rfl, ih]
    congr 1
    omega
theorem rim_close (l : List Nat) (n : Nat) : rimFrom (41 :: l) n = if n = 0 then false else rimFrom l (n - 1) := by
  rw [rimFrom, if_neg (by omega), if_pos rfl]
theorem rim_closes (k : Nat) : ∀ n, rimFrom (List.replicate k 41) n = decide (n = k) := by
  induction k with
  | zero =>
    intro n
    show (n == 0) = _
    by_cases h : n = 0 <;> simp [h]
  | succ k ih =>
    intro n
    rw [List.replicate_succ, rim_close, ih]
    by_cases h : n = 0
    · rw [if_pos h, h]; simp
    · rw [if_neg h]
      by_cases q : n = k + 1
      · subst q; simp
      · rw [decide_eq_false q, decide_eq_false (by omega)]
theorem rim_step (bs : List Int) (i : Nat) : (rimTo bs (i + 1)).cps.toList = (rimTo bs i).cps.toList ++ (List.replicate (bs.getD i 0 - aheadOf bs i).toNat 40 ++ [41]) := by
  rw [rimTo, app_list, app_list, mul_cps 40 _ open_str, close_str]
  simp
theorem rim_zero (bs : List Int) : (rimTo bs 0).cps.toList = [] := empty_str
theorem rim3 (a b c : Nat) : (rimTo (ofNats [a, b, c]) (ofNats [a, b, c]).length).cps.toList = List.replicate a 40 ++ 41 :: (List.replicate (b - a) 40 ++ 41 :: (List.replicate (c - b) 40 ++ [41])) := by
  show (rimTo (ofNats [a, b, c]) 3).cps.toList = _
  rw [rim_step, rim_step, rim_step, rim_zero]
  have e0 : ((ofNats [a, b, c]).getD 0 0 - aheadOf (ofNats [a, b, c]) 0).toNat = a := by
    show ((a : Int) - 0).toNat = a
    omega
  have e1 : ((ofNats [a, b, c]).getD 1 0 - aheadOf (ofNats [a, b, c]) 1).toNat = b - a := by
    show ((b : Int) - a).toNat = b - a
    omega
  have e2 : ((ofNats [a, b, c]).getD 2 0 - aheadOf (ofNats [a, b, c]) 2).toNat = c - b := by
    show ((c : Int) - b).toNat = c - b
    omega
  rw [e0, e1, e2]
  simp
theorem rim4 (a b c d : Nat) : (rimTo (ofNats [a, b, c, d]) (ofNats [a, b, c, d]).length).cps.toList = List.replicate a 40 ++ 41 :: (List.replicate (b - a) 40 ++ 41 :: (List.replicate (c - b) 40 ++ 41 :: (List.replicate (d - c) 40 ++ [41]))) := by
  show (rimTo (ofNats [a, b, c, d]) 4).cps.toList = _
  rw [rim_step, rim_step, rim_step, rim_step, rim_zero]
  have e0 : ((ofNats [a, b, c, d]).getD 0 0 - aheadOf (ofNats [a, b, c, d]) 0).toNat = a := by
    show ((a : Int) - 0).toNat = a
    omega
  have e1 : ((ofNats [a, b, c, d]).getD 1 0 - aheadOf (ofNats [a, b, c, d]) 1).toNat = b - a := by
    show ((b : Int) - a).toNat = b - a
    omega
  have e2 : ((ofNats [a, b, c, d]).getD 2 0 - aheadOf (ofNats [a, b, c, d]) 2).toNat = c - b := by
    show ((c : Int) - b).toNat = c - b
    omega
  have e3 : ((ofNats [a, b, c, d]).getD 3 0 - aheadOf (ofNats [a, b, c, d]) 3).toNat = d - c := by
    show ((d : Int) - c).toNat = d - c
    omega
  rw [e0, e1, e2, e3]
  simp
theorem full3 (a b c : Nat) (hab : a ≤ b) (hbc : b ≤ c) : (0 < ((c : Int) - 2) * (((b : Int) - 1) * a)) ↔ (1 ≤ a ∧ 2 ≤ b ∧ 3 ≤ c) := by
  constructor
  · intro h
    refine ⟨?_, ?_, ?_⟩
    · rcases Nat.eq_zero_or_pos a with q | q
      · subst q; simp at h
      · exact q
    · rcases Nat.lt_or_ge b 2 with q | q
      · have : b = 0 ∨ b = 1 := by omega
        rcases this with rfl | rfl
        · have : a = 0 := by omega
          subst this; simp at h
        · simp at h
      · exact q
    · rcases Nat.lt_or_ge c 3 with q | q
      · have : c = 0 ∨ c = 1 ∨ c = 2 := by omega
        rcases this with rfl | rfl | rfl
        · have hA : a = 0 := by omega
          subst hA; simp at h
        · have : b = 0 ∨ b = 1 := by omega
          rcases this with rfl | rfl
          · have hA : a = 0 := by omega
            subst hA; simp at h
          · simp at h
        · simp at h
      · exact q
  · rintro ⟨h1, h2, h3⟩
    exact Int.mul_pos (by omega) (Int.mul_pos (by omega) (by omega))
theorem full4 (a b c d : Nat) (hab : a ≤ b) (hbc : b ≤ c) (hcd : c ≤ d) : (0 < ((d : Int) - 3) * (((c : Int) - 2) * (((b : Int) - 1) * a))) ↔ (1 ≤ a ∧ 2 ≤ b ∧ 3 ≤ c ∧ 4 ≤ d) := by
  have h3 := full3 a b c hab hbc
  constructor
  · intro h
    by_cases q : 0 < ((c : Int) - 2) * (((b : Int) - 1) * a)
    · obtain ⟨h1, h2, h4⟩ := h3.mp q
      refine ⟨h1, h2, h4, ?_⟩
      rcases Nat.lt_or_ge d 4 with q' | q'
      · have : d = 3 := by omega
        subst this; simp at h
      · exact q'
    · exfalso
      have z : ((c : Int) - 2) * (((b : Int) - 1) * a) = 0 := by
        have q2 : ¬ (1 ≤ a ∧ 2 ≤ b ∧ 3 ≤ c) := fun z => q (h3.mpr z)
        by_cases ha : a = 0
        · subst ha; simp
        · by_cases hb : b < 2
          · have : b = 1 := by omega
            subst this; simp
          · have : c = 2 := by omega
            subst this; simp
      rw [z] at h
      simp at h
  · rintro ⟨h1, h2, h4, h5⟩
    exact Int.mul_pos (by omega) (h3.mpr ⟨h1, h2, h4⟩)
theorem law3 (a b c : Nat) (hab : a ≤ b) (hbc : b ≤ c) (hc : c ≤ 7) : LawOf [a, b, c] := by
  have h7 : ∀ x ∈ [a, b, c], x ≤ 7 := by
    intro x hx
    simp only [List.mem_cons, List.not_mem_nil, or_false] at hx
    omega
  have hr : Rising [a, b, c] := by
    intro i j hij hj
    have hj' : (j = 0 ∨ j = 1 ∨ j = 2) := by simp at hj; omega
    have hi' : (i = 0 ∨ i = 1 ∨ i = 2) := by simp at hj; omega
    rcases hj' with rfl | rfl | rfl <;> rcases hi' with rfl | rfl | rfl <;> simp <;> omega
  have hcs := counts3 a b c hr h7 hab hbc
  have hlast : lastOf [a, b, c] = ((c : Int) - 2) * (((b : Int) - 1) * a) := by unfold lastOf; rw [hcs]; rfl
  have hend : endOf [a, b, c] = c := rfl
  have hrim := rim3 a b c
  have hmul : (Txt.mul (Str.ofString ")") (endOf [a, b, c] - ([a, b, c] : List Nat).length)).cps.toList = List.replicate (c - 3) 41 := by
    rw [mul_cps 41 _ close_str, hend]
    congr 1
    show ((c : Int) - 3).toNat = c - 3
    omega
  have hfull : decide (0 < lastOf [a, b, c]) = decide (1 ≤ a ∧ 2 ≤ b ∧ 3 ≤ c) := by
    rw [hlast]
    exact decide_eq_decide.mpr (full3 a b c hab hbc)
  refine ⟨fun p => ?_, ?_, ?_, ?_, ?_, ?_, ?_⟩
  · rw [hcs]
    exact poly3 a b c p
  · intro z hz
    rw [hrim] at hz
    simp only [List.mem_append, List.mem_cons, List.mem_replicate, List.not_mem_nil, or_false] at hz
    omega
  · rw [← Array.length_toList, hrim]
    simp only [List.length_append, List.length_cons, List.length_replicate, List.length_nil]
    omega
  · intro z hz
    rw [app_list, hrim, hmul] at hz
    simp only [List.mem_append, List.mem_cons, List.mem_replicate, List.not_mem_nil, or_false] at hz
    omega
  · rw [← Array.length_toList, app_list, hrim, hmul]
    simp only [List.length_append, List.length_cons, List.length_replicate, List.length_nil]
    omega
  · rw [hrim, hfull, hend, rim_rep, rim_close, rim_rep, rim_close, rim_rep, rim_close]
    by_cases h1 : 1 ≤ a
    · by_cases h2 : 2 ≤ b
      · by_cases h3 : 3 ≤ c
        · rw [if_neg (by omega), if_neg (by omega), if_neg (by omega)]
          show (_ == 0) = _
          by_cases h4 : c = 3
          · subst h4
            have e : 0 + a - 1 + (b - a) - 1 + (3 - b) - 1 = 0 := by omega
            rw [e]
            simp [h1, h2]
          · have e : ¬ (0 + a - 1 + (b - a) - 1 + (c - b) - 1 = 0) := by omega
            have e' : ¬ ((c : Int) = 3) := by omega
            simp [e']
            omega
        · rw [if_neg (by omega), if_neg (by omega), if_pos (by omega)]
          simp [h3]
      · rw [if_neg (by omega), if_pos (by omega)]
        simp [h2]
    · rw [if_pos (by omega)]
      simp [h1]
  · rw [app_list, hrim, hmul, hfull, List.append_assoc, rim_rep, List.cons_append, rim_close, List.append_assoc, rim_rep, List.cons_append, rim_close, List.append_assoc, rim_rep, List.cons_append, rim_close, List.nil_append, rim_closes]
    by_cases h1 : 1 ≤ a
    · by_cases h2 : 2 ≤ b
      · by_cases h3 : 3 ≤ c
        · rw [if_neg (by omega), if_neg (by omega), if_neg (by omega)]
          rw [decide_eq_true (by omega), decide_eq_true ⟨h1, h2, h3⟩]
        · rw [if_neg (by omega), if_neg (by omega), if_pos (by omega)]
          simp [h3]
      · rw [if_neg (by omega), if_pos (by omega)]
        simp [h2]
    · rw [if_pos (by omega)]
      simp [h1]
theorem law4 (a b c d : Nat) (hab : a ≤ b) (hbc : b ≤ c) (hcd : c ≤ d) (hd : d ≤ 7) : LawOf [a, b, c, d] := by
  have h7 : ∀ x ∈ [a, b, c, d], x ≤ 7 := by
    intro x hx
    simp only [List.mem_cons, List.not_mem_nil, or_false] at hx
    omega
  have hr : Rising [a, b, c, d] := by
    intro i j hij hj
    have hj' : (j = 0 ∨ j = 1 ∨ j = 2 ∨ j = 3) := by simp at hj; omega
    have hi' : (i = 0 ∨ i = 1 ∨ i = 2 ∨ i = 3) := by simp at hj; omega
    rcases hj' with rfl | rfl | rfl | rfl <;> rcases hi' with rfl | rfl | rfl | rfl <;> simp <;> omega
  have hcs := counts4 a b c d hr h7 hab hbc hcd
  have hlast : lastOf [a, b, c, d] = ((d : Int) - 3) * (((c : Int) - 2) * (((b : Int) - 1) * a)) := by unfold lastOf; rw [hcs]; rfl
  have hend : endOf [a, b, c, d] = d := rfl
  have hrim := rim4 a b c d
  have hmul : (Txt.mul (Str.ofString ")") (endOf [a, b, c, d] - ([a, b, c, d] : List Nat).length)).cps.toList = List.replicate (d - 4) 41 := by
    rw [mul_cps 41 _ close_str, hend]
    congr 1
    show ((d : Int) - 4).toNat = d - 4
    omega
  have hfull : decide (0 < lastOf [a, b, c, d]) = decide (1 ≤ a ∧ 2 ≤ b ∧ 3 ≤ c ∧ 4 ≤ d) := by
    rw [hlast]
    exact decide_eq_decide.mpr (full4 a b c d hab hbc hcd)
  refine ⟨fun p => ?_, ?_, ?_, ?_, ?_, ?_, ?_⟩
  · rw [hcs]
    exact poly4 a b c d p
  · intro z hz
    rw [hrim] at hz
    simp only [List.mem_append, List.mem_cons, List.mem_replicate, List.not_mem_nil, or_false] at hz
    omega
  · rw [← Array.length_toList, hrim]
    simp only [List.length_append, List.length_cons, List.length_replicate, List.length_nil]
    omega
  · intro z hz
    rw [app_list, hrim, hmul] at hz
    simp only [List.mem_append, List.mem_cons, List.mem_replicate, List.not_mem_nil, or_false] at hz
    omega
  · rw [← Array.length_toList, app_list, hrim, hmul]
    simp only [List.length_append, List.length_cons, List.length_replicate, List.length_nil]
    omega
  · rw [hrim, hfull, hend, rim_rep, rim_close, rim_rep, rim_close, rim_rep, rim_close, rim_rep, rim_close]
    by_cases h1 : 1 ≤ a
    · by_cases h2 : 2 ≤ b
      · by_cases h3 : 3 ≤ c
        · by_cases h5 : 4 ≤ d
          · rw [if_neg (by omega), if_neg (by omega), if_neg (by omega), if_neg (by omega)]
            show (_ == 0) = _
            by_cases h4 : d = 4
            · subst h4
              have e : 0 + a - 1 + (b - a) - 1 + (c - b) - 1 + (4 - c) - 1 = 0 := by omega
              rw [e]
              simp [h1, h2, h3]
            · have e : ¬ (0 + a - 1 + (b - a) - 1 + (c - b) - 1 + (d - c) - 1 = 0) := by omega
              have e' : ¬ ((d : Int) = 4) := by omega
              simp [e']
              omega
          · rw [if_neg (by omega), if_neg (by omega), if_neg (by omega), if_pos (by omega)]
            simp [h5]
        · rw [if_neg (by omega), if_neg (by omega), if_pos (by omega)]
          simp [h3]
      · rw [if_neg (by omega), if_pos (by omega)]
        simp [h2]
    · rw [if_pos (by omega)]
      simp [h1]
  · rw [app_list, hrim, hmul, hfull, List.append_assoc, rim_rep, List.cons_append, rim_close, List.append_assoc, rim_rep, List.cons_append, rim_close, List.append_assoc, rim_rep, List.cons_append, rim_close, List.append_assoc, rim_rep, List.cons_append, rim_close, List.nil_append, rim_closes]
    by_cases h1 : 1 ≤ a
    · by_cases h2 : 2 ≤ b
      · by_cases h3 : 3 ≤ c
        · by_cases h5 : 4 ≤ d
          · rw [if_neg (by omega), if_neg (by omega), if_neg (by omega), if_neg (by omega)]
            rw [decide_eq_true (by omega), decide_eq_true ⟨h1, h2, h3, h5⟩]
          · rw [if_neg (by omega), if_neg (by omega), if_neg (by omega), if_pos (by omega)]
            simp [h5]
        · rw [if_neg (by omega), if_neg (by omega), if_pos (by omega)]
          simp [h3]
      · rw [if_neg (by omega), if_pos (by omega)]
        simp [h2]
    · rw [if_pos (by omega)]
      simp [h1]
end Mine
end

section
set_option maxRecDepth 100000
open PySem PySem.W PySem.Calls PyProof.Rows PySem.Spec
set_option Elab.async false
set_option linter.unusedVariables false
namespace Mine
theorem due_rows (xs : List Int) (mo : Int) : ∀ i, (dueTo xs mo i).cps.toList = ((List.range i).map (dueRow xs mo)).flatMap (fun r => r ++ [13, 10])
  | 0 => empty_str
  | i + 1 => by
    rw [due_list, due_rows xs mo i, List.range_succ, List.map_append, List.flatMap_append]
    simp
theorem row_count (xs : List Int) (mo : Int) (i : Nat) : (dueRow xs mo i).count 46 = (if 0 < dotsTo xs mo (i + 1) then dotsTo xs mo (i + 1) + 1 else 0).toNat := by
  have ht := tail_ok (xs.getD i 0)
  unfold dueRow
  have h1 : (tailOf (xs.getD i 0) == 46) = false := by simpa using ht.1
  rw [List.count_append, List.count_replicate_self, List.count_singleton, h1]
  rfl
theorem row_13 (xs : List Int) (mo : Int) (i : Nat) : 13 ∉ dueRow xs mo i := by
  have ht := tail_ok (xs.getD i 0)
  intro h
  unfold dueRow at h
  simp only [List.mem_append, List.mem_replicate, List.mem_cons, List.not_mem_nil, or_false] at h
  omega
theorem board_range (xs : List Int) (mo : Int) : ∀ i, boardTo xs mo i = (List.range i).map fun j => dotsTo xs mo (j + 1)
  | 0 => rfl
  | i + 1 => by
    rw [boardTo, board_range xs mo i, List.range_succ, List.map_append]
    rfl
theorem rows_law (xs : List Int) (mo : Int) (hmo : mo = 2 ∨ mo = 3) (hn : xs.length ≠ 0) : (Txt.split (dueTo xs mo xs.length) (Str.ofString "\r\n")).dropLast.map (fun r : Str => ((r.cps.toList.count 46 : Nat) : Int)) = ofNats (dueN xs mo) := by
  rw [crlf_str]
  rw [show (⟨#[13, 10]⟩ : Str) = nl2 from rfl, split_rows _ _ (due_rows xs mo xs.length) (by
    intro r hr
    obtain ⟨i, _, rfl⟩ := List.mem_map.mp hr
    exact row_13 xs mo i) (by
    intro q
    have := congrArg List.length q
    rw [List.length_map, List.length_range] at this
    exact hn this)]
  rw [List.dropLast_concat, List.map_map, List.map_map]
  unfold ofNats dueN boardN
  rw [board_range, List.map_map, List.map_map, List.map_map]
  apply List.map_congr_left
  intro i _
  show (((dueRow xs mo i).count 46 : Nat) : Int) = (((if 0 < (dotsTo xs mo (i + 1)).toNat then (dotsTo xs mo (i + 1)).toNat + 1 else 0) : Nat) : Int)
  rw [row_count]
  have hd := dots_in (xs := xs) hmo (i + 1)
  by_cases h : 0 < dotsTo xs mo (i + 1)
  · rw [if_pos h, if_pos (by omega)]
    omega
  · rw [if_neg h, if_neg (by omega)]
    rfl
theorem dots_up {xs : List Int} {mo : Int} (hmo : mo = 2 ∨ mo = 3) (i : Nat) : dotsTo xs mo i ≤ dotsTo xs mo (i + 1) := by
  have h1 : 0 ≤ (xs.getD i 0).fmod mo := Int.fmod_nonneg_of_pos _ (by omega)
  show _ ≤ dotsTo xs mo i + _
  omega
theorem dots_two {xs : List Int} : ∀ i, dotsTo xs 2 i ≤ i
  | 0 => Int.le_refl _
  | i + 1 => by
    have ih := dots_two (xs := xs) i
    have h2 : (xs.getD i 0).fmod 2 < 2 := Int.fmod_lt_of_pos _ (by omega)
    show dotsTo xs 2 i + _ ≤ ((i + 1 : Nat) : Int)
    omega
theorem up_le {m n : Nat} (h : m ≤ n) : (if 0 < m then m + 1 else 0) ≤ (if 0 < n then n + 1 else 0) := by split <;> split <;> omega
theorem up_seven {m : Nat} (h : m ≤ 6) : (if 0 < m then m + 1 else 0) ≤ 7 := by split <;> omega
theorem facts (dr : List Int) (mo : Int) (h : dr.length = 3 ∧ mo = 3 ∨ dr.length = 4 ∧ mo = 2) : FactsOf dr mo := by
  have hmo : mo = 2 ∨ mo = 3 := by omega
  have hB : ofNats (boardN dr mo) = boardTo dr mo dr.length := by
    unfold ofNats boardN
    rw [List.map_map, board_range, List.map_map]
    apply List.map_congr_left
    intro i _
    have hd := dots_in (xs := dr) hmo (i + 1)
    show (((dotsTo dr mo (i + 1)).toNat : Nat) : Int) = _
    omega
  have hL : (boardN dr mo).length = dr.length := by
    unfold boardN
    rw [List.length_map, board_len]
  have d1 := dots_in (xs := dr) hmo 1
  have d2 := dots_in (xs := dr) hmo 2
  have d3 := dots_in (xs := dr) hmo 3
  have u1 : dotsTo dr mo 1 ≤ dotsTo dr mo 2 := dots_up hmo 1
  have u2 : dotsTo dr mo 2 ≤ dotsTo dr mo 3 := dots_up hmo 2
  have u3 : dotsTo dr mo 3 ≤ dotsTo dr mo 4 := dots_up hmo 3
  refine ⟨quote_law dr mo _, norm_len hmo _ (by omega), hB, hL, ?_, ?_, ?_, rows_law dr mo hmo (by omega)⟩
  · rcases h with ⟨h, hm⟩ | ⟨h, hm⟩
    · have e : boardN dr mo = [(dotsTo dr mo 1).toNat, (dotsTo dr mo 2).toNat, (dotsTo dr mo 3).toNat] := by unfold boardN; rw [h]; rfl
      rw [e]
      intro x hx
      simp only [List.mem_cons, List.not_mem_nil, or_false] at hx
      omega
    · have e : boardN dr mo = [(dotsTo dr mo 1).toNat, (dotsTo dr mo 2).toNat, (dotsTo dr mo 3).toNat, (dotsTo dr mo 4).toNat] := by unfold boardN; rw [h]; rfl
      subst hm
      have q4 := dots_two (xs := dr) 4
      rw [e]
      intro x hx
      simp only [List.mem_cons, List.not_mem_nil, or_false] at hx
      omega
  · rcases h with ⟨h, hm⟩ | ⟨h, hm⟩
    · have e : boardN dr mo = [(dotsTo dr mo 1).toNat, (dotsTo dr mo 2).toNat, (dotsTo dr mo 3).toNat] := by unfold boardN; rw [h]; rfl
      rw [e]
      exact law3 _ _ _ (by omega) (by omega) (by omega)
    · have e : boardN dr mo = [(dotsTo dr mo 1).toNat, (dotsTo dr mo 2).toNat, (dotsTo dr mo 3).toNat, (dotsTo dr mo 4).toNat] := by unfold boardN; rw [h]; rfl
      subst hm
      have q4 := dots_two (xs := dr) 4
      rw [e]
      exact law4 _ _ _ _ (by omega) (by omega) (by omega) (by omega)
  · rcases h with ⟨h, hm⟩ | ⟨h, hm⟩
    · have e : boardN dr mo = [(dotsTo dr mo 1).toNat, (dotsTo dr mo 2).toNat, (dotsTo dr mo 3).toNat] := by unfold boardN; rw [h]; rfl
      unfold dueN
      rw [e]
      exact law3 _ _ _ (up_le (by omega)) (up_le (by omega)) (up_seven (by omega))
    · have e : boardN dr mo = [(dotsTo dr mo 1).toNat, (dotsTo dr mo 2).toNat, (dotsTo dr mo 3).toNat, (dotsTo dr mo 4).toNat] := by unfold boardN; rw [h]; rfl
      subst hm
      have q4 := dots_two (xs := dr) 4
      unfold dueN
      rw [e]
      exact law4 _ _ _ _ (up_le (by omega)) (up_le (by omega)) (up_le (by omega)) (up_seven (by omega))
end Mine
end

set_option maxRecDepth 100000
open PySem PySem.W PySem.Calls PyProof.Rows PySem.Spec
set_option Elab.async false
set_option linter.unusedVariables false
set_option maxHeartbeats 8000000 in
theorem PySem.Challenge.cw_ta0013_01_holds : PySem.Challenge.rw_ta0013_01.Holds :=
  Mine.hd (by
  intro w s₀ s₁ mg mb G Y fa o pm cd doc dV kV ho hd hcd hD hmg hg args vals as hpre hlay hrd hwl hlo
  have KX := kIn_of Y
  have V := (Ground.X G).2
  have X := (Ground.X G).1
  refine Ground.open G ?_
  intro T B D TE TW
  have fe : some (Value.ref fa) = some (Value.ref 164) := hmg.symm.trans (mg_of KX T.g (by k_is))
  obtain rfl : fa = 164 := by injection fe with fe; injection fe
  wrow_args hpre hlay hrd hwl hlo
  rename_i ns _ _ _ _ _ _ _ l vals _ hL _ _ _ hI _ hlen _
  refine Mine.law_does (fun dr mo h _ => Mine.facts dr mo h) l vals ns (by omega) (1 + claimMargin) 4 (some []) (some []) s₁ _ _ (by decide) (by decide) ⟨KX, T⟩ ⟨hL, hI⟩ (fun v h' tk' gs' he ht hb hv => ?_)
  subst hv
  refine ⟨.inl ⟨.bool true, .bool true, [], rfl, ?_, .bool _, ?_, fun _ => ⟨List.nodup_nil, fun _ h => nomatch h⟩⟩, .of_keep he, rfl, ?_⟩
  · intro cls
    rfl
  · show (WShape.has [] (WData.bool true) .bool && (WTm.res.eq (WTm.lit (WData.bool true))).holds [] { args := [ofPy (PyData.list (List.map PyData.int ns))], res := some (WData.bool true), after := [ofPy (PyData.list (List.map PyData.int ns))] }) = true
    have e := w_eq_bool (R := []) (e := { args := [ofPy (PyData.list (List.map PyData.int ns))], res := some (WData.bool true), after := [ofPy (PyData.list (List.map PyData.int ns))] }) (w_res rfl) (w_lit (d := WData.bool true))
    unfold WTm.holds
    rw [e]
    rfl
  · exact hb (by intro y hy; rw [hg] at hy; simp at hy)
  )
