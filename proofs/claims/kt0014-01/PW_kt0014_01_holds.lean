import PyProof.Rows.All
import Wide.All
import OpenK.AllK
import Wide.FinOn
import Lean
import PySem.Challenge.RW_kt0014_01
section
open PySem PySem.W PySem.Calls PyProof.Rows
set_option Elab.async false
set_option maxRecDepth 100000
namespace Mine

/-- nothing is raised -/
noncomputable abbrev NoE : Value → Shared → Prop := fun _ _ => False
/-- the frames' places -/
noncomputable abbrev frs (Fs : List Env) : List Addr := Fs.filterMap (·.frame)
/-- it stands, a frame up to its slots -/
noncomputable def Kept (F : List Addr) (h : Heap) (b : Addr) (o : Obj) : Prop := ∃ sl, h.get? b = some { o with slots := sl } ∧ (b ∉ F → sl = o.slots)
theorem Kept.of {F : List Addr} {h : Heap} {b : Addr} {o : Obj} (e : h.get? b = some o) : Kept F h b o := ⟨o.slots, e, fun _ => rfl⟩
theorem Kept.get {F : List Addr} {h : Heap} {b : Addr} {o : Obj} (k : Kept F h b o) (n : b ∉ F) : h.get? b = some o := by
  obtain ⟨sl, e, q⟩ := k
  rw [q n] at e; exact e
theorem Kept.lt {F : List Addr} {h : Heap} {b : Addr} {o : Obj} (k : Kept F h b o) : b < h.objs.size := let ⟨_, e, _⟩ := k; Heap.lt_size e
theorem Kept.to {F : List Addr} {h h' : Heap} {b : Addr} {o : Obj} (k : Kept F h b o) (f : ∀ o', h.get? b = some o' → Kept F h' b o') : Kept F h' b o := by
  obtain ⟨sl, e, q⟩ := k
  obtain ⟨sl', e', q'⟩ := f _ e
  exact ⟨sl', e', fun n => (q' n).trans (q n)⟩
theorem Kept.to' {F : List Addr} {h h' : Heap} {b : Addr} {o : Obj} (k : Kept F h b o) (f : ∀ o', h.get? b = some o' → h'.get? b = some o') : Kept F h' b o := k.to fun o' e => .of (f o' e)
theorem Kept.ns {F : List Addr} {h h' : Heap} {a : Addr} {m : Str → Option Value} (hn : h.Ns a m) (k : ∀ o, h.get? a = some o → Kept F h' a o) : h'.Ns a m := by
  obtain ⟨o, es, ep, ho, hd, r⟩ := hn
  obtain ⟨sl, hs, _⟩ := k o ho
  exact ⟨_, es, ep, hs, hd, r⟩
theorem Kept.cell {F : List Addr} {h h' : Heap} {a : Addr} {v : Option Value} (hn : h.IsCell a v) (k : ∀ o, h.get? a = some o → Kept F h' a o) : h'.IsCell a v := by
  obtain ⟨o, ho, hd⟩ := hn
  obtain ⟨sl, hs, _⟩ := k o ho
  exact ⟨_, hs, hd⟩
/-- what stands outside X stays -/
noncomputable def Kp (X F : List Addr) (h h' : Heap) : Prop := ∀ a o, h.get? a = some o → a ∉ X → Kept F h' a o
theorem frs_none {h base : Heap} {Fs : List Env} (f : h.FunFrames base Fs) {b : Addr} (m : b ∈ frs Fs) : base.get? b = none := (f.mem m).1
theorem frs_base {h base : Heap} {Fs : List Env} (f : h.FunFrames base Fs) {b : Addr} {o : Obj} (e : base.get? b = some o) : b ∉ frs Fs := fun m => by rw [frs_none f m] at e; cases e
theorem frs_to {h h' base : Heap} : ∀ {Fs : List Env}, h.FunFrames base Fs → (∀ b ∈ frs Fs, ∀ o, h.get? b = some o → (∀ vs, o.data ≠ .fields vs) → ∃ o', h'.get? b = some o' ∧ ∀ vs, o'.data ≠ .fields vs) → h'.FunFrames base Fs
  | [], _, _ => trivial
  | env :: rest, ⟨hk, ⟨L, o, hf, hn, ho, hd⟩, hr⟩, k => by
    obtain ⟨o', ho', hd'⟩ := k L (List.mem_filterMap.mpr ⟨env, List.mem_cons_self, hf⟩) o ho hd
    refine ⟨hk, ⟨L, o', hf, hn, ho', hd'⟩, frs_to hr fun b hb => k b ?_⟩
    obtain ⟨e, he, hq⟩ := List.mem_filterMap.mp hb
    exact List.mem_filterMap.mpr ⟨e, List.mem_cons_of_mem _ he, hq⟩

/-- all but heap and tokens is alike -/
structure SR (z s : Shared) : Prop where
  gens : s.gens = z.gens
  drawn : s.drawn = z.drawn
  os : s.os = z.os
theorem SR.with_ {z s : Shared} (x : SR z s) (h : Heap) (t : Nat) : SR z { s with heap := h, toks := t } := ⟨x.gens, x.drawn, x.os⟩
theorem SR.trans {a b c : Shared} (x : SR a b) (y : SR b c) : SR a c := ⟨y.gens.trans x.gens, y.drawn.trans x.drawn, y.os.trans x.os⟩
noncomputable def up (ρ : Str → Option Value) (x : Str) (v : Value) : Str → Option Value := fun y => if y = x then some v else ρ y
theorem up_self {ρ : Str → Option Value} {x : Str} {v : Value} : up ρ x v x = some v := if_pos rfl
theorem up_ne {ρ : Str → Option Value} {x y : Str} {v : Value} (h : y ≠ x) : up ρ x v y = ρ y := if_neg h

noncomputable def isVar : Option NameKind → Bool
  | some .local => true
  | some .cell => true
  | some .free => true
  | _ => false
noncomputable def isCel : Option NameKind → Bool
  | some .cell => true
  | some .free => true
  | _ => false

structure EnvIs (h : Heap) (env : Env) (ρ : Str → Option Value) : Prop where
  kind : env.scope.kind = .function
  ns : ∃ m, h.Ns env.locals m ∧ ∀ x, env.kindOf x = some .local → m x = ρ x
  cel : ∀ x, isCel (env.kindOf x) = true → ∃ c, env.cells.lookup x = some c ∧ h.IsCell c (ρ x)
  apart : ∀ x y c, env.cells.lookup x = some c → env.cells.lookup y = some c → x = y

/-- nothing that is to stay stands at D -/
noncomputable def Mu (R : Addr → Obj → Prop) (D : Addr) : Prop := ∀ x, ¬ R D x

structure St (base : Heap) (R : Addr → Obj → Prop) (Fs : List Env) (env : Env) (own : List Addr) (Av : Addr → Prop) (z : Shared) (ρ : Str → Option Value) (news : List (Addr × Obj)) (s : Shared) : Prop where
  ev : EnvIs s.heap env ρ
  led : ∀ p ∈ news, s.heap.get? p.1 = some p.2 ∧ ¬ Av p.1
  keep : ∀ b o, R b o → Kept (frs Fs) s.heap b o ∧ b ∉ own
  baseR : ∀ b o, base.get? b = some o → R b o
  live : ∀ a, Av a → ∃ o, s.heap.get? a = some o
  av : ∀ a ∈ own, Av a
  loc : env.locals ∈ own
  cav : ∀ x c, env.cells.lookup x = some c → Av c
  sr : SR z s
  ff : s.heap.FunFrames base Fs
  fav : ∀ a ∈ frs Fs, Av a
  low : ∀ b o, base.get? b = some o → @LT.lt Nat _ b env.locals

theorem cell_apart {h : Heap} {L c : Addr} {m : Str → Option Value} {v : Option Value} (x : h.Ns L m) (y : h.IsCell c v) : c ≠ L := by
  rintro rfl
  obtain ⟨o, es, ep, ho, hd, _⟩ := x
  obtain ⟨o', ho', hd'⟩ := y
  rw [ho] at ho'; cases ho'; rw [hd] at hd'; cases hd'

theorem EnvIs.keeps {F : List Addr} {h h' : Heap} {env : Env} {ρ : Str → Option Value} (S : EnvIs h env ρ) (k : ∀ b o, h.get? b = some o → (b = env.locals ∨ ∃ x, env.cells.lookup x = some b) → Kept F h' b o) : EnvIs h' env ρ :=
  ⟨S.kind, let ⟨m, hn, e⟩ := S.ns; ⟨m, Kept.ns hn fun o q => k _ o q (.inl rfl), e⟩, fun x hx => let ⟨c, hc, v⟩ := S.cel x hx; ⟨c, hc, Kept.cell v fun o q => k c o q (.inr ⟨x, hc⟩)⟩, S.apart⟩

/-- a ledger with one object changed -/
noncomputable def setN (D : Addr) (o : Obj) (news : List (Addr × Obj)) : List (Addr × Obj) := news.map fun p => if p.1 = D then (D, o) else p
theorem setN_self {D : Addr} {o o' : Obj} {news : List (Addr × Obj)} (m : (D, o) ∈ news) : (D, o') ∈ setN D o' news := List.mem_map.mpr ⟨_, m, if_pos rfl⟩
theorem setN_ne {D : Addr} {o' : Obj} {p : Addr × Obj} {news : List (Addr × Obj)} (m : p ∈ news) (n : p.1 ≠ D) : p ∈ setN D o' news := List.mem_map.mpr ⟨p, m, if_neg n⟩
theorem mem_setN {D : Addr} {o' : Obj} {p : Addr × Obj} {news : List (Addr × Obj)} (m : p ∈ setN D o' news) : (p = (D, o')) ∨ (p ∈ news ∧ p.1 ≠ D) := by
  obtain ⟨q, hq, e⟩ := List.mem_map.mp m
  by_cases h : q.1 = D
  · rw [if_pos h] at e; exact .inl e.symm
  · rw [if_neg h] at e; subst e; exact .inr ⟨hq, h⟩

section
variable {base : Heap} {R : Addr → Obj → Prop} {Fs : List Env} {env : Env} {own : List Addr} {Av : Addr → Prop} {z : Shared} {ρ : Str → Option Value} {news : List (Addr × Obj)} {s s' : Shared}
theorem St.mono {R' : Addr → Obj → Prop} {Av' : Addr → Prop} (S : St base R' Fs env own Av' z ρ news s) (hR : ∀ b o, R b o → R' b o) (hA : ∀ a, Av a → Av' a) (hav : ∀ a ∈ own, Av a) (hb : ∀ b o, base.get? b = some o → R b o) (hc : ∀ x c, env.cells.lookup x = some c → Av c) (hf : ∀ a ∈ frs Fs, Av a) : St base R Fs env own Av z ρ news s :=
  ⟨S.ev, fun p hp => ⟨(S.led p hp).1, fun n => (S.led p hp).2 (hA _ n)⟩, fun b o r => S.keep b o (hR b o r), hb, fun a n => S.live a (hA _ n), hav, S.loc, hc, S.sr, S.ff, hf, S.low⟩
theorem St.sub {news' : List (Addr × Obj)} (S : St base R Fs env own Av z ρ news s) (hs : ∀ p ∈ news', p ∈ news) : St base R Fs env own Av z ρ news' s :=
  ⟨S.ev, fun p hp => S.led p (hs p hp), S.keep, S.baseR, S.live, S.av, S.loc, S.cav, S.sr, S.ff, S.fav, S.low⟩
theorem St.get {a : Addr} {o : Obj} (S : St base R Fs env own Av z ρ news s) (m : (a, o) ∈ news) : s.heap.get? a = some o := (S.led _ m).1
theorem St.lt {a : Addr} (S : St base R Fs env own Av z ρ news s) (m : Av a) : a < s.heap.objs.size := let ⟨_, e⟩ := S.live a m; Heap.lt_size e
theorem St.bget {b : Addr} {o : Obj} (S : St base R Fs env own Av z ρ news s) (e : base.get? b = some o) : s.heap.get? b = some o := (S.keep b o (S.baseR b o e)).1.get (frs_base S.ff e)
/-- two entries at one address are one -/
theorem St.uniq {a : Addr} {o o' : Obj} (S : St base R Fs env own Av z ρ news s) (m : (a, o) ∈ news) (m' : (a, o') ∈ news) : o = o' := by
  have := (S.led _ m).1; rw [(S.led _ m').1] at this; exact (Option.some.inj this).symm
theorem St.fresh (S : St base R Fs env own Av z ρ news s) {a : Addr} (ha : s.heap.objs.size ≤ a) : Mu R a := fun x r => absurd ((S.keep _ x r).1.lt) (Nat.not_lt.mpr ha)
theorem St.avFresh (S : St base R Fs env own Av z ρ news s) {a : Addr} (ha : s.heap.objs.size ≤ a) : ¬ Av a := fun n => absurd (S.lt n) (Nat.not_lt.mpr ha)
theorem St.nameAv (S : St base R Fs env own Av z ρ news s) {b : Addr} (hb : b = env.locals ∨ ∃ x, env.cells.lookup x = some b) : Av b := by
  rcases hb with rfl | ⟨x, hx⟩
  · exact S.av _ S.loc
  · exact S.cav _ _ hx
theorem St.tok (S : St base R Fs env own Av z ρ news s) (t : Nat) : St base R Fs env own Av z ρ news { s with toks := t } := ⟨S.ev, S.led, S.keep, S.baseR, S.live, S.av, S.loc, S.cav, S.sr.with_ _ _, S.ff, S.fav, S.low⟩

/-- new objects, old ones untouched -/
theorem St.grow (S : St base R Fs env own Av z ρ news s) {add : List (Addr × Obj)} (r : SR s s') (k : ∀ b o, s.heap.get? b = some o → s'.heap.get? b = some o) (ha : ∀ p ∈ add, s'.heap.get? p.1 = some p.2 ∧ s.heap.objs.size ≤ p.1) : St base R Fs env own Av z ρ (add ++ news) s' :=
  ⟨S.ev.keeps (F := []) fun b o' e _ => .of (k _ _ e), fun p hp => by
      rcases List.mem_append.mp hp with hp | hp
      · exact ⟨(ha p hp).1, S.avFresh (ha p hp).2⟩
      · exact ⟨k _ _ (S.led p hp).1, (S.led p hp).2⟩,
    fun b o' r => ⟨(S.keep b o' r).1.to' fun _ e => k _ _ e, (S.keep b o' r).2⟩, S.baseR,
    fun a n => let ⟨o', e⟩ := S.live a n; ⟨o', k _ _ e⟩, S.av, S.loc, S.cav, S.sr.trans r, frs_to S.ff fun b _ o e hd => ⟨o, k b o e, hd⟩, S.fav, S.low⟩
theorem St.grow0 (S : St base R Fs env own Av z ρ news s) (r : SR s s') (k : ∀ b o, s.heap.get? b = some o → s'.heap.get? b = some o) : St base R Fs env own Av z ρ news s' :=
  S.grow (add := []) r k fun p hp => (nomatch hp)
theorem St.push (S : St base R Fs env own Av z ρ news s) (o : Obj) (t : Nat) (hf : o.isFreed = false := by rfl) : St base R Fs env own Av z ρ ((s.heap.objs.size, o) :: news) { s with heap := s.heap.push o, toks := t } :=
  S.grow (add := [(s.heap.objs.size, o)]) ⟨rfl, rfl, rfl⟩ (fun _ _ e => Heap.get?_push_of_some _ e) fun p hp => by
    rw [List.mem_singleton.mp hp]; exact ⟨Heap.get?_push_size _ hf, Nat.le_refl _⟩

theorem St.change {D : Addr} {o o' : Obj} {h' : Heap} {t : Nat} (S : St base R Fs env own Av z ρ news s) (m : (D, o) ∈ news) (hR : Mu R D)
    (e : h'.get? D = some o') (hs : Heap.SameBut D s.heap h') : St base R Fs env own Av z ρ (setN D o' news) { s with heap := h', toks := t } := by
  have hD := (S.led _ m).2
  refine ⟨S.ev.keeps (F := []) fun b ob q hb => ?_, fun p hp => ?_, fun b ob r => ?_, S.baseR, fun a n => ?_, S.av, S.loc, S.cav, S.sr.with_ _ _, frs_to S.ff fun b hb o₁ q hd => ⟨o₁, (hs.2 b ?_).trans q, hd⟩, S.fav, S.low⟩
  · refine .of ((hs.2 b ?_).trans q)
    rintro rfl
    exact hD (S.nameAv hb)
  · rcases mem_setN hp with rfl | ⟨hp, hn⟩
    · exact ⟨e, hD⟩
    · exact ⟨(hs.2 _ hn).trans (S.led p hp).1, (S.led p hp).2⟩
  · refine ⟨(S.keep b ob r).1.to' fun o₂ q => (hs.2 b ?_).trans q, (S.keep b ob r).2⟩
    rintro rfl; exact hR _ r
  · obtain ⟨o₁, q⟩ := S.live a n
    refine ⟨o₁, (hs.2 a ?_).trans q⟩
    rintro rfl; exact hD n
  · rintro rfl; exact hD (S.fav _ hb)

/-- a callee changed what stands at X, made new things, left all else -/
theorem St.call {X : List Addr} {news' : List (Addr × Obj)} (S : St base R Fs env own Av z ρ news s) (r : SR s s') (k : Kp X (frs Fs) s.heap s'.heap) (hX : ∀ a ∈ X, ¬ Av a ∧ Mu R a) (N : ∀ p ∈ news', s'.heap.get? p.1 = some p.2 ∧ ¬ Av p.1) :
    St base R Fs env own Av z ρ news' s' :=
  ⟨S.ev.keeps fun b o e hb => k b o e fun m => (hX b m).1 (S.nameAv hb), N, fun b o r => ⟨(S.keep b o r).1.to fun o' q => k b o' q fun m => (hX b m).2 _ r, (S.keep b o r).2⟩, S.baseR,
    fun a n => let ⟨o, e⟩ := S.live a n; let ⟨_, q, _⟩ := k a o e fun m => (hX a m).1 n; ⟨_, q⟩, S.av, S.loc, S.cav, S.sr.trans r,
    frs_to S.ff fun b hb o e hd => let ⟨_, q, _⟩ := k b o e fun m => (hX b m).1 (S.fav _ hb); ⟨_, q, hd⟩, S.fav, S.low⟩
end

section
variable {M : Model} {A : Around} {E : Value → Shared → Prop} {s : Shared}
variable {base : Heap} {R : Addr → Obj → Prop} {Fs : List Env} {env : Env} {own : List Addr} {Av : Addr → Prop} {z : Shared} {ρ : Str → Option Value} {news : List (Addr × Obj)}

theorem ldv {x : Str} {pos : Pos} {v : Value} {Q : Value → Shared → Prop} (S : St base R Fs env own Av z ρ news s) (hv : ρ x = some v) (h : Q v s)
    (hk : isVar (env.kindOf x) = true := by rfl) (hd : (x == ("__debug__" : Str)) = false := by decide) (hn : (x == ("__classdict__" : Str)) = false := by decide) : wpAny M A (eval (.Name x pos) env) Q E s := by
  refine wpAny_Name ?_ hd
  cases hx : env.kindOf x with
  | none => rw [hx] at hk; cases hk
  | some k =>
    rw [hx] at hk
    cases k with
    | «local» =>
      obtain ⟨m, hm, e⟩ := S.ev.ns
      exact wpAny_loadName_local S.ev.kind hx hm ((e x hx).trans hv) h
    | cell =>
      obtain ⟨c, hc, q⟩ := S.ev.cel x (by rw [hx]; rfl)
      exact wpAny_loadName_cell S.ev.kind hx hc (hv ▸ q) h
    | free =>
      obtain ⟨c, hc, q⟩ := S.ev.cel x (by rw [hx]; rfl)
      exact wpAny_loadName_free S.ev.kind hx hc (hv ▸ q) h hn
    | globalExplicit => cases hk
    | globalImplicit => cases hk

theorem stL {x : Str} {v : Value} {Q : Unit → Shared → Prop} (S : St base R Fs env own Av z ρ news s) (hk : env.kindOf x = some .local)
    (h : ∀ s', St base R Fs env own Av z (up ρ x v) news s' → Q () s') : wpAny M A (storeName env x v) Q E s := by
  obtain ⟨m, hm, e⟩ := S.ev.ns
  refine wpAny_storeName_local hk hm (fun h' hn hs => h _ ⟨⟨S.ev.kind, ⟨_, hn, fun y hy => ?_⟩, fun y hy => ?_, S.ev.apart⟩, fun p hp => ?_, fun b o r => ?_, S.baseR, fun a n => ?_, S.av, S.loc, S.cav, S.sr.with_ _ _, frs_to S.ff fun b _ o₁ q hd => ?_, S.fav, S.low⟩)
    (by rw [S.ev.kind]; rfl)
  · show (if y = x then some v else m y) = if y = x then some v else ρ y
    rw [e y hy]
  · obtain ⟨c, hc, q⟩ := S.ev.cel y hy
    refine ⟨c, hc, ?_⟩
    have hyx : y ≠ x := by rintro rfl; rw [hk] at hy; cases hy
    rw [up_ne hyx]
    exact q.sameBut hs (cell_apart hm q)
  · refine ⟨(hs.2 _ fun q => ?_).trans (S.led p hp).1, (S.led p hp).2⟩
    exact (S.led p hp).2 (q ▸ S.av _ S.loc)
  · exact ⟨(S.keep b o r).1.to' fun o₂ e => (hs.2 _ fun q => (S.keep b o r).2 (by rw [show b = env.locals from q]; exact S.loc)).trans e, (S.keep b o r).2⟩
  · obtain ⟨o, q⟩ := S.live a n
    by_cases hL : a = env.locals
    · subst hL
      obtain ⟨o', es, ep, ho, _⟩ := hn
      exact ⟨o', ho⟩
    · exact ⟨o, (hs.2 _ hL).trans q⟩
  · by_cases hL : b = env.locals
    · subst hL
      obtain ⟨o', es, ep, ho, hd', _⟩ := hn
      exact ⟨o', ho, fun vs z => by rw [hd'] at z; cases z⟩
    · exact ⟨o₁, (hs.2 _ hL).trans q, hd⟩

theorem stC {x : Str} {c : Addr} {v : Value} {Q : Unit → Shared → Prop} (S : St base R Fs env own Av z ρ news s) (hk : env.kindOf x = some .cell) (hc : env.cells.lookup x = some c) (ho : c ∈ own)
    (h : ∀ s', St base R Fs env own Av z (up ρ x v) news s' → Q () s') : wpAny M A (storeName env x v) Q E s := by
  obtain ⟨m, hm, e⟩ := S.ev.ns
  have hcel : ∃ c', env.cells.lookup x = some c' ∧ s.heap.IsCell c' (ρ x) := S.ev.cel x (by rw [hk]; rfl)
  obtain ⟨c', hc', q⟩ := hcel
  obtain rfl : c' = c := by rw [hc] at hc'; exact (Option.some.inj hc').symm
  refine wpAny_storeName_cell S.ev.kind hk hc q (fun h' hv hs => h _ ⟨⟨S.ev.kind, ⟨m, hm.sameBut hs (Ne.symm (cell_apart hm q)), fun y hy => ?_⟩, fun y hy => ?_, S.ev.apart⟩, fun p hp => ?_, fun b o r => ?_, S.baseR, fun a n => ?_, S.av, S.loc, S.cav, S.sr.with_ _ _, frs_to S.ff fun b _ o₁ q hd => ?_, S.fav, S.low⟩)
  · have hyx : y ≠ x := by rintro rfl; rw [hk] at hy; cases hy
    rw [up_ne hyx]; exact e y hy
  · obtain ⟨d, hd, qd⟩ := S.ev.cel y hy
    refine ⟨d, hd, ?_⟩
    by_cases hyx : y = x
    · subst hyx
      obtain rfl : d = c' := by rw [hc] at hd; exact (Option.some.inj hd).symm
      rw [up_self]; exact hv
    · rw [up_ne hyx]
      exact qd.sameBut hs fun z => hyx (S.ev.apart _ _ _ hd (z ▸ hc))
  · refine ⟨(hs.2 _ fun z => ?_).trans (S.led p hp).1, (S.led p hp).2⟩
    exact (S.led p hp).2 (z ▸ S.av _ ho)
  · exact ⟨(S.keep b o r).1.to' fun o₂ e => (hs.2 _ fun z => (S.keep b o r).2 (by rw [show b = c' from z]; exact ho)).trans e, (S.keep b o r).2⟩
  · obtain ⟨o, z⟩ := S.live a n
    by_cases hL : a = c'
    · subst hL
      obtain ⟨o', ho', _⟩ := hv
      exact ⟨o', ho'⟩
    · exact ⟨o, (hs.2 _ hL).trans z⟩
  · by_cases hL : b = c'
    · subst hL
      obtain ⟨o', ho', hd'⟩ := hv
      exact ⟨o', ho', fun vs z => by rw [hd'] at z; cases z⟩
    · exact ⟨o₁, (hs.2 _ hL).trans q, hd⟩
end


/-- the heap without the places F -/
noncomputable def hide (h : Heap) (F : List Addr) : Heap := ⟨(Array.range h.objs.size).map fun i => if i ∈ F then ⟨.none, none, .freed, #[]⟩ else h.objs.getD i ⟨.none, none, .freed, #[]⟩, h.life⟩
theorem hide_get {h : Heap} {F : List Addr} {b : Addr} : (hide h F).get? b = if b ∈ F then none else h.get? b := by
  unfold hide Heap.get?
  simp only [Array.getElem?_map]
  by_cases hb : b < h.objs.size
  · have e : (Array.range h.objs.size)[b]? = some b := by simp [Array.getElem?_range, hb]
    rw [e, Option.map_some]
    by_cases hm : b ∈ F
    · rw [if_pos hm, if_pos hm]
    · rw [if_neg hm, if_neg hm]
      have e2 : h.objs[b]? = some (h.objs.getD b ⟨.none, none, .freed, #[]⟩) := by
        rw [Array.getElem?_eq_getElem hb, Array.getD_eq_getD_getElem?, Array.getElem?_eq_getElem hb]; rfl
      rw [← e2]
  · have e : (Array.range h.objs.size)[b]? = none := by simp [Array.getElem?_range]; exact Nat.not_lt.mp hb
    have e2 : h.objs[b]? = none := Array.getElem?_eq_none (Nat.not_lt.mp hb)
    rw [e, Option.map_none, e2]
    by_cases hm : b ∈ F
    · rw [if_pos hm]
    · rw [if_neg hm]
theorem frs_hide {h base : Heap} {F : List Addr} : ∀ {Fs : List Env}, h.FunFrames base Fs → (∀ a ∈ frs Fs, a ∈ F) → h.FunFrames (hide h F) Fs
  | [], _, _ => trivial
  | env :: rest, ⟨hk, ⟨L, o, hf, hn, ho, hd⟩, hr⟩, k => by
    refine ⟨hk, ⟨L, o, hf, ?_, ho, hd⟩, frs_hide hr fun a ha => k a ?_⟩
    · rw [hide_get, if_pos (k L (List.mem_filterMap.mpr ⟨env, List.mem_cons_self, hf⟩))]
    · obtain ⟨e, he, hq⟩ := List.mem_filterMap.mp ha
      exact List.mem_filterMap.mpr ⟨e, List.mem_cons_of_mem _ he, hq⟩

/-- what a call of f is worth -/
noncomputable def Con (prog : Program) (w : World) (base : Heap) (A : Around) (f : Value) (args : List Value) (X : List Addr) (news : List (Addr × Obj)) (Post : Value → List (Addr × Obj) → Prop) : Prop :=
  ∀ (Fs : List Env) (s : Shared) (Av : Addr → Prop) (Q : Value → Shared → Prop), A.frames = some Fs → s.heap.FunFrames base Fs → (∀ a ∈ frs Fs, Av a) → (∀ b o, base.get? b = some o → s.heap.get? b = some o) → (∀ p ∈ news, s.heap.get? p.1 = some p.2 ∧ ¬ Av p.1) → (∀ a, Av a → ∃ o, s.heap.get? a = some o) →
    (∀ r s' news', SR s s' → Kp X (frs Fs) s.heap s'.heap → (∀ p ∈ news', s'.heap.get? p.1 = some p.2 ∧ ¬ Av p.1) → (∀ p ∈ news, p.1 ∉ X → p ∈ news') → Post r news' → Q r s') →
    wpAny (model prog w) A (call f args) Q NoE s

/-- the same of a call that may raise StopIteration -/
noncomputable def ConE (prog : Program) (w : World) (base : Heap) (A : Around) (f : Value) (args : List Value) (X : List Addr) (news : List (Addr × Obj)) (Post : Value → List (Addr × Obj) → Prop) (Stop : List (Addr × Obj) → Prop) : Prop :=
  ∀ (Fs : List Env) (s : Shared) (Av : Addr → Prop) (Q : Value → Shared → Prop) (E : Value → Shared → Prop), A.frames = some Fs → s.heap.FunFrames base Fs → (∀ a ∈ frs Fs, Av a) → (∀ b o, base.get? b = some o → s.heap.get? b = some o) → (∀ p ∈ news, s.heap.get? p.1 = some p.2 ∧ ¬ Av p.1) → (∀ a, Av a → ∃ o, s.heap.get? a = some o) →
    (∀ r s' news', SR s s' → Kp X (frs Fs) s.heap s'.heap → (∀ p ∈ news', s'.heap.get? p.1 = some p.2 ∧ ¬ Av p.1) → (∀ p ∈ news, p.1 ∉ X → p ∈ news') → Post r news' → Q r s') →
    (∀ e s' news', SR s s' → Kp X (frs Fs) s.heap s'.heap → (∀ p ∈ news', s'.heap.get? p.1 = some p.2 ∧ ¬ Av p.1) → (∀ p ∈ news, p.1 ∉ X → p ∈ news') → Stop news' → (∃ o, s'.heap.get? e = some o ∧ o.cls = .type "StopIteration") → E (.ref e) s') →
    codeAny (model prog w) A (.call f ⟨args, []⟩) (fun r s' => match r with | .ok (.ret v) => Q v s' | .ok _ => False | .error e => E e s') s

noncomputable def retOf : Flow → Value
  | .ret v => v
  | _ => .none
/-- the end of a body -/
noncomputable def Ret (base : Heap) (R : Addr → Obj → Prop) (Fs : List Env) (env : Env) (own : List Addr) (Av : Addr → Prop) (z : Shared) (X : List Addr) (news : List (Addr × Obj)) (Post : Value → List (Addr × Obj) → Prop) (fl : Flow) (s' : Shared) : Prop :=
  ∃ ρ' news', St base R Fs env own Av z ρ' news' s' ∧ (∀ p ∈ news, p.1 ∉ X → p ∈ news') ∧ Post (retOf fl) news'

/-- a body that raises -/
noncomputable def Rai (base : Heap) (R : Addr → Obj → Prop) (Fs : List Env) (env : Env) (own : List Addr) (Av : Addr → Prop) (z : Shared) (X : List Addr) (news : List (Addr × Obj)) (Stop : List (Addr × Obj) → Prop) (e : Value) (s' : Shared) : Prop :=
  ∃ a ρ' news' h₁, e = .ref a ∧ St base R Fs env own Av z ρ' news' { s' with heap := h₁ } ∧ (∀ p ∈ news, p.1 ∉ X → p ∈ news') ∧ Stop news' ∧ Heap.NewExc h₁ s'.heap a "StopIteration"

section
variable {prog : Program} {w : World} {A : Around} {base : Heap} {s : Shared}
variable {R : Addr → Obj → Prop} {Fs : List Env} {env : Env} {own : List Addr} {Av : Addr → Prop} {z : Shared} {ρ : Str → Option Value} {news : List (Addr × Obj)}
theorem Con.use {f : Value} {args : List Value} {X : List Addr} {Post : Value → List (Addr × Obj) → Prop} {Q : Value → Shared → Prop} (C : Con prog w base A f args X news Post) (S : St base R Fs env own Av z ρ news s) (hfr : A.frames = some Fs)
    (hX : ∀ a ∈ X, (∃ o, (a, o) ∈ news) ∧ Mu R a)
    (h : ∀ r s' news', St base R Fs env own Av z ρ news' s' → (∀ p ∈ news, p.1 ∉ X → p ∈ news') → Post r news' → Q r s') : wpAny (model prog w) A (call f args) Q NoE s :=
  C Fs s Av Q hfr S.ff S.fav (fun _ _ e => S.bget e) S.led S.live fun r s' news' sr k N sub p => h r s' news' (S.call sr k (fun a m => let ⟨⟨_, e⟩, u⟩ := hX a m; ⟨(S.led _ e).2, u⟩) N) sub p

theorem bindL_lookup {kindOf : Str → Option NameKind} {y : Str} (hy : kindOf y = some .local) : ∀ (binds : List (Str × Value)) (m : Str → Option Value), bindL kindOf binds m y = (binds.reverse.lookup y).or (m y)
  | [], m => by simp [bindL]
  | (n, v) :: r, m => by
    rw [bindL, bindL_lookup hy r, List.reverse_cons, List.lookup_append, Option.or_assoc]
    congr 1
    by_cases hn : y = n
    · subst hn; rw [if_pos hy]; simp
    · have hb : (y == n) = false := beq_eq_false_iff_ne.mpr hn
      rw [List.lookup_cons, hb]
      by_cases hk : kindOf n = some .local
      · rw [if_pos hk]; simp [hn]
      · rw [if_neg hk]; simp
theorem bindC_lookup {kindOf : Str → Option NameKind} {y : Str} (hy : kindOf y ≠ some .local) : ∀ (binds : List (Str × Value)) (m : Str → Option Value), bindC kindOf binds m y = (binds.reverse.lookup y).or (m y)
  | [], m => by simp [bindC]
  | (n, v) :: r, m => by
    rw [bindC, bindC_lookup hy r, List.reverse_cons, List.lookup_append, Option.or_assoc]
    congr 1
    by_cases hn : y = n
    · subst hn; rw [if_neg hy]; simp
    · have hb : (y == n) = false := beq_eq_false_iff_ne.mpr hn
      rw [List.lookup_cons, hb]
      by_cases hk : kindOf n = some .local
      · rw [if_pos hk]; simp
      · rw [if_neg hk]; simp [hn]

noncomputable def bound (binds : List (Str × Value)) : Str → Option Value := fun y => binds.reverse.lookup y
noncomputable abbrev ownC (fd : FuncData) (L : Addr) : List Addr := L :: (cellsFrom (L + 1) fd.scope.names []).map (·.2)

theorem cellsFrom_has {x : Str} : ∀ (names : List (Str × NameKind)) (n : Nat) (acc : List (Str × Addr)), names.lookup x = some .cell → ((cellsFrom n names acc).lookup x).isSome = true := fun names n acc h => cellsFrom_some names n acc (.inl h)

theorem ConE.body {fd : FuncData} {body : List Stmt} {f : Addr} {o : Obj} {args : List Value} {binds : List (Str × Value)} {X : List Addr} {Post : Value → List (Addr × Obj) → Prop} {Stop : List (Addr × Obj) → Prop}
    (ho : base.get? f = some o) (hd : o.data = .func fd) (hbody : fd.body = .stmts body) (hco : fd.scope.isCoroutine = false) (hgen : fd.scope.isGenerator = false) (hk : fd.scope.kind = .function) (hcl : fd.closure = [])
    (hcd : base.CodeRec fd.code fd.qualname) (hlim : base.NoLimit) (hroom : A.depth < recursionLimit) (hbind : bindArgs fd ⟨args, []⟩ = pure binds)
    (hkind : (binds.all fun y => fd.scope.names.lookup y.1 == some .local || fd.scope.names.lookup y.1 == some .cell) = true)
    (hcells : (fd.scope.names.all fun x => (fd.scope.names.lookup x.1 != some .free)) = true)
    (hnd : ((cellsFrom 0 fd.scope.names []).map (·.1)).Nodup)
    (hX : ∀ a ∈ X, (∃ o, (a, o) ∈ news) ∧ base.get? a = none)
    (h : ∀ (z s : Shared) R Fs L Av E, (A.deeper (callEnvC fd L f)).frames = some Fs → (∀ a ∈ X, Mu R a) → L ∈ frs Fs → Mu R L → PassesOwn (model prog w) (A.deeper (callEnvC fd L f)) (callEnvC fd L f) E →
      (∀ e s', Rai base R Fs (callEnvC fd L f) (ownC fd L) Av z X news Stop e s' → E e s') → St base R Fs (callEnvC fd L f) (ownC fd L) Av z (bound binds) news s →
      wpAny (model prog w) (A.deeper (callEnvC fd L f)) (execs body (callEnvC fd L f)) (Ret base R Fs (callEnvC fd L f) (ownC fd L) Av z X news Post) E s) :
    ConE prog w base A (.ref f) args X news Post Stop := by
  intro Fs s Av Q E hfr hff hfav hb hled hlive hQ hE
  have lim : ∀ h' : Heap, (∀ b o, base.get? b = some o → h'.get? b = some o) → h'.NoLimit := fun h' k => hlim.keeps k
  refine (codeAny_call_function (hroom := hroom) (hb f o ho) hd hco hgen hbody (hcd.keeps hb) ?_)
  rw [hbind]
  refine wpAny_pure ?_
  rw [hcl]
  refine wpAny_newFunctionEnv_cells hk (fun x hx => ?_) fun env he s₁ I => ?_
  · have := List.all_eq_true.mp hkind x hx
    rcases Bool.or_eq_true_iff.mp this with q | q
    · exact .inl (by simpa using q)
    · have q' : fd.scope.names.lookup x.1 = some .cell := by simpa using q
      exact .inr ⟨q', cellsFrom_has _ _ _ q'⟩
  · have he' : env = callEnvC fd s.heap.objs.size f := he
    subst he'
    have hLc : (callEnvC fd s.heap.objs.size f).locals = s.heap.objs.size := rfl
    obtain ⟨h₁, tk, hs₁, hkp⟩ := I.done
    refine ⟨lim _ fun b o' e => I.toInCall.keep b o' (hb b o' e), codeAny_func ?_⟩
    have hlt : ∀ b o', s.heap.get? b = some o' → b ∉ ownC fd s.heap.objs.size := fun b o' e m => by
      rcases List.mem_cons.mp m with rfl | m
      · exact absurd (Heap.lt_size e) (Nat.lt_irrefl _)
      · obtain ⟨q, hq, rfl⟩ := List.mem_map.mp m
        exact absurd (Heap.lt_size e) (Nat.not_lt.mpr (Nat.le_of_lt (I.above q.1 q.2 hq)))
    have hnd' : ((cellsFrom (s.heap.objs.size + 1) fd.scope.names []).map (·.1)).Nodup := by
      rw [cellsFrom_names fd.scope.names 0 (s.heap.objs.size + 1) [] [] rfl] at hnd
      exact hnd
    have hLb : base.get? s.heap.objs.size = none := by
      cases q : base.get? s.heap.objs.size with
      | none => rfl
      | some o' => exact absurd (Heap.lt_size (hb _ _ q)) (Nat.lt_irrefl _)
    have S : St base (fun b o => s.heap.get? b = some o ∧ b ∉ X) (callEnvC fd s.heap.objs.size f :: Fs) (callEnvC fd s.heap.objs.size f) (ownC fd s.heap.objs.size) (fun a => Av a ∨ a ∈ ownC fd s.heap.objs.size) s (bound binds) news s₁ := by
      refine ⟨⟨hk, ⟨_, I.toInCall.ns, fun x hx => ?_⟩, fun x hx => ?_, fun x y c hx hy => ?_⟩, fun p hp => ?_, fun b o' r => ?_, fun b o' e => ⟨hb b o' e, fun m => ?_⟩, fun a n => ?_, fun a m => .inr m, List.mem_cons_self, fun x c hc => .inr (List.mem_cons_of_mem _ (List.mem_map_of_mem (f := (·.2)) (mem_of_lookup hc))), ?_, ?_, fun a m => ?_, fun b o' e => Heap.lt_size (hb b o' e)⟩
      · rw [bindL_lookup hx]; simp [bound]
      · have hkc : (callEnvC fd s.heap.objs.size f).kindOf x = some .cell := by
          cases hq : (callEnvC fd s.heap.objs.size f).kindOf x with
          | none => rw [hq] at hx; cases hx
          | some k =>
            rw [hq] at hx
            cases k with
            | cell => rfl
            | free =>
              exfalso
              have hm := mem_of_lookup (l := fd.scope.names) hq
              have := List.all_eq_true.mp hcells _ hm
              rw [show fd.scope.names.lookup x = some .free from hq] at this
              simp at this
            | «local» => cases hx
            | globalExplicit => cases hx
            | globalImplicit => cases hx
        obtain ⟨c, hc⟩ := Option.isSome_iff_exists.mp (cellsFrom_has (x := x) fd.scope.names (s.heap.objs.size + 1) [] hkc)
        refine ⟨c, hc, ?_⟩
        have := I.cell x c hc
        rw [bindC_lookup (by rw [hkc]; decide)] at this
        simpa [bound] using this
      · exact name_of_addr I.apart (mem_of_lookup hx) (mem_of_lookup hy)
      · refine ⟨I.toInCall.keep _ _ (hled p hp).1, fun m => ?_⟩
        rcases m with m | m
        · exact (hled p hp).2 m
        · exact hlt _ _ (hled p hp).1 m
      · exact ⟨.of (I.toInCall.keep _ _ r.1), hlt _ _ r.1⟩
      · obtain ⟨_, q⟩ := hX b m
        rw [q] at e; cases e
      · rcases n with n | n
        · obtain ⟨o', e⟩ := hlive a n
          exact ⟨o', I.toInCall.keep _ _ e⟩
        · rcases List.mem_cons.mp n with rfl | n
          · obtain ⟨o', es, ep, e, _⟩ := I.toInCall.ns
            exact ⟨o', e⟩
          · obtain ⟨q, hq, rfl⟩ := List.mem_map.mp n
            have hl := lookup_of_mem_nodup hnd' hq
            obtain ⟨o', e, _⟩ := I.cell q.1 q.2 hl
            exact ⟨o', e⟩
      · rw [hs₁]; exact ⟨rfl, rfl, rfl⟩
      · exact Heap.FunFrames.cons (L := s.heap.objs.size) (by rw [show (callEnvC fd s.heap.objs.size f).scope.kind = fd.scope.kind from rfl, hk]; decide) rfl I.toInCall.ns hLb (frs_to hff fun b _ o' e hd => ⟨o', I.toInCall.keep _ _ e, hd⟩)
      · rcases List.mem_filterMap.mp m with ⟨e, he, hq⟩
        rcases List.mem_cons.mp he with rfl | he
        · have hq' : some s.heap.objs.size = some a := hq
          rw [← Option.some.inj hq']
          exact .inr List.mem_cons_self
        · exact .inl (hfav a (List.mem_filterMap.mpr ⟨e, he, hq⟩))
    have kept : ∀ {ρ' news' s'} (S' : St base (fun b o => s.heap.get? b = some o ∧ b ∉ X) (callEnvC fd s.heap.objs.size f :: Fs) (callEnvC fd s.heap.objs.size f) (ownC fd s.heap.objs.size) (fun a => Av a ∨ a ∈ ownC fd s.heap.objs.size) s ρ' news' s'), Kp X (frs Fs) s.heap s'.heap := fun S' a o' e n => by
      obtain ⟨sl, e', q⟩ := (S'.keep a o' ⟨e, n⟩).1
      refine ⟨sl, e', fun m => q fun m' => ?_⟩
      rcases List.mem_filterMap.mp m' with ⟨e₁, he, hq⟩
      rcases List.mem_cons.mp he with rfl | he
      · have hq' : some s.heap.objs.size = some a := hq
        rw [← Option.some.inj hq'] at e
        exact absurd (Heap.lt_size e) (Nat.lt_irrefl _)
      · exact m (List.mem_filterMap.mpr ⟨e₁, he, hq⟩)
    refine wpAny_mono (h s s₁ _ _ _ _ _ (Around.frames_deeper hfr) (fun a m x r => r.2 m) (List.mem_filterMap.mpr ⟨_, List.mem_cons_self, rfl⟩) (fun x r => absurd (Heap.lt_size r.1) (Nat.lt_irrefl _)) PassesOwn.leaving (fun e s' hr => ?_) S) (fun fl s' hr => ?_) (fun e s' hr => hr)
    rotate_left
    · obtain ⟨ρ', news', S', sub, P⟩ := hr
      exact hQ (retOf fl) s' news' S'.sr (kept S') (fun p hp => ⟨(S'.led p hp).1, fun n => (S'.led p hp).2 (.inl n)⟩) sub P
    · obtain ⟨a, ρ', news', h₁, rfl, S', sub, P, hx⟩ := hr
      obtain ⟨ob, tp, he, hcls, hd⟩ := hx.there
      have hkb : (hide h₁ (frs (callEnvC fd s.heap.objs.size f :: Fs))).StaysIn s'.heap := fun b o hbo => by
        rw [hide_get] at hbo
        split at hbo
        · cases hbo
        · exact hx.keeps b o hbo
      have hen : (hide h₁ (frs (callEnvC fd s.heap.objs.size f :: Fs))).get? a = none := by
        rw [hide_get]
        split
        · rfl
        · exact hx.new
      have hl : s'.heap.FunFrames (hide h₁ (frs (callEnvC fd s.heap.objs.size f :: Fs))) (callEnvC fd s.heap.objs.size f :: Fs) :=
        frs_to (frs_hide (h := h₁) S'.ff fun _ m => m) fun b _ o q hd => ⟨o, hx.keeps b o q, hd⟩
      refine wpAny_leaving_first (Around.frames_deeper hfr) hl rfl he hkb hen hd rfl fun h' hL => ?_
      obtain ⟨k1, k2, k3, k4⟩ := hL
      have all : Kp [] (frs (callEnvC fd s.heap.objs.size f :: Fs)) h₁ h' := fun b o q _ => by
        by_cases hm : b ∈ frs (callEnvC fd s.heap.objs.size f :: Fs)
        · obtain ⟨o₂, ho₂, hd₂⟩ := (S'.ff.mem hm).2
          have ho₂' : h₁.get? b = some o₂ := ho₂
          rw [q] at ho₂'; cases ho₂'
          obtain ⟨sl, hs⟩ := k4 b o (hx.keeps b o q) hd₂
          exact ⟨sl, hs, fun n => absurd hm n⟩
        · exact .of (k1 b o (by rw [hide_get, if_neg hm]; exact q))
      have S2 : St base _ _ (callEnvC fd s.heap.objs.size f) _ _ s ρ' news' { s' with heap := h' } := S'.call (X := []) (s' := { s' with heap := h' }) ⟨rfl, rfl, rfl⟩ all (fun a m => (nomatch m)) fun p hp => ⟨(all p.1 p.2 (S'.led p hp).1 (fun m => nomatch m)).get fun m => (S'.led p hp).2 (S'.fav _ m), (S'.led p hp).2⟩
      have k3' : ∃ o, h'.get? a = some o ∧ o.cls = .type "StopIteration" := by
        obtain ⟨oe, vs, T, oT, ts, q1, q2, _⟩ := k3
        exact ⟨oe, q1, q2.trans hcls⟩
      exact hE a _ news' S2.sr (kept S2) (fun p hp => ⟨(S2.led p hp).1, fun n => (S2.led p hp).2 (.inl n)⟩) sub P k3'
theorem Con.body {fd : FuncData} {body : List Stmt} {f : Addr} {o : Obj} {args : List Value} {binds : List (Str × Value)} {X : List Addr} {Post : Value → List (Addr × Obj) → Prop}
    (ho : base.get? f = some o) (hd : o.data = .func fd) (hbody : fd.body = .stmts body) (hco : fd.scope.isCoroutine = false) (hgen : fd.scope.isGenerator = false) (hk : fd.scope.kind = .function) (hcl : fd.closure = [])
    (hcd : base.CodeRec fd.code fd.qualname) (hlim : base.NoLimit) (hroom : A.depth < recursionLimit) (hbind : bindArgs fd ⟨args, []⟩ = pure binds)
    (hkind : (binds.all fun y => fd.scope.names.lookup y.1 == some .local || fd.scope.names.lookup y.1 == some .cell) = true)
    (hcells : (fd.scope.names.all fun x => (fd.scope.names.lookup x.1 != some .free)) = true)
    (hnd : ((cellsFrom 0 fd.scope.names []).map (·.1)).Nodup)
    (hX : ∀ a ∈ X, (∃ o, (a, o) ∈ news) ∧ base.get? a = none)
    (h : ∀ (z s : Shared) R Fs L Av, (A.deeper (callEnvC fd L f)).frames = some Fs → (∀ a ∈ X, Mu R a) → St base R Fs (callEnvC fd L f) (ownC fd L) Av z (bound binds) news s →
      wpAny (model prog w) (A.deeper (callEnvC fd L f)) (execs body (callEnvC fd L f)) (Ret base R Fs (callEnvC fd L f) (ownC fd L) Av z X news Post) NoE s) :
    Con prog w base A (.ref f) args X news Post := by
  have C : ConE prog w base A (.ref f) args X news Post (fun _ => False) := ConE.body ho hd hbody hco hgen hk hcl hcd hlim hroom hbind hkind hcells hnd hX fun z s R Fs L Av E hfr mu _ _ _ _ S => wpAny_mono (h z s R Fs L Av hfr mu S) (fun _ _ x => x) fun _ _ e => e.elim
  intro Fs s Av Q hfr hff hfav hb hled hlive hQ
  exact wpAny_call (C Fs s Av Q NoE hfr hff hfav hb hled hlive hQ fun _ _ _ _ _ _ _ x => x.elim)
end
end Mine
end
section
open PySem PySem.W PySem.Calls PyProof.Rows
set_option Elab.async false
set_option maxRecDepth 100000
namespace Mine

section
variable {prog : Program} {w : World} {A : Around}
variable {base : Heap} {R : Addr → Obj → Prop} {Fs : List Env} {env : Env} {own : List Addr} {Av : Addr → Prop} {z : Shared} {ρ : Str → Option Value} {news : List (Addr × Obj)} {s s' : Shared}

theorem St.iter {I : Addr} (S : St base R Fs env own Av z ρ news s) (hI : ¬ Av I) (hRI : Mu R I) (hn : ∀ p ∈ news, p.1 ≠ I) (r : SR s s') (k : ∀ b o, b ∉ [I] → s.heap.get? b = some o → s'.heap.get? b = some o) : St base R Fs env own Av z ρ news s' :=
  S.call (X := [I]) r (fun a o e n => .of (k a o n e)) (fun a m => by rw [List.mem_singleton.mp m]; exact ⟨hI, hRI⟩) fun p hp => ⟨k _ _ (by simpa using hn p hp) (S.led p hp).1, (S.led p hp).2⟩

/-- more that is to stay, more that is not to be touched -/
theorem St.widen (S : St base R Fs env own Av z ρ news s) (F : Addr → Prop) (I : Addr) (hF : ∀ b, F b → b ∉ own) (hIl : ∃ o, s.heap.get? I = some o) (hn : ∀ p ∈ news, p.1 ≠ I) :
    St base (fun b o => R b o ∨ (F b ∧ s.heap.get? b = some o)) Fs env own (fun a => Av a ∨ a = I) z ρ news s :=
  ⟨S.ev, fun p hp => ⟨(S.led p hp).1, fun m => m.elim (S.led p hp).2 (hn p hp)⟩, fun b o r => by
      rcases r with r | ⟨m, e⟩
      · exact S.keep b o r
      · exact ⟨.of e, hF b m⟩,
    fun b o e => .inl (S.baseR b o e), fun a m => by
      rcases m with m | rfl
      · exact S.live a m
      · exact hIl,
    fun a m => .inl (S.av a m), S.loc, fun x c e => .inl (S.cav x c e), S.sr, S.ff, fun a m => .inl (S.fav a m), S.low⟩

noncomputable def LoopTo (base : Heap) (R : Addr → Obj → Prop) (Fs : List Env) (env : Env) (own : List Addr) (Av : Addr → Prop) (z : Shared) (J : (Str → Option Value) → List (Addr × Obj) → Prop) (Q : Flow → Shared → Prop) (f : Flow) (s' : Shared) : Prop :=
  match f with
  | .ret v => Q (.ret v) s'
  | .brk => Q .next s'
  | _ => ∃ ρ' news', St base R Fs env own Av z ρ' news' s' ∧ J ρ' news'

theorem LoopTo.next {J : (Str → Option Value) → List (Addr × Obj) → Prop} {Q : Flow → Shared → Prop} (h : ∃ ρ' news', St base R Fs env own Av z ρ' news' s ∧ J ρ' news') : LoopTo base R Fs env own Av z J Q .next s := h
theorem LoopTo.brk {J : (Str → Option Value) → List (Addr × Obj) → Prop} {Q : Flow → Shared → Prop} (h : Q .next s) : LoopTo base R Fs env own Av z J Q .brk s := h
/-- a continuation out of sight -/
noncomputable def HQ (P Q : Flow → Shared → Prop) : Prop := ∀ f s, P f s → Q f s
theorem HQ.use {P Q : Flow → Shared → Prop} {f : Flow} {s : Shared} (h : HQ P Q) (x : P f s) : Q f s := h f s x
/-- what stands behind a statement, out of sight -/
structure HS (M : Model) (A : Around) (rest : List Stmt) (env : Env) (Q : Flow → Shared → Prop) (E : Value → Shared → Prop) (Q' : Flow → Shared → Prop) : Prop where
  nx : ∀ s, wpAny M A (execs rest env) Q E s → Q' .next s
  ot : ∀ f s, f ≠ .next → Q f s → Q' f s
section
variable {M : Model} {E : Value → Shared → Prop} {rest : List Stmt} {Q Q' : Flow → Shared → Prop}
theorem HS.next (h : HS M A rest env Q E Q') (x : wpAny M A (execs rest env) Q E s) : Q' .next s := h.nx s x
theorem HS.ret {v : Value} (h : HS M A rest env Q E Q') (x : Q (.ret v) s) : Q' (.ret v) s := h.ot _ s (fun e => by cases e) x
theorem HS.brk (h : HS M A rest env Q E Q') (x : Q .brk s) : Q' .brk s := h.ot _ s (fun e => by cases e) x
theorem HS.cont (h : HS M A rest env Q E Q') (x : Q .cont s) : Q' .cont s := h.ot _ s (fun e => by cases e) x
theorem execs_hide {st : Stmt} (h : ∀ Q', HS M A rest env Q E Q' → wpAny M A (exec st env) Q' E s) : wpAny M A (execs (st :: rest) env) Q E s :=
  wpAny_execs_cons (h _ ⟨fun _ x => x, fun f s hf x => by cases f <;> first | exact absurd rfl hf | exact x⟩)
theorem execs_hideQ (h : ∀ Q', HQ Q Q' → wpAny M A (execs rest env) Q' E s) : wpAny M A (execs rest env) Q E s := h Q fun _ _ x => x
end
/-- what a loop's turn may lean on -/
structure Turn (R R' : Addr → Obj → Prop) (Av Av' : Addr → Prop) (fp : List Addr) : Prop where
  up : ∀ b o, R b o → R' b o
  av : ∀ a, Av a → Av' a
  mu : ∀ D, Mu R D → ¬ Av' D → D ∉ fp → Mu R' D
noncomputable def ForAt (prog : Program) (w : World) (A : Around) (target : Expr) (body orelse : List Stmt) (env : Env) (Q : Flow → Shared → Prop) (it : Value) (s : Shared) : Prop :=
  codeAny (model prog w) A (.forLoop target it body orelse env) (fun r s' => match r with | .ok f => Q f s' | .error _ => False) s

theorem for_ {target iter : Expr} {body orelse : List Stmt} {pos : Pos} {Q : Flow → Shared → Prop}
    (h : wpAny (model prog w) A (eval iter env) (fun xv s₁ => wpAny (model prog w) A (pyIter xv) (ForAt prog w A target body orelse env Q) NoE s₁) NoE s)
    (hs : ∀ x, foldedSetIterable iter env x = pure x := by intro _; rfl) : wpAny (model prog w) A (exec (.For target iter body orelse pos) env) Q NoE s := by
  have e : exec (.For target iter body orelse pos) env = (do
    standAt pos
    let x ← foldedSetIterable iter env (← eval iter env)
    standAt iter.pos
    runOwn (.forLoop target (← holding [x] (pyIter x)) body orelse env) env) := rfl
  rw [e]
  refine wpAny_bind (wpAny_standAt (wpAny_bind (wpAny_mono h (fun xv s₁ h₁ => ?_) fun _ _ x => x)))
  refine wpAny_bind (wpAny_of_eq (hs xv) (wpAny_bind (wpAny_standAt (wpAny_bind (wpAny_holding (wpAny_mono h₁ (fun it s₂ h₂ => ?_) fun _ _ x => x))))))
  refine wpAny_runOwn (codeAny_mono (show codeAny (model prog w) (A.mark none) _ _ _ from h₂) fun r s' hr => ?_)
  cases r with
  | ok f => exact hr
  | error _ => exact hr.elim

theorem for_core {target : Expr} {body orelse : List Stmt} {Q : Flow → Shared → Prop} {I : Addr} {fp : List Addr} {n : Nat} {P : Nat → Value → Prop} {StI : Nat → Heap → Prop}
    (J : Nat → (Str → Option Value) → List (Addr × Obj) → Prop)
    (W : Walks prog w A I (I :: fp) [I] n P StI) (hgo : ∀ i v (s : Shared) (Q : Unit → Shared → Prop), StI i s.heap → Q () s → wpAny (model prog w) A (letOwnedTupleGo target (.ref I) v) Q NoE s)
    (hIl : ∀ i h, StI i h → ∃ o, h.get? I = some o)
    (S : St base R Fs env own Av z ρ news s) (hst : StI 0 s.heap) (hI : ¬ Av I) (hRI : Mu R I) (hn : ∀ p ∈ news, p.1 ≠ I) (hfp : ∀ b ∈ fp, b ∉ own ∧ b ∉ frs Fs) (hJ : J 0 ρ news)
    (turn : ∀ i v ρ₁ news₁ R' Av' s₁, i < n → P i v → Turn R R' Av Av' fp → Av' I → J i ρ₁ news₁ → St base R' Fs env own Av' z ρ₁ news₁ s₁ →
      wpAny (model prog w) A (assign target env v) (fun _ s₂ => wpAny (model prog w) A (execs body env) (LoopTo base R' Fs env own Av' z (J (i + 1)) Q) NoE s₂) NoE s₁)
    (done : ∀ ρ₁ news₁ s₁, J n ρ₁ news₁ → St base R Fs env own Av z ρ₁ news₁ s₁ → wpAny (model prog w) A (execs orelse env) Q NoE s₁) :
    ForAt prog w A target body orelse env Q (.ref I) s := by
  have hIo : I ∉ own := fun m => hI (S.av _ m)
  refine codeAny_forLoop_any (fun k s' => ∃ i ρ' news', i ≤ n ∧ k = n + 1 - i ∧ StI i s'.heap ∧ J i ρ' news' ∧ St base R Fs env own Av z ρ' news' s' ∧ ∀ p ∈ news', p.1 ≠ I) ?_ (n + 1) ⟨0, ρ, news, Nat.zero_le _, rfl, hst, hJ, S, hn⟩
  rintro k s' ⟨i, ρ', news', hi, rfl, hst', hJ', S', hn'⟩
  by_cases hlt : i < n
  · refine W.item i s' _ _ hlt hst' fun v h' tk hPv hst₁ hk => ?_
    dsimp only
    have S₁ : St base R Fs env own Av z ρ' news' { s' with heap := h', toks := tk } := S'.iter hI hRI hn' ⟨rfl, rfl, rfl⟩ hk
    refine wpAny_mono (hgo _ v _ (fun _ s₁' => s₁' = { s' with heap := h', toks := tk }) hst₁ rfl) (fun _ s₁' e => ?_) fun _ _ x => x.elim
    subst e
    have S₂ := S₁.widen (fun b => b ∈ I :: fp) I (fun b m => by
      rcases List.mem_cons.mp m with rfl | m
      · exact hIo
      · exact (hfp b m).1) (hIl _ _ hst₁) hn'
    have T : Turn R (fun b o => R b o ∨ (b ∈ I :: fp ∧ h'.get? b = some o)) Av (fun a => Av a ∨ a = I) fp := ⟨fun _ _ r => .inl r, fun _ m => .inl m, fun D m hav f x r => r.elim (m x) fun q => by
      rcases List.mem_cons.mp q.1 with e | q
      · exact hav (.inr e)
      · exact f q⟩
    refine wpAny_mono (turn i v ρ' news' _ _ _ hlt hPv T (.inr rfl) hJ' S₂) (fun _ s₂ h₂ => ?_) fun _ _ x => x.elim
    refine wpAny_mono h₂ (fun f s₃ h₃ => ?_) fun _ _ x => x.elim
    have fin : (∃ ρ'' news'', St base (fun b o => R b o ∨ (b ∈ I :: fp ∧ h'.get? b = some o)) Fs env own (fun a => Av a ∨ a = I) z ρ'' news'' s₃ ∧ J (i + 1) ρ'' news'') → ∃ m, m < n + 1 - i ∧ ∃ i ρ' news', i ≤ n ∧ m = n + 1 - i ∧ StI i s₃.heap ∧ J i ρ' news' ∧ St base R Fs env own Av z ρ' news' s₃ ∧ ∀ p ∈ news', p.1 ≠ I := by
      rintro ⟨ρ'', news'', S₃, hJ₃⟩
      refine ⟨n + 1 - (i + 1), by omega, i + 1, ρ'', news'', hlt, rfl, ?_, hJ₃, S₃.mono (fun _ _ r => .inl r) (fun _ m => .inl m) S.av S.baseR S.cav S.fav, fun p hp e => (S₃.led p hp).2 (.inr e)⟩
      refine W.frame _ _ _ hst₁ fun b hb o e => (S₃.keep b o (.inr ⟨hb, e⟩)).1.get fun m => ?_
      rcases List.mem_cons.mp hb with rfl | hb
      · exact hI (S.fav _ m)
      · exact (hfp b hb).2 m
    cases f with
    | ret v => exact h₃
    | brk => exact h₃
    | next => exact fin h₃
    | cont => exact fin h₃
  · obtain rfl : i = n := Nat.le_antisymm hi (Nat.not_lt.mp hlt)
    refine W.done s' _ _ hst' fun h' tk hk => ?_
    dsimp only
    exact wpAny_mono (done ρ' news' _ hJ' (S'.iter hI hRI hn' ⟨rfl, rfl, rfl⟩ hk)) (fun f s₃ h₃ => h₃) fun _ _ x => x.elim

/-- an iterator that is none of the makers of tuples -/
theorem go_plain {M : Model} {E : Value → Shared → Prop} {target : Expr} {I : Addr} {o : Obj} {T : String} {v : Value} {Q : Unit → Shared → Prop} (ho : s.heap.get? I = some o) (hT : o.cls = .type T)
    (hn : ["enumerate", "zip", "dict_itemiterator", "dict_reverseitemiterator", "odict_iterator", "itertools.zip_longest", "itertools.pairwise"].contains T = false) (h : Q () s) : wpAny M A (letOwnedTupleGo target (.ref I) v) Q E s := by
  have key : ∀ a : Addr, wpAny M A (do
      let o ← load I
      match o.cls, o.data with
      | .type n, .fields vs =>
        if ["enumerate", "zip", "dict_itemiterator", "dict_reverseitemiterator", "odict_iterator", "itertools.zip_longest", "itertools.pairwise"].contains n && vs[0]? == some (rawInt a) then
          rule "for.unpacks-the-owned-tuple"
          updateField I 0 .none
      | _, _ => pure ()) Q E s := fun a => by
    refine wpAny_bind (wpAny_load ho ?_)
    rw [hT]
    cases hd : o.data with
    | fields vs =>
      dsimp only
      rw [hn]
      exact wpAny_pure h
    | _ => exact wpAny_pure h
  unfold letOwnedTupleGo
  cases target with
  | Tuple es k p => cases v <;> first | exact key _ | exact wpAny_pure h
  | List es p => cases v <;> first | exact key _ | exact wpAny_pure h
  | _ => exact wpAny_pure h

/-- over a list of the ledger -/
theorem for_list {target : Expr} {body orelse : List Stmt} {Q : Flow → Shared → Prop} {l : Addr} {items : Array Value} {k : Nat}
    (J : Nat → (Str → Option Value) → List (Addr × Obj) → Prop) (S : St base R Fs env own Av z ρ news s) (hh : A.handled = none) (hl : (l, listOf items k) ∈ news) (hJ : J 0 ρ news)
    (turn : ∀ i v ρ₁ news₁ R' Av' s₁, items[i]? = some v → Turn R R' Av Av' [l] → ∀ Q₁, HQ (LoopTo base R' Fs env own Av' z (J (i + 1)) Q) Q₁ → J i ρ₁ news₁ → St base R' Fs env own Av' z ρ₁ news₁ s₁ →
      wpAny (model prog w) A (assign target env v) (fun _ s₂ => wpAny (model prog w) A (execs body env) Q₁ NoE s₂) NoE s₁)
    (done : ∀ ρ₁ news₁ s₁, J items.size ρ₁ news₁ → St base R Fs env own Av z ρ₁ news₁ s₁ → wpAny (model prog w) A (execs orelse env) Q NoE s₁) :
    wpAny (model prog w) A (pyIter (.ref l)) (ForAt prog w A target body orelse env Q) NoE s := by
  have hol := S.get hl
  have hls : s.heap.IsList l items := ⟨_, hol, rfl, k, rfl⟩
  have hlt : l < s.heap.objs.size := Heap.lt_size hol
  have hne : l ≠ s.heap.objs.size := Nat.ne_of_lt hlt
  refine wpAny_pyIter_list hls ?_
  have S₂ : St base R Fs env own Av z ρ news { s with heap := s.heap.push { cls := .type "list_iterator", data := .fields #[.ref l, .int 0 0] } } := S.grow0 ⟨rfl, rfl, rfl⟩ fun _ _ e => Heap.get?_push_of_some _ e
  refine for_core (fp := [l]) J (Walks.list hh s.heap.objs.size l hne items) (fun i v s' Q' st q => ?_) (fun i h st => let ⟨o, e, _⟩ := st.1; ⟨o, e⟩) S₂ ⟨⟨_, Heap.get?_push_size _ rfl, rfl, rfl⟩, hls.push _⟩ (S.avFresh (Nat.le_refl _)) (S.fresh (Nat.le_refl _))
    (fun p hp => Nat.ne_of_lt (Heap.lt_size (S.led p hp).1)) (fun b m => ?_) hJ (fun i v ρ₁ news₁ R' Av' s₁ _ hv T _ j S₁ => turn i v ρ₁ news₁ R' Av' s₁ hv T _ (fun _ _ x => x) j S₁) done
  · obtain ⟨⟨o, e, hc, _⟩, _⟩ := st
    exact go_plain e hc (by decide) q
  · rw [List.mem_singleton.mp m]
    exact ⟨fun q => (S.led _ hl).2 (S.av _ q), fun q => (S.led _ hl).2 (S.fav _ q)⟩

theorem for_range {target : Expr} {body orelse : List Stmt} {Q : Flow → Shared → Prop} {r : Addr} {a b : Int} {t u v : Tok} {n : Nat}
    (J : Nat → (Str → Option Value) → List (Addr × Obj) → Prop) (S : St base R Fs env own Av z ρ news s) (hh : A.handled = none) (hr : IsRange s.heap r a b 1 t u v) (hsm : Builtin.Range.small a b 1 = true) (hsz : Builtin.Range.rangeSize a b 1 = ((n : Nat) : Int)) (hJ : J 0 ρ news)
    (turn : ∀ i t ρ₁ news₁ R' Av' s₁, i < n → Turn R R' Av Av' [] → ∀ Q₁, HQ (LoopTo base R' Fs env own Av' z (J (i + 1)) Q) Q₁ → J i ρ₁ news₁ → St base R' Fs env own Av' z ρ₁ news₁ s₁ →
      wpAny (model prog w) A (assign target env (.int (a + (i : Int)) t)) (fun _ s₂ => wpAny (model prog w) A (execs body env) Q₁ NoE s₂) NoE s₁)
    (done : ∀ ρ₁ news₁ s₁, J n ρ₁ news₁ → St base R Fs env own Av z ρ₁ news₁ s₁ → wpAny (model prog w) A (execs orelse env) Q NoE s₁) :
    wpAny (model prog w) A (pyIter (.ref r)) (ForAt prog w A target body orelse env Q) NoE s := by
  refine wpAny_pyIter_range hr hsm ?_
  have S₂ : St base R Fs env own Av z ρ news { s with heap := s.heap.push { cls := .type "range_iterator", data := .fields #[rawInt a, rawInt (Builtin.Range.rangeSize a b 1), rawInt 1] } } := S.grow0 ⟨rfl, rfl, rfl⟩ fun _ _ e => Heap.get?_push_of_some _ e
  refine for_core (fp := []) J (LCg.range_walks hh a n) (fun i v s' Q' st q => ?_) (fun i h st => ⟨_, st⟩) S₂ (by show IsRangeIter _ _ _ _ _; rw [hsz]; simpa using Heap.get?_push_size _ rfl) (S.avFresh (Nat.le_refl _)) (S.fresh (Nat.le_refl _))
    (fun p hp => Nat.ne_of_lt (Heap.lt_size (S.led p hp).1)) (fun b m => (nomatch m)) hJ (fun i v ρ₁ news₁ R' Av' s₁ hi hv T _ j S₁ => ?_) done
  · have st' : s'.heap.get? _ = some _ := st
    exact go_plain st' rfl (by decide) q
  · obtain ⟨t', rfl⟩ := hv
    exact turn i t' ρ₁ news₁ R' Av' s₁ hi T _ (fun _ _ x => x) j S₁

noncomputable def WhTo (base : Heap) (R : Addr → Obj → Prop) (Fs : List Env) (env : Env) (own : List Addr) (Av : Addr → Prop) (z : Shared) (J : Nat → (Str → Option Value) → List (Addr × Obj) → Prop) (k : Nat) (Q : Flow → Shared → Prop) (f : Flow) (s' : Shared) : Prop :=
  match f with
  | .ret v => Q (.ret v) s'
  | .brk => Q .next s'
  | _ => ∃ ρ' news' k', St base R Fs env own Av z ρ' news' s' ∧ J k' ρ' news' ∧ k' < k
theorem WhTo.next {J : Nat → (Str → Option Value) → List (Addr × Obj) → Prop} {k : Nat} {Q : Flow → Shared → Prop} (h : ∃ ρ' news' k', St base R Fs env own Av z ρ' news' s ∧ J k' ρ' news' ∧ k' < k) : WhTo base R Fs env own Av z J k Q .next s := h
theorem WhTo.cont {J : Nat → (Str → Option Value) → List (Addr × Obj) → Prop} {k : Nat} {Q : Flow → Shared → Prop} (h : ∃ ρ' news' k', St base R Fs env own Av z ρ' news' s ∧ J k' ρ' news' ∧ k' < k) : WhTo base R Fs env own Av z J k Q .cont s := h
theorem WhTo.brk {J : Nat → (Str → Option Value) → List (Addr × Obj) → Prop} {k : Nat} {Q : Flow → Shared → Prop} (h : Q .next s) : WhTo base R Fs env own Av z J k Q .brk s := h
theorem WhTo.ret {J : Nat → (Str → Option Value) → List (Addr × Obj) → Prop} {k : Nat} {Q : Flow → Shared → Prop} {v : Value} (h : Q (.ret v) s) : WhTo base R Fs env own Av z J k Q (.ret v) s := h
theorem whileE {E : Value → Shared → Prop} {test : Expr} {body : List Stmt} {pos : Pos} {Q : Flow → Shared → Prop} (J : Nat → (Str → Option Value) → List (Addr × Obj) → Prop) (k : Nat) (S : St base R Fs env own Av z ρ news s) (hE : PassesOwn (model prog w) A env E) (hJ : J k ρ news)
    (turn : ∀ k ρ₁ news₁ s₁ Q₁, HQ (WhTo base R Fs env own Av z J k Q) Q₁ → J k ρ₁ news₁ → St base R Fs env own Av z ρ₁ news₁ s₁ →
      wpAny (model prog w) A (isTrue test env (eval test env)) (fun b s₂ => if b = true then wpAny (model prog w) A (execs body env) Q₁ E s₂ else Q .next s₂) E s₁) :
    wpAny (model prog w) A (exec (.While test body [] pos) env) Q E s := by
  refine wpAny_While (codeAny_whileLoop (fun k s' => ∃ ρ' news', J k ρ' news' ∧ St base R Fs env own Av z ρ' news' s') ?_ k ⟨ρ, news, hJ, S⟩)
  rintro k s' ⟨ρ', news', hJ', S'⟩
  refine wpAny_mono (turn k ρ' news' s' _ (fun _ _ x => x) hJ' S') (fun b s₂ h₂ => ?_) hE
  cases b with
  | false =>
    simp only [Bool.false_eq_true, if_false] at h₂ ⊢
    exact wpAny_execs_nil h₂
  | true =>
    simp only [if_true] at h₂ ⊢
    refine wpAny_mono h₂ (fun f s₃ h₃ => ?_) hE
    cases f with
    | ret v => exact h₃
    | brk => exact h₃
    | next => obtain ⟨ρ'', news'', k', S₃, j, l⟩ := h₃; exact ⟨k', l, ρ'', news'', j, S₃⟩
    | cont => obtain ⟨ρ'', news'', k', S₃, j, l⟩ := h₃; exact ⟨k', l, ρ'', news'', j, S₃⟩
theorem while_ {test : Expr} {body : List Stmt} {pos : Pos} {Q : Flow → Shared → Prop} (J : Nat → (Str → Option Value) → List (Addr × Obj) → Prop) (k : Nat) (S : St base R Fs env own Av z ρ news s) (hJ : J k ρ news)
    (turn : ∀ k ρ₁ news₁ s₁ Q₁, HQ (WhTo base R Fs env own Av z J k Q) Q₁ → J k ρ₁ news₁ → St base R Fs env own Av z ρ₁ news₁ s₁ →
      wpAny (model prog w) A (isTrue test env (eval test env)) (fun b s₂ => if b = true then wpAny (model prog w) A (execs body env) Q₁ NoE s₂ else Q .next s₂) NoE s₁) :
    wpAny (model prog w) A (exec (.While test body [] pos) env) Q NoE s := whileE J k S PassesOwn.never hJ turn
end
end Mine
end
section
open PySem PySem.W PySem.Calls PyProof.Rows
set_option Elab.async false
set_option maxRecDepth 100000
namespace Mine

theorem cellsFrom_app : ∀ (names : List (Str × NameKind)) (n : Nat) (acc : List (Str × Addr)), cellsFrom n names acc = cellsFrom n names [] ++ acc
  | [], _, _ => rfl
  | (x, k) :: r, n, acc => by
    unfold cellsFrom
    by_cases h : (k == NameKind.cell) = true
    · rw [if_pos h, if_pos h, cellsFrom_app r (n + 1) ((x, n) :: acc), cellsFrom_app r (n + 1) [(x, n)]]
      simp
    · rw [if_neg h, if_neg h, cellsFrom_app r n acc]
theorem look_nd {α : Type} {x : Str} {k : α} : ∀ {l : List (Str × α)}, (l.map (·.1)).Nodup → (x, k) ∈ l → l.lookup x = some k
  | (y, j) :: r, h, m => by
    rw [List.map_cons, List.nodup_cons] at h
    rcases List.mem_cons.mp m with e | m
    · cases e; simp
    · have hy : x ≠ y := fun q => h.1 (q ▸ List.mem_map_of_mem (f := (·.1)) m)
      rw [List.lookup_cons, beq_eq_false_iff_ne.mpr hy]
      exact look_nd h.2 m

/-- the closure as a plain list -/
noncomputable def clo (cells : List (Str × Addr)) : List (Str × NameKind) → List (Str × Addr) → List (Str × Addr)
  | [], acc => acc
  | (x, k) :: r, acc => if k == .free then clo cells r ((x, (cells.lookup x).getD 0) :: acc) else clo cells r acc
theorem closure_go {env : Env} (f : Str × NameKind → List (Str × Addr) → Sem (ForInStep (List (Str × Addr)))) (hf : ∀ x k acc, f (x, k) acc = if k == .free then (do let c ← cellOf env x; pure (.yield ((x, c) :: acc))) else pure (.yield acc)) :
    ∀ (names : List (Str × NameKind)) (acc : List (Str × Addr)), (∀ y ∈ names, y.2 = .free → (env.cells.lookup y.1).isSome = true) → forIn names acc f = pure (clo env.cells names acc)
  | [], _, _ => rfl
  | (x, k) :: r, acc, h => by
    rw [List.forIn_cons, hf]
    have hr := fun a => closure_go f hf r a (fun y hy => h y (List.mem_cons_of_mem _ hy))
    unfold clo
    by_cases hk : (k == NameKind.free) = true
    · rw [if_pos hk, if_pos hk]
      obtain ⟨c, hc⟩ := Option.isSome_iff_exists.mp (h _ List.mem_cons_self (by simpa using hk))
      simp only [cellOf, hc, Option.getD_some, pure_bind]
      exact hr _
    · rw [if_neg hk, if_neg hk, pure_bind]
      exact hr _
theorem closure_is {scope : Scope} {env : Env} (h : ∀ y ∈ scope.names, y.2 = .free → (env.cells.lookup y.1).isSome = true) : closureFor scope env = pure (clo env.cells scope.names []) := by
  have e := closure_go (env := env) (fun x r => match x with
    | (name, kind) => if (kind == NameKind.free) = true then (do let c ← cellOf env name; pure (ForInStep.yield ((name, c) :: r))) else pure (ForInStep.yield r)) (fun x k acc => rfl) scope.names [] h
  show (forIn scope.names [] _ >>= fun cs => pure cs) = _
  refine Eq.trans ?_ (congrArg (fun t => t >>= fun cs => pure cs) e)
  rfl
theorem clo_app (cells : List (Str × Addr)) : ∀ (names : List (Str × NameKind)) (acc : List (Str × Addr)), clo cells names acc = clo cells names [] ++ acc
  | [], _ => rfl
  | (x, k) :: r, acc => by
    unfold clo
    by_cases h : (k == NameKind.free) = true
    · rw [if_pos h, if_pos h, clo_app cells r ((x, _) :: acc), clo_app cells r [(x, _)]]
      simp
    · rw [if_neg h, if_neg h, clo_app cells r acc]
theorem clo_mem {cells : List (Str × Addr)} {x : Str} {c : Addr} : ∀ (names : List (Str × NameKind)), (x, c) ∈ clo cells names [] → (x, NameKind.free) ∈ names ∧ c = (cells.lookup x).getD 0
  | [], h => (nomatch h)
  | (y, k) :: r, h => by
    unfold clo at h
    by_cases hk : (k == NameKind.free) = true
    · rw [if_pos hk, clo_app] at h
      rcases List.mem_append.mp h with h | h
      · exact ⟨List.mem_cons_of_mem _ (clo_mem r h).1, (clo_mem r h).2⟩
      · have e := List.mem_singleton.mp h
        cases e
        have hk' : k = .free := by simpa using hk
        subst hk'
        exact ⟨List.mem_cons_self, rfl⟩
    · rw [if_neg hk] at h
      exact ⟨List.mem_cons_of_mem _ (clo_mem r h).1, (clo_mem r h).2⟩
theorem clo_has {cells : List (Str × Addr)} {x : Str} : ∀ (names : List (Str × NameKind)), (x, NameKind.free) ∈ names → ((clo cells names []).lookup x).isSome = true
  | [], h => (nomatch h)
  | (y, k) :: r, h => by
    unfold clo
    by_cases hk : (k == NameKind.free) = true
    · rw [if_pos hk, clo_app, List.lookup_append]
      rcases List.mem_cons.mp h with e | h
      · cases e
        simp
      · have := clo_has (cells := cells) r h
        cases q : (clo cells r []).lookup x with
        | none => rw [q] at this; cases this
        | some _ => rfl
    · rw [if_neg hk]
      rcases List.mem_cons.mp h with e | h
      · cases e; exact absurd rfl hk
      · exact clo_has r h

theorem wpAny_newComp {M : Model} {A : Around} {E : Value → Shared → Prop} {s : Shared} {scope : Scope} {cl : List (Str × Addr)} {env : Env} {Q : Env → Shared → Prop}
    (h : Q (newEnv scope s.heap.objs.size env.globals (cellsFrom (s.heap.objs.size + 1) scope.names cl) env.qual none .none (some env) builtinsNs) { s with heap := pushCells (s.heap.push { cls := .type "dict", data := .dict #[] }) scope.names }) :
    wpAny M A (newFunctionEnv scope env.globals cl [] env.qual none .none (some env)) Q E s := by
  simp only [newFunctionEnv, Option.isSome_some, if_true]
  refine wpAny_bind (wpAny_alloc ?_)
  refine wpAny_bind (wpAny_layCells _ (fun name kind cells => by cases kind == NameKind.cell <;> simp) _ _ _ _ ?_)
  rw [List.forIn_nil]
  refine wpAny_bind (wpAny_pure (wpAny_pure ?_))
  rw [show ({ s with heap := s.heap.push { cls := .type "dict", data := .dict #[] } } : Shared).heap.objs.size = s.heap.objs.size + 1 from Heap.size_push ..]
  exact h

theorem kindOf_relabel {scope : Scope} {cl : List (Str × Addr)} {C : Addr} {env : Env} {x : Str} : (compEnvC scope cl C env).kindOf x = (scope.names.lookup x).map fun k => if (k == .free && env.scope.kind == .function && env.kindOf x == some .cell) then .cell else k := by
  show List.lookup x ((scope.names).map _) = _
  induction scope.names with
  | nil => rfl
  | cons p r ih =>
    obtain ⟨n, k⟩ := p
    rw [List.map_cons]
    by_cases hx : x = n
    · subst hx
      by_cases hc : (k == NameKind.free && env.scope.kind == ScopeKind.function && env.kindOf x == some NameKind.cell) = true
      · simp only [hc, if_true, List.lookup_cons, beq_self_eq_true, Option.map_some]
      · simp only [hc, Bool.false_eq_true, if_false, List.lookup_cons, beq_self_eq_true, Option.map_some]
    · have hb : (x == n) = false := beq_eq_false_iff_ne.mpr hx
      by_cases hc : (k == NameKind.free && env.scope.kind == ScopeKind.function && env.kindOf n == some NameKind.cell) = true
      · simp only [hc, if_true, List.lookup_cons, hb]; exact ih
      · simp only [hc, Bool.false_eq_true, if_false, List.lookup_cons, hb]; exact ih

theorem codeAny_comp {prog : Program} {w : World} {A : Around} {R : Result → Shared → Prop} {s : Shared} {elt target iter : Expr} {ifs : List Expr} {scope : Scope} {pos : Pos} {it acc : Value} {env : Env} (I : Nat → Shared → Prop)
    (turn : ∀ n s, I n s → wpAny (model prog w) A (pyNext it) (fun r s₁ => match r with
      | none => R (.ok .next) s₁
      | some v => wpAny (model prog w) A (letOwnedTupleGo target it v) (fun _ s₁ => wpAny (model prog w) A (assign target env v) (fun _ s₂ =>
          wpAny (model prog w) A (forIn ifs true fun c r => if r = true then do let ok ← isTrue c env (eval c env); pure (ForInStep.yield ok) else pure (ForInStep.yield r)) (fun ok s₃ =>
            if ok = true then wpAny (model prog w) A (eval elt env) (fun x s₄ =>
              wpAny (model prog w) A (call (.builtin "list.append") [acc, x]) (fun _ s₅ => ∃ m, m < n ∧ I m s₅) NoE s₄) NoE s₃
            else ∃ m, m < n ∧ I m s₃) NoE s₂) NoE s₁) NoE s₁) NoE s)
    (n : Nat) (h : I n s) :
    codeAny (model prog w) A (.compLoop (.ListComp elt [⟨target, iter, ifs, 0⟩] scope pos) 0 it acc env) R s := by
  refine codeAny_loop rfl I (fun n s hI => ?_) n h
  show wpAny _ A ((compTurn (.ListComp elt [⟨target, iter, ifs, 0⟩] scope pos) 0 it acc env).onRaise (fun x => do noteFrame x env; theTreesLotGoes x)) _ _ s
  refine wpAny_noted ?_
  rw [compTurn_list]
  refine wpAny_bind (wpAny_standAt (wpAny_bind (wpAny_mono (turn n s hI) (fun r s₁ h₁ => ?_) fun _ _ h' => h'.elim)))
  cases r with
  | none => exact wpAny_pure h₁
  | some v =>
    refine wpAny_bind (wpAny_mono h₁ (fun _ s₁ h₁ => ?_) fun _ _ h' => h'.elim)
    refine wpAny_bind (wpAny_mono h₁ (fun _ s₂ h₂ => wpAny_bind (wpAny_mono h₂ (fun ok s₃ h₃ => ?_) fun _ _ h' => h'.elim)) fun _ _ h' => h'.elim)
    cases ok with
    | false => exact wpAny_pure ⟨rfl, h₃⟩
    | true =>
      exact wpAny_bind (wpAny_bind (wpAny_mono h₃ (fun x s₄ h₄ => wpAny_bind (wpAny_mono h₄ (fun _ s₅ h₅ => wpAny_pure (wpAny_pure ⟨rfl, h₅⟩)) fun _ _ h' => h'.elim)) fun _ _ h' => h'.elim))

noncomputable abbrev inEnv (scope : Scope) (C : Addr) (env : Env) : Env := compEnvC scope (cellsFrom (C + 1) scope.names (clo env.cells scope.names [])) C env
noncomputable abbrev inOwn (scope : Scope) (C : Addr) : List Addr := C :: (cellsFrom (C + 1) scope.names []).map (·.2)

/-- the end of an item's turn in a block -/
noncomputable def CEnd (base : Heap) (R' : Addr → Obj → Prop) (Fs : List Env) (cenv : Env) (own' : List Addr) (Av' : Addr → Prop) (z : Shared) (scope : Scope) (ρ : Str → Option Value) (J : List Value → List (Addr × Obj) → Prop) (ys : List Value) (s' : Shared) : Prop :=
  ∃ ρ' news', St base R' Fs cenv own' Av' z ρ' news' s' ∧ (∀ x, (x, NameKind.free) ∈ scope.names → ρ' x = ρ x) ∧ J ys news'

section
variable {prog : Program} {w : World} {A : Around}
variable {base : Heap} {R : Addr → Obj → Prop} {Fs : List Env} {env : Env} {own : List Addr} {Av : Addr → Prop} {z : Shared} {ρ : Str → Option Value} {news : List (Addr × Obj)} {s s' : Shared}

theorem comp_block {elt target iter : Expr} {ifs : List Expr} {scope : Scope} {pos : Pos} {I : Addr} {fp : List Addr} {n : Nat} {P : Nat → Value → Prop} {StI : Nat → Heap → Prop} {K : Value → Addr → Result → Shared → Prop}
    (J : Nat → List Value → List (Addr × Obj) → Prop)
    (W : Walks prog w A I (I :: fp) [I] n P StI) (hgo : ∀ i v (s : Shared) (Q : Unit → Shared → Prop), StI i s.heap → Q () s → wpAny (model prog w) A (letOwnedTupleGo target (.ref I) v) Q NoE s)
    (hIl : ∀ i h, StI i h → ∃ o, h.get? I = some o)
    (S : St base R Fs env own Av z ρ news s) (hst : StI 0 s.heap) (hI : ¬ Av I) (hRI : Mu R I) (hn : ∀ p ∈ news, p.1 ≠ I) (hfp : ∀ b ∈ I :: fp, b < s.heap.objs.size) (hfpF : ∀ b ∈ I :: fp, b ∉ frs Fs)
    (hk : scope.kind = .function) (hnd : (scope.names.map (·.1)).Nodup) (hfree : (scope.names.all fun y => y.2 != .free || isCel (env.kindOf y.1)) = true) (hsz : n ≤ sizeLine)
    (hJ : J 0 [] news)
    (turn : ∀ i v ys C R' Av' ρ₁ news₁ s₁, i < n → P i v → J i ys news₁ → (∀ x, (x, NameKind.free) ∈ scope.names → ρ₁ x = ρ x) → (∀ b o, R b o → R' b o) → (∀ a, Av a → Av' a) → St base R' Fs (inEnv scope C env) (inOwn scope C) Av' z ρ₁ news₁ s₁ →
      wpAny (model prog w) A (assign target (inEnv scope C env) v) (fun _ s₂ => wpAny (model prog w) A (forIn ifs true fun c r => if r = true then do let ok ← isTrue c (inEnv scope C env) (eval c (inEnv scope C env)); pure (ForInStep.yield ok) else pure (ForInStep.yield r))
        (fun ok s₃ => if ok = true then wpAny (model prog w) A (eval elt (inEnv scope C env)) (fun y s₄ => CEnd base R' Fs (inEnv scope C env) (inOwn scope C) Av' z scope ρ (J (i + 1)) (ys ++ [y]) s₄) NoE s₃
          else CEnd base R' Fs (inEnv scope C env) (inOwn scope C) Av' z scope ρ (J (i + 1)) ys s₃) NoE s₂) NoE s₁)
    (hlen : ∀ i ys news', J i ys news' → ys.length ≤ i)
    (hK : ∀ D C oC m' ys news' s', J n ys news' → LCg.NsObj oC m' → St base R Fs env own Av z ρ ((C, oC) :: (D, listOf ys.toArray ys.length) :: news') s' → (∀ p ∈ news', p.1 ≠ D ∧ p.1 ≠ C) → C ≠ D → Mu R D → Mu R C → K (.ref D) C (.ok .next) s') :
    wpAny (model prog w) A (newList []) (fun acc s₃ => wpAny (model prog w) A (newFunctionEnv scope env.globals (clo env.cells scope.names []) [] env.qual none .none (some env)) (fun cenv s₄ =>
      codeAny (model prog w) A (.compStart (.ListComp elt [⟨target, iter, ifs, 0⟩] scope pos) 0 (.ref I) acc { cenv with scope := relabel scope env }) (K acc cenv.locals) s₄) NoE s₃) NoE s := by
  refine wpAny_newObj_type (wpAny_newComp ?_)
  dsimp only
  generalize hH2 : s.heap.push { cls := .type "list", dict := none, data := .seq ([] : List Value).toArray } = H2
  have hC : H2.objs.size = s.heap.objs.size + 1 := by rw [← hH2, Heap.size_push]
  show codeAny (model prog w) A (.compStart (.ListComp elt [⟨target, iter, ifs, 0⟩] scope pos) 0 (.ref I) (.ref s.heap.objs.size) (inEnv scope H2.objs.size env)) (K (.ref s.heap.objs.size) H2.objs.size) _
  generalize hD' : s.heap.objs.size = D at hC
  generalize hC' : H2.objs.size = C at hC
  have ok := cellsFrom_ok scope.names (H2.push { cls := .type "dict", data := .dict #[] }) (C + 1) [] ⟨fun _ _ hm => (nomatch hm), List.Pairwise.nil⟩ (by rw [Heap.size_push, hC']; exact Nat.le_refl _)
  rw [Heap.size_push, hC'] at ok
  generalize hH4 : pushCells (H2.push { cls := .type "dict", data := .dict #[] }) scope.names = H4 at ok
  have up2 : ∀ b o, s.heap.get? b = some o → H2.get? b = some o := fun b o e => hH2 ▸ Heap.get?_push_of_some _ e
  have up4 : ∀ b o, H2.get? b = some o → H4.get? b = some o := fun b o e => hH4 ▸ pushCells_keeps _ _ b o (Heap.get?_push_of_some _ e)
  have old : ∀ b o, s.heap.get? b = some o → H4.get? b = some o := fun b o e => up4 b o (up2 b o e)
  have hDo : H4.get? D = some (listOf #[] 0) := up4 _ _ (by rw [← hH2, ← hD']; exact Heap.get?_push_size _ rfl)
  have hCo : H4.get? C = some { cls := .type "dict", data := .dict #[] } := by
    rw [← hH4]; exact pushCells_keeps _ _ _ _ (by rw [← hC']; exact Heap.get?_push_size _ rfl)
  have hltD : ∀ b o, s.heap.get? b = some o → @LT.lt Nat _ b D := fun b o e => hD' ▸ Heap.lt_size e
  have hownC : ∀ b ∈ inOwn scope C, @LE.le Nat _ C b := fun b hb => by
    rcases List.mem_cons.mp hb with rfl | hb
    · exact Nat.le_refl _
    · obtain ⟨q, hq, rfl⟩ := List.mem_map.mp hb
      exact Nat.le_of_succ_le (ok.empty q.1 q.2 hq).2
  have hDC : D ∉ inOwn scope C := fun m => absurd (hownC _ m) (by omega)
  have hIlt : @LT.lt Nat _ I D := hD' ▸ hfp I List.mem_cons_self
  have hIC : I ∉ inOwn scope C := fun m => absurd (hownC _ m) (by omega)
  have hold : ∀ b o, s.heap.get? b = some o → b ∉ inOwn scope C := fun b o e m => absurd (hownC b m) (by have := hltD b o e; omega)
  have hfreeM : ∀ x, (x, NameKind.free) ∈ scope.names → isCel (env.kindOf x) = true := fun x m => by
    have := List.all_eq_true.mp hfree _ m
    simpa using this
  have lookNd : ∀ {x : Str} {k : NameKind}, (x, k) ∈ scope.names → scope.names.lookup x = some k := fun m => look_nd hnd m
  -- the block's own frame
  have E0 : EnvIs H4 (inEnv scope C env) (fun x => if (x, NameKind.free) ∈ scope.names then ρ x else none) := by
    have notBoth : ∀ {x : Str}, (x, NameKind.free) ∈ scope.names → (cellsFrom (C + 1) scope.names []).lookup x = none := fun {x} m => by
      cases q : (cellsFrom (C + 1) scope.names []).lookup x with
      | none => rfl
      | some c =>
        exfalso
        have key : ∀ (names : List (Str × NameKind)) (n : Nat), (x, c) ∈ cellsFrom n names [] → (x, NameKind.cell) ∈ names := by
          intro names
          induction names with
          | nil => intro n h; exact (nomatch h)
          | cons p r ih =>
            obtain ⟨y, k⟩ := p
            intro n h
            unfold cellsFrom at h
            by_cases hkc : (k == NameKind.cell) = true
            · rw [if_pos hkc, cellsFrom_app] at h
              rcases List.mem_append.mp h with h | h
              · exact List.mem_cons_of_mem _ (ih _ h)
              · have e := List.mem_singleton.mp h
                cases e
                have hk' : k = .cell := by simpa using hkc
                subst hk'
                exact List.mem_cons_self
            · rw [if_neg hkc] at h; exact List.mem_cons_of_mem _ (ih _ h)
        have m2 := key _ _ (mem_of_lookup q)
        have a := lookNd m
        rw [lookNd m2] at a
        cases a
    refine ⟨hk, ⟨fun _ => none, ?_, fun x hx => ?_⟩, fun x hx => ?_, fun x y c hx hy => ?_⟩
    · exact ⟨_, #[], 0, hCo, rfl, (fun e he => by simp at he), fun _ => rfl⟩
    · rw [kindOf_relabel] at hx
      by_cases hm : (x, NameKind.free) ∈ scope.names
      · rw [lookNd hm] at hx
        by_cases hc : (NameKind.free == NameKind.free && env.scope.kind == ScopeKind.function && env.kindOf x == some NameKind.cell) = true
        · simp only [Option.map_some, hc, if_true] at hx; cases hx
        · simp only [Option.map_some, hc, Bool.false_eq_true, if_false] at hx; cases hx
      · rw [if_neg hm]
    · show ∃ c, (cellsFrom (C + 1) scope.names (clo env.cells scope.names [])).lookup x = some c ∧ _
      rw [kindOf_relabel] at hx
      cases hq : scope.names.lookup x with
      | none => rw [hq] at hx; cases hx
      | some k =>
        have hm := mem_of_lookup hq
        rw [hq] at hx
        cases k with
        | free =>
          obtain ⟨c, hc⟩ := Option.isSome_iff_exists.mp (clo_has (cells := env.cells) scope.names hm)
          obtain ⟨c', hc', v'⟩ := S.ev.cel x (hfreeM x hm)
          have hcc := (clo_mem scope.names (mem_of_lookup hc)).2
          rw [hc', Option.getD_some] at hcc
          subst hcc
          refine ⟨c, ?_, ?_⟩
          · rw [cellsFrom_app, List.lookup_append, notBoth hm]; exact hc
          · rw [if_pos hm]; exact v'.keeps old
        | cell =>
          obtain ⟨c, hc⟩ := Option.isSome_iff_exists.mp (cellsFrom_has (x := x) scope.names (C + 1) [] hq)
          have hnf : ¬ (x, NameKind.free) ∈ scope.names := fun m => by rw [lookNd m] at hq; cases hq
          refine ⟨c, ?_, ?_⟩
          · rw [cellsFrom_app, List.lookup_append, hc]; rfl
          · rw [if_neg hnf]; exact (ok.empty x c (mem_of_lookup hc)).1
        | «local» => simp [isCel] at hx
        | globalExplicit => simp [isCel] at hx
        | globalImplicit => simp [isCel] at hx
    · have hx' : (cellsFrom (C + 1) scope.names (clo env.cells scope.names [])).lookup x = some c := hx
      have hy' : (cellsFrom (C + 1) scope.names (clo env.cells scope.names [])).lookup y = some c := hy
      rw [cellsFrom_app] at hx' hy'
      have side : ∀ {x : Str}, (cellsFrom (C + 1) scope.names [] ++ clo env.cells scope.names []).lookup x = some c → ((x, c) ∈ cellsFrom (C + 1) scope.names [] ∧ @LT.lt Nat _ C c) ∨ (env.cells.lookup x = some c ∧ @LT.lt Nat _ c C) := fun {x} h => by
        rw [List.lookup_append] at h
        cases q : (cellsFrom (C + 1) scope.names []).lookup x with
        | some c' => rw [q] at h; cases h; exact .inl ⟨mem_of_lookup q, (ok.empty _ _ (mem_of_lookup q)).2⟩
        | none =>
          rw [q] at h
          obtain ⟨m, e⟩ := clo_mem scope.names (mem_of_lookup h)
          obtain ⟨c', hc', o', ho', _⟩ := S.ev.cel x (hfreeM x m)
          rw [hc', Option.getD_some] at e
          subst e
          exact .inr ⟨hc', by have := hltD _ _ ho'; omega⟩
      rcases side hx' with ⟨a, la⟩ | ⟨a, la⟩ <;> rcases side hy' with ⟨b, lb⟩ | ⟨b, lb⟩
      · exact name_of_addr ok.apart a b
      · omega
      · omega
      · exact S.ev.apart _ _ _ a b
  have avC : ∀ x c, (inEnv scope C env).cells.lookup x = some c → Av c ∨ c ∈ inOwn scope C := fun x c h => by
    have h' : (cellsFrom (C + 1) scope.names (clo env.cells scope.names [])).lookup x = some c := h
    rw [cellsFrom_app, List.lookup_append] at h'
    cases q : (cellsFrom (C + 1) scope.names []).lookup x with
    | some c' => rw [q] at h'; cases h'; exact .inr (List.mem_cons_of_mem _ (List.mem_map_of_mem (f := (·.2)) (mem_of_lookup q)))
    | none =>
      rw [q] at h'
      obtain ⟨m, e⟩ := clo_mem scope.names (mem_of_lookup h')
      obtain ⟨c', hc', _⟩ := S.ev.cel x (hfreeM x m)
      rw [hc', Option.getD_some] at e
      subst e
      exact .inl (S.cav _ _ hc')
  have liveC : ∀ a ∈ inOwn scope C, ∃ o, H4.get? a = some o := fun a m => by
    rcases List.mem_cons.mp m with rfl | m
    · exact ⟨_, hCo⟩
    · obtain ⟨q, hq, rfl⟩ := List.mem_map.mp m
      obtain ⟨o, e, _⟩ := (ok.empty q.1 q.2 hq).1
      exact ⟨o, e⟩
  have S0' : ∀ b o, base.get? b = some o → @LT.lt Nat _ b C := fun b o e => by have := hltD _ _ (S.bget e); omega
  have S0 : St base (fun b o => Kept (frs Fs) s.heap b o ∧ b ≠ I) Fs (inEnv scope C env) (inOwn scope C) (fun a => Av a ∨ a ∈ inOwn scope C) z (fun x => if (x, NameKind.free) ∈ scope.names then ρ x else none) news { s with heap := H4, toks := s.toks } :=
    ⟨E0, fun p hp => ⟨old _ _ (S.led p hp).1, fun m => m.elim (S.led p hp).2 (hold _ _ (S.led p hp).1)⟩, fun b o r => ⟨r.1.to' fun o' e => old b o' e, let ⟨_, e, _⟩ := r.1; hold b _ e⟩, fun b o e => ⟨.of (S.bget e), fun q => hRI _ (q ▸ S.baseR b o e)⟩, fun a m => by
      rcases m with m | m
      · obtain ⟨o, e⟩ := S.live a m; exact ⟨o, old a o e⟩
      · exact liveC a m,
      fun a m => .inr m, List.mem_cons_self, avC, S.sr.with_ _ _, frs_to S.ff fun b _ o e hd => ⟨o, old b o e, hd⟩, fun a m => .inl (S.fav a m), S0'⟩
  have hst4 : StI 0 H4 := W.frame _ _ _ hst fun b hb o e => old b o e
  have muI : Mu (fun b o => Kept (frs Fs) s.heap b o ∧ b ≠ I) I := fun x r => r.2 rfl
  have muD : Mu (fun b o => Kept (frs Fs) s.heap b o ∧ b ≠ I) D := fun x r => absurd (let ⟨_, e, _⟩ := r.1; hltD _ _ e) (Nat.lt_irrefl _)
  have avI : ¬ (Av I ∨ I ∈ inOwn scope C) := fun m => m.elim hI hIC
  have avD : ¬ (Av D ∨ D ∈ inOwn scope C) := fun m => m.elim (S.avFresh (by rw [hD']; exact Nat.le_refl _)) hDC
  have hDF : D ∉ frs Fs := fun m => S.avFresh (by rw [hD']; exact Nat.le_refl _) (S.fav _ m)
  have hlenR : ∀ b o, R b o → Kept (frs Fs) s.heap b o ∧ b ≠ I := fun b o r => ⟨(S.keep b o r).1, fun q => hRI _ (q ▸ r)⟩
  have loop : codeAny (model prog w) A (.compLoop (.ListComp elt [⟨target, iter, ifs, 0⟩] scope pos) 0 (.ref I) (.ref D) (inEnv scope C env)) (K (.ref D) C) { s with heap := H4, toks := s.toks } := by
    refine codeAny_comp (fun k s' => ∃ i ys ρ' news', i ≤ n ∧ k = n + 1 - i ∧ StI i s'.heap ∧ s'.heap.get? D = some (listOf ys.toArray ys.length) ∧ J i ys news' ∧ (∀ x, (x, NameKind.free) ∈ scope.names → ρ' x = ρ x) ∧
        St base (fun b o => Kept (frs Fs) s.heap b o ∧ b ≠ I) Fs (inEnv scope C env) (inOwn scope C) (fun a => Av a ∨ a ∈ inOwn scope C) z ρ' news' s' ∧ ∀ p ∈ news', p.1 ≠ I ∧ p.1 ≠ D) ?_ (n + 1)
      ⟨0, [], _, news, Nat.zero_le _, rfl, hst4, hDo, hJ, fun x m => if_pos m, S0, fun p hp => ⟨hn p hp, Nat.ne_of_lt (hltD _ _ (S.led p hp).1)⟩⟩
    rintro k s' ⟨i, ys, ρ', news', hi, rfl, hst', hDs, hJ', hfr, S', hn'⟩
    by_cases hlt : i < n
    · refine W.item i s' _ _ hlt hst' fun v h' tk hPv hst₁ hk₁ => ?_
      dsimp only
      have S₁ : St base _ Fs (inEnv scope C env) (inOwn scope C) _ z ρ' news' { s' with heap := h', toks := tk } := S'.iter avI muI (fun p hp => (hn' p hp).1) ⟨rfl, rfl, rfl⟩ hk₁
      have hDs₁ : h'.get? D = some (listOf ys.toArray ys.length) := hk₁ D _ (fun m => Nat.lt_irrefl _ (show @LT.lt Nat _ I I from (List.mem_singleton.mp m : D = I) ▸ hIlt)) hDs
      refine wpAny_mono (hgo _ v _ (fun _ s₁' => s₁' = { s' with heap := h', toks := tk }) hst₁ rfl) (fun _ s₁' e => ?_) fun _ _ x => x.elim
      subst e
      have S₂ := (S₁.widen (fun b => b ∉ inOwn scope C) I (fun b m => m) (hIl _ _ hst₁) fun p hp => (hn' p hp).1).widen (fun _ => False) D (fun b m => m.elim) ⟨_, hDs₁⟩ fun p hp => (hn' p hp).2
      refine wpAny_mono (turn i v ys C _ _ ρ' news' _ hlt hPv hJ' hfr (fun b o r => .inl (.inl (hlenR b o r))) (fun a m => .inl (.inl (.inl m))) S₂) (fun _ s₂ h₂ => ?_) fun _ _ x => x.elim
      refine wpAny_mono h₂ (fun okb s₃ h₃ => ?_) fun _ _ x => x.elim
      have back : ∀ {ys' : List Value} {s₄ : Shared}, CEnd base (fun b o => ((Kept (frs Fs) s.heap b o ∧ b ≠ I) ∨ b ∉ inOwn scope C ∧ h'.get? b = some o) ∨ False ∧ h'.get? b = some o) Fs (inEnv scope C env) (inOwn scope C) (fun a => ((Av a ∨ a ∈ inOwn scope C) ∨ a = I) ∨ a = D) z scope ρ (J (i + 1)) ys' s₄ →
          ∃ ρ'' news'', StI (i + 1) s₄.heap ∧ s₄.heap.get? D = some (listOf ys.toArray ys.length) ∧ J (i + 1) ys' news'' ∧ (∀ x, (x, NameKind.free) ∈ scope.names → ρ'' x = ρ x) ∧ St base (fun b o => Kept (frs Fs) s.heap b o ∧ b ≠ I) Fs (inEnv scope C env) (inOwn scope C) (fun a => Av a ∨ a ∈ inOwn scope C) z ρ'' news'' s₄ ∧ ∀ p ∈ news'', p.1 ≠ I ∧ p.1 ≠ D := by
        rintro ys' s₄ ⟨ρ'', news'', S₄, hfr', hJ₄⟩
        refine ⟨ρ'', news'', ?_, (S₄.keep D _ (.inl (.inr ⟨hDC, hDs₁⟩))).1.get hDF, hJ₄, hfr', S₄.mono (fun _ _ r => .inl (.inl r)) (fun _ m => .inl (.inl m)) S'.av S'.baseR S'.cav S'.fav, fun p hp => ⟨fun e => (S₄.led p hp).2 (.inl (.inr e)), fun e => (S₄.led p hp).2 (.inr e)⟩⟩
        refine W.frame _ _ _ hst₁ fun b hb o e => (S₄.keep b o (.inl (.inr ⟨fun m => ?_, e⟩))).1.get (hfpF b hb)
        have : @LT.lt Nat _ b s.heap.objs.size := hfp b hb
        have := hownC b m
        omega
      cases okb with
      | false =>
        simp only [Bool.false_eq_true, if_false] at h₃ ⊢
        obtain ⟨ρ'', news'', a1, a2, a3, a4, a5, a6⟩ := back h₃
        exact ⟨n + 1 - (i + 1), by omega, i + 1, ys, ρ'', news'', hlt, rfl, a1, a2, a3, a4, a5, a6⟩
      | true =>
        simp only [if_true] at h₃ ⊢
        refine wpAny_mono h₃ (fun y s₄ h₄ => ?_) fun _ _ x => x.elim
        obtain ⟨ρ'', news'', a1, a2, a3, a4, a5, a6⟩ := back h₄
        have hly := hlen _ _ _ hJ'
        refine append_at (hsz := by rw [List.size_toArray]; omega) a2 fun h₅ hs₅ hD₅ => ?_
        refine ⟨n + 1 - (i + 1), by omega, i + 1, ys ++ [y], ρ'', news'', hlt, rfl, ?_, ?_, a3, a4, ?_, a6⟩
        · refine W.frame _ _ _ a1 fun b hb o e => (hs₅.2 b ?_).trans e
          have : @LT.lt Nat _ b s.heap.objs.size := hfp b hb
          intro q
          have q' : @Eq Nat b D := q
          rw [q', hD'] at this
          exact Nat.lt_irrefl _ this
        · rw [hD₅, List.length_append, List.length_singleton, List.push_toArray]
        · exact a5.iter avD muD (fun p hp => (a6 p hp).2) ⟨rfl, rfl, rfl⟩ fun b o hb e => (hs₅.2 b (by simpa using hb)).trans e
    · obtain rfl : i = n := Nat.le_antisymm hi (Nat.not_lt.mp hlt)
      refine W.done s' _ _ hst' fun h' tk hk₁ => ?_
      dsimp only
      have S₁ : St base _ Fs (inEnv scope C env) (inOwn scope C) _ z ρ' news' { s' with heap := h', toks := tk } := S'.iter avI muI (fun p hp => (hn' p hp).1) ⟨rfl, rfl, rfl⟩ hk₁
      have hDs₁ : h'.get? D = some (listOf ys.toArray ys.length) := hk₁ D _ (fun m => Nat.lt_irrefl _ (show @LT.lt Nat _ I I from (List.mem_singleton.mp m : D = I) ▸ hIlt)) hDs
      obtain ⟨m', hm', _⟩ := S₁.ev.ns
      obtain ⟨oC, heC, hoC⟩ := LCg.ns_obj hm'
      have hCs : ¬ Av C := S.avFresh (by omega)
      have muRD : Mu R D := S.fresh (by omega)
      have muRC : Mu R C := S.fresh (by omega)
      have hnC : ∀ p ∈ news', p.1 ≠ D ∧ p.1 ≠ C := fun p hp => ⟨(hn' p hp).2, fun e => (S₁.led p hp).2 (.inr (by rw [e]; exact List.mem_cons_self))⟩
      refine hK D C oC m' ys news' _ hJ' hoC ?_ hnC (neN (by omega)) muRD muRC
      refine S.call (X := [I]) ⟨S₁.sr.gens.trans S.sr.gens.symm, S₁.sr.drawn.trans S.sr.drawn.symm, S₁.sr.os.trans S.sr.os.symm⟩ (fun a o e n => (S₁.keep a o ⟨.of e, by simpa using n⟩).1) (fun a m => by rw [List.mem_singleton.mp m]; exact ⟨hI, hRI⟩) fun p hp => ?_
      rcases List.mem_cons.mp hp with rfl | hp
      · exact ⟨heC, hCs⟩
      · rcases List.mem_cons.mp hp with rfl | hp
        · exact ⟨hDs₁, fun m => avD (.inl m)⟩
        · exact ⟨(S₁.led p hp).1, fun m => (S₁.led p hp).2 (.inl m)⟩
  have fin : codeAny (model prog w) A (.compStart (.ListComp elt [⟨target, iter, ifs, 0⟩] scope pos) 0 (.ref I) (.ref D) (inEnv scope C env)) (K (.ref D) C) { s with heap := H4, toks := s.toks } :=
    codeAny_compStart_list loop (W.self 0 _ _ _ hst4 loop)
  exact fin

noncomputable def CompAt (prog : Program) (w : World) (A : Around) (elt target iter : Expr) (ifs : List Expr) (scope : Scope) (pos : Pos) (env : Env) (K : Value → Addr → Result → Shared → Prop) (it : Value) (s : Shared) : Prop :=
  wpAny (model prog w) A (newList []) (fun acc s₃ => wpAny (model prog w) A (newFunctionEnv scope env.globals (clo env.cells scope.names []) [] env.qual none .none (some env)) (fun cenv s₄ =>
      codeAny (model prog w) A (.compStart (.ListComp elt [⟨target, iter, ifs, 0⟩] scope pos) 0 it acc { cenv with scope := relabel scope env }) (K acc cenv.locals) s₄) NoE s₃) NoE s

noncomputable def KDone (base : Heap) (R : Addr → Obj → Prop) (Fs : List Env) (env : Env) (own : List Addr) (Av : Addr → Prop) (z : Shared) (ρ : Str → Option Value) (Jn : List Value → List (Addr × Obj) → Prop) (K : Value → Addr → Result → Shared → Prop) : Prop :=
  ∀ D C oC m' ys news' s', Jn ys news' → LCg.NsObj oC m' → St base R Fs env own Av z ρ ((C, oC) :: (D, listOf ys.toArray ys.length) :: news') s' → (∀ p ∈ news', p.1 ≠ D ∧ p.1 ≠ C) → C ≠ D → Mu R D → Mu R C → K (.ref D) C (.ok .next) s'

/-- a comprehension's turn's end, out of sight -/
noncomputable def CQ (P K : List Value → Shared → Prop) : Prop := ∀ l s, P l s → K l s
theorem CQ.use {P K : List Value → Shared → Prop} {l : List Value} {s : Shared} (h : CQ P K) (x : P l s) : K l s := h l s x
/-- a block's item, wherever it stands -/
noncomputable def CTurn (prog : Program) (w : World) (A : Around) (base : Heap) (R : Addr → Obj → Prop) (Fs : List Env) (env : Env) (Av : Addr → Prop) (z : Shared) (ρ : Str → Option Value) (elt target : Expr) (ifs : List Expr) (scope : Scope) (J : Nat → List Value → List (Addr × Obj) → Prop) (i : Nat) (v : Value) : Prop :=
  ∀ ys C R' Av' ρ₁ news₁ s₁ K₁, CQ (fun l s₄ => CEnd base R' Fs (inEnv scope C env) (inOwn scope C) Av' z scope ρ (J (i + 1)) l s₄) K₁ → J i ys news₁ → (∀ x, (x, NameKind.free) ∈ scope.names → ρ₁ x = ρ x) → (∀ b o, R b o → R' b o) → (∀ a, Av a → Av' a) → St base R' Fs (inEnv scope C env) (inOwn scope C) Av' z ρ₁ news₁ s₁ →
      wpAny (model prog w) A (assign target (inEnv scope C env) v) (fun _ s₂ => wpAny (model prog w) A (forIn ifs true fun c r => if r = true then do let ok ← isTrue c (inEnv scope C env) (eval c (inEnv scope C env)); pure (ForInStep.yield ok) else pure (ForInStep.yield r))
        (fun ok s₃ => if ok = true then wpAny (model prog w) A (eval elt (inEnv scope C env)) (fun y s₄ => K₁ (ys ++ [y]) s₄) NoE s₃
          else K₁ ys s₃) NoE s₂) NoE s₁

theorem comp_list {elt target iter : Expr} {ifs : List Expr} {scope : Scope} {pos : Pos} {l : Addr} {items : Array Value} {k : Nat} {K : Value → Addr → Result → Shared → Prop}
    (J : Nat → List Value → List (Addr × Obj) → Prop) (S : St base R Fs env own Av z ρ news s) (hh : A.handled = none) (hl : (l, listOf items k) ∈ news)
    (hk : scope.kind = .function) (hnd : (scope.names.map (·.1)).Nodup) (hfree : (scope.names.all fun y => y.2 != .free || isCel (env.kindOf y.1)) = true) (hsz : items.size ≤ sizeLine) (hJ : J 0 [] news)
    (turn : ∀ i v, items[i]? = some v → CTurn prog w A base R Fs env Av z ρ elt target ifs scope J i v)
    (hlen : ∀ i ys news', J i ys news' → ys.length ≤ i) (hK : KDone base R Fs env own Av z ρ (J items.size) K) :
    wpAny (model prog w) A (pyIter (.ref l)) (CompAt prog w A elt target iter ifs scope pos env K) NoE s := by
  have hol := S.get hl
  have hls : s.heap.IsList l items := ⟨_, hol, rfl, k, rfl⟩
  have hlt : l < s.heap.objs.size := Heap.lt_size hol
  have hne : l ≠ s.heap.objs.size := Nat.ne_of_lt hlt
  refine wpAny_pyIter_list hls ?_
  have S₂ : St base R Fs env own Av z ρ news { s with heap := s.heap.push { cls := .type "list_iterator", data := .fields #[.ref l, .int 0 0] } } := S.grow0 ⟨rfl, rfl, rfl⟩ fun _ _ e => Heap.get?_push_of_some _ e
  refine comp_block (fp := [l]) J (Walks.list hh s.heap.objs.size l hne items) (fun i v s' Q' st q => ?_) (fun i h st => let ⟨o, e, _⟩ := st.1; ⟨o, e⟩) S₂ ⟨⟨_, Heap.get?_push_size _ rfl, rfl, rfl⟩, hls.push _⟩ (S.avFresh (Nat.le_refl _)) (S.fresh (Nat.le_refl _))
    (fun p hp => Nat.ne_of_lt (Heap.lt_size (S.led p hp).1)) (fun b m => ?_) (fun b m q => ?_) hk hnd hfree hsz hJ (fun i v ys C R' Av' ρ₁ news₁ s₁ _ hv j fr hr ha S₁ => turn i v hv ys C R' Av' ρ₁ news₁ s₁ _ (fun _ _ x => x) j fr hr ha S₁) hlen hK
  · obtain ⟨⟨o, e, hc, _⟩, _⟩ := st
    exact go_plain e hc (by decide) q
  · show b < (s.heap.push _).objs.size
    rw [Heap.size_push]
    rcases List.mem_cons.mp m with rfl | m
    · exact Nat.lt_succ_self _
    · rw [List.mem_singleton.mp m]; exact Nat.lt_succ_of_lt hlt
  · rcases List.mem_cons.mp m with rfl | m
    · exact S.avFresh (Nat.le_refl _) (S.fav _ q)
    · rw [List.mem_singleton.mp m] at q; exact (S.led _ hl).2 (S.fav _ q)

theorem comp_range {elt target iter : Expr} {ifs : List Expr} {scope : Scope} {pos : Pos} {r : Addr} {a b : Int} {t u v : Tok} {n : Nat} {K : Value → Addr → Result → Shared → Prop}
    (J : Nat → List Value → List (Addr × Obj) → Prop) (S : St base R Fs env own Av z ρ news s) (hh : A.handled = none) (hr : IsRange s.heap r a b 1 t u v) (hsm : Builtin.Range.small a b 1 = true) (hrs : Builtin.Range.rangeSize a b 1 = ((n : Nat) : Int))
    (hk : scope.kind = .function) (hnd : (scope.names.map (·.1)).Nodup) (hfree : (scope.names.all fun y => y.2 != .free || isCel (env.kindOf y.1)) = true) (hsz : n ≤ sizeLine) (hJ : J 0 [] news)
    (turn : ∀ i t, i < n → CTurn prog w A base R Fs env Av z ρ elt target ifs scope J i (.int (a + (i : Int)) t))
    (hlen : ∀ i ys news', J i ys news' → ys.length ≤ i) (hK : KDone base R Fs env own Av z ρ (J n) K) :
    wpAny (model prog w) A (pyIter (.ref r)) (CompAt prog w A elt target iter ifs scope pos env K) NoE s := by
  refine wpAny_pyIter_range hr hsm ?_
  have S₂ : St base R Fs env own Av z ρ news { s with heap := s.heap.push { cls := .type "range_iterator", data := .fields #[rawInt a, rawInt (Builtin.Range.rangeSize a b 1), rawInt 1] } } := S.grow0 ⟨rfl, rfl, rfl⟩ fun _ _ e => Heap.get?_push_of_some _ e
  refine comp_block (fp := []) J (LCg.range_walks hh a n) (fun i v s' Q' st q => ?_) (fun i h st => ⟨_, st⟩) S₂ (by show IsRangeIter _ _ _ _ _; rw [hrs]; simpa using Heap.get?_push_size _ rfl) (S.avFresh (Nat.le_refl _)) (S.fresh (Nat.le_refl _))
    (fun p hp => Nat.ne_of_lt (Heap.lt_size (S.led p hp).1)) (fun b m => ?_) (fun b m q => ?_) hk hnd hfree hsz hJ (fun i v ys C R' Av' ρ₁ news₁ s₁ hi hv j fr hr ha S₁ => ?_) hlen hK
  · have st' : s'.heap.get? _ = some _ := st
    exact go_plain st' rfl (by decide) q
  · rw [List.mem_singleton.mp m]
    show s.heap.objs.size < (s.heap.push _).objs.size
    rw [Heap.size_push]; exact Nat.lt_succ_self _
  · rw [List.mem_singleton.mp m] at q; exact S.avFresh (Nat.le_refl _) (S.fav _ q)
  · obtain ⟨t', rfl⟩ := hv
    exact turn i t' hi ys C R' Av' ρ₁ news₁ s₁ _ (fun _ _ x => x) j fr hr ha S₁

theorem comp_eval {elt target iter : Expr} {ifs : List Expr} {scope : Scope} {pos : Pos} {Q : Value → Shared → Prop} (S : St base R Fs env own Av z ρ news s)
    (hk : scope.kind = .function) (hnd : (scope.names.map (·.1)).Nodup) (hfree : (scope.names.all fun y => y.2 != .free || isCel (env.kindOf y.1)) = true)
    (h : wpAny (model prog w) A (eval iter env) (fun xv s₁ => wpAny (model prog w) A (pyIter xv) (CompAt prog w A elt target iter ifs scope pos env (compPost (model prog w) A NoE none Q)) NoE s₁) NoE s)
    (hs : ∀ x, foldedSetIterable iter env x = pure x := by intro _; rfl) : wpAny (model prog w) A (eval (.ListComp elt [⟨target, iter, ifs, 0⟩] scope pos) env) Q NoE s := by
  rw [eval_ListComp]
  refine wpAny_comprehension_free (use := none) rfl hs (closure_is fun y hy hf => ?_) hk (fun y hy hl => ?_) h
  · have := List.all_eq_true.mp hfree _ hy
    rw [hf] at this
    obtain ⟨c, hc, _⟩ := S.ev.cel y.1 (by simpa using this)
    rw [hc]; rfl
  · exact hl ▸ look_nd hnd (show (y.1, y.2) ∈ scope.names from hy)

theorem comp_assign {elt target iter : Expr} {ifs : List Expr} {scope : Scope} {pos spos py : Pos} {y : Str} {Q : Flow → Shared → Prop} (S : St base R Fs env own Av z ρ news s)
    (hsw : swapsWith (.ListComp elt [⟨target, iter, ifs, 0⟩] scope pos) (some (.Name y py)) spos.line env = pure true)
    (hk : scope.kind = .function) (hnd : (scope.names.map (·.1)).Nodup) (hfree : (scope.names.all fun y => y.2 != .free || isCel (env.kindOf y.1)) = true)
    (h : wpAny (model prog w) A (eval iter env) (fun xv s₁ => wpAny (model prog w) A (pyIter xv) (CompAt prog w A elt target iter ifs scope pos env (compPost (model prog w) A NoE (some (assign (.Name y py) env)) (fun _ s' => Q .next s'))) NoE s₁) NoE s)
    (hs : ∀ x, foldedSetIterable iter env x = pure x := by intro _; rfl) : wpAny (model prog w) A (exec (.Assign [.Name y py] (.ListComp elt [⟨target, iter, ifs, 0⟩] scope pos) spos) env) Q NoE s := by
  rw [exec_Assign_Name_used _ _ _ _ hsw]
  refine wpAny_bind (wpAny_standAt (wpAny_bind ?_))
  show wpAny _ A (do let _ ← comprehension (.ListComp elt [⟨target, iter, ifs, 0⟩] scope pos) scope env _ (newList []) false (eval iter env) (some (assign (.Name y py) env))) _ _ s
  refine wpAny_bind (wpAny_mono (wpAny_comprehension_free (use := some (assign (.Name y py) env)) (Q := fun _ s' => Q .next s') rfl hs (closure_is fun y hy hf => ?_) hk (fun y hy hl => ?_) h) (fun _ s' hq => wpAny_pure (wpAny_pure hq)) fun _ _ e => e)
  · have := List.all_eq_true.mp hfree _ hy
    rw [hf] at this
    obtain ⟨c, hc, _⟩ := S.ev.cel y.1 (by simpa using this)
    rw [hc]; rfl
  · exact hl ▸ look_nd hnd (show (y.1, y.2) ∈ scope.names from hy)

theorem kdone_eval {Jn : List Value → List (Addr × Obj) → Prop} {Q : Value → Shared → Prop}
    (h : ∀ D ys news' s', Jn ys news' → St base R Fs env own Av z ρ ((D, listOf ys.toArray ys.length) :: news') s' → (∀ p ∈ news', p.1 ≠ D) → Mu R D → Q (.ref D) s') :
    KDone base R Fs env own Av z ρ Jn (compPost (model prog w) A NoE none Q) := by
  intro D C oC m' ys news' s' j hoC S off hCD muD muC
  refine ⟨m', hoC.ns (S.led _ List.mem_cons_self).1, fun h'' hs => h D ys news' _ j ?_ (fun p hp => (off p hp).1) muD⟩
  have hCn := S.led _ List.mem_cons_self
  refine (S.sub (fun p hp => List.mem_cons_of_mem _ hp)).iter hCn.2 muC (fun p hp => ?_) ⟨rfl, rfl, rfl⟩ fun b o hb e => (hs.2 b (by simpa using hb)).trans e
  rcases List.mem_cons.mp hp with rfl | hp
  · exact Ne.symm hCD
  · exact (off p hp).2

theorem kdone_assign {Jn : List Value → List (Addr × Obj) → Prop} {y : Str} {py : Pos} {Q : Flow → Shared → Prop} (hy : env.kindOf y = some .local)
    (h : ∀ D ys news' s', Jn ys news' → St base R Fs env own Av z (up ρ y (.ref D)) ((D, listOf ys.toArray ys.length) :: news') s' → (∀ p ∈ news', p.1 ≠ D) → Mu R D → Q .next s') :
    KDone base R Fs env own Av z ρ Jn (compPost (model prog w) A NoE (some (assign (.Name y py) env)) (fun _ s' => Q .next s')) := by
  intro D C oC m' ys news' s' j hoC S off hCD muD muC
  show wpAny _ A (assign (.Name y py) env (.ref D)) _ _ _
  refine wpAny_assign_Name (stL S hy fun s'' S' => ?_)
  have hCn := S'.led _ List.mem_cons_self
  refine ⟨m', hoC.ns hCn.1, fun h'' hs => h D ys news' _ j ?_ (fun p hp => (off p hp).1) muD⟩
  refine (S'.sub (fun p hp => List.mem_cons_of_mem _ hp)).iter hCn.2 muC (fun p hp => ?_) ⟨rfl, rfl, rfl⟩ fun b o hb e => (hs.2 b (by simpa using hb)).trans e
  rcases List.mem_cons.mp hp with rfl | hp
  · exact Ne.symm hCD
  · exact (off p hp).2
end
end Mine
end
section
open PySem PySem.W PySem.Calls PyProof.Rows
set_option Elab.async false
set_option maxRecDepth 100000
namespace Mine

/-- the text's names at the base -/
structure GF (base : Heap) (tab : List (Str × Option Value)) : Prop where
  names : ∃ mg mb, base.Ns mainGlobals mg ∧ base.Ns builtinsNs mb ∧ (∀ x : Str, x ≠ "__name__" → mb x = bootBuiltins x) ∧ ∀ x r, tab.lookup x = some r → mg x = r
  lim : base.NoLimit

/-- room for k calls deep -/
structure Room (A : Around) (k : Nat) : Prop where
  hh : A.handled = none
  depth : A.depth + k < 1000
  units : A.units + 40 * k < 9900
theorem Room.lt {A : Around} {k : Nat} (r : Room A k) : A.depth < recursionLimit := by
  have := r.depth
  show A.depth < 1000
  omega
theorem Room.ul {A : Around} {k : Nat} (r : Room A (k + 1)) : A.units + 40 < cLine := by
  have := r.units
  show A.units + 40 < 9900
  omega
theorem Room.deeper {A : Around} {k : Nat} (r : Room A (k + 1)) (env : Env) : Room (A.deeper env) k := ⟨r.hh, by
  have := r.depth
  show A.depth + 1 + k < 1000
  omega, by
  have := r.units
  show A.units + 3 + 40 * k < 9900
  omega⟩
theorem Room.mono {A : Around} {k j : Nat} (r : Room A k) (h : j ≤ k) : Room A j := ⟨r.hh, by have := r.depth; omega, by have := r.units; omega⟩

section
variable {prog : Program} {w : World} {A : Around} {E : Value → Shared → Prop} {s : Shared} {tab : List (Str × Option Value)}
variable {base : Heap} {R : Addr → Obj → Prop} {Fs : List Env} {env : Env} {own : List Addr} {Av : Addr → Prop} {z : Shared} {ρ : Str → Option Value} {news : List (Addr × Obj)}

-- names
theorem e_gl {x : Str} {pos : Pos} {v : Value} {Q : Value → Shared → Prop} (S : St base R Fs env own Av z ρ news s) (G : GF base tab) (e : tab.lookup x = some (some v)) (h : Q v s)
    (hk : env.scope.kind = .function := by rfl) (hx : env.kindOf x = some .globalImplicit := by rfl) (hg : env.globals = mainGlobals := by rfl) (hd : (x == ("__debug__" : Str)) = false := by decide) :
    wpAny (model prog w) A (eval (.Name x pos) env) Q E s := by
  obtain ⟨mg, mb, g, b, _, ht⟩ := G.names
  exact Name_function_global hk hx (loadGlobal_global (mg := mg) (hg ▸ g.keeps fun _ _ e => S.bget e) (ht x _ e) h) hd
theorem e_bi {x : Str} {pos : Pos} {v : Value} {Q : Value → Shared → Prop} (S : St base R Fs env own Av z ρ news s) (G : GF base tab) (e : tab.lookup x = some none) (hv : bootBuiltins x = some v) (hn : x ≠ "__name__") (h : Q v s)
    (hk : env.scope.kind = .function := by rfl) (hx : env.kindOf x = some .globalImplicit := by rfl) (hg : env.globals = mainGlobals := by rfl) (hb : env.builtins = builtinsNs := by rfl) (hd : (x == ("__debug__" : Str)) = false := by decide) :
    wpAny (model prog w) A (eval (.Name x pos) env) Q E s := by
  obtain ⟨mg, mb, g, b, hbb, ht⟩ := G.names
  exact Name_function_global hk hx (loadGlobal_builtin (mg := mg) (mb := mb) (hg ▸ g.keeps fun _ _ e => S.bget e) (ht x _ e) (hb ▸ b.keeps fun _ _ e => S.bget e) ((hbb x hn).trans hv) h) hd

-- constants
theorem c_int {i : Int} {k : Nat} {pos : Pos} {Q : Value → Shared → Prop} (S : St base R Fs env own Av z ρ news s) (h : ∀ t s', St base R Fs env own Av z ρ news s' → Q (.int i t) s') : wpAny (model prog w) A (eval (.Constant (.int i) k pos) env) Q E s :=
  wpAny_Constant_int (h _ _ (S.tok _))
theorem c_str {x : Str} {k : Nat} {pos : Pos} {Q : Value → Shared → Prop} (S : St base R Fs env own Av z ρ news s) (h : ∀ t s', St base R Fs env own Av z ρ news s' → Q (.str x t) s') : wpAny (model prog w) A (eval (.Constant (.str x) k pos) env) Q E s :=
  wpAny_Constant_str (h _ _ (S.tok _))

-- ints
theorem b_add {a b : Int} {t u : Tok} {Q : Value → Shared → Prop} (S : St base R Fs env own Av z ρ news s) (h : ∀ t s', St base R Fs env own Av z ρ news s' → Q (.int (a + b) t) s') : wpAny (model prog w) A (binaryOp .Add (.int a t) (.int b u)) Q E s := add_int (h _ _ (S.tok _))
theorem b_sub {a b : Int} {t u : Tok} {Q : Value → Shared → Prop} (S : St base R Fs env own Av z ρ news s) (h : ∀ t s', St base R Fs env own Av z ρ news s' → Q (.int (a - b) t) s') : wpAny (model prog w) A (binaryOp .Sub (.int a t) (.int b u)) Q E s := sub_int (h _ _ (S.tok _))
theorem b_mul {a b : Int} {t u : Tok} {Q : Value → Shared → Prop} (S : St base R Fs env own Av z ρ news s) (hm : IntMulOk a b) (h : ∀ t s', St base R Fs env own Av z ρ news s' → Q (.int (a * b) t) s') : wpAny (model prog w) A (binaryOp .Mult (.int a t) (.int b u)) Q E s := mul_int (h _ _ (S.tok _)) hm
theorem b_mod {a b : Int} {t u : Tok} {Q : Value → Shared → Prop} (S : St base R Fs env own Av z ρ news s) (hb : b ≠ 0) (h : ∀ t s', St base R Fs env own Av z ρ news s' → Q (.int (a.fmod b) t) s') : wpAny (model prog w) A (binaryOp .Mod (.int a t) (.int b u)) Q E s := mod_int hb (h _ _ (S.tok _))
theorem b_div {a b : Int} {t u : Tok} {Q : Value → Shared → Prop} (S : St base R Fs env own Av z ρ news s) (hb : b ≠ 0) (hp : Builtin.divisionGoesByPylong a b = false) (h : ∀ t s', St base R Fs env own Av z ρ news s' → Q (.int (a.fdiv b) t) s') : wpAny (model prog w) A (binaryOp .FloorDiv (.int a t) (.int b u)) Q E s := floordiv_int hb (h _ _ (S.tok _)) (.inl hp)
theorem b_and {a b : Int} {t u : Tok} {Q : Value → Shared → Prop} (S : St base R Fs env own Av z ρ news s) (h : ∀ t s', St base R Fs env own Av z ρ news s' → Q (.int (Builtin.bitAnd a b) t) s') : wpAny (model prog w) A (binaryOp .BitAnd (.int a t) (.int b u)) Q E s := and_int (h _ _ (S.tok _))
theorem b_xor {a b : Int} {t u : Tok} {Q : Value → Shared → Prop} (S : St base R Fs env own Av z ρ news s) (h : ∀ t s', St base R Fs env own Av z ρ news s' → Q (.int (Builtin.bitXor a b) t) s') : wpAny (model prog w) A (binaryOp .BitXor (.int a t) (.int b u)) Q E s := xor_int (h _ _ (S.tok _))
theorem b_shr1 {a : Int} {t u : Tok} {Q : Value → Shared → Prop} (S : St base R Fs env own Av z ρ news s) (h0 : 0 ≤ a) (h : ∀ t s', St base R Fs env own Av z ρ news s' → Q (.int (a / 2) t) s') : wpAny (model prog w) A (binaryOp .RShift (.int a t) (.int 1 u)) Q E s := wpAny_rshift1_int h0 (h _ _ (S.tok _))
-- displays
/-- what a display hands on -/
noncomputable def DispTo (base : Heap) (env : Env) (o : Obj) (k : Nat) (Q : Value → Shared → Prop) (s : Shared) : Prop :=
  ∃ R Fs own Av z ρ news, St base R Fs env own Av z ρ news s ∧ k ≤ 1000 ∧ ∀ a s', Mu R a → (∀ p ∈ news, p.1 ≠ a) → St base R Fs env own Av z ρ ((a, o) :: news) s' → Q (.ref a) s'
theorem DispTo.mk {o : Obj} {k : Nat} {Q : Value → Shared → Prop} (S : St base R Fs env own Av z ρ news s) (hk : k ≤ 1000) (h : ∀ a s', Mu R a → (∀ p ∈ news, p.1 ≠ a) → St base R Fs env own Av z ρ ((a, o) :: news) s' → Q (.ref a) s') : DispTo base env o k Q s :=
  ⟨R, Fs, own, Av, z, ρ, news, S, hk, h⟩
theorem d_tuple {elts : List Expr} {k : Nat} {pos : Pos} {Q : Value → Shared → Prop}
    (h : wpAny (model prog w) A (spliced (backTo pos (starEach elts env))) (fun vs s₁ => DispTo base env { cls := .type "tuple", data := .seq vs.toArray } vs.length Q s₁) E s) : wpAny (model prog w) A (eval (.Tuple elts k pos) env) Q E s := by
  refine wpAny_Tuple (wpAny_mono h (fun vs s₁ h₁ => ?_) fun _ _ x => x)
  obtain ⟨R, Fs, own, Av, z, ρ, news, S, hz, q⟩ := h₁
  exact ⟨by rw [sizeLine_eq]; omega, q _ _ (S.fresh (Nat.le_refl _)) (fun p hp => Nat.ne_of_lt (Heap.lt_size (S.led p hp).1)) (S.push _ _)⟩
theorem d_list {elts : List Expr} {pos : Pos} {Q : Value → Shared → Prop}
    (h : wpAny (model prog w) A (spliced (backTo pos (starEach elts env))) (fun vs s₁ => DispTo base env (listOf vs.toArray 0) vs.length Q s₁) E s) : wpAny (model prog w) A (eval (.List elts pos) env) Q E s := by
  refine wpAny_List (wpAny_mono h (fun vs s₁ h₁ => ?_) fun _ _ x => x)
  obtain ⟨R, Fs, own, Av, z, ρ, news, S, hz, q⟩ := h₁
  exact ⟨by rw [sizeLine_eq]; omega, q _ _ (S.fresh (Nat.le_refl _)) (fun p hp => Nat.ne_of_lt (Heap.lt_size (S.led p hp).1)) (S.push _ _)⟩

-- items
theorem i_list {value slice : Expr} {l : Addr} {its : Array Value} {n : Nat} {k : Int} {t : Tok} {v : Value} {Q : Value → Shared → Prop} (S : St base R Fs env own Av z ρ news s) (hl : (l, listOf its n) ∈ news) (h0 : 0 ≤ k) (hhi : k < 2 ^ 63) (hx : its[k.toNat]? = some v) (h : Q v s)
    (hs : subscripted slice false (.ref l) (.int k t) = operate [.ref l, .int k t] (getItem (.ref l) (.int k t)) := by with_unfolding_all rfl) :
    wpAny (model prog w) A (subscriptTail value slice (.ref l) (.int k t)) Q E s :=
  have hls : s.heap.IsList l its := ⟨_, S.get hl, rfl, n, rfl⟩
  tail_any hls.typeIs slot_list_getitem.lookup (wpAny_getItem_list hls h0 hhi hx h) hs
noncomputable abbrev tupOf (vs : Array Value) (n : Nat) : Obj := { cls := .type "tuple", data := .seq vs n }
theorem i_tup {value slice : Expr} {l : Addr} {vs : List Value} {n : Nat} {k : Int} {t : Tok} {j : Nat} {v : Value} {Q : Value → Shared → Prop} (S : St base R Fs env own Av z ρ news s) (hl : (l, tupOf vs.toArray n) ∈ news) (hlo : -(2 ^ 63) ≤ k) (hhi : k < 2 ^ 63) (hj : seqIndex? k vs.length = some j) (hx : vs[j]? = some v) (h : Q v s)
    (hs : subscripted slice false (.ref l) (.int k t) = operate [.ref l, .int k t] (getItem (.ref l) (.int k t)) := by with_unfolding_all rfl) :
    wpAny (model prog w) A (subscriptTail value slice (.ref l) (.int k t)) Q E s :=
  item_tupleT (l := vs) ⟨_, S.get hl, rfl, n, rfl⟩ hlo hhi hj hx h hs

-- calls by a name
theorem k_fn {x : Str} {np pos : Pos} {args : List Expr} {Q : Value → Shared → Prop} {a : Addr} {o : Obj} {fd : FuncData} (S : St base R Fs env own Av z ρ news s) (G : GF base tab) (e : tab.lookup x = some (some (.ref a))) (ho : base.get? a = some o) (hd : o.data = .func fd) (hne : args ≠ [])
    (h : wpAny (model prog w) A (spliced (backTo pos (starEach args env))) (fun vs s₁ => (∀ b ob, base.get? b = some ob → s₁.heap.get? b = some ob) ∧ wpAny (model prog w) A (call (.ref a) vs) Q E s₁) E s)
    (he : backTo pos (starEach args env) = (args.map fun e => (false, eval e env)) := by rfl)
    (hk : env.scope.kind = .function := by rfl) (hx : env.kindOf x = some .globalImplicit := by rfl) (hg : env.globals = mainGlobals := by rfl) (hdb : (x == ("__debug__" : Str)) = false := by decide) :
    wpAny (model prog w) A (eval (.Call (.Name x np) args [] pos) env) Q E s := by
  refine wpAny_Call_Name_kw (e_gl S G e ?_ hk hx hg hdb)
  refine callWith_function (o := o) (fd := fd) ?_
  rw [he] at h ⊢
  cases args with
  | nil => exact absurd rfl hne
  | cons e r => exact evalArgs_plain (wpAny_mono h (fun vs s₁ h₁ => ⟨⟨h₁.1 _ _ ho, hd⟩, h₁.2⟩) fun _ _ x => x)
theorem k_bi {x : Str} {np pos : Pos} {args : List Expr} {Q : Value → Shared → Prop} {id : String} (S : St base R Fs env own Av z ρ news s) (G : GF base tab) (e : tab.lookup x = some none) (hv : bootBuiltins x = some (.builtin id)) (hn : x ≠ "__name__") (hne : args ≠ [])
    (h : wpAny (model prog w) A (spliced (backTo pos (starEach args env))) (fun vs s₁ => wpAny (model prog w) A (call (.builtin id) vs) Q E s₁) E s)
    (he : backTo pos (starEach args env) = (args.map fun e => (false, eval e env)) := by rfl)
    (hk : env.scope.kind = .function := by rfl) (hx : env.kindOf x = some .globalImplicit := by rfl) (hg : env.globals = mainGlobals := by rfl) (hb : env.builtins = builtinsNs := by rfl) (hdb : (x == ("__debug__" : Str)) = false := by decide) :
    wpAny (model prog w) A (eval (.Call (.Name x np) args [] pos) env) Q E s := by
  refine wpAny_Call_Name_kw (e_bi S G e hv hn ?_ hk hx hg hb hdb)
  rw [he] at h ⊢
  have hp : (args.map fun e => (false, eval e env)).any (·.1) = false := by rw [List.any_map]; simp
  cases args with
  | nil => exact absurd rfl hne
  | cons e r => exact Calls.callWith_builtin hp (evalArgs_plain (wpAny_mono h (fun vs s₁ h₁ => h₁) fun _ _ x => x))
theorem k_ty {x : Str} {np pos : Pos} {args : List Expr} {Q : Value → Shared → Prop} {T : String} (S : St base R Fs env own Av z ρ news s) (G : GF base tab) (e : tab.lookup x = some none) (hv : bootBuiltins x = some (.type T)) (hn : x ≠ "__name__") (hne : args ≠ [])
    (h : wpAny (model prog w) A (spliced (backTo pos (starEach args env))) (fun vs s₁ => wpAny (model prog w) A (call (.type T) vs) Q E s₁) E s)
    (he : backTo pos (starEach args env) = (args.map fun e => (false, eval e env)) := by rfl)
    (hk : env.scope.kind = .function := by rfl) (hx : env.kindOf x = some .globalImplicit := by rfl) (hg : env.globals = mainGlobals := by rfl) (hb : env.builtins = builtinsNs := by rfl) (hdb : (x == ("__debug__" : Str)) = false := by decide) :
    wpAny (model prog w) A (eval (.Call (.Name x np) args [] pos) env) Q E s := by
  refine wpAny_Call_Name_kw (e_bi S G e hv hn ?_ hk hx hg hb hdb)
  rw [he] at h ⊢
  have hp : (args.map fun e => (false, eval e env)).any (·.1) = false := by rw [List.any_map]; simp
  cases args with
  | nil => exact absurd rfl hne
  | cons e r => exact PySem.callWith_type hp (evalArgs_plain (wpAny_mono h (fun vs s₁ h₁ => h₁) fun _ _ x => x))

-- methods of a list
theorem k_meth {o : Expr} {name : Str} {apos pos : Pos} {args : List Expr} {id : String} {Q : Value → Shared → Prop}
    (pa : PlainAttrs "list") (slot : Slot "list" name id) (hty : typeOf (.builtin id) = pure (.type "method_descriptor")) (hne : args ≠ [])
    (h : wpAny (model prog w) A (eval o env) (fun ov s₁ => ∃ l its n, ov = .ref l ∧ s₁.heap.get? l = some (listOf its n) ∧
      wpAny (model prog w) A (spliced (backTo pos (starEach args env))) (fun vs s₂ => wpAny (model prog w) A (call (.builtin id) (.ref l :: vs)) Q E s₂) E s₁) E s)
    (hbase : attributeBase o name env (eval o env) = eval o env := by rfl)
    (hfew : ((backTo pos (starEach args env)).all (fun x => !x.1) && (backToKw pos (keywordEach [] env)).all (fun x => x.1.isSome)
      && decide (args.length + ([] : List Keyword).length + (if ([] : List Keyword).isEmpty then 0 else 1) < 30)) = true := by rfl)
    (hline : (apos.endLine == pos.line) = true := by rfl)
    (he : backTo pos (starEach args env) = (args.map fun e => (false, eval e env)) := by rfl) :
    wpAny (model prog w) A (eval (.Call (.Attribute o name apos) args [] pos) env) Q E s := by
  refine wpAny_Call_method hbase hfew hline pa slot hty (wpAny_mono h (fun ov s₁ h₁ => ?_) fun _ _ x => x)
  obtain ⟨l, its, n, rfl, ho, q⟩ := h₁
  refine ⟨⟨_, ho, rfl⟩, fun a e => by cases e; exact ⟨_, ho, rfl⟩, ?_⟩
  rw [he] at q ⊢
  have hp : (args.map fun e => (false, eval e env)).any (·.1) = false := by rw [List.any_map]; simp
  cases args with
  | nil => exact absurd rfl hne
  | cons e r => exact Calls.callWith_builtin hp (evalArgs_plain (wpAny_mono q (fun vs s₁ h₁ => h₁) fun _ _ x => x))
theorem k_meth0 {o : Expr} {name : Str} {apos pos : Pos} {id : String} {Q : Value → Shared → Prop}
    (pa : PlainAttrs "list") (slot : Slot "list" name id) (hty : typeOf (.builtin id) = pure (.type "method_descriptor"))
    (h : wpAny (model prog w) A (eval o env) (fun ov s₁ => ∃ l its n, ov = .ref l ∧ s₁.heap.get? l = some (listOf its n) ∧ wpAny (model prog w) A (call (.builtin id) [.ref l]) Q E s₁) E s)
    (hbase : attributeBase o name env (eval o env) = eval o env := by rfl)
    (hline : (apos.endLine == pos.line) = true := by rfl) :
    wpAny (model prog w) A (eval (.Call (.Attribute o name apos) [] [] pos) env) Q E s := by
  refine wpAny_Call_method hbase (by rfl) hline pa slot hty (wpAny_mono h (fun ov s₁ h₁ => ?_) fun _ _ x => x)
  obtain ⟨l, its, n, rfl, ho, q⟩ := h₁
  exact ⟨⟨_, ho, rfl⟩, fun a e => by cases e; exact ⟨_, ho, rfl⟩, callWith_method0 q⟩
end
end Mine
end
section
open PySem PySem.W PySem.Calls PyProof.Rows
set_option Elab.async false
set_option maxRecDepth 100000
namespace Mine

noncomputable def fnStmt (x : Str) : List Stmt → Option (Arguments × List Stmt × Scope)
  | [] => none
  | .FunctionDef n a b _ _ _ sc _ _ _ :: r => if n = x then some (a, b, sc) else fnStmt x r
  | _ :: r => fnStmt x r
noncomputable abbrev fnO (x : Str) (a : Arguments) (b : List Stmt) (sc : Scope) (pm cdv doc : Value) : FuncData := fnOf x x a b sc .none .none doc pm none cdv .none
/-- a def stands at f -/
noncomputable def FunAt (base : Heap) (nm qn : Str) (f : Addr) (a : Arguments) (b : List Stmt) (sc : Scope) : Prop :=
  ∃ oc od osl pm cdv doc, base.get? f = some ⟨oc, od, .func (fnOf nm qn a b sc .none .none doc pm none cdv .none), osl⟩ ∧ base.CodeRec cdv qn
/-- the def x stands at f -/
noncomputable def FnAt (base : Heap) (tab : List (Str × Option Value)) (x : Str) (f : Addr) (a : Arguments) (b : List Stmt) (sc : Scope) : Prop :=
  tab.lookup x = some (some (.ref f)) ∧ FunAt base x x f a b sc

/-- a def's own frame, without its text -/
noncomputable def envOf (x : Str) (sc : Scope) (cdv : Value) (L f : Addr) : Env := newEnv sc L mainGlobals (cellsFrom (L + 1) sc.names []) (x ++ ".<locals>.") (some f) cdv none builtinsNs
noncomputable abbrev ownOf (sc : Scope) (L : Addr) : List Addr := L :: (cellsFrom (L + 1) sc.names []).map (·.2)

section
variable {prog : Program} {w : World} {A : Around} {base : Heap} {s : Shared} {tab : List (Str × Option Value)}
variable {R : Addr → Obj → Prop} {Fs : List Env} {env : Env} {own : List Addr} {Av : Addr → Prop} {z : Shared} {ρ : Str → Option Value} {news : List (Addr × Obj)}

/-- a call of a def, by what it is worth -/
theorem ConE.ofFun {nm qn : Str} {f : Addr} {params : Arguments} {body : List Stmt} {sc : Scope} {args : List Value} {binds : List (Str × Value)} {X : List Addr} {Post : Value → List (Addr × Obj) → Prop} {Stop : List (Addr × Obj) → Prop} {k : Nat}
    (F : FunAt base nm qn f params body sc) (G : GF base tab) (rm : Room A (k + 1))
    (hco : sc.isCoroutine = false) (hgen : sc.isGenerator = false) (hk : sc.kind = .function)
    (hbind : ∀ pm cdv doc, bindArgs (fnOf nm qn params body sc .none .none doc pm none cdv .none) ⟨args, []⟩ = pure binds)
    (hkind : (binds.all fun y => sc.names.lookup y.1 == some .local || sc.names.lookup y.1 == some .cell) = true)
    (hcells : (sc.names.all fun x => (sc.names.lookup x.1 != some .free)) = true)
    (hnd : ((cellsFrom 0 sc.names []).map (·.1)).Nodup)
    (hX : ∀ a ∈ X, (∃ o, (a, o) ∈ news) ∧ base.get? a = none)
    (h : ∀ (z s : Shared) A R Fs L Av cdv E, Room A k → A.frames = some Fs → (∀ a ∈ X, Mu R a) → L ∈ frs Fs → Mu R L → PassesOwn (model prog w) A (envOf qn sc cdv L f) E → (∀ e s', Rai base R Fs (envOf qn sc cdv L f) (ownOf sc L) Av z X news Stop e s' → E e s') → St base R Fs (envOf qn sc cdv L f) (ownOf sc L) Av z (bound binds) news s →
      wpAny (model prog w) A (execs body (envOf qn sc cdv L f)) (Ret base R Fs (envOf qn sc cdv L f) (ownOf sc L) Av z X news Post) E s) :
    ConE prog w base A (.ref f) args X news Post Stop := by
  obtain ⟨oc, od, osl, pm, cdv, doc, ho, hcd⟩ := F
  exact ConE.body ho rfl rfl hco hgen hk rfl hcd G.lim rm.lt (hbind pm cdv doc) hkind hcells hnd hX fun z s R Fs L Av E hfr mu l1 l2 p q S => h z s _ R Fs L Av cdv E (rm.deeper _) hfr mu l1 l2 p q S
theorem Con.ofFun {nm qn : Str} {f : Addr} {params : Arguments} {body : List Stmt} {sc : Scope} {args : List Value} {binds : List (Str × Value)} {X : List Addr} {Post : Value → List (Addr × Obj) → Prop} {k : Nat}
    (F : FunAt base nm qn f params body sc) (G : GF base tab) (rm : Room A (k + 1))
    (hco : sc.isCoroutine = false) (hgen : sc.isGenerator = false) (hk : sc.kind = .function)
    (hbind : ∀ pm cdv doc, bindArgs (fnOf nm qn params body sc .none .none doc pm none cdv .none) ⟨args, []⟩ = pure binds)
    (hkind : (binds.all fun y => sc.names.lookup y.1 == some .local || sc.names.lookup y.1 == some .cell) = true)
    (hcells : (sc.names.all fun x => (sc.names.lookup x.1 != some .free)) = true)
    (hnd : ((cellsFrom 0 sc.names []).map (·.1)).Nodup)
    (hX : ∀ a ∈ X, (∃ o, (a, o) ∈ news) ∧ base.get? a = none)
    (h : ∀ (z s : Shared) A R Fs L Av cdv, Room A k → A.frames = some Fs → (∀ a ∈ X, Mu R a) → St base R Fs (envOf qn sc cdv L f) (ownOf sc L) Av z (bound binds) news s →
      wpAny (model prog w) A (execs body (envOf qn sc cdv L f)) (Ret base R Fs (envOf qn sc cdv L f) (ownOf sc L) Av z X news Post) NoE s) :
    Con prog w base A (.ref f) args X news Post := by
  obtain ⟨oc, od, osl, pm, cdv, doc, ho, hcd⟩ := F
  exact Con.body ho rfl rfl hco hgen hk rfl hcd G.lim rm.lt (hbind pm cdv doc) hkind hcells hnd hX fun z s R Fs L Av hfr mu S => h z s _ R Fs L Av cdv (rm.deeper _) hfr mu S
theorem Con.ofFn {x : Str} {f : Addr} {params : Arguments} {body : List Stmt} {sc : Scope} {args : List Value} {binds : List (Str × Value)} {X : List Addr} {Post : Value → List (Addr × Obj) → Prop} {k : Nat}
    (F : FnAt base tab x f params body sc) (G : GF base tab) (rm : Room A (k + 1))
    (hco : sc.isCoroutine = false) (hgen : sc.isGenerator = false) (hk : sc.kind = .function)
    (hbind : ∀ pm cdv doc, bindArgs (fnO x params body sc pm cdv doc) ⟨args, []⟩ = pure binds)
    (hkind : (binds.all fun y => sc.names.lookup y.1 == some .local || sc.names.lookup y.1 == some .cell) = true)
    (hcells : (sc.names.all fun x => (sc.names.lookup x.1 != some .free)) = true)
    (hnd : ((cellsFrom 0 sc.names []).map (·.1)).Nodup)
    (hX : ∀ a ∈ X, (∃ o, (a, o) ∈ news) ∧ base.get? a = none)
    (h : ∀ (z s : Shared) A R Fs L Av cdv, Room A k → A.frames = some Fs → (∀ a ∈ X, Mu R a) → St base R Fs (envOf x sc cdv L f) (ownOf sc L) Av z (bound binds) news s →
      wpAny (model prog w) A (execs body (envOf x sc cdv L f)) (Ret base R Fs (envOf x sc cdv L f) (ownOf sc L) Av z X news Post) NoE s) :
    Con prog w base A (.ref f) args X news Post := Con.ofFun F.2 G rm hco hgen hk hbind hkind hcells hnd hX h

/-- what a call is handed to -/
noncomputable def CallTo (prog : Program) (w : World) (base : Heap) (A : Around) (env : Env) (f : Value) (vs : List Value) (Q : Value → Shared → Prop) (s₁ : Shared) : Prop :=
  ∃ R Fs own Av z ρ news X Post, St base R Fs env own Av z ρ news s₁ ∧ A.frames = some Fs ∧ Con prog w base A f vs X news Post ∧ (∀ a ∈ X, (∃ o, (a, o) ∈ news) ∧ Mu R a) ∧
      ∀ r s' news', St base R Fs env own Av z ρ news' s' → (∀ p ∈ news, p.1 ∉ X → p ∈ news') → Post r news' → Q r s'
theorem CallTo.mk {f : Value} {vs : List Value} {Q : Value → Shared → Prop} {X : List Addr} {Post : Value → List (Addr × Obj) → Prop} (S : St base R Fs env own Av z ρ news s) (hfr : A.frames = some Fs) (C : Con prog w base A f vs X news Post) (hX : ∀ a ∈ X, (∃ o, (a, o) ∈ news) ∧ Mu R a)
    (h : ∀ r s' news', St base R Fs env own Av z ρ news' s' → (∀ p ∈ news, p.1 ∉ X → p ∈ news') → Post r news' → Q r s') : CallTo prog w base A env f vs Q s := ⟨R, Fs, own, Av, z, ρ, news, X, Post, S, hfr, C, hX, h⟩
/-- calling it by its name -/
theorem k_call {x : Str} {np pos : Pos} {args : List Expr} {Q : Value → Shared → Prop} {f : Addr} {params : Arguments} {body : List Stmt} {sc : Scope} (S : St base R Fs env own Av z ρ news s) (G : GF base tab) (F : FnAt base tab x f params body sc) (hne : args ≠ [])
    (h : wpAny (model prog w) A (spliced (backTo pos (starEach args env))) (fun vs s₁ => CallTo prog w base A env (.ref f) vs Q s₁) NoE s)
    (he : backTo pos (starEach args env) = (args.map fun e => (false, eval e env)) := by rfl)
    (hk : env.scope.kind = .function := by rfl) (hx : env.kindOf x = some .globalImplicit := by rfl) (hg : env.globals = mainGlobals := by rfl) (hdb : (x == ("__debug__" : Str)) = false := by decide) :
    wpAny (model prog w) A (eval (.Call (.Name x np) args [] pos) env) Q NoE s := by
  obtain ⟨ht, oc, od, osl, pm, cdv, doc, ho, hcd⟩ := F
  refine k_fn S G ht ho rfl hne (wpAny_mono h (fun vs s₁ h₁ => ?_) fun _ _ x => x) he hk hx hg hdb
  obtain ⟨R', Fs', own', Av', z', ρ', news', X, Post, S', hfr, C, hX, q⟩ := h₁
  exact ⟨fun _ _ e => S'.bget e, C.use S' hfr hX q⟩
end

/-- things of a kind, borne by a ledger, compared by < -/
structure Kind (D : Type) (prog : Program) (w : World) where
  Rel : List (Addr × Obj) → Value → D → Prop
  lt : D → D → Bool
  mono : ∀ {news news' : List (Addr × Obj)} {v : Value} {d : D}, Rel news v d → (∀ p ∈ news, p.2.cls = .type "tuple" → p ∈ news') → Rel news' v d
  cmp : ∀ {A : Around} {s : Shared} {news : List (Addr × Obj)} {v₁ v₂ : Value} {d₁ d₂ : D} {Q : Value → Shared → Prop}, A.handled = none → A.units + 40 < cLine → (∀ p ∈ news, s.heap.get? p.1 = some p.2) → Rel news v₁ d₁ → Rel news v₂ d₂ →
    Q (.bool (lt d₁ d₂)) s → wpAny (model prog w) A (compareOp .Lt v₁ v₂) Q NoE s

/-- lists, item by item -/
noncomputable def Rels {D : Type} (Rel : Value → D → Prop) (vs : List Value) (ds : List D) : Prop := vs.length = ds.length ∧ ∀ (i : Nat) (v : Value) (d : D), vs[i]? = some v → ds[i]? = some d → Rel v d
section
variable {D : Type} {Rel Rel' : Value → D → Prop} {vs ws : List Value} {ds es : List D}
theorem Rels.nil : Rels Rel [] [] := ⟨rfl, fun i v d h => by simp at h⟩
theorem Rels.mono (r : Rels Rel vs ds) (h : ∀ v d, Rel v d → Rel' v d) : Rels Rel' vs ds := ⟨r.1, fun i v d a b => h v d (r.2 i v d a b)⟩
theorem Rels.at (r : Rels Rel vs ds) {i : Nat} (hi : i < ds.length) : ∃ v, vs[i]? = some v ∧ Rel v (ds[i]'hi) := by
  have h : i < vs.length := r.1 ▸ hi
  exact ⟨vs[i], by simp [h], r.2 i _ _ (by simp [h]) (by simp [hi])⟩
theorem Rels.at' (r : Rels Rel vs ds) {i : Nat} {d : D} (hi : ds[i]? = some d) : ∃ v, vs[i]? = some v ∧ Rel v d := by
  obtain ⟨h, rfl⟩ := List.getElem?_eq_some_iff.mp hi
  exact r.at h
theorem Rels.set (r : Rels Rel vs ds) (i : Nat) {v : Value} {d : D} (h : Rel v d) : Rels Rel (vs.set i v) (ds.set i d) := by
  refine ⟨by simp [r.1], fun j a b ha hb => ?_⟩
  rw [List.getElem?_set] at ha hb
  by_cases hij : i = j
  · subst hij
    by_cases hl : i < vs.length
    · have hl' : i < ds.length := r.1 ▸ hl
      simp [hl] at ha; simp [hl'] at hb
      subst ha; subst hb; exact h
    · simp [hl] at ha
  · simp [hij] at ha hb
    exact r.2 j a b ha hb
theorem Rels.append (r : Rels Rel vs ds) (q : Rels Rel ws es) : Rels Rel (vs ++ ws) (ds ++ es) := by
  refine ⟨by simp [r.1, q.1], fun j a b ha hb => ?_⟩
  by_cases h : j < vs.length
  · rw [List.getElem?_append_left h] at ha
    rw [List.getElem?_append_left (r.1 ▸ h)] at hb
    exact r.2 j a b ha hb
  · rw [List.getElem?_append_right (by omega)] at ha
    rw [List.getElem?_append_right (by rw [← r.1]; omega)] at hb
    exact q.2 _ a b ha (by rw [r.1]; exact hb)
theorem Rels.one {v : Value} {d : D} (h : Rel v d) : Rels Rel [v] [d] := ⟨rfl, fun j a b ha hb => by
  cases j with
  | zero => simp at ha hb; subst ha; subst hb; exact h
  | succ j => simp at ha⟩
theorem Rels.cons {v : Value} {d : D} (h : Rel v d) (q : Rels Rel vs ds) : Rels Rel (v :: vs) (d :: ds) := (Rels.one h).append q
theorem Rels.take (r : Rels Rel vs ds) (k : Nat) : Rels Rel (vs.take k) (ds.take k) := ⟨by simp [r.1], fun i v d a b => by
  rw [List.getElem?_take] at a b
  split at a
  · rename_i h; rw [if_pos h] at b; exact r.2 i v d a b
  · cases a⟩
theorem Rels.drop (r : Rels Rel vs ds) (k : Nat) : Rels Rel (vs.drop k) (ds.drop k) := ⟨by simp [r.1], fun i v d a b => by
  rw [List.getElem?_drop] at a b
  exact r.2 _ v d a b⟩
end
end Mine
end
section
open PySem PySem.W PySem.Calls PyProof.Rows
set_option Elab.async false
set_option maxRecDepth 100000
namespace Mine

/-- equal data -/
noncomputable def deq (d e : Dat) : Bool := PyData.eqv (kqdP d) (kqdP e)
mutual
noncomputable def dlt : Dat → Dat → Bool
  | .int a, .int b => decide (a < b)
  | .str a, .str b => decide (a.cps.toList < b.cps.toList)
  | .tuple ds, .tuple es => dltAll ds es
  | _, _ => false
noncomputable def dltAll : List Dat → List Dat → Bool
  | [], [] => false
  | [], _ :: _ => true
  | _ :: _, [] => false
  | d :: ds, e :: es => if deq d e = true then dltAll ds es else dlt d e
end
mutual
/-- data that `<` may meet -/
noncomputable def dcan : Dat → Dat → Bool
  | .int _, .int _ => true
  | .str _, .str _ => true
  | .tuple ds, .tuple es => dcanAll ds es
  | _, _ => false
noncomputable def dcanAll : List Dat → List Dat → Bool
  | d :: ds, e :: es => (deq d e || dcan d e) && dcanAll ds es
  | _, _ => true
end

/-- the ledger holds -/
noncomputable def Led (h : Heap) (news : List (Addr × Obj)) : Prop := ∀ p ∈ news, h.get? p.1 = some p.2
theorem Led.news {h : Heap} {news : List (Addr × Obj)} (N : Led h news) : News { objs := #[] } h.objs.size h news := fun p hp => ⟨N p hp, Nat.ne_of_lt (Heap.lt_size (N p hp)), Heap.get?_none_of_le (Nat.zero_le _)⟩
theorem St.held {base : Heap} {R : Addr → Obj → Prop} {Fs : List Env} {env : Env} {own : List Addr} {Av : Addr → Prop} {z : Shared} {ρ : Str → Option Value} {news : List (Addr × Obj)} {s : Shared} (S : St base R Fs env own Av z ρ news s) : Led s.heap news := fun p hp => (S.led p hp).1
theorem reads_of {h : Heap} {news : List (Addr × Obj)} (N : Led h news) {v : Value} {d : Dat} (n : Nat) (r : DatIn news v d) (hk : kqdOk n d = true) : ∃ as, Reads h v (kqdP d) as := kqd_in N.news n r hk

section
variable {prog : Program} {w : World} {A : Around} {E : Value → Shared → Prop} {s : Shared} {news : List (Addr × Obj)}
theorem eqB {v₁ v₂ : Value} {d₁ d₂ : Dat} {Q : Bool → Shared → Prop} (n : Nat) (N : Led s.heap news) (r₁ : DatIn news v₁ d₁) (r₂ : DatIn news v₂ d₂) (k₁ : kqdOk n d₁ = true) (k₂ : kqdOk n d₂ = true) (hu : A.units + n < cLine) (h : Q (deq d₁ d₂) s) :
    wpAny (model prog w) A (eqBool v₁ v₂) Q E s := by
  obtain ⟨as, ra⟩ := reads_of N n r₁ k₁
  obtain ⟨bs, rb⟩ := reads_of N n r₂ k₂
  have l1 := kqd_lay n d₁ k₁
  have l2 := kqd_lay n d₂ k₂
  exact SeqAt.eqBoolOverData prog w A E s v₁ v₂ _ _ as bs Q ra rb l1.1 l2.1 (by have a1 := l1.2; have a2 := l2.2; omega) h
theorem eqD {v₁ v₂ : Value} {d₁ d₂ : Dat} {Q : Value → Shared → Prop} (n : Nat) (N : Led s.heap news) (r₁ : DatIn news v₁ d₁) (r₂ : DatIn news v₂ d₂) (k₁ : kqdOk n d₁ = true) (k₂ : kqdOk n d₂ = true) (hu : A.units + n < cLine) (h : Q (.bool (deq d₁ d₂)) s) :
    wpAny (model prog w) A (compareOp .Eq v₁ v₂) Q E s := by
  obtain ⟨as, ra⟩ := reads_of N n r₁ k₁
  obtain ⟨bs, rb⟩ := reads_of N n r₂ k₂
  have l1 := kqd_lay n d₁ k₁
  have l2 := kqd_lay n d₂ k₂
  exact SeqAt.compareEq_reads ra rb l1.1 l2.1 (by have a1 := l1.2; have a2 := l2.2; omega) h

theorem lt_tree {x y : Addr} {xs ys : List Value} {n m : Nat} {ds es : List Dat} {P : PySem.Fin → Shared → Prop} (k : Nat) (N : Led s.heap news) (hx : (x, tupOf xs.toArray n) ∈ news) (hy : (y, tupOf ys.toArray m) ∈ news)
    (D₁ : DatAll news xs ds) (D₂ : DatAll news ys es) (k₁ : ∀ d ∈ ds, kqdOk k d = true) (k₂ : ∀ d ∈ es, kqdOk k d = true) (hu : A.units + k < cLine) (hc : dcanAll ds es = true)
    (ih : ∀ (d e : Dat) (v u : Value) (Q : Value → Shared → Prop), d ∈ ds → e ∈ es → DatIn news v d → DatIn news u e → dcan d e = true → Q (.bool (dlt d e)) s → wpAny (model prog w) A (compareOp .Lt v u) Q E s)
    (h : P (.done (.ret (.bool (dltAll ds es)))) s) :
    wpAny (model prog w) A (Builtin.«tuple.__lt__» ⟨[.ref x, .ref y], []⟩) P E s := by
  have hTb : s.TypeIs (.ref y) "tuple" := ⟨_, N _ hy, rfl⟩
  show wpAny _ _ (isInstance (.ref y) (.type "tuple") >>= _) _ _ s
  refine wpAny_bind (wpAny_isInstance hTb isSubtype_tuple_tuple ?_)
  simp only [Bool.not_true, Bool.false_eq_true, if_false]
  refine wpAny_bind (wpAny_tupleItemsOf (N _ hx) rfl ?_)
  refine wpAny_bind (wpAny_tupleItemsOf (N _ hy) rfl ?_)
  refine wpAny_bind ?_
  refine wpAny_forIn_list _
    (fun rest r s' => r.1 = none ∧ s' = s ∧ ∃ ds' es' xs' ys', rest = List.zip xs' ys' ∧ DatAll news xs' ds' ∧ DatAll news ys' es' ∧ (∀ d ∈ ds', d ∈ ds) ∧ (∀ d ∈ es', d ∈ es) ∧ dcanAll ds' es' = true ∧ dltAll ds' es' = dltAll ds es ∧ (decide (xs'.length < ys'.length) = decide (xs.length < ys.length)))
    _ ?_ ?_ _ _ ⟨rfl, rfl, ds, es, xs, ys, rfl, D₁, D₂, fun _ m => m, fun _ m => m, hc, rfl, rfl⟩
  · rintro ⟨u, v⟩ rest r s' ⟨hr, rfl, ds', es', xs', ys', hz, D₁', D₂', m₁, m₂, hc', he, hlen⟩
    cases D₁' with
    | nil => simp at hz
    | @cons u' xs'' d ds'' h1 D₁'' =>
      cases D₂' with
      | nil => simp at hz
      | @cons v' ys'' e es'' h2 D₂'' =>
        simp only [List.zip_cons_cons, List.cons.injEq, Prod.mk.injEq] at hz
        obtain ⟨⟨rfl, rfl⟩, rfl⟩ := hz
        have hc2 : (deq d e = true ∨ dcan d e = true) ∧ dcanAll ds'' es'' = true := by simpa [dcanAll] using hc'
        refine wpAny_bind (eqB k N h1 h2 (k₁ _ (m₁ _ (.head _))) (k₂ _ (m₂ _ (.head _))) hu ?_)
        cases hde : deq d e with
        | true =>
          simp only [Bool.not_true, Bool.false_eq_true, if_false]
          refine wpAny_pure ⟨rfl, rfl, ds'', es'', xs'', ys'', rfl, D₁'', D₂'', fun d hd => m₁ d (.tail _ hd), fun d hd => m₂ d (.tail _ hd), hc2.2, ?_, by simpa using hlen⟩
          rw [← he, dltAll, if_pos hde]
        | false =>
          simp only [Bool.not_false, if_true]
          have hd : dcan d e = true := by rcases hc2.1 with q | q; · rw [hde] at q; cases q
                                          · exact q
          refine wpAny_bind (wpAny_rule (wpAny_bind (ih d e _ _ _ (m₁ _ (.head _)) (m₂ _ (.head _)) h1 h2 hd (wpAny_pure (wpAny_pure ?_)))))
          have : dltAll ds es = dlt d e := by rw [← he, dltAll, hde]; rfl
          rw [← this]
          exact h
  · rintro ⟨r1, r2⟩ s' ⟨hr, rfl, ds', es', xs', ys', hz, D₁', D₂', m₁, m₂, hc', he, hlen⟩
    simp only at hr
    subst hr
    refine wpAny_pure ?_
    have hfin : decide (xs.length < ys.length) = dltAll ds es := by
      rw [← he, ← hlen]
      cases D₁' with
      | nil =>
        cases D₂' with
        | nil => simp [dltAll]
        | cons _ _ => simp [dltAll]
      | cons _ _ =>
        cases D₂' with
        | nil => simp [dltAll]
        | cons _ _ => simp at hz
    show P (.done (.ret (.bool (decide (xs.toArray.size < ys.toArray.size))))) s'
    rw [show xs.toArray.size = xs.length from by simp, show ys.toArray.size = ys.length from by simp, hfin]; exact h

theorem ltD : ∀ (n : Nat) {A : Around} {d e : Dat} {v u : Value} {Q : Value → Shared → Prop}, Led s.heap news → DatIn news v d → DatIn news u e → kqdOk n d = true → kqdOk n e = true → dcan d e = true → A.units + 2 * n < cLine → Q (.bool (dlt d e)) s →
    wpAny (model prog w) A (compareOp .Lt v u) Q E s := by
  intro n
  induction n with
  | zero =>
    intro A d e v u Q N r₁ r₂ k₁ k₂ hc hu h
    cases r₁ with
    | int i t => cases r₂ with
      | int j u => exact lt_int (by simpa only [dlt] using h)
      | _ => simp [dcan] at hc
    | str x t => cases r₂ with
      | str y u => exact lt_str (by simpa only [dlt] using h)
      | _ => simp [dcan] at hc
    | tuple ha D₁ => simp [kqdOk] at k₁
    | _ => simp [dcan] at hc
  | succ n ih =>
    intro A d e v u Q N r₁ r₂ k₁ k₂ hc hu h
    cases r₁ with
    | int i t => cases r₂ with
      | int j u => exact lt_int (by simpa only [dlt] using h)
      | _ => simp [dcan] at hc
    | str x t => cases r₂ with
      | str y u => exact lt_str (by simpa only [dlt] using h)
      | _ => simp [dcan] at hc
    | @tuple a vs na ds ha D₁ => cases r₂ with
      | @tuple b us nb es hb D₂ =>
        have k₁' : ∀ d ∈ ds, kqdOk n d = true := by simpa [kqdOk] using k₁
        have k₂' : ∀ d ∈ es, kqdOk n d = true := by simpa [kqdOk] using k₂
        have hc' : dcanAll ds es = true := by simpa [dcan] using hc
        refine wpAny_richCompare_same_room (op := .Lt) (T := "tuple") ⟨_, N _ ha, rfl⟩ ⟨_, N _ hb, rfl⟩ F.slot_tuple_lt
          (wpAny_call_entry F.slot_tuple_lt ⟨_, N _ ha, rfl⟩ F.entry_tuple_lt (lt_tree (A := A.in1) n N ha hb D₁ D₂ k₁' k₂' ?_ hc' (fun d e v u Q m₁ m₂ r₁ r₂ hde hq => ?_) ⟨_, rfl, (fun e => nomatch e), ?_⟩) (F.args_tuple_lt_2 _ _)) (by omega)
        · show A.units + 1 + n < cLine
          omega
        · refine ih (A := A.in1) N r₁ r₂ (k₁' d m₁) (k₂' e m₂) hde ?_ hq
          show A.units + 1 + 2 * n < cLine
          omega
        · simpa [dlt] using h
      | _ => simp [dcan] at hc
    | _ => simp [dcan] at hc
end

/-- data of a kind, laid as Dat -/
structure Kin (D : Type) where
  enc : D → Dat
  flat : ∀ d, ∃ ds, enc d = .tuple ds
  ok : ∀ d, kqdOk 3 (enc d) = true
  can : ∀ d e, dcan (enc d) (enc e) = true
  tup : ∀ {news news' : List (Addr × Obj)} {v : Value} {d : D}, DatIn news v (enc d) → (∀ p ∈ news, p.2.cls = .type "tuple" → p ∈ news') → DatIn news' v (enc d)
noncomputable def Kin.kind {D : Type} (K : Kin D) (prog : Program) (w : World) : Kind D prog w where
  Rel news v d := DatIn news v (K.enc d)
  lt d e := dlt (K.enc d) (K.enc e)
  mono h m := K.tup h m
  cmp {A s news v₁ v₂ d₁ d₂ Q} _ hu N r₁ r₂ h := ltD 3 N r₁ r₂ (K.ok _) (K.ok _) (K.can _ _) (by omega) h
end Mine
end
section
open PySem PySem.W PySem.Calls PyProof.Rows
set_option Elab.async false
set_option maxRecDepth 100000
namespace Mine
noncomputable abbrev TB (tab : List (Str × Option Value)) (x : Str) : Prop := tab.lookup x = some none
section
variable {prog : Program} {w : World} {A : Around} {E : Value → Shared → Prop} {s : Shared} {tab : List (Str × Option Value)}
variable {base : Heap} {R : Addr → Obj → Prop} {Fs : List Env} {env : Env} {own : List Addr} {Av : Addr → Prop} {z : Shared} {ρ : Str → Option Value} {news : List (Addr × Obj)}

theorem b_mod' {a b : Int} {t u : Tok} {Q : Value → Shared → Prop} (S : St base R Fs env own Av z ρ news s) (hb : 0 < b) (h : ∀ t s', St base R Fs env own Av z ρ news s' → Q (.int (a % b) t) s') : wpAny (model prog w) A (binaryOp .Mod (.int a t) (.int b u)) Q E s :=
  b_mod S (by omega) fun t s' S' => by rw [Int.fmod_eq_emod_of_nonneg _ (Int.le_of_lt hb)]; exact h t s' S'
theorem b_div' {a b : Int} {t u : Tok} {Q : Value → Shared → Prop} (S : St base R Fs env own Av z ρ news s) (hb : 0 < b) (hs : b.natAbs < 1073741824) (h : ∀ t s', St base R Fs env own Av z ρ news s' → Q (.int (a / b) t) s') : wpAny (model prog w) A (binaryOp .FloorDiv (.int a t) (.int b u)) Q E s :=
  b_div S (by omega) (PyProof.noPylong_small hs) fun t s' S' => by rw [Int.fdiv_eq_ediv_of_nonneg _ (Int.le_of_lt hb)]; exact h t s' S'
/-- a range of one end -/
noncomputable abbrev rangeObj (a b : Int) (t u v : Tok) : Obj := { cls := .type "range", data := .fields #[.int a t, .int b u, .int 1 v] }
theorem r_range {n : Int} {t : Tok} {Q : Value → Shared → Prop} (S : St base R Fs env own Av z ρ news s) (h : ∀ a t u v s', Mu R a → (∀ p ∈ news, p.1 ≠ a) → St base R Fs env own Av z ρ ((a, rangeObj 0 n t u v) :: news) s' → Q (.ref a) s') : wpAny (model prog w) A (call (.type "range") [.int n t]) Q E s :=
  call_range_1 (h _ _ _ _ _ (S.fresh (Nat.le_refl _)) (fun p hp => Nat.ne_of_lt (Heap.lt_size (S.led p hp).1)) (S.push _ _))
theorem r_range2 {m n : Int} {t u : Tok} {Q : Value → Shared → Prop} (S : St base R Fs env own Av z ρ news s) (h : ∀ a t u v s', Mu R a → (∀ p ∈ news, p.1 ≠ a) → St base R Fs env own Av z ρ ((a, rangeObj m n t u v) :: news) s' → Q (.ref a) s') : wpAny (model prog w) A (call (.type "range") [.int m t, .int n u]) Q E s :=
  call_range_2 (h _ _ _ _ _ (S.fresh (Nat.le_refl _)) (fun p hp => Nat.ne_of_lt (Heap.lt_size (S.led p hp).1)) (S.push _ _))
theorem s_item {l : Addr} {its : List Value} {n : Nat} {k : Int} {t : Tok} {v : Value} {Q : Unit → Shared → Prop} (S : St base R Fs env own Av z ρ news s) (hl : (l, listOf its.toArray n) ∈ news) (hR : Mu R l) (h0 : 0 ≤ k) (hfit : k < 2 ^ 63) (hk : k.toNat < its.length)
    (h : ∀ n' s', St base R Fs env own Av z ρ (setN l (listOf (its.set k.toNat v).toArray n') news) s' → Q () s') : wpAny (model prog w) A (setItem (.ref l) (.int k t) v) Q E s := by
  have hk' : k < (its.toArray.size : Int) := by rw [List.size_toArray]; omega
  refine ki_setAt (S.get hl) h0 hfit hk' ?_
  have e : its.toArray.setIfInBounds k.toNat v = (its.set k.toNat v).toArray := by simp
  have e2 := get?_update_seq (c := "list") (S.get hl) (·.setIfInBounds k.toNat v)
  have := h _ _ (S.change (t := s.toks) hl hR (e2.trans (by rw [e])) (Heap.SameBut.update ..))
  exact this
theorem l_append {l : Addr} {its : List Value} {n : Nat} {x : Value} {Q : Value → Shared → Prop} (S : St base R Fs env own Av z ρ news s) (hl : (l, listOf its.toArray n) ∈ news) (hR : Mu R l) (hz : its.length ≤ 100000)
    (h : ∀ n' s', St base R Fs env own Av z ρ (setN l (listOf (its ++ [x]).toArray n') news) s' → Q .none s') : wpAny (model prog w) A (call (.builtin "list.append") [.ref l, x]) Q E s := by
  refine append_at (S.get hl) (fun h' hs ho => ?_) (by rw [List.size_toArray, sizeLine_eq]; omega)
  have e : its.toArray.push x = (its ++ [x]).toArray := by simp
  rw [e] at ho
  exact h _ _ (S.change (t := s.toks) hl hR ho hs)
theorem l_pop {l : Addr} {its : List Value} {n : Nat} {x : Value} {Q : Value → Shared → Prop} (S : St base R Fs env own Av z ρ news s) (hl : (l, listOf (its ++ [x]).toArray n) ∈ news) (hR : Mu R l) (hz : its.length ≤ 100000)
    (h : ∀ n' s', St base R Fs env own Av z ρ (setN l (listOf its.toArray n') news) s' → Q x s') : wpAny (model prog w) A (call (.builtin "list.pop") [.ref l]) Q E s := by
  refine PyProof.Rows.Copied.pop_at (y := x) (S.get hl) (by simp) (fun h' hs ho => ?_) (by rw [List.size_toArray, sizeLine_eq, List.length_append]; simp only [List.length_cons, List.length_nil]; omega)
  have e : (its ++ [x]).toArray.pop = its.toArray := by simp
  rw [e] at ho
  exact h _ _ (S.change (t := s.toks) hl hR ho hs)
theorem l_len {l : Addr} {its : List Value} {n : Nat} {Q : Value → Shared → Prop} (S : St base R Fs env own Av z ρ news s) (hl : (l, listOf its.toArray n) ∈ news) (hz : its.length ≤ 100000)
    (h : ∀ t s', St base R Fs env own Av z ρ news s' → Q (.int its.length t) s') : wpAny (model prog w) A (call (.builtin "len") [.ref l]) Q E s := by
  refine call_len_list ⟨_, S.get hl, rfl, n, rfl⟩ (by rw [List.size_toArray]; omega) ?_
  rw [List.size_toArray]
  exact h _ _ (S.tok _)
theorem St.notL {l : Addr} {its : Array Value} {n : Nat} (S : St base R Fs env own Av z ρ news s) (hl : (l, listOf its n) ∈ news) : ∀ p ∈ news, p.2.cls = .type "tuple" → p.1 ≠ l := fun p hp hc e => by
  have hp' : (l, p.2) ∈ news := by rw [← e]; exact hp
  have := S.uniq hl hp'
  rw [← this] at hc
  have hc' : Value.type "list" = Value.type "tuple" := hc
  exact absurd hc' (by decide)
theorem St.tups {l : Addr} {its : Array Value} {n : Nat} (S : St base R Fs env own Av z ρ news s) (hl : (l, listOf its n) ∈ news) (o : Obj) : ∀ p ∈ news, p.2.cls = .type "tuple" → p ∈ setN l o news := fun p hp hc => setN_ne hp fun e => by
  have hp' : (l, p.2) ∈ news := by rw [← e]; exact hp
  have := S.uniq hl hp'
  rw [← this] at hc
  have hc' : Value.type "list" = Value.type "tuple" := hc
  exact absurd hc' (by decide)
theorem sub_setN {l : Addr} {o : Obj} {news₀ news : List (Addr × Obj)} (h : ∀ x ∈ news₀, x.1 ≠ l → x ∈ news) : ∀ x ∈ news₀, x.1 ≠ l → x ∈ setN l o news := fun x hx n => setN_ne (h x hx n) n
theorem l_truthy {l : Addr} {its : List Value} {n : Nat} {Q : Bool → Shared → Prop} (S : St base R Fs env own Av z ρ news s) (hl : (l, listOf its.toArray n) ∈ news) (hz : its.length ≤ 100000) (h : ∀ s', St base R Fs env own Av z ρ news s' → Q (!its.isEmpty) s') : wpAny (model prog w) A (truthy (.ref l)) Q E s := by
  refine wpAny_truthy_list ⟨_, S.get hl, rfl, n, rfl⟩ (by rw [List.size_toArray]; omega) ?_
  rw [List.isEmpty_toArray]
  exact h _ (S.tok _)
end
end Mine
end
section
open PySem PySem.W PySem.Calls PyProof.Rows
set_option Elab.async false
set_option maxRecDepth 100000
namespace Mine
noncomputable def clsStmt (x : Str) : List Stmt → List Stmt
  | [] => []
  | .ClassDef n _ _ b _ _ _ _ _ _ _ :: r => if n = x then b else clsStmt x r
  | _ :: r => clsStmt x r
noncomputable def mthOfP (c x : Str) : Arguments × List Stmt × Scope := (fnStmt x (clsStmt c PySem.Challenge.pw_kt0014_01.main.body)).getD (⟨[], [], none, [], [], none, []⟩, [], ⟨.module, [], false, false, []⟩)
noncomputable abbrev MthP (base : Heap) (c x : Str) (f : Addr) : Prop := FunAt base x (c ++ "." ++ x) f (mthOfP c x).1 (mthOfP c x).2.1 (mthOfP c x).2.2
noncomputable def fnOfP (x : Str) : Arguments × List Stmt × Scope := (fnStmt x PySem.Challenge.pw_kt0014_01.main.body).getD (⟨[], [], none, [], [], none, []⟩, [], ⟨.module, [], false, false, []⟩)
noncomputable abbrev FnP (base : Heap) (tab : List (Str × Option Value)) (x : Str) (f : Addr) : Prop := FnAt base tab x f (fnOfP x).1 (fnOfP x).2.1 (fnOfP x).2.2
end Mine
end
section
set_option Elab.async false
set_option maxRecDepth 100000
open PySem PySem.W PySem.Calls PyProof.Rows
namespace Mine
/-- a method of the class filterfalse -/
noncomputable def mthObj (x : Str) (pm cd : Value) : Obj := { cls := Value.type "function", data := Data.func (fnOf x (Str.ofString "filterfalse." ++ x) (mthOfP "filterfalse" x).1 (mthOfP "filterfalse" x).2.1 (mthOfP "filterfalse" x).2.2 .none .none .none pm none cd .none) }
/-- what is to be known of the heap: the names, the class, its methods, the table -/
noncomputable def kObjs (P : Params) : Frag := [
(3, { cls := Value.type "dict", data := Data.dict #[{ hash := PyData.keyHash P (PySem.Str.ofString "__name__"), key := Value.str (PySem.Str.ofString "__name__") 165, val := Value.str (PySem.Str.ofString "law_kt0014_01") 387 }, { hash := PyData.keyHash P (PySem.Str.ofString "__doc__"), key := Value.str (PySem.Str.ofString "__doc__") 166, val := Value.none }, { hash := PyData.keyHash P (PySem.Str.ofString "__package__"), key := Value.str (PySem.Str.ofString "__package__") 167, val := Value.none }, { hash := PyData.keyHash P (PySem.Str.ofString "__loader__"), key := Value.str (PySem.Str.ofString "__loader__") 168, val := Value.builtin "__main__.__loader__#opaque" }, { hash := PyData.keyHash P (PySem.Str.ofString "__spec__"), key := Value.str (PySem.Str.ofString "__spec__") 169, val := Value.none }, { hash := PyData.keyHash P (PySem.Str.ofString "__annotations__"), key := Value.str (PySem.Str.ofString "__annotations__") 170, val := Value.ref 6 }, { hash := PyData.keyHash P (PySem.Str.ofString "__builtins__"), key := Value.str (PySem.Str.ofString "__builtins__") 171, val := Value.ref 4 }, { hash := PyData.keyHash P (PySem.Str.ofString "__file__"), key := Value.str (PySem.Str.ofString "__file__") 173, val := Value.str (PySem.Str.ofString "/claim/cut.py") 172 }, { hash := PyData.keyHash P (PySem.Str.ofString "__cached__"), key := Value.str (PySem.Str.ofString "__cached__") 174, val := Value.none }, { hash := PyData.keyHash P (PySem.Str.ofString "filterfalse"), key := Value.str (PySem.Str.ofString "filterfalse") 238, val := Value.ref 47 }, { hash := PyData.keyHash P (PySem.Str.ofString "_filter"), key := Value.str (PySem.Str.ofString "_filter") 248, val := Value.ref 58 }, { hash := PyData.keyHash P (PySem.Str.ofString "heappush"), key := Value.str (PySem.Str.ofString "heappush") 258, val := Value.ref 65 }, { hash := PyData.keyHash P (PySem.Str.ofString "heappop"), key := Value.str (PySem.Str.ofString "heappop") 267, val := Value.ref 72 }, { hash := PyData.keyHash P (PySem.Str.ofString "heapify"), key := Value.str (PySem.Str.ofString "heapify") 276, val := Value.ref 79 }, { hash := PyData.keyHash P (PySem.Str.ofString "_siftdown"), key := Value.str (PySem.Str.ofString "_siftdown") 288, val := Value.ref 86 }, { hash := PyData.keyHash P (PySem.Str.ofString "_siftup"), key := Value.str (PySem.Str.ofString "_siftup") 301, val := Value.ref 93 }, { hash := PyData.keyHash P (PySem.Str.ofString "S_IFMT"), key := Value.str (PySem.Str.ofString "S_IFMT") 310, val := Value.ref 100 }, { hash := PyData.keyHash P (PySem.Str.ofString "S_IFDIR"), key := Value.str (PySem.Str.ofString "S_IFDIR") 312, val := Value.int 16384 311 }, { hash := PyData.keyHash P (PySem.Str.ofString "S_IFCHR"), key := Value.str (PySem.Str.ofString "S_IFCHR") 314, val := Value.int 8192 313 }, { hash := PyData.keyHash P (PySem.Str.ofString "S_IFBLK"), key := Value.str (PySem.Str.ofString "S_IFBLK") 316, val := Value.int 24576 315 }, { hash := PyData.keyHash P (PySem.Str.ofString "S_IFREG"), key := Value.str (PySem.Str.ofString "S_IFREG") 318, val := Value.int 32768 317 }, { hash := PyData.keyHash P (PySem.Str.ofString "S_IFIFO"), key := Value.str (PySem.Str.ofString "S_IFIFO") 320, val := Value.int 4096 319 }, { hash := PyData.keyHash P (PySem.Str.ofString "S_IFLNK"), key := Value.str (PySem.Str.ofString "S_IFLNK") 322, val := Value.int 40960 321 }, { hash := PyData.keyHash P (PySem.Str.ofString "S_IFSOCK"), key := Value.str (PySem.Str.ofString "S_IFSOCK") 324, val := Value.int 49152 323 }, { hash := PyData.keyHash P (PySem.Str.ofString "S_ISUID"), key := Value.str (PySem.Str.ofString "S_ISUID") 326, val := Value.int 2048 325 }, { hash := PyData.keyHash P (PySem.Str.ofString "S_ISGID"), key := Value.str (PySem.Str.ofString "S_ISGID") 328, val := Value.int 1024 327 }, { hash := PyData.keyHash P (PySem.Str.ofString "S_ISVTX"), key := Value.str (PySem.Str.ofString "S_ISVTX") 330, val := Value.int 512 329 }, { hash := PyData.keyHash P (PySem.Str.ofString "S_IRUSR"), key := Value.str (PySem.Str.ofString "S_IRUSR") 332, val := Value.int 256 331 }, { hash := PyData.keyHash P (PySem.Str.ofString "S_IWUSR"), key := Value.str (PySem.Str.ofString "S_IWUSR") 334, val := Value.int 128 333 }, { hash := PyData.keyHash P (PySem.Str.ofString "S_IXUSR"), key := Value.str (PySem.Str.ofString "S_IXUSR") 336, val := Value.int 64 335 }, { hash := PyData.keyHash P (PySem.Str.ofString "S_IRGRP"), key := Value.str (PySem.Str.ofString "S_IRGRP") 338, val := Value.int 32 337 }, { hash := PyData.keyHash P (PySem.Str.ofString "S_IWGRP"), key := Value.str (PySem.Str.ofString "S_IWGRP") 340, val := Value.int 16 339 }, { hash := PyData.keyHash P (PySem.Str.ofString "S_IXGRP"), key := Value.str (PySem.Str.ofString "S_IXGRP") 342, val := Value.int 8 341 }, { hash := PyData.keyHash P (PySem.Str.ofString "S_IROTH"), key := Value.str (PySem.Str.ofString "S_IROTH") 344, val := Value.int 4 343 }, { hash := PyData.keyHash P (PySem.Str.ofString "S_IWOTH"), key := Value.str (PySem.Str.ofString "S_IWOTH") 346, val := Value.int 2 345 }, { hash := PyData.keyHash P (PySem.Str.ofString "S_IXOTH"), key := Value.str (PySem.Str.ofString "S_IXOTH") 348, val := Value.int 1 347 }, { hash := PyData.keyHash P (PySem.Str.ofString "_filemode_table"), key := Value.str (PySem.Str.ofString "_filemode_table") 374, val := Value.ref 133 }, { hash := PyData.keyHash P (PySem.Str.ofString "filemode"), key := Value.str (PySem.Str.ofString "filemode") 386, val := Value.ref 140 }, { hash := PyData.keyHash P (PySem.Str.ofString "_law_pieces"), key := Value.str (PySem.Str.ofString "_law_pieces") 400, val := Value.ref 147 }, { hash := PyData.keyHash P (PySem.Str.ofString "_law_seek"), key := Value.str (PySem.Str.ofString "_law_seek") 406, val := Value.ref 152 }, { hash := PyData.keyHash P (PySem.Str.ofString "_law_due"), key := Value.str (PySem.Str.ofString "_law_due") 412, val := Value.ref 157 }, { hash := PyData.keyHash P (PySem.Str.ofString "law"), key := Value.str (PySem.Str.ofString "law") 418, val := Value.ref 162 }] 42 }),
(28, { cls := Value.type "code", data := Data.fields #[Value.str (PySem.Str.ofString "__init__") 204, Value.str (PySem.Str.ofString "filterfalse.__init__") 205, Value.str (PySem.Str.ofString "/claim/cut.py") 206, Value.int 5 0, Value.int 3 0, Value.int 3 0, Value.int 0 0, Value.int 3 0, Value.ref 23, Value.bool true, Value.int 181 0, Value.ref 24, Value.none, Value.ref 25, Value.ref 26, Value.ref 27, Value.int 210 0, Value.int 5 0, Value.str (PySem.Str.ofString "/claim/cut.py") 211] }),
(29, mthObj "__init__" (Value.str (Str.ofString "itertools") 187) (Value.ref 28)),
(35, { cls := Value.type "code", data := Data.fields #[Value.str (PySem.Str.ofString "__iter__") 213, Value.str (PySem.Str.ofString "filterfalse.__iter__") 214, Value.str (PySem.Str.ofString "/claim/cut.py") 215, Value.int 9 0, Value.int 1 0, Value.int 0 0, Value.int 0 0, Value.int 3 0, Value.ref 30, Value.bool true, Value.int 181 0, Value.ref 31, Value.none, Value.ref 32, Value.ref 33, Value.ref 34, Value.int 217 0, Value.int 9 0, Value.str (PySem.Str.ofString "/claim/cut.py") 218] }),
(36, mthObj "__iter__" (Value.str (Str.ofString "itertools") 187) (Value.ref 35)),
(42, { cls := Value.type "code", data := Data.fields #[Value.str (PySem.Str.ofString "__next__") 220, Value.str (PySem.Str.ofString "filterfalse.__next__") 221, Value.str (PySem.Str.ofString "/claim/cut.py") 222, Value.int 12 0, Value.int 1 0, Value.int 0 0, Value.int 0 0, Value.int 3 0, Value.ref 37, Value.bool true, Value.int 181 0, Value.ref 38, Value.none, Value.ref 39, Value.ref 40, Value.ref 41, Value.int 226 0, Value.int 12 0, Value.str (PySem.Str.ofString "/claim/cut.py") 227] }),
(43, mthObj "__next__" (Value.str (Str.ofString "itertools") 187) (Value.ref 42)),
(46, { cls := Value.type "dict", data := Data.dict #[{ hash := PyData.keyHash P (PySem.Str.ofString "__module__"), key := Value.str (PySem.Str.ofString "__module__") 196, val := Value.str (PySem.Str.ofString "itertools") 187 }, { hash := PyData.keyHash P (PySem.Str.ofString "__firstlineno__"), key := Value.str (PySem.Str.ofString "__firstlineno__") 200, val := Value.int 2 199 }, { hash := PyData.keyHash P (PySem.Str.ofString "__slots__"), key := Value.str (PySem.Str.ofString "__slots__") 203, val := Value.ref 22 }, { hash := PyData.keyHash P (PySem.Str.ofString "__init__"), key := Value.str (PySem.Str.ofString "__init__") 212, val := Value.ref 29 }, { hash := PyData.keyHash P (PySem.Str.ofString "__iter__"), key := Value.str (PySem.Str.ofString "__iter__") 219, val := Value.ref 36 }, { hash := PyData.keyHash P (PySem.Str.ofString "__next__"), key := Value.str (PySem.Str.ofString "__next__") 228, val := Value.ref 43 }, { hash := PyData.keyHash P (PySem.Str.ofString "__static_attributes__"), key := Value.str (PySem.Str.ofString "__static_attributes__") 231, val := Value.ref 44 }, { hash := PyData.keyHash P (PySem.Str.ofString "_func"), key := Value.str (PySem.Str.ofString "_func") 233, val := Value.ref 48 }, { hash := PyData.keyHash P (PySem.Str.ofString "_it"), key := Value.str (PySem.Str.ofString "_it") 235, val := Value.ref 49 }, { hash := PyData.keyHash P (PySem.Str.ofString "__doc__"), key := Value.str (PySem.Str.ofString "__doc__") 236, val := Value.none }] 4 }),
(47, { cls := Value.type "type", data := Data.cls { name := PySem.Str.ofString "filterfalse", bases := [Value.type "object"], mro := [Value.ref 47, Value.type "object"], ns := 46, qualname := PySem.Str.ofString "filterfalse", hasDict := false, slotNames := [PySem.Str.ofString "_func", PySem.Str.ofString "_it"] }, slots := #[none, none, some (Value.str (PySem.Str.ofString "filterfalse") 189), some (Value.str (PySem.Str.ofString "filterfalse") 197), some (Value.builtin "object.__new__"), some (Value.bool false)] }),
(48, { cls := Value.type "member_descriptor", data := Data.fields #[Value.str (PySem.Str.ofString "_func") 232, Value.ref 47, Value.builtin "proto.slot", Value.builtin "proto.slot#set", Value.int 1 0] }),
(49, { cls := Value.type "member_descriptor", data := Data.fields #[Value.str (PySem.Str.ofString "_it") 234, Value.ref 47, Value.builtin "proto.slot", Value.builtin "proto.slot#set", Value.int 0 0] }),
(101, { cls := Value.type "tuple", data := Data.seq #[Value.int 40960 321, Value.str (PySem.Str.ofString "l") 349] }),
(102, { cls := Value.type "tuple", data := Data.seq #[Value.int 49152 323, Value.str (PySem.Str.ofString "s") 350] }),
(103, { cls := Value.type "tuple", data := Data.seq #[Value.int 32768 317, Value.str (PySem.Str.ofString "-") 351] }),
(104, { cls := Value.type "tuple", data := Data.seq #[Value.int 24576 315, Value.str (PySem.Str.ofString "b") 352] }),
(105, { cls := Value.type "tuple", data := Data.seq #[Value.int 16384 311, Value.str (PySem.Str.ofString "d") 353] }),
(106, { cls := Value.type "tuple", data := Data.seq #[Value.int 8192 313, Value.str (PySem.Str.ofString "c") 354] }),
(107, { cls := Value.type "tuple", data := Data.seq #[Value.int 4096 319, Value.str (PySem.Str.ofString "p") 355] }),
(108, { cls := Value.type "tuple", data := Data.seq #[Value.ref 101, Value.ref 102, Value.ref 103, Value.ref 104, Value.ref 105, Value.ref 106, Value.ref 107] }),
(109, { cls := Value.type "tuple", data := Data.seq #[Value.int 256 331, Value.str (PySem.Str.ofString "r") 356] }),
(110, { cls := Value.type "tuple", data := Data.seq #[Value.ref 109] }),
(111, { cls := Value.type "tuple", data := Data.seq #[Value.int 128 333, Value.str (PySem.Str.ofString "w") 357] }),
(112, { cls := Value.type "tuple", data := Data.seq #[Value.ref 111] }),
(113, { cls := Value.type "tuple", data := Data.seq #[Value.int 2112 358, Value.str (PySem.Str.ofString "s") 359] }),
(114, { cls := Value.type "tuple", data := Data.seq #[Value.int 2048 325, Value.str (PySem.Str.ofString "S") 360] }),
(115, { cls := Value.type "tuple", data := Data.seq #[Value.int 64 335, Value.str (PySem.Str.ofString "x") 361] }),
(116, { cls := Value.type "tuple", data := Data.seq #[Value.ref 113, Value.ref 114, Value.ref 115] }),
(117, { cls := Value.type "tuple", data := Data.seq #[Value.int 32 337, Value.str (PySem.Str.ofString "r") 362] }),
(118, { cls := Value.type "tuple", data := Data.seq #[Value.ref 117] }),
(119, { cls := Value.type "tuple", data := Data.seq #[Value.int 16 339, Value.str (PySem.Str.ofString "w") 363] }),
(120, { cls := Value.type "tuple", data := Data.seq #[Value.ref 119] }),
(121, { cls := Value.type "tuple", data := Data.seq #[Value.int 1032 364, Value.str (PySem.Str.ofString "s") 365] }),
(122, { cls := Value.type "tuple", data := Data.seq #[Value.int 1024 327, Value.str (PySem.Str.ofString "S") 366] }),
(123, { cls := Value.type "tuple", data := Data.seq #[Value.int 8 341, Value.str (PySem.Str.ofString "x") 367] }),
(124, { cls := Value.type "tuple", data := Data.seq #[Value.ref 121, Value.ref 122, Value.ref 123] }),
(125, { cls := Value.type "tuple", data := Data.seq #[Value.int 4 343, Value.str (PySem.Str.ofString "r") 368] }),
(126, { cls := Value.type "tuple", data := Data.seq #[Value.ref 125] }),
(127, { cls := Value.type "tuple", data := Data.seq #[Value.int 2 345, Value.str (PySem.Str.ofString "w") 369] }),
(128, { cls := Value.type "tuple", data := Data.seq #[Value.ref 127] }),
(129, { cls := Value.type "tuple", data := Data.seq #[Value.int 513 370, Value.str (PySem.Str.ofString "t") 371] }),
(130, { cls := Value.type "tuple", data := Data.seq #[Value.int 512 329, Value.str (PySem.Str.ofString "T") 372] }),
(131, { cls := Value.type "tuple", data := Data.seq #[Value.int 1 347, Value.str (PySem.Str.ofString "x") 373] }),
(132, { cls := Value.type "tuple", data := Data.seq #[Value.ref 129, Value.ref 130, Value.ref 131] }),
(133, { cls := Value.type "tuple", data := Data.seq #[Value.ref 108, Value.ref 110, Value.ref 112, Value.ref 116, Value.ref 118, Value.ref 120, Value.ref 124, Value.ref 126, Value.ref 128, Value.ref 132] })]
noncomputable def kAddrs : List Addr := [3, 28, 29, 35, 36, 42, 43, 46, 47, 48, 49, 101, 102, 103, 104, 105, 106, 107, 108, 109, 110, 111, 112, 113, 114, 115, 116, 117, 118, 119, 120, 121, 122, 123, 124, 125, 126, 127, 128, 129, 130, 131, 132, 133]
end Mine
end
section
set_option Elab.async false
set_option maxRecDepth 100000
set_option maxHeartbeats 8000000
open PySem PySem.W PySem.Calls PyProof.Rows
namespace Mine
/-- what of the top is read: all but the class and the table -/
noncomputable def keepSt : Stmt → Bool
  | .ClassDef .. => false
  | .Assign [.Name x _] _ _ => !(decide (x = Str.ofString "__name__") || decide (x = Str.ofString "_filemode_table"))
  | _ => true
noncomputable def viewP : Program := { PySem.Challenge.pw_kt0014_01 with main := { PySem.Challenge.pw_kt0014_01.main with body := PySem.Challenge.pw_kt0014_01.main.body.filter keepSt } }
noncomputable def looseP : List Str := [Str.ofString "filterfalse", Str.ofString "_filemode_table"]
noncomputable def hookP : Hook := kHook kObjs kAddrs (fun _ => by kernel_rfl)
theorem leftP : LeftO PySem.Challenge.rw_kt0014_01.row.toRowW.prog viewP looseP (fun s => xlAt viewP [] s && recOk (RowW.records PySem.Challenge.rw_kt0014_01.row.toRowW) s) hookP.obs hookP.val 2246 := by
  intro w
  kernel_rfl
theorem saidP : PySem.Challenge.rw_kt0014_01.wellSaid = true := by kernel_rfl
end Mine
end
section
open PySem PySem.W PySem.Calls PyProof.Rows
set_option Elab.async false
set_option maxRecDepth 100000
namespace Mine
theorem sub_ri_reversed : isSubtype (.type "range_iterator") (.type "reversed") = pure false := by rw [isSubtype_type]; kernel_rfl
section
variable {prog : Program} {w : World} {A : Around} {E : Value → Shared → Prop} {s : Shared}
theorem range_rev {r : Addr} {a b : Int} {t u v : Tok} {n : Nat} {P : PySem.Fin → Shared → Prop} (hr : IsRange s.heap r a b 1 t u v) (hn : Builtin.Range.rangeSize a b 1 = ((n : Nat) : Int))
    (h1 : Builtin.Range.rangeFitsLong a = true) (h2 : Builtin.Range.rangeFitsLong b = true) (h3 : Builtin.Range.rangeFitsLong (a - 1) = true) (h4 : Builtin.Range.rangeFitsLong (n : Int) = true)
    (h : P (.done (.ret (.ref s.heap.objs.size))) { s with heap := s.heap.push { cls := .type "range_iterator", data := .fields #[rawInt (a + ((n : Int) - 1) * 1), rawInt n, rawInt (-1)] } }) :
    wpAny (model prog w) A (Builtin.«range.__reversed__» ⟨[.ref r], []⟩) P E s := by
  obtain ⟨hp, g, d, tk, os⟩ := s
  unfold Builtin.«range.__reversed__»
  wp_walk
  rw [hn]
  have hs : (Builtin.Range.rangeFitsLong a && Builtin.Range.rangeFitsLong b && Builtin.Range.rangeFitsLong 1 && Builtin.Range.rangeFitsLong (-1) && Builtin.Range.rangeFitsLong (a - 1) && Builtin.Range.rangeFitsLong (n : Int)) = true := by
    rw [h1, h2, h3, h4]; rfl
  rw [hs]
  rw [if_neg (by decide), if_pos rfl]
  wp_walk
  exact h
theorem call_range_rev {r : Addr} {a b : Int} {t u v : Tok} {n : Nat} {Q : Value → Shared → Prop} (hr : IsRange s.heap r a b 1 t u v) (hn : Builtin.Range.rangeSize a b 1 = ((n : Nat) : Int))
    (h1 : Builtin.Range.rangeFitsLong a = true) (h2 : Builtin.Range.rangeFitsLong b = true) (h3 : Builtin.Range.rangeFitsLong (a - 1) = true) (h4 : Builtin.Range.rangeFitsLong (n : Int) = true)
    (h : Q (.ref s.heap.objs.size) { s with heap := s.heap.push { cls := .type "range_iterator", data := .fields #[rawInt (a + ((n : Int) - 1) * 1), rawInt n, rawInt (-1)] } }) :
    wpAny (model prog w) A (call (.builtin "range.__reversed__") [.ref r]) Q E s :=
  wpAny_call_entry F.slot_range_reversed ⟨_, hr, rfl⟩ F.entry_range_reversed (range_rev hr hn h1 h2 h3 h4 ⟨_, rfl, h⟩) (F.args_range_reversed_1 _)
theorem code_reversed_range {r : Addr} {a b : Int} {t u v : Tok} {n : Nat} {Q₁ : Value → Shared → Prop} (hr : IsRange s.heap r a b 1 t u v) (hn : Builtin.Range.rangeSize a b 1 = ((n : Nat) : Int))
    (h1 : Builtin.Range.rangeFitsLong a = true) (h2 : Builtin.Range.rangeFitsLong b = true) (h3 : Builtin.Range.rangeFitsLong (a - 1) = true) (h4 : Builtin.Range.rangeFitsLong (n : Int) = true)
    (h : Q₁ (.ref s.heap.objs.size) { s with heap := s.heap.push { cls := .type "range_iterator", data := .fields #[rawInt (a + ((n : Int) - 1) * 1), rawInt n, rawInt (-1)] } }) :
    codeAny (model prog w) A (.call (.builtin "reversed.__new__") ⟨[.type "reversed", .ref r], []⟩) (wants Q₁ E) s := by
  have hT : s.TypeIs (.ref r) "range" := ⟨_, hr, rfl⟩
  refine codeAny_of_tree ?_
  show wpAny _ A.in1 (do checkBuiltinCall "reversed.__new__" ⟨[.type "reversed", .ref r], []⟩; again (.builtin "reversed.__new__" ⟨[.type "reversed", .ref r], []⟩)) _ _ s
  refine wpAny_bind (wpAny_of_eq (F.newCall_reversed_1 _) (wpAny_pure ⟨plainId_quiet F.plain_reversed_new _, codeAny_builtin F.entry_reversed_new ?_⟩))
  rw [Around.under_plainId F.plain_reversed_new _]
  unfold Builtin.«reversed.__new__»
  refine wpAny_bind (wpAny_of_eq (newClass_reversed _) ?_)
  try dsimp only
  refine wpAny_bind (wpAny_of_eq (a := ()) rfl ?_)
  refine wpAny_bind (wpAny_of_eq (a := ()) rfl ?_)
  try dsimp only
  refine wpAny_bind (wpAny_specialOf hT F.slot_range_reversed.lookup ?_)
  try dsimp only
  refine wpAny_bind (wpAny_of_eq (F.slot_range_reversed.bind _) ?_)
  try dsimp only
  first
  | rw [if_neg (show ¬ ((Value.builtin "range.__reversed__" == Value.none) = true) from Bool.false_ne_true)]
  | (show wpAny _ _ (if (Value.builtin "range.__reversed__" == Value.none) = true then _ else _) _ _ _; rw [if_neg (show ¬ ((Value.builtin "range.__reversed__" == Value.none) = true) from Bool.false_ne_true)])
  refine wpAny_bind (wpAny_rule ?_)
  refine wpAny_bind (m := runValue (.call (.builtin "range.__reversed__") ⟨[.ref r], []⟩)) (show wpAny _ _ (call (.builtin "range.__reversed__") [.ref r]) _ _ _ from call_range_rev hr hn h1 h2 h3 h4 ?_)
  first
  | exact wpAny_pure h
  | exact wpAny_bind (wpAny_pure (wpAny_pure h))
theorem call_reversed_range {r : Addr} {a b : Int} {t u v : Tok} {n : Nat} {Q : Value → Shared → Prop} (hr : IsRange s.heap r a b 1 t u v) (hn : Builtin.Range.rangeSize a b 1 = ((n : Nat) : Int))
    (h1 : Builtin.Range.rangeFitsLong a = true) (h2 : Builtin.Range.rangeFitsLong b = true) (h3 : Builtin.Range.rangeFitsLong (a - 1) = true) (h4 : Builtin.Range.rangeFitsLong (n : Int) = true)
    (h : Q (.ref s.heap.objs.size) { s with heap := s.heap.push { cls := .type "range_iterator", data := .fields #[rawInt (a + ((n : Int) - 1) * 1), rawInt n, rawInt (-1)] } }) : wpAny (model prog w) A (call (.type "reversed") [.ref r]) Q E s := by
  refine callType_other (U := "range_iterator") (Q₁ := fun obj s₁ => obj = .ref s.heap.objs.size ∧ s₁ = { s with heap := s.heap.push { cls := .type "range_iterator", data := .fields #[rawInt (a + ((n : Int) - 1) * 1), rawInt n, rawInt (-1)] } }) (by decide +kernel) F.create_reversed ⟨_, _, F.mro_reversed⟩ F.made_reversed sub_ri_reversed (F.typeCall_reversed_1 _) (code_reversed_range hr hn h1 h2 h3 h4 ⟨rfl, rfl⟩) ?_
  rintro obj s₁ ⟨rfl, rfl⟩
  exact ⟨⟨_, Heap.get?_push_size _ rfl, rfl⟩, h⟩
end

section
variable {prog : Program} {w : World} {A : Around} {s : Shared}
variable {base : Heap} {R : Addr → Obj → Prop} {Fs : List Env} {env : Env} {own : List Addr} {Av : Addr → Prop} {z : Shared} {ρ : Str → Option Value} {news : List (Addr × Obj)}
noncomputable abbrev revObj0 (n : Nat) : Obj := { cls := .type "range_iterator", data := .fields #[rawInt ((n : Int) - 1), rawInt n, rawInt (-1)] }
theorem r_rev {r : Addr} {n : Nat} {t u v : Tok} {Q : Value → Shared → Prop} (S : St base R Fs env own Av z ρ news s) (hr : (r, rangeObj 0 n t u v) ∈ news) (hz : n ≤ 100000) (h : ∀ a s', Mu R a → (∀ p ∈ news, p.1 ≠ a) → St base R Fs env own Av z ρ ((a, revObj0 n) :: news) s' → Q (.ref a) s') :
    wpAny (model prog w) A (call (.type "reversed") [.ref r]) Q NoE s := by
  have fits : ∀ k : Int, -(2 ^ 62) ≤ k → k ≤ 2 ^ 62 → Builtin.Range.rangeFitsLong k = true := fun k h1 h2 => by
    unfold Builtin.Range.rangeFitsLong
    rw [Bool.and_eq_true, decide_eq_true_eq, decide_eq_true_eq]
    omega
  refine call_reversed_range (S.get hr) (n := n) ?_ (fits _ (by omega) (by omega)) (fits _ (by omega) (by omega)) (fits _ (by omega) (by omega)) (fits _ (by omega) (by omega)) ?_
  · unfold Builtin.Range.rangeSize
    simp only [show (1 : Int) > 0 from by decide, if_true, Int.ediv_one, Int.sub_zero]
    split <;> omega
  · rw [show (0 : Int) + ((n : Int) - 1) * 1 = (n : Int) - 1 by omega]
    exact h _ _ (S.fresh (Nat.le_refl _)) (fun p hp => Nat.ne_of_lt (Heap.lt_size (S.led p hp).1)) (S.push _ _)
/-- for i in reversed(range(n)), the iterator made -/
theorem for_revrange {target : Expr} {body orelse : List Stmt} {Q : Flow → Shared → Prop} {I : Addr} {n : Nat}
    (J : Nat → (Str → Option Value) → List (Addr × Obj) → Prop) (S : St base R Fs env own Av z ρ ((I, revObj0 n) :: news) s) (hh : A.handled = none) (hn : ∀ p ∈ news, p.1 ≠ I) (hRI : Mu R I) (hJ : J 0 ρ news)
    (turn : ∀ (i : Nat) t ρ₁ news₁ R' Av' s₁, i < n → Turn R R' Av Av' [] → ∀ Q₁, HQ (LoopTo base R' Fs env own Av' z (J (i + 1)) Q) Q₁ → J i ρ₁ news₁ → St base R' Fs env own Av' z ρ₁ news₁ s₁ →
      wpAny (model prog w) A (assign target env (.int ((n - 1 - i : Nat) : Int) t)) (fun _ s₂ => wpAny (model prog w) A (execs body env) Q₁ NoE s₂) NoE s₁)
    (done : ∀ ρ₁ news₁ s₁, J n ρ₁ news₁ → St base R Fs env own Av z ρ₁ news₁ s₁ → wpAny (model prog w) A (execs orelse env) Q NoE s₁) :
    wpAny (model prog w) A (pyIter (.ref I)) (ForAt prog w A target body orelse env Q) NoE s := by
  have W := Walks.range (prog := prog) (w := w) hh I ((n : Int) - 1) (-1) n
  have st0 : IsRangeIter s.heap I ((n : Int) - 1 + ((0 : Nat) : Int) * (-1)) ((n : Int) - ((0 : Nat) : Int)) (-1) := by
    have := S.get (List.mem_cons_self)
    simpa using this
  refine W.self 0 s _ _ st0 ?_
  have S₂ : St base R Fs env own Av z ρ news s := S.sub fun p hp => List.mem_cons_of_mem _ hp
  refine for_core (fp := []) J (n := n) { sub := W.sub, frame := W.frame, done := W.done, self := W.self, item := W.bound.item } (fun i v s' Q' st q => ?_) (fun i h st => ⟨_, st⟩) S₂ st0 (S.led _ List.mem_cons_self).2 hRI
    hn (fun b m => (nomatch m)) hJ (fun i v ρ₁ news₁ R' Av' s₁ hi hv T _ j S₁ => ?_) done
  · have st' : s'.heap.get? _ = some _ := st
    exact go_plain st' rfl (by decide) q
  · obtain ⟨_, t', rfl⟩ := hv
    have e : (n : Int) - 1 + (i : Int) * (-1) = ((n - 1 - i : Nat) : Int) := by omega
    rw [e]
    exact turn i t' ρ₁ news₁ R' Av' s₁ hi T _ (fun _ _ x => x) j S₁
end
end Mine
end
section
open PySem PySem.W PySem.Calls PyProof.Rows
set_option Elab.async false
set_option maxRecDepth 100000
set_option maxHeartbeats 2000000
namespace Mine
theorem lk_contains : typeLookup (.type "list") "__contains__" = pure (some (.builtin "list.__contains__")) := by rw [typeLookup_type, builtinLookup_eq_fast]; kernel_rfl
theorem entry_wrget : entryFor table "wrapper_descriptor.__get__" = some Builtin.«wrapper_descriptor.__get__» := entryFor_of_tree (by kernel_rfl)
theorem plain_wrget : plainId "wrapper_descriptor.__get__" = true := by decide +kernel
theorem check_wrget (a : Addr) : checkBuiltinCall "wrapper_descriptor.__get__" ⟨[.builtin "list.__contains__", .ref a, .type "list"], []⟩ = pure () := by kernel_rfl
theorem kind_contains : builtinKind "list.__contains__" = some .slot := by decide +kernel
section
variable {prog : Program} {w : World} {A : Around} {E : Value → Shared → Prop} {s : Shared}
theorem wrget {a : Addr} {xs : Array Value} {k : Nat} {R : Result → Shared → Prop} (hx : s.heap.get? a = some (listOf xs k))
    (h : R (.ok (.ret (.ref s.heap.objs.size))) { s with heap := s.heap.push { cls := .type "method-wrapper", data := .fields #[.builtin "list.__contains__", .ref a] } }) : codeAny (model prog w) A (.call (.builtin "wrapper_descriptor.__get__") ⟨[.builtin "list.__contains__", .ref a, .type "list"], []⟩) R s := by
  refine codeAny_call_builtin plain_wrget entry_wrget ?_
  obtain ⟨hp, g, d, tk, os⟩ := s
  have hT : (⟨hp, g, d, tk, os⟩ : Shared).TypeIs (.ref a) "list" := ⟨_, hx, rfl⟩
  refine wpAny_of_eq (check_wrget a) ?_
  unfold Builtin.«wrapper_descriptor.__get__»
  repeat (any_goals (first | assumption | (rw [kind_contains]; dsimp only) | wp_step))
  have hcut : ".".intercalate ("list.__contains__".cutAt '.').dropLast = "list" := by decide +kernel
  have hsub : isSubtype (.type "list") (.type "list") = pure true := by rw [isSubtype_type]; kernel_rfl
  rw [hcut]
  repeat (any_goals (first | assumption | (rw [kind_contains]; dsimp only) | wp_step))
theorem meets_attr_contains (a : Addr) (xs : Array Value) (k : Nat) (u : Tok) {Q : PySem.Fin → Shared → Prop}
    (hx : s.heap.get? a = some (listOf xs k)) (h : Q (.done (.ret (.ref s.heap.objs.size))) { s with heap := s.heap.push { cls := .type "method-wrapper", data := .fields #[.builtin "list.__contains__", .ref a] } }) : wpAny (model prog w) A (Builtin.«object.__getattribute__» ⟨[.ref a, .str "__contains__" u], []⟩) Q E s := by
    obtain ⟨hp, g, d, tk, os⟩ := s
    have hT : (⟨hp, g, d, tk, os⟩ : Shared).TypeIs (.ref a) "list" := ⟨_, hx, rfl⟩
    have f3 := lk_contains
    unfold Builtin.«object.__getattribute__»
    have hg : typeLookup (.type "wrapper_descriptor") "__get__" = pure (some (.builtin "wrapper_descriptor.__get__")) := by rw [typeLookup_type, builtinLookup_eq_fast]; kernel_rfl
    have hs : typeLookup (.type "wrapper_descriptor") "__set__" = pure none := by rw [typeLookup_type, builtinLookup_eq_fast]; kernel_rfl
    have hd : typeLookup (.type "wrapper_descriptor") "__delete__" = pure none := by rw [typeLookup_type, builtinLookup_eq_fast]; kernel_rfl
    repeat (any_goals (first | assumption | (rw [kind_contains]; dsimp only) | wp_step))
    refine wrget hx ?_
    dsimp only
    exact wpAny_pure h
theorem attr_contains {a : Addr} {xs : Array Value} {k : Nat} {Q : Value → Shared → Prop} (hx : s.heap.get? a = some (listOf xs k))
    (h : ∀ tk, Q (.ref s.heap.objs.size) { s with heap := s.heap.push { cls := .type "method-wrapper", data := .fields #[.builtin "list.__contains__", .ref a] }, toks := tk }) :
    wpAny (model prog w) A (getAttr (.ref a) "__contains__" true) Q E s := by
  obtain ⟨hp, g, d, tk, os⟩ := s
  have hT : ∀ tk', (⟨hp, g, d, tk', os⟩ : Shared).TypeIs (.ref a) "list" := fun _ => ⟨_, hx, rfl⟩
  have f3 := F.slot_list_getattribute.lookup
  have f4 := F.slot_list_getattribute.bind (.ref a)
  have f5 := am_list_getattr_none
  unfold getAttr getAttrBy
  repeat (any_goals (first | assumption | exact hT _ | ((with_reducible show wpAny _ _ (call (Value.builtin "list.__getattribute__") _ _) _ _ _); refine wpAny_call_entry F.slot_list_getattribute (hT _) am_entry_list_getattribute (meets_attr_contains a xs k _ hx ⟨_, rfl, ?_⟩) (F.args_list_getattribute_2 _ _)) | wp_step))
  exact h _
end
end Mine
end
section
open PySem PySem.W PySem.Calls PyProof.Rows
set_option Elab.async false
set_option maxRecDepth 100000
set_option maxHeartbeats 1000000
namespace Mine
noncomputable abbrev iterObj (l : Addr) (i : Nat) : Obj := { cls := .type "list_iterator", data := .fields #[.ref l, .int i 0] }
section
variable {prog : Program} {w : World} {A : Around} {E : Value → Shared → Prop} {s : Shared}
variable {base : Heap} {R : Addr → Obj → Prop} {Fs : List Env} {env : Env} {own : List Addr} {Av : Addr → Prop} {z : Shared} {ρ : Str → Option Value} {news : List (Addr × Obj)}
theorem sp_item {it l : Addr} {i : Nat} {items : Array Value} {k : Nat} {x : Value} {Q : Option Value → Shared → Prop} (ho : s.heap.get? it = some (iterObj l i)) (hol : s.heap.get? l = some (listOf items k)) (hx : items[i]? = some x)
    (hQ : ∀ h', h'.get? it = some (iterObj l (i + 1)) → Heap.SameBut it s.heap h' → Q (some x) { s with heap := h' }) : wpAny (model prog w) A (callSpecial? (.ref it) "__next__") Q E s := by
  have hT : s.TypeIs (.ref it) "list_iterator" := ⟨_, ho, rfl⟩
  have hd : (iterObj l i).data = .fields #[.ref l, .int i 0] := rfl
  refine wpAny_callSpecial?_slot (name := Str.ofString "__next__") hT slot_listiter_next (wpAny_call_entry slot_listiter_next hT entry_listiter_next ?_ (args_listiter_next _))
  show wpAny _ _ (field (.ref it) 0 >>= _) _ _ s
  refine wpAny_bind (wpAny_field ho hd (x := .ref l) rfl ?_)
  show wpAny _ _ (if (Value.ref l == Value.none) = true then _ else _) _ _ s
  rw [if_neg (show ¬ ((Value.ref l == Value.none) = true) from Bool.false_ne_true)]
  show wpAny _ _ (field (.ref it) 1 >>= _) _ _ s
  refine wpAny_bind (wpAny_field ho hd (x := .int i 0) rfl ?_)
  show wpAny _ _ (seqItems? (.ref l) >>= _) _ _ s
  refine wpAny_bind (wpAny_seqItems hol rfl ?_)
  simp only [Int.toNat_natCast, hx]
  refine wpAny_bind (wpAny_setField ho hd (by simp) (wpAny_pure ⟨x, rfl, hQ _ ?_ (Heap.SameBut.update ..)⟩))
  refine (Heap.get?_update_self _ ho (Obj.isFreed_of_fields (Obj.data_mapFields hd _))).trans ?_
  simp [Obj.mapFields, iterObj, rawInt]
theorem own_stop (args : List Value) : ownMembersOf (.type "StopIteration") args = #[] := by
  unfold ownMembersOf
  split <;> first | rfl | (rename_i h; revert h; decide) | simp_all
theorem sp_stop {it l : Addr} {i : Nat} {items : Array Value} {k : Nat} {Q : Option Value → Shared → Prop} (hh : A.handled = none) (ho : s.heap.get? it = some (iterObj l i)) (hol : s.heap.get? l = some (listOf items k)) (hx : items[i]? = none)
    (hE : ∀ h₁ h' a o', h₁.get? it = some o' → Heap.SameBut it s.heap h₁ → Heap.NewExc h₁ h' a "StopIteration" → E (.ref a) { s with heap := h' }) : wpAny (model prog w) A (callSpecial? (.ref it) "__next__") Q E s := by
  have hT : s.TypeIs (.ref it) "list_iterator" := ⟨_, ho, rfl⟩
  have hd : (iterObj l i).data = .fields #[.ref l, .int i 0] := rfl
  refine wpAny_callSpecial?_slot (name := Str.ofString "__next__") hT slot_listiter_next (wpAny_call_entry slot_listiter_next hT entry_listiter_next ?_ (args_listiter_next _))
  show wpAny _ _ (field (.ref it) 0 >>= _) _ _ s
  refine wpAny_bind (wpAny_field ho hd (x := .ref l) rfl ?_)
  show wpAny _ _ (if (Value.ref l == Value.none) = true then _ else _) _ _ s
  rw [if_neg (show ¬ ((Value.ref l == Value.none) = true) from Bool.false_ne_true)]
  show wpAny _ _ (field (.ref it) 1 >>= _) _ _ s
  refine wpAny_bind (wpAny_field ho hd (x := .int i 0) rfl ?_)
  show wpAny _ _ (seqItems? (.ref l) >>= _) _ _ s
  refine wpAny_bind (wpAny_seqItems hol rfl ?_)
  simp only [Int.toNat_natCast, hx]
  refine wpAny_bind (wpAny_rule (wpAny_bind (wpAny_setField ho hd (by simp) ?_)))
  show wpAny _ _ (newExc (.type "StopIteration") [] >>= _) _ _ _
  refine wpAny_bind ?_
  simp only [newExc, newTuple]
  refine wpAny_bind (wpAny_newObj_type ?_ (by size_fits))
  refine wpAny_bind (m := firstArgMember _ _) (wpAny_of_eq (a := Value.none) (by first | rfl | (simp only [firstArgMember]; rfl)) ?_)
  rw [own_stop]
  refine wpAny_newObj_type ?_ (by size_fits)
  simp only [raiseNew]
  refine wpAny_bind (wpAny_handled ?_)
  rw [show A.in1.handled = none from hh]
  refine wpAny_bind (wpAny_pure (wpAny_throw ?_))
  exact hE _ _ _ _ (Heap.get?_update_self _ ho (Obj.isFreed_of_fields (Obj.data_mapFields hd _))) (Heap.SameBut.update ..)
    ⟨fun b o hb => Heap.get?_push_of_some _ (Heap.get?_push_of_some _ hb), Heap.get?_none_of_le (by simp), _, .ref s.heap.objs.size, Heap.get?_push_size _ rfl, rfl, by simp⟩
theorem nx_call {it : Addr} {o : Obj} {Q : Value → Shared → Prop} (ho : s.heap.get? it = some o) (hc : o.cls = .type "list_iterator")
    (h : wpAny (model prog w) A.in1 (callSpecial? (.ref it) "__next__") (fun r s' => ∃ v, r = some v ∧ Q v s') E s) : wpAny (model prog w) A (call (.builtin "next") [.ref it]) Q E s := by
  have hT : s.TypeIs (.ref it) "list_iterator" := ⟨_, ho, hc⟩
  refine call_function_entry (by decide +kernel) (by decide +kernel) kdk_entry_next (kdk_args_next _) ?_
  unfold Builtin.«next»
  refine wpAny_bind (m := someArgs "next" 1 2 _) (wpAny_of_eq (a := [Value.ref it]) (by first | rfl | kernel_rfl) ?_)
  dsimp only
  refine wpAny_bind (wpAny_specialOf (name := Str.ofString "__next__") hT slot_listiter_next.lookup ?_)
  refine wpAny_ite_split (fun hab => absurd hab (by decide)) (fun _ => ?_)
  refine wpAny_bind (wpAny_mono h (fun r s' hr => ?_) fun _ _ e => e)
  obtain ⟨v, rfl, hq⟩ := hr
  exact wpAny_pure ⟨_, rfl, hq⟩
theorem nx_item {I l : Addr} {i : Nat} {items : Array Value} {k : Nat} {x : Value} {Q : Value → Shared → Prop} (S : St base R Fs env own Av z ρ news s) (hI : (I, iterObj l i) ∈ news) (muI : Mu R I) (hl : (l, listOf items k) ∈ news) (hx : items[i]? = some x)
    (h : ∀ s', St base R Fs env own Av z ρ (setN I (iterObj l (i + 1)) news) s' → Q x s') : wpAny (model prog w) A (call (.builtin "next") [.ref I]) Q E s :=
  nx_call (S.get hI) rfl (sp_item (S.get hI) (S.get hl) hx fun h' e hs => ⟨x, rfl, h _ (S.change (t := s.toks) hI muI e hs)⟩)
theorem nx_stop {I l : Addr} {i : Nat} {items : Array Value} {k : Nat} {Q : Value → Shared → Prop} (S : St base R Fs env own Av z ρ news s) (hh : A.handled = none) (hI : (I, iterObj l i) ∈ news) (muI : Mu R I) (hl : (l, listOf items k) ∈ news) (hx : items[i]? = none)
    (h : ∀ a s' h₁ o', St base R Fs env own Av z ρ (setN I o' news) { s' with heap := h₁ } → Heap.NewExc h₁ s'.heap a "StopIteration" → E (.ref a) s') : wpAny (model prog w) A (call (.builtin "next") [.ref I]) Q E s :=
  nx_call (S.get hI) rfl (sp_stop (A := A.in1) hh (S.get hI) (S.get hl) hx fun h₁ h' a o' e hs hx => h a _ h₁ o' (S.change (t := s.toks) hI muI e hs) hx)
end
end Mine
end
section
open PySem PySem.W PySem.Calls PyProof.Rows
set_option Elab.async false
set_option maxRecDepth 100000
set_option maxHeartbeats 1000000
namespace Mine
/-- all that stands but S -/
noncomputable def allBut (h : Heap) (S : List Addr) : List (Addr × Obj) := (List.range h.objs.size).filterMap fun b => if b ∈ S then none else (h.get? b).map fun o => (b, o)
theorem allBut_mem {h : Heap} {S : List Addr} {b : Addr} {o : Obj} (e : h.get? b = some o) (n : b ∉ S) : (b, o) ∈ allBut h S :=
  List.mem_filterMap.mpr ⟨b, List.mem_range.mpr (Heap.lt_size e), by rw [if_neg n, e]; rfl⟩
theorem allBut_of {h : Heap} {S : List Addr} {p : Addr × Obj} (m : p ∈ allBut h S) : h.get? p.1 = some p.2 ∧ p.1 ∉ S := by
  obtain ⟨b, _, e⟩ := List.mem_filterMap.mp m
  by_cases hb : b ∈ S
  · rw [if_pos hb] at e; cases e
  · rw [if_neg hb] at e
    cases q : h.get? b with
    | none => rw [q] at e; cases e
    | some o => rw [q] at e; cases e; exact ⟨q, hb⟩
noncomputable abbrev noHeap : Heap := { objs := #[] }
theorem noHeap_get {b : Addr} : noHeap.get? b = none := Heap.get?_none_of_le (Nat.zero_le _)

section
variable {prog : Program} {w : World} {A : Around} {E : Value → Shared → Prop} {s : Shared}
variable {base : Heap} {R : Addr → Obj → Prop} {Fs : List Env} {env : Env} {own : List Addr} {Av : Addr → Prop} {z : Shared} {ρ : Str → Option Value} {news : List (Addr × Obj)}
theorem St.In {K : Frag} (S : St base R Fs env own Av z ρ news s) (X : K.In base) : K.In s.heap := X.keeps fun _ _ e => S.bget e

/-- one object changed, the names of the frame kept -/
theorem St.slot {x : Addr} {ox ox' : Obj} {h' : Heap} {t : Nat} (S : St base R Fs env own Av z ρ news s) (m : (x, ox) ∈ news) (hR : Mu R x) (e : h'.get? x = some ox')
    (k : ∀ b o, b ≠ x → b ≠ env.locals → s.heap.get? b = some o → h'.get? b = some o) (hn : ∀ m, s.heap.Ns env.locals m → h'.Ns env.locals m)
    (hloc : env.locals ∈ frs Fs) (hRl : Mu R env.locals) : St base R Fs env own Av z ρ (setN x ox' news) { s with heap := h', toks := t } := by
  have hx := (S.led _ m).2
  have hcl : ∀ y c, env.cells.lookup y = some c → c ≠ env.locals ∨ isCel (env.kindOf y) = false := fun y c hc => by
    by_cases hk : isCel (env.kindOf y) = true
    · obtain ⟨c', hc', v⟩ := S.ev.cel y hk
      rw [hc] at hc'; cases hc'
      obtain ⟨m, hm, _⟩ := S.ev.ns
      exact .inl (cell_apart hm v)
    · exact .inr (by simpa using hk)
  have alive : ∀ b o, b ≠ x → s.heap.get? b = some o → ∃ o', h'.get? b = some o' := fun b o n q => by
    by_cases hl : b = env.locals
    · obtain ⟨m, hm, _⟩ := S.ev.ns
      obtain ⟨o', _, _, ho', _⟩ := hn m hm
      exact ⟨o', hl ▸ ho'⟩
    · exact ⟨o, k b o n hl q⟩
  refine ⟨⟨S.ev.kind, ?_, fun y hy => ?_, S.ev.apart⟩, fun p hp => ?_, fun b o r => ?_, S.baseR, fun a n => ?_, S.av, S.loc, S.cav, S.sr.with_ _ _, frs_to S.ff fun b hb o q hd => ?_, S.fav, S.low⟩
  · obtain ⟨m, hm, q⟩ := S.ev.ns
    exact ⟨m, hn m hm, q⟩
  · obtain ⟨c, hc, v⟩ := S.ev.cel y hy
    refine ⟨c, hc, ?_⟩
    obtain ⟨o, ho, hd⟩ := v
    refine ⟨o, k c o (fun q => hx (q ▸ S.cav _ _ hc)) ?_ ho, hd⟩
    rcases hcl y c hc with q | q
    · exact q
    · rw [hy] at q; cases q
  · rcases mem_setN hp with rfl | ⟨hp, hne⟩
    · exact ⟨e, hx⟩
    · refine ⟨k _ _ hne (fun q => (S.led p hp).2 (q ▸ S.av _ S.loc)) (S.led p hp).1, (S.led p hp).2⟩
  · refine ⟨(S.keep b o r).1.to' fun o' q => k b o' (fun q => hR _ (q ▸ r)) (fun q => hRl _ (q ▸ r)) q, (S.keep b o r).2⟩
  · obtain ⟨o, q⟩ := S.live a n
    exact alive a o (fun q => hx (q ▸ n)) q
  · by_cases hl : b = env.locals
    · obtain ⟨m, hm, _⟩ := S.ev.ns
      obtain ⟨o', _, _, ho', hd', _⟩ := hn m hm
      exact ⟨o', hl ▸ ho', fun vs q => by rw [hd'] at q; cases q⟩
    · exact ⟨o, k b o (fun q => hx (q ▸ S.fav _ hb)) hl q, hd⟩

/-- reading o.x -/
theorem e_attr {o : Expr} {name : Str} {pos : Pos} {Q : Value → Shared → Prop} (h : wpAny (model prog w) A (eval o env) (fun ov s₁ => wpAny (model prog w) A (getAttr ov name true) Q E s₁) E s)
    (hb : attributeBase o name env (eval o env) = eval o env := by rfl) : wpAny (model prog w) A (eval (.Attribute o name pos) env) Q E s := by
  rw [arm_eval_Attribute, hb]
  refine wpAny_bind (wpAny_mono h (fun ov s₁ h₁ => wpAny_bind (wpAny_standAt (wpAny_bind (wpAny_holding (wpAny_mono h₁ (fun r s₂ h₂ => ?_) fun _ _ e => e))))) fun _ _ e => e)
  exact wpAny_bind (wpAny_letTemporaryGo (wpAny_pure h₂))
theorem St.alter {news' : List (Addr × Obj)} {h' : Heap} {t : Nat} (S : St base R Fs env own Av z ρ news s)
    (k : ∀ b o, b ≠ env.locals → s.heap.get? b = some o → h'.get? b = some o) (hn : ∀ m, s.heap.Ns env.locals m → h'.Ns env.locals m)
    (N : ∀ p ∈ news', h'.get? p.1 = some p.2 ∧ ¬ Av p.1) (hRl : Mu R env.locals) : St base R Fs env own Av z ρ news' { s with heap := h', toks := t } := by
  have hcl : ∀ y c, isCel (env.kindOf y) = true → env.cells.lookup y = some c → c ≠ env.locals := fun y c hk hc => by
    obtain ⟨c', hc', v⟩ := S.ev.cel y hk
    rw [hc] at hc'; cases hc'
    obtain ⟨m, hm, _⟩ := S.ev.ns
    exact cell_apart hm v
  have alive : ∀ b o, s.heap.get? b = some o → ∃ o', h'.get? b = some o' := fun b o q => by
    by_cases hl : b = env.locals
    · obtain ⟨m, hm, _⟩ := S.ev.ns
      obtain ⟨o', _, _, ho', _⟩ := hn m hm
      exact ⟨o', hl ▸ ho'⟩
    · exact ⟨o, k b o hl q⟩
  refine ⟨⟨S.ev.kind, ?_, fun y hy => ?_, S.ev.apart⟩, N, fun b o r => ?_, S.baseR, fun a n => ?_, S.av, S.loc, S.cav, S.sr.with_ _ _, frs_to S.ff fun b hb o q hd => ?_, S.fav, S.low⟩
  · obtain ⟨m, hm, q⟩ := S.ev.ns
    exact ⟨m, hn m hm, q⟩
  · obtain ⟨c, hc, o, ho, hd⟩ := S.ev.cel y hy
    exact ⟨c, hc, o, k c o (hcl y c hy hc) ho, hd⟩
  · exact ⟨(S.keep b o r).1.to' fun o' q => k b o' (fun q => hRl _ (q ▸ r)) q, (S.keep b o r).2⟩
  · obtain ⟨o, q⟩ := S.live a n
    exact alive a o q
  · by_cases hl : b = env.locals
    · obtain ⟨m, hm, _⟩ := S.ev.ns
      obtain ⟨o', _, _, ho', hd', _⟩ := hn m hm
      exact ⟨o', hl ▸ ho', fun vs q => by rw [hd'] at q; cases q⟩
    · exact ⟨o, k b o hl q, hd⟩

theorem St.muL (S : St base R Fs env own Av z ρ news s) : Mu R env.locals := fun o r => (S.keep _ o r).2 S.loc
/-- what the library's rules want: the frame's names, and all else as made things -/
theorem St.k0 (S : St base R Fs env own Av z ρ news s) : ∃ m, s.heap.Ns env.locals m ∧ Fr noHeap env.locals s.heap m ∧ News noHeap env.locals s.heap (allBut s.heap [env.locals]) := by
  obtain ⟨m, hm, _⟩ := S.ev.ns
  refine ⟨m, hm, ⟨hm, fun b o e => (by rw [noHeap_get] at e; cases e), Nat.zero_le _⟩, fun p hp => ?_⟩
  obtain ⟨a, b⟩ := allBut_of hp
  exact ⟨a, fun q => b (by simp [q]), noHeap_get⟩
/-- back from such a rule -/
theorem St.viaK {h' : Heap} {t : Nat} {add : List (Addr × Obj)} {m : Str → Option Value} (S : St base R Fs env own Av z ρ news s) (hm : s.heap.Ns env.locals m) (F' : Fr noHeap env.locals h' m) (N' : News noHeap env.locals h' (add ++ allBut s.heap [env.locals]))
    (fr : ∀ p ∈ add, ∀ q ∈ allBut s.heap [env.locals], q.1 < p.1) : St base R Fs env own Av z ρ (add ++ news) { s with heap := h', toks := t } ∧ ∀ p ∈ add, Mu R p.1 ∧ ∀ q ∈ news, q.1 ≠ p.1 := by
  have nwL : ∀ p ∈ news, p.1 ≠ env.locals := fun p hp q => (S.led p hp).2 (q ▸ S.av _ S.loc)
  have new : ∀ p ∈ add, ∀ o, s.heap.get? p.1 ≠ some o := fun p hp o e => by
    have hL := (N' p (List.mem_append_left _ hp)).2.1
    exact Nat.lt_irrefl _ (fr p hp (p.1, o) (allBut_mem e (by simp [hL])))
  refine ⟨S.alter (t := t) (fun b o n e => (N' _ (List.mem_append_right _ (allBut_mem e (by simp [n])))).1) (fun m' hm' => ?_) (fun p hp => ?_) S.muL, fun p hp => ⟨fun o r => ?_, fun q hq e => ?_⟩⟩
  · have : m' = m := hm'.eq_nsMap.trans hm.eq_nsMap.symm
    rw [this]; exact F'.ns
  · rcases List.mem_append.mp hp with hp | hp
    · refine ⟨(N' p (List.mem_append_left _ hp)).1, fun a => ?_⟩
      obtain ⟨o, e⟩ := S.live _ a
      exact new p hp o e
    · exact ⟨(N' _ (List.mem_append_right _ (allBut_mem (S.led p hp).1 (by simp [nwL p hp])))).1, (S.led p hp).2⟩
  · obtain ⟨sl, e, _⟩ := (S.keep _ o r).1
    exact new p hp _ e
  · exact new p hp _ (e ▸ (S.led q hq).1)

/-- the base, cut off at the frame: what the library's rules want -/
noncomputable def cut (base : Heap) (L : Addr) : Heap := ⟨(base.objs.toList.take L).toArray, base.life⟩
theorem cut_get {L b : Addr} {o : Obj} : (cut base L).get? b = some o ↔ base.get? b = some o ∧ @LT.lt Nat _ b L := by
  unfold cut Heap.get?
  have e : (base.objs.toList.take L).toArray[b]? = if @LT.lt Nat _ b L then base.objs[b]? else none := by
    rw [List.getElem?_toArray, List.getElem?_take]
    split
    · rw [Array.getElem?_toList]
    · rfl
  dsimp only
  rw [e]
  by_cases h : @LT.lt Nat _ b L
  · rw [if_pos h]; exact ⟨fun x => ⟨x, h⟩, fun x => x.1⟩
  · rw [if_neg h]; exact ⟨fun x => (nomatch x), fun x => absurd x.2 h⟩
theorem St.fr (S : St base R Fs env own Av z ρ news s) : ∃ m, Fr (cut base env.locals) env.locals s.heap m := by
  obtain ⟨m, hm, _⟩ := S.ev.ns
  exact ⟨m, hm, fun b o e => S.bget (cut_get.mp e).1, by show ((base.objs.toList.take env.locals).toArray).size ≤ env.locals; rw [List.size_toArray, List.length_take]; exact Nat.min_le_left _ _⟩
theorem St.inCut {K : Frag} (S : St base R Fs env own Av z ρ news s) (X : K.In base) : K.In (cut base env.locals) := fun a o e => cut_get.mpr ⟨X a o e, S.low _ _ (X a o e)⟩
end
end Mine
end
section
open PySem PySem.W PySem.Calls PyProof.Rows
set_option Elab.async false
set_option maxRecDepth 100000
set_option maxHeartbeats 1000000
namespace Mine
noncomputable abbrev mwObj (l : Addr) : Obj := { cls := .type "method-wrapper", data := .fields #[.builtin "list.__contains__", .ref l] }
theorem check_contains (a x : Value) : checkBoundCall "list.__contains__" ⟨[a, x], []⟩ = pure () := by kernel_rfl
/-- x is one of ds -/
noncomputable def dIn (x : Dat) (ds : List Dat) : Bool := ds.any fun y => deq y x
section
variable {prog : Program} {w : World} {A : Around} {E : Value → Shared → Prop} {s : Shared} {news : List (Addr × Obj)}
theorem keeper_mw {M : Model} {b l : Addr} {h : Heap} (X : h.get? b = some (mwObj l)) : ∃ k, (k = Keeper.frame ∨ k = Keeper.machine ∨ k = Keeper.boundFrame) ∧ Looks M h (keeperOf (.ref b)) k :=
  ⟨.machine, .inr (.inl rfl), (Looks.ld (part := none) X).andThen .now⟩
theorem call_mw {b l : Addr} {items : List Value} {k : Nat} {x : Value} {ds : List Dat} {d : Dat} {Q : Value → Shared → Prop} (N : Led s.heap news) (hb : s.heap.get? b = some (mwObj l)) (hl : (l, listOf items.toArray k) ∈ news) (D : DatAll news items ds) (Dx : DatIn news x d)
    (hk : ∀ e ∈ ds, kqdOk 4 e = true) (hkx : kqdOk 4 d = true) (hu : A.units + 20 < cLine) (h : Q (.bool (dIn d ds)) s) : wpAny (model prog w) A (call (.ref b) [x]) Q E s := by
  refine wpAny_call (codeAny_of_tree ?_)
  show wpAny _ A.in1 (callAny (.ref b) ⟨[x], []⟩) _ _ s
  simp only [callAny]
  refine wpAny_bind (wpAny_load hb ?_)
  simp only [show (Value.type "method-wrapper" == Value.type "method" || Value.type "method-wrapper" == Value.type "builtin_function_or_method" || Value.type "method-wrapper" == Value.type "method-wrapper") = true by decide, if_true]
  show wpAny _ _ (if (Value.type "method-wrapper" != Value.type "method") = true then _ else _) _ _ _
  rw [if_pos (by decide)]
  refine wpAny_bind (wpAny_of_eq (a := ()) (check_contains _ _) ?_)
  refine wpAny_bind (wpAny_pure (wpAny_pure ?_))
  refine ⟨Code.quiet_builtin _ (by decide +kernel), codeAny_builtin F.entry_list_contains ?_⟩
  obtain ⟨as, rl⟩ := kqd_all N.news 4 D hk
  obtain ⟨bs, rx⟩ := reads_of N 4 Dx hkx
  have lx := kqd_lay 4 d hkx
  have ll := kqd_lay 5 (.list ds) (by simpa [kqdOk] using hk)
  rw [kqdP] at ll
  simp only [PyData.canLay0, PyData.depth] at ll
  have eq := SeqAt.items_eqAt (A := A) (vs := items.toArray) (by simpa using rl) rx ll.1 lx.1 (by
    have a1 := lx.2
    show A.units + 1 + min _ _ < cLine
    omega)
  have e2 := SeqAt.any_by_data (d := kqdP d) (vs := items.toArray) (s := s) (by simpa using rl) ll.1
  have e3 : (kqdPs ds).any (fun y => PyData.eqv y (kqdP d)) = dIn d ds := by
    clear D hk rl ll eq e2 h hl
    unfold dIn
    induction ds with
    | nil => rfl
    | cons a r ih => rw [kqdPs, List.any_cons, List.any_cons, ih]; rfl
  refine SeqAt.list_containsAt l items.toArray k none #[] x (fun y => PyData.eqv (SeqAt.readOf s.heap y) (kqdP d)) _ _ _ _ _ ⟨N _ hl, eq, ?_⟩
  rw [e2, e3]; exact h
end
end Mine
end
section
open PySem PySem.W PySem.Calls PyProof.Rows
set_option Elab.async false
set_option maxRecDepth 100000
set_option maxHeartbeats 1000000
namespace Mine
structure Ff (K : Frag) (C pI pF fI fT fN : Addr) : Prop where
  makes : makesIn K C = true
  keep : keepIn K (.ref C) = true
  init : findIn K (.ref C) "__init__" = some (some (.ref fI))
  tI : typeIn K (.ref fI) = some (.type "function")
  iter : findIn K (.ref C) "__iter__" = some (some (.ref fT))
  isT : isFn K (.ref fT) = true
  next : findIn K (.ref C) "__next__" = some (some (.ref fN))
  isN : isFn K (.ref fN) = true
  len : findIn K (.ref C) "__len__" = some none
  hint : findIn K (.ref C) "__length_hint__" = some none
  gI : plainGet K C "_it" = true
  gF : plainGet K C "_func" = true
  cls : isClsIn K C = true
  aI : findIn K (.ref C) "_it" = some (some (.ref pI))
  aF : findIn K (.ref C) "_func" = some (some (.ref pF))
  nI : specialIn K (.ref pI) "__get__" = some (some (.builtin "member_descriptor.__get__"))
  nF : specialIn K (.ref pF) "__get__" = some (some (.builtin "member_descriptor.__get__"))
  tkI : takesIn K (.ref pI) = some true
  tkF : takesIn K (.ref pF) = some true
  sI : slotIn K pI C = some 1
  sF : slotIn K pF C = some 0
  set : findIn K (.ref C) "__setattr__" = some (some (.builtin "object.__setattr__"))
  over : plainOver K C = true
  kI : takerIn K C "_it" = some (some (.ref pI))
  kF : takerIn K C "_func" = some (some (.ref pF))
  mI : typeIn K (.ref pI) = some (.type "member_descriptor")
  mF : typeIn K (.ref pF) = some (.type "member_descriptor")

noncomputable abbrev ffObj (C dx : Addr) (sl : Array (Option Value)) : Obj := { cls := .ref C, dict := some dx, data := .plain, slots := sl }

section
variable {prog : Program} {w : World} {A : Around} {E : Value → Shared → Prop} {s : Shared} {K : Frag} {C pI pF fI fT fN : Addr}
variable {base : Heap} {R : Addr → Obj → Prop} {Fs : List Env} {env : Env} {own : List Addr} {Av : Addr → Prop} {z : Shared} {ρ : Str → Option Value} {news : List (Addr × Obj)}
theorem inst_of {x dx : Addr} {sl : Array (Option Value)} {od : Obj} (N : Led s.heap news) (hx : (x, ffObj C dx sl) ∈ news) (hd : (dx, od) ∈ news) : InstAt s.heap x (ffObj C dx sl) C (some od) := ⟨N _ hx, rfl, rfl, N _ hd⟩

theorem ff_get {x dx p : Addr} {sl : Array (Option Value)} {od : Obj} {name : Str} {i : Nat} {v : Value} {Q : Value → Shared → Prop} (S : St base R Fs env own Av z ρ news s) (X : K.In base) (hx : (x, ffObj C dx sl) ∈ news) (hd : (dx, od) ∈ news)
    (hg : plainGet K C name = true) (hc : isClsIn K C = true) (ha : findIn K (.ref C) name = some (some (.ref p))) (hn : specialIn K (.ref p) "__get__" = some (some (.builtin "member_descriptor.__get__"))) (ht : takesIn K (.ref p) = some true) (hp : slotIn K p C = some i)
    (hv : (sl[i]?).join = some v) (hh : handedIn v = true) (h : ∀ s', St base R Fs env own Av z ρ news s' → Q v s') : wpAny (model prog w) A (getAttr (.ref x) name true) Q E s :=
  get_bind (S.In X) (inst_of S.held hx hd) (plainGet_of hg).1 (findObj_data hc ha hn ht) (plainGet_of hg).2
    (wpAny_call (slot_get (s := { s with toks := s.toks + 1 }) (S.In X) (inst_of S.held hx hd) hp hv (handed_on hh (h _ (S.tok _)))))

theorem ff_set {x dx p : Addr} {sl : Array (Option Value)} {od : Obj} {name : Str} {i : Nat} {v : Value} {Q : Unit → Shared → Prop} (S : St base R Fs env own Av z ρ news s) (X : K.In base) (hx : (x, ffObj C dx sl) ∈ news) (hd : (dx, od) ∈ news) (muX : Mu R x) (muL : Mu R env.locals) (hloc : env.locals ∈ frs Fs)
    (hs : findIn K (.ref C) "__setattr__" = some (some (.builtin "object.__setattr__"))) (hp : plainOver K C = true) (ht : takerIn K C name = some (some (.ref p))) (hT : typeIn K (.ref p) = some (.type "member_descriptor")) (hi : slotIn K p C = some i) (hz : i < 1000)
    (h : ∀ s', St base R Fs env own Av z ρ (setN x (ffObj C dx ((sl ++ Array.replicate (i + 1 - sl.size) none).setIfInBounds i (some v))) news) s' → Q () s') : wpAny (model prog w) A (setAttr (.ref x) name v) Q E s := by
  obtain ⟨m, hm, _⟩ := S.ev.ns
  have hxL : x ≠ env.locals := fun q => (S.led _ hx).2 (q ▸ S.av _ S.loc)
  have F : Fr noHeap env.locals s.heap m := ⟨hm, fun b o e => (by rw [noHeap_get] at e; cases e), Nat.zero_le _⟩
  have N : News noHeap env.locals s.heap ([] ++ (x, ffObj C dx sl) :: allBut s.heap [x, env.locals]) := fun p hp => by
    rcases List.mem_cons.mp hp with rfl | hp
    · exact ⟨(S.led _ hx).1, hxL, noHeap_get⟩
    · obtain ⟨a, b⟩ := allBut_of hp
      exact ⟨a, fun q => b (by simp [q]), noHeap_get⟩
  refine set_plain (S.In X) (inst_of S.held hx hd) hs (osa_descr (s := { s with toks := s.toks + 1 }) KF.slot_mset (S.In X) (inst_of S.held hx hd) hp ht hT
    (slot_set (s := { s with toks := s.toks + 1 }) F N (S.In X) (inst_of S.held hx hd) hi hz (fun p hp => nomatch hp) (fun p hp q => (allBut_of hp).2 (by simp [q])) rfl rfl fun h' F' N' => ?_))
  refine h _ (S.slot (t := s.toks + 1) hx muX (N' _ (.head _)).1 (fun b o n1 n2 e => (N' _ (.tail _ (allBut_mem e (by simp [n1, n2])))).1) (fun m' hm' => ?_) hloc muL)
  have : m' = m := hm'.eq_nsMap.trans hm.eq_nsMap.symm
  rw [this]; exact F'.ns
theorem k_val {x : Str} {np pos : Pos} {args : List Expr} {Q : Value → Shared → Prop} {f : Value} {P : Heap → Prop} (S : St base R Fs env own Av z ρ news s) (hv : ρ x = some f) (hne : args ≠ [])
    (hk : ∀ h, P h → ∃ k, (k = Keeper.frame ∨ k = Keeper.machine ∨ k = Keeper.boundFrame) ∧ Looks (model prog w) h (keeperOf f) k)
    (h : wpAny (model prog w) A (spliced (backTo pos (starEach args env))) (fun vs s₁ => P s₁.heap ∧ wpAny (model prog w) A (call f vs) Q E s₁) E s)
    (he : backTo pos (starEach args env) = (args.map fun e => (false, eval e env)) := by rfl)
    (hkk : isVar (env.kindOf x) = true := by rfl) (hd : (x == ("__debug__" : Str)) = false := by decide) (hn : (x == ("__classdict__" : Str)) = false := by decide) :
    wpAny (model prog w) A (eval (.Call (.Name x np) args [] pos) env) Q E s := by
  refine wpAny_Call_Name_kw (ldv S hv ?_ hkk hd hn)
  rw [he] at h ⊢
  cases args with
  | nil => exact absurd rfl hne
  | cons e r =>
    have hp : ((e :: r).map fun e => (false, eval e env)).any (·.1) = false := by rw [List.any_map]; simp
    refine callWith_of (P := P) ?_ hk (evalArgs_plain h)
    show (((e :: r).map fun e => (false, eval e env)).any (·.1) || false) = false
    rw [hp]; rfl
theorem it_iter {l : Addr} {its : Array Value} {n : Nat} {Q : Value → Shared → Prop} (S : St base R Fs env own Av z ρ news s) (hl : (l, listOf its n) ∈ news)
    (h : ∀ I s', Mu R I → (∀ p ∈ news, p.1 ≠ I) → St base R Fs env own Av z ρ ((I, iterObj l 0) :: news) s' → Q (.ref I) s') : wpAny (model prog w) A (call (.builtin "iter") [.ref l]) Q E s := by
  refine call_function_entry (by decide +kernel) (by decide +kernel) kdk_entry_iter (kdk_args_iter _) ?_
  unfold Builtin.«iter»
  refine wpAny_bind (m := someArgs "iter" 1 2 _) (wpAny_of_eq (a := [Value.ref l]) (by first | rfl | kernel_rfl) ?_)
  show wpAny _ _ (pyIter (.ref l) >>= _) _ _ _
  refine wpAny_bind (wpAny_pyIter_list ⟨_, S.get hl, rfl, n, rfl⟩ ?_)
  exact wpAny_pure ⟨_, rfl, h _ _ (S.fresh (Nat.le_refl _)) (fun p hp => Nat.ne_of_lt (Heap.lt_size (S.led p hp).1)) (S.push _ s.toks)⟩
end
end Mine
end
section
open PySem PySem.W PySem.Calls PyProof.Rows
set_option Elab.async false
set_option maxRecDepth 100000
namespace Mine
theorem intsAre_of {news : List (Addr × Obj)} : ∀ {vs : List Value} {ns : List Int}, DatAll news vs (ns.map .int) → IntsAre vs ns
  | _, [], .nil => .nil
  | _, n :: ns, .cons (.int _ t) r => .cons n t (intsAre_of r)
theorem of_intsAre {news : List (Addr × Obj)} : ∀ {vs : List Value} {ns : List Int}, IntsAre vs ns → DatAll news vs (ns.map .int)
  | _, _, .nil => .nil
  | _, _, .cons n t r => .cons (.int n t) (of_intsAre r)
section
variable {prog : Program} {w : World} {A : Around} {E : Value → Shared → Prop} {s : Shared}
variable {base : Heap} {R : Addr → Obj → Prop} {Fs : List Env} {env : Env} {own : List Addr} {Av : Addr → Prop} {z : Shared} {ρ : Str → Option Value} {news : List (Addr × Obj)}

/-- a data value -/
theorem d_in {c x : Value} {ds : List Dat} {d : Dat} {Q : Value → Shared → Prop} (S : St base R Fs env own Av z ρ news s) (rc : DatIn news c (.list ds)) (rx : DatIn news x d) (hk : ∀ e ∈ ds, kqdOk 4 e = true) (hkx : kqdOk 4 d = true) (hu : A.units + 20 < cLine) (h : Q (.bool (ds.any fun y => deq y d)) s) : wpAny (model prog w) A (compareOp .In x c) Q E s := by
  obtain ⟨as, r1⟩ := reads_of S.held 5 rc (by simpa [kqdOk] using hk)
  obtain ⟨bs, r2⟩ := reads_of S.held 4 rx hkx
  have l1 := kqd_lay 5 (.list ds) (by simpa [kqdOk] using hk)
  have l2 := kqd_lay 4 d hkx
  rw [kqdP] at l1 r1
  simp only [PyData.canLay0, PyData.depth] at l1
  refine SeqAt.in_list_reads r1 r2 l1.1 l2.1 (by have a1 := l2.2; omega) ?_
  have e3 : (kqdPs ds).any (fun y => PyData.eqv y (kqdP d)) = ds.any (fun y => deq y d) := by
    clear rc hk r1 l1 h
    induction ds with
    | nil => rfl
    | cons a r ih => rw [kqdPs, List.any_cons, List.any_cons, ih]; rfl
  rw [e3]; exact h
theorem d_eq {v₁ v₂ : Value} {d₁ d₂ : Dat} {Q : Value → Shared → Prop} (S : St base R Fs env own Av z ρ news s) (r₁ : DatIn news v₁ d₁) (r₂ : DatIn news v₂ d₂) (k₁ : kqdOk 6 d₁ = true) (k₂ : kqdOk 6 d₂ = true) (hu : A.units + 20 < cLine) (h : Q (.bool (deq d₁ d₂)) s) : wpAny (model prog w) A (compareOp .Eq v₁ v₂) Q E s :=
  eqD 6 S.held r₁ r₂ k₁ k₂ (by omega) h
theorem d_ne {v₁ v₂ : Value} {d₁ d₂ : Dat} {Q : Value → Shared → Prop} (S : St base R Fs env own Av z ρ news s) (r₁ : DatIn news v₁ d₁) (r₂ : DatIn news v₂ d₂) (k₁ : kqdOk 6 d₁ = true) (k₂ : kqdOk 6 d₂ = true) (hu : A.units + 20 < cLine) (h : Q (.bool (!deq d₁ d₂)) s) : wpAny (model prog w) A (compareOp .NotEq v₁ v₂) Q E s := by
  obtain ⟨as, ra⟩ := reads_of S.held 6 r₁ k₁
  obtain ⟨bs, rb⟩ := reads_of S.held 6 r₂ k₂
  have l1 := kqd_lay 6 d₁ k₁
  have l2 := kqd_lay 6 d₂ k₂
  exact SeqAt.compareNe_reads ra rb l1.1 l2.1 (by have a1 := l1.2; have a2 := l2.2; omega) h
theorem deq_eq {n : Nat} {d e : Dat} (h1 : kqdOk n d = true) (h2 : kqdOk n e = true) : deq d e = true ↔ d = e := kqd_eqv n d e n h1 h2

-- lists and tuples made of others
theorem d_addL {a b : Addr} {vs ws : List Value} {n m : Nat} {Q : Value → Shared → Prop} (S : St base R Fs env own Av z ρ news s) (ha : (a, listOf vs.toArray n) ∈ news) (hb : (b, listOf ws.toArray m) ∈ news) (hz : vs.length + ws.length ≤ 100000)
    (h : ∀ D s', Mu R D → (∀ p ∈ news, p.1 ≠ D) → St base R Fs env own Av z ρ ((D, listOf (vs ++ ws).toArray 0) :: news) s' → Q (.ref D) s') : wpAny (model prog w) A (binaryOp .Add (.ref a) (.ref b)) Q E s := by
  refine PySem.P.add_list (S.get ha) (S.get hb) ?_ (by rw [List.size_toArray, List.size_toArray, sizeLine_eq]; omega)
  have e : vs.toArray ++ ws.toArray = (vs ++ ws).toArray := by simp
  rw [e]
  exact h _ _ (S.fresh (Nat.le_refl _)) (fun p hp => Nat.ne_of_lt (Heap.lt_size (S.led p hp).1)) (S.push _ s.toks)
theorem d_addT {a b : Addr} {vs ws : List Value} {n m : Nat} {Q : Value → Shared → Prop} (S : St base R Fs env own Av z ρ news s) (ha : (a, tupOf vs.toArray n) ∈ news) (hb : (b, tupOf ws.toArray m) ∈ news) (hz : vs.length + ws.length ≤ 100000)
    (h0 : vs = [] → Q (.ref b) s) (h1 : vs ≠ [] → ws = [] → Q (.ref a) s)
    (h : vs ≠ [] → ws ≠ [] → ∀ D s', Mu R D → (∀ p ∈ news, p.1 ≠ D) → St base R Fs env own Av z ρ ((D, tupOf (vs ++ ws).toArray 0) :: news) s' → Q (.ref D) s') : wpAny (model prog w) A (binaryOp .Add (.ref a) (.ref b)) Q E s := by
  obtain ⟨m₀, hm, F0, N0⟩ := S.k0
  refine add_tuples F0 N0 ⟨_, S.get ha, rfl, n, rfl⟩ ⟨_, S.get hb, rfl, m, rfl⟩ h0 h1 (fun v1 v2 h' F' N' => ?_) (by rw [sizeLine_eq]; omega)
  obtain ⟨S', f⟩ := S.viaK (t := s.toks) (add := [(s.heap.objs.size, tupOf (vs ++ ws).toArray 0)]) hm F' N' (fun p hp q hq => by rw [List.mem_singleton.mp hp]; exact Heap.lt_size (N0 q hq).1)
  exact h v1 v2 _ _ (f _ (.head _)).1 (f _ (.head _)).2 S'
theorem d_tupleOf {l : Addr} {vs : List Value} {n : Nat} {Q : Value → Shared → Prop} (S : St base R Fs env own Av z ρ news s) (hl : (l, listOf vs.toArray n) ∈ news) (hz : vs.length ≤ 16000)
    (h : ∀ D s', Mu R D → (∀ p ∈ news, p.1 ≠ D) → St base R Fs env own Av z ρ ((D, tupOf vs.toArray 0) :: news) s' → Q (.ref D) s') : wpAny (model prog w) A (call (.type "tuple") [.ref l]) Q E s := by
  refine call_tuple_list ⟨_, S.get hl, rfl, n, rfl⟩ (fun h' hk => ?_) (by rw [List.size_toArray, sizeLine_eq]; omega)
  have S1 : St base R Fs env own Av z ρ news { s with heap := h' } := S.grow0 ⟨rfl, rfl, rfl⟩ hk
  exact h _ _ (S1.fresh (Nat.le_refl _)) (fun p hp => Nat.ne_of_lt (Heap.lt_size (S1.led p hp).1)) (S1.push (tupOf vs.toArray 0) s.toks)
theorem range_small {a b : Int} (h1 : -(2 ^ 60) ≤ a) (h2 : a ≤ 2 ^ 60) (h3 : -(2 ^ 60) ≤ b) (h4 : b ≤ 2 ^ 60) : Builtin.Range.small a b 1 = true := by
  unfold Builtin.Range.small
  have hs : Builtin.Range.rangeSize a b 1 = if a < b then (b - a) else 0 := by
    unfold Builtin.Range.rangeSize
    simp only [show (1 : Int) > 0 from by decide, if_true, Int.ediv_one]
    split <;> omega
  have fits : ∀ k : Int, -(2 ^ 62) ≤ k → k ≤ 2 ^ 62 → Builtin.Range.rangeFitsLong k = true := fun k h1 h2 => by
    unfold Builtin.Range.rangeFitsLong
    rw [Bool.and_eq_true, decide_eq_true_eq, decide_eq_true_eq]
    omega
  rw [fits a (by omega) (by omega), fits b (by omega) (by omega), fits 1 (by omega) (by omega), fits (Builtin.Range.rangeSize a b 1) (by rw [hs]; split <;> omega) (by rw [hs]; split <;> omega), if_pos (by decide), fits (b + (1 - 1)) (by omega) (by omega)]
  simp
theorem range_len {a b : Int} {n : Nat} (h : b = a + n) : Builtin.Range.rangeSize a b 1 = ((n : Nat) : Int) := by
  unfold Builtin.Range.rangeSize
  simp only [show (1 : Int) > 0 from by decide, if_true, Int.ediv_one]
  split <;> omega
theorem d_listRange {r : Addr} {a b : Int} {n : Nat} {t u v : Tok} {Q : Value → Shared → Prop} (S : St base R Fs env own Av z ρ news s) (hh : A.handled = none) (hr : (r, rangeObj a b t u v) ∈ news) (hn : b = a + n) (hz : n ≤ 16000) (h1 : -(2 ^ 60) ≤ a) (h2 : a ≤ 2 ^ 59)
    (h : ∀ D vs c s', Mu R D → (∀ p ∈ news, p.1 ≠ D) → DatAll [] vs ((List.range n).map fun (i : Nat) => .int (a + i)) → St base R Fs env own Av z ρ ((D, listOf vs.toArray c) :: news) s' → Q (.ref D) s') : wpAny (model prog w) A (call (.type "list") [.ref r]) Q E s := by
  refine call_list_range hh (S.get hr) (range_small h1 (by omega) (by omega) (by omega)) (range_len hn) (by omega) fun h' tk acc' c' hk hS' hacc => ?_
  refine h _ acc'.toList c' _ (S.fresh (Nat.le_refl _)) (fun p hp => Nat.ne_of_lt (Heap.lt_size (S.led p hp).1)) ?_ (S.grow (s' := { s with heap := h', toks := tk }) (add := [(s.heap.objs.size, listOf acc'.toList.toArray c')]) ⟨rfl, rfl, rfl⟩ hk fun p hp => by rw [List.mem_singleton.mp hp]; exact ⟨by simpa using hS', Nat.le_refl _⟩)
  have key : ∀ (vs : List Value) (ds : List Dat), vs.length = ds.length → (∀ (i : Nat) (v : Value) (d : Dat), vs[i]? = some v → ds[i]? = some d → DatIn [] v d) → DatAll [] vs ds := by
    intro vs
    induction vs with
    | nil => intro ds hl _; cases ds with
      | nil => exact .nil
      | cons d r => simp at hl
    | cons v vs ih => intro ds hl hq; cases ds with
      | nil => simp at hl
      | cons d r => exact .cons (hq 0 v d rfl rfl) (ih r (by simpa using hl) fun i v d a b => hq (i + 1) v d a b)
  refine key _ _ (by simp [hacc.1]) fun i v d hv hd => ?_
  obtain ⟨t', ht⟩ := hacc.2 i v (by simpa using hv)
  rw [List.getElem?_map] at hd
  obtain ⟨j, hj, rfl⟩ := Option.map_eq_some_iff.mp hd
  have hji : j = i := by
    obtain ⟨hl, e⟩ := List.getElem?_eq_some_iff.mp hj
    simpa using e.symm
  subst hji
  rw [ht, Int.mul_one]
  exact .int _ _
theorem d_sum {l : Addr} {vs : List Value} {n : Nat} {ns : List Int} {Q : Value → Shared → Prop} (S : St base R Fs env own Av z ρ news s) (hh : A.handled = none) (hl : (l, listOf vs.toArray n) ∈ news) (hi : IntsAre vs ns)
    (h : ∀ t s', St base R Fs env own Av z ρ news s' → Q (.int ns.sum t) s') : wpAny (model prog w) A (call (.builtin "sum") [.ref l]) Q E s := by
  obtain ⟨m₀, hm, F0, N0⟩ := S.k0
  refine LSm.sum_ints F0 N0 hh ⟨_, S.get hl, rfl, n, rfl⟩ hi fun h' tk t' F' N' => ?_
  exact h t' _ (S.viaK (t := tk) (add := []) hm F' N' fun p hp => nomatch hp).1
theorem d_sorted {l : Addr} {vs : List Value} {n : Nat} {ns : List Int} {Q : Value → Shared → Prop} (S : St base R Fs env own Av z ρ news s) (hl : (l, listOf vs.toArray n) ∈ news) (hi : IntsAre vs ns) (h64 : ns.length < 64)
    (h : ∀ D vs' ns' c s', Mu R D → (∀ p ∈ news, p.1 ≠ D) → IntsAre vs' ns' → ns'.Perm ns → ns'.Pairwise (· ≤ ·) → St base R Fs env own Av z ρ ((D, listOf vs'.toArray c) :: news) s' → Q (.ref D) s') : wpAny (model prog w) A (call (.builtin "sorted") [.ref l]) Q E s := by
  obtain ⟨m₀, hm, F0, N0⟩ := S.k0
  refine kso_sorted F0 N0 ⟨_, S.get hl, rfl, n, rfl⟩ hi h64 fun D vs' ns' c h' F' N' lt i' _ p o _ => ?_
  obtain ⟨S', f⟩ := S.viaK (t := s.toks) (add := [(D, listOf vs'.toArray c)]) hm F' N' (fun p hp q hq => by rw [List.mem_singleton.mp hp]; exact lt q hq)
  exact h D vs' ns' c _ (f _ (.head _)).1 (f _ (.head _)).2 i' p o S'
end
end Mine
end
section
open PySem PySem.W PySem.Calls PyProof.Rows
open AutoSeq1 (wpAny_loadPart')
set_option Elab.async false
set_option maxRecDepth 100000
set_option maxHeartbeats 1000000
namespace Mine
theorem enum_newT (t : Addr) (items : Array Value) (n : Nat) (dct : Option Addr) (sl : Array (Option Value)) :
    Meets (Builtin.«enumerate.__new__» ⟨[.type "enumerate", .ref t], []⟩) (fun _ R s => s.heap.get? t = some { cls := .type "tuple", dict := dct, data := .seq items n, slots := sl } ∧
      R (.ok (.ret (.ref (s.heap.push { cls := .type "tuple_iterator", data := .fields #[.ref t, .int 0 0] }).objs.size)))
        { s with heap := (s.heap.push { cls := .type "tuple_iterator", data := .fields #[.ref t, .int 0 0] }).push { cls := .type "enumerate", data := .fields #[.none, .bool false, .ref s.heap.objs.size, rawInt 0, .none, .none] } }) :=
  .of_wp fun prog w A R s h => by
    obtain ⟨hp, g, d, tk, os⟩ := s; obtain ⟨hl, h⟩ := h
    have hsub := sub_enumerate
    have hL : Heap.IsTuple (Shared.heap ⟨hp, g, d, tk, os⟩) t items := ⟨_, hl, rfl, n, rfl⟩
    wp_walk using wpAny_loadPart' hl
    refine wpAny_stack_any fun st => wpAny_pure ?_
    split
    · rename_i c _ _ _ _ _
      cases (c == Value.type "enumerate")
      · wp_walk using wpAny_loadPart' hl, wpAny_pyIter_tuple hL
        exact ⟨_, rfl, h⟩
      · wp_walk using wpAny_loadPart' hl, wpAny_pyIter_tuple hL
        exact ⟨_, rfl, h⟩
    · wp_walk using wpAny_loadPart' hl, wpAny_pyIter_tuple hL
      exact ⟨_, rfl, h⟩
section
variable {prog : Program} {w : World} {A : Around} {E : Value → Shared → Prop} {s : Shared}
theorem nextOf_tuple_item {it l : Addr} {i : Nat} {items} {x : Value} {Q : Value → Shared → Prop} (hit : s.heap.IsTupleIter it l i)
    (hl : s.heap.IsTuple l items) (hx : items[i]? = some x)
    (hQ : ∀ h', h'.IsTupleIter it l (i + 1) → Heap.SameBut it s.heap h' → Q x { s with heap := h' }) :
    wpAny (model prog w) A (Builtin.SmallTypes.nextOf (.ref it)) Q E s := by
  obtain ⟨o, ho, hc, hd⟩ := id hit
  obtain ⟨ol, hol, _, nl, hdl⟩ := hl
  unfold Builtin.SmallTypes.nextOf
  refine wpAny_bind (wpAny_callSpecial?_slot (name := Str.ofString "__next__") hit.typeIs F.slot_tuple_iterator_next
    (wpAny_call_entry F.slot_tuple_iterator_next hit.typeIs F.entry_tuple_iterator_next ?_ (F.args_tuple_iterator_next_1 _)))
  show wpAny _ _ (field (.ref it) 0 >>= _) _ _ s
  refine wpAny_bind (wpAny_field ho hd (x := .ref l) rfl ?_)
  show wpAny _ _ (if (Value.ref l == Value.none) = true then _ else _) _ _ s
  rw [if_neg (show ¬ ((Value.ref l == Value.none) = true) from Bool.false_ne_true)]
  show wpAny _ _ (field (.ref it) 1 >>= _) _ _ s
  refine wpAny_bind (wpAny_field ho hd (x := .int i 0) rfl ?_)
  show wpAny _ _ (seqItems? (.ref l) >>= _) _ _ s
  refine wpAny_bind (wpAny_seqItems hol hdl ?_)
  simp only [Int.toNat_natCast, hx]
  refine wpAny_bind (wpAny_setField ho hd (by simp) (wpAny_pure ⟨x, rfl, wpAny_pure (hQ _ ?_ (Heap.SameBut.update ..))⟩))
  exact ⟨_, Heap.get?_update_self _ ho (Obj.isFreed_of_fields (Obj.data_mapFields hd _)), (Obj.cls_mapFields ..).trans hc, by
    rw [Obj.data_mapFields hd]; simp [rawInt]⟩
theorem nextOf_tuple_end {it l : Addr} {i : Nat} {items} {Q : Value → Shared → Prop} (hh : A.handled = none)
    (hit : s.heap.IsTupleIter it l i) (hl : s.heap.IsTuple l items) (hx : items[i]? = none)
    (hE : ∀ h' e, Heap.ExtBut it s.heap h' → (∃ o, h'.get? e = some o ∧ o.cls = .type "StopIteration") → E (.ref e) { s with heap := h' }) : wpAny (model prog w) A (Builtin.SmallTypes.nextOf (.ref it)) Q E s := by
  obtain ⟨o, ho, hc, hd⟩ := id hit
  obtain ⟨ol, hol, _, nl, hdl⟩ := hl
  unfold Builtin.SmallTypes.nextOf
  refine wpAny_bind (wpAny_callSpecial?_slot (name := Str.ofString "__next__") hit.typeIs F.slot_tuple_iterator_next
    (wpAny_call_entry F.slot_tuple_iterator_next hit.typeIs F.entry_tuple_iterator_next ?_ (F.args_tuple_iterator_next_1 _)))
  show wpAny _ _ (field (.ref it) 0 >>= _) _ _ s
  refine wpAny_bind (wpAny_field ho hd (x := .ref l) rfl ?_)
  show wpAny _ _ (if (Value.ref l == Value.none) = true then _ else _) _ _ s
  rw [if_neg (show ¬ ((Value.ref l == Value.none) = true) from Bool.false_ne_true)]
  show wpAny _ _ (field (.ref it) 1 >>= _) _ _ s
  refine wpAny_bind (wpAny_field ho hd (x := .int i 0) rfl ?_)
  show wpAny _ _ (seqItems? (.ref l) >>= _) _ _ s
  refine wpAny_bind (wpAny_seqItems hol hdl ?_)
  simp only [Int.toNat_natCast, hx]
  refine wpAny_bind (wpAny_rule (wpAny_bind (wpAny_setField ho hd (by simp) ?_)))
  show wpAny _ _ (newExc (.type "StopIteration") [] >>= _) _ _ _
  refine wpAny_bind ?_
  simp only [newExc, newTuple]
  refine wpAny_bind (wpAny_newObj_type ?_ (by size_fits))
  refine wpAny_bind (m := firstArgMember _ _) (wpAny_of_eq (a := Value.none) (by first | rfl | (simp only [firstArgMember]; rfl)) ?_)
  refine wpAny_newObj_type ?_ (by size_fits)
  simp only [raiseNew]
  refine wpAny_bind (wpAny_handled ?_)
  first | rw [show A.in1.handled = none from hh] | rw [hh]
  refine wpAny_bind (wpAny_pure (wpAny_throw ?_))
  exact hE _ _ (((Heap.SameBut.update ..).extBut.push _).push _) ⟨_, Heap.get?_push_size _ rfl, rfl⟩
theorem drawsT (hh : A.handled = none) (it l : Addr) (hne : l ≠ it) (items : Array Value) :
    Draws prog w A it [it, l] items.size (fun i v => items[i]? = some v) (fun i h => h.IsTupleIter it l i ∧ h.IsTuple l items) where
  live := fun _ _ st => let ⟨o, ho, _⟩ := st.1; ⟨o, ho⟩
  frame := fun _ _ _ st hk => ⟨st.1.at fun o e => hk it (by simp) o e, st.2.at fun o e => hk l (by simp) o e⟩
  item := fun i s Q E hi st hQ => by
    refine nextOf_tuple_item st.1 st.2 (x := items[i]) (by simp [hi]) fun h' hit' hs' => ?_
    exact hQ _ h' s.toks (by simp [hi]) ⟨hit', st.2.extBut hs'.extBut hne⟩ hs'
  done := fun s Q E st hE => nextOf_tuple_end hh st.1 st.2 (by simp) hE
theorem call_enumT {l : Addr} {items : Array Value} {n : Nat} {Q : Value → Shared → Prop} (hl : s.heap.get? l = some (tupOf items n))
    (h : ∀ h', IsEnum h' (s.heap.objs.size + 1) s.heap.objs.size 0 .none → h'.IsTupleIter s.heap.objs.size l 0 → h'.objs.size = s.heap.objs.size + 2 →
      (∀ b o, s.heap.get? b = some o → h'.get? b = some o) → Q (.ref (s.heap.objs.size + 1)) { s with heap := h' }) :
    wpAny (model prog w) A (call (.type "enumerate") [.ref l]) Q E s := by
  refine callType_new F.called_enumerate (by decide) (F.typeCall_enumerate_1 _) (F.newCall_enumerate_1 _) (fun obj => F.args_object_init_2 obj _) F.entry_enumerate_new
    (enum_newT l items n none #[]) ⟨hl, ?_⟩
  have hz : (s.heap.push { cls := .type "tuple_iterator", data := .fields #[.ref l, .int 0 0] }).objs.size = s.heap.objs.size + 1 := Heap.size_push ..
  show _ ∧ _
  rw [hz]
  have he : IsEnum ((s.heap.push { cls := .type "tuple_iterator", data := .fields #[.ref l, .int 0 0] }).push
      { cls := .type "enumerate", data := .fields #[.none, .bool false, .ref s.heap.objs.size, rawInt 0, .none, .none] }) (s.heap.objs.size + 1) s.heap.objs.size 0 .none := by
    have := Heap.get?_push_size (s.heap.push { cls := .type "tuple_iterator", data := .fields #[.ref l, .int 0 0] })
      (o := { cls := .type "enumerate", data := .fields #[.none, .bool false, .ref s.heap.objs.size, rawInt 0, .none, .none] }) rfl
    rw [hz] at this; exact this
  refine ⟨⟨_, he, rfl⟩, h _ he ⟨_, Heap.get?_push_of_some _ (Heap.get?_push_size _ rfl), rfl, rfl⟩ (by rw [Heap.size_push, hz]) fun b o x => Heap.get?_push_of_some _ (Heap.get?_push_of_some _ x)⟩
end
end Mine
end
section
open PySem PySem.W PySem.Calls PyProof.Rows
set_option Elab.async false
set_option maxRecDepth 100000
set_option maxHeartbeats 1000000
namespace Mine
section
variable {prog : Program} {w : World} {A : Around} {s s' : Shared}
variable {base : Heap} {R : Addr → Obj → Prop} {Fs : List Env} {env : Env} {own : List Addr} {Av : Addr → Prop} {z : Shared} {ρ : Str → Option Value} {news : List (Addr × Obj)}
theorem St.iters {W : List Addr} (S : St base R Fs env own Av z ρ news s) (hW : ∀ I ∈ W, ¬ Av I ∧ Mu R I) (hn : ∀ p ∈ news, p.1 ∉ W) (r : SR s s') (k : ∀ b o, b ∉ W → s.heap.get? b = some o → s'.heap.get? b = some o) : St base R Fs env own Av z ρ news s' :=
  S.call (X := W) r (fun a o e n => .of (k a o n e)) hW fun p hp => ⟨k _ _ (hn p hp) (S.led p hp).1, (S.led p hp).2⟩
theorem St.widenL (S : St base R Fs env own Av z ρ news s) (F : Addr → Prop) (W : List Addr) (hF : ∀ b, F b → b ∉ own) (hWl : ∀ I ∈ W, ∃ o, s.heap.get? I = some o) (hn : ∀ p ∈ news, p.1 ∉ W) :
    St base (fun b o => R b o ∨ (F b ∧ s.heap.get? b = some o)) Fs env own (fun a => Av a ∨ a ∈ W) z ρ news s :=
  ⟨S.ev, fun p hp => ⟨(S.led p hp).1, fun m => m.elim (S.led p hp).2 (hn p hp)⟩, fun b o r => by
      rcases r with r | ⟨m, e⟩
      · exact S.keep b o r
      · exact ⟨.of e, hF b m⟩,
    fun b o e => .inl (S.baseR b o e), fun a m => by
      rcases m with m | m
      · exact S.live a m
      · exact hWl a m,
    fun a m => .inl (S.av a m), S.loc, fun x c e => .inl (S.cav x c e), S.sr, S.ff, fun a m => .inl (S.fav a m), S.low⟩

theorem for_coreT {elts : List Expr} {ek : Nat} {ep : Pos} {body orelse : List Stmt} {Q : Flow → Shared → Prop} {I : Addr} {fp wr : List Addr} {n : Nat} {Pt : Nat → Array Value → Prop} {StI : Nat → Heap → Prop} {Mid : Nat → Addr → Heap → Prop}
    (J : Nat → (Str → Option Value) → List (Addr × Obj) → Prop)
    (W : WalksT prog w A I fp wr n Pt StI Mid) (hIl : ∀ i h, StI i h → ∀ I ∈ wr, ∃ o, h.get? I = some o)
    (S : St base R Fs env own Av z ρ news s) (hst : StI 0 s.heap) (hW : ∀ I ∈ wr, ¬ Av I ∧ Mu R I) (hn : ∀ p ∈ news, p.1 ∉ wr) (hfp : ∀ b ∈ fp, b ∉ own ∧ b ∉ frs Fs) (hJ : J 0 ρ news)
    (turn : ∀ i vals T ρ₁ news₁ R' Av' s₁, i < n → Pt i vals → Turn R R' Av Av' fp → (∀ I ∈ wr, Av' I) → J i ρ₁ news₁ → s₁.heap.IsTuple T vals → St base R' Fs env own Av' z ρ₁ news₁ s₁ →
      wpAny (model prog w) A (assign (.Tuple elts ek ep) env (.ref T)) (fun _ s₂ => wpAny (model prog w) A (execs body env) (LoopTo base R' Fs env own Av' z (J (i + 1)) Q) NoE s₂) NoE s₁)
    (done : ∀ ρ₁ news₁ s₁, J n ρ₁ news₁ → St base R Fs env own Av z ρ₁ news₁ s₁ → wpAny (model prog w) A (execs orelse env) Q NoE s₁) :
    ForAt prog w A (.Tuple elts ek ep) body orelse env Q (.ref I) s := by
  refine codeAny_forLoop_any (fun k s' => ∃ i ρ' news', i ≤ n ∧ k = n + 1 - i ∧ StI i s'.heap ∧ J i ρ' news' ∧ St base R Fs env own Av z ρ' news' s' ∧ ∀ p ∈ news', p.1 ∉ wr) ?_ (n + 1) ⟨0, ρ, news, Nat.zero_le _, rfl, hst, hJ, S, hn⟩
  rintro k s' ⟨i, ρ', news', hi, rfl, hst', hJ', S', hn'⟩
  by_cases hlt : i < n
  · refine W.item i s' _ _ hlt hst' fun T vals h' tk hPv hTn hT hmid hk => ?_
    dsimp only
    have S₁ : St base R Fs env own Av z ρ' news' { s' with heap := h', toks := tk } := S'.iters hW hn' ⟨rfl, rfl, rfl⟩ hk
    refine W.go elts ek ep i T _ _ _ hmid fun h₂ hst₂ hk₂ => ?_
    dsimp only
    have S₂ : St base R Fs env own Av z ρ' news' { s' with heap := h₂, toks := tk } := S₁.iters hW hn' ⟨rfl, rfl, rfl⟩ hk₂
    have hT₂ : h₂.IsTuple T vals := by
      obtain ⟨o, ho, r⟩ := hT
      exact ⟨o, hk₂ _ _ (W.apart i T h' hmid) ho, r⟩
    have S₃ := S₂.widenL (fun b => b ∈ fp) wr (fun b m => (hfp b m).1) (hIl _ _ hst₂) hn'
    have TT : Turn R (fun b o => R b o ∨ (b ∈ fp ∧ h₂.get? b = some o)) Av (fun a => Av a ∨ a ∈ wr) fp := ⟨fun _ _ r => .inl r, fun _ m => .inl m, fun D m hav f x r => r.elim (m x) fun q => f q.1⟩
    refine wpAny_mono (turn i vals T ρ' news' _ _ _ hlt hPv TT (fun _ m => .inr m) hJ' hT₂ S₃) (fun _ s₂ h₂' => ?_) fun _ _ x => x.elim
    refine wpAny_mono h₂' (fun f s₃ h₃ => ?_) fun _ _ x => x.elim
    have fin : (∃ ρ'' news'', St base (fun b o => R b o ∨ (b ∈ fp ∧ h₂.get? b = some o)) Fs env own (fun a => Av a ∨ a ∈ wr) z ρ'' news'' s₃ ∧ J (i + 1) ρ'' news'') → ∃ m, m < n + 1 - i ∧ ∃ i ρ' news', i ≤ n ∧ m = n + 1 - i ∧ StI i s₃.heap ∧ J i ρ' news' ∧ St base R Fs env own Av z ρ' news' s₃ ∧ ∀ p ∈ news', p.1 ∉ wr := by
      rintro ⟨ρ'', news'', S₄, hJ₃⟩
      refine ⟨n + 1 - (i + 1), by omega, i + 1, ρ'', news'', hlt, rfl, ?_, hJ₃, S₄.mono (fun _ _ r => .inl r) (fun _ m => .inl m) S.av S.baseR S.cav S.fav, fun p hp e => (S₄.led p hp).2 (.inr e)⟩
      exact W.frame _ _ _ hst₂ fun b hb o e => (S₄.keep b o (.inr ⟨hb, e⟩)).1.get (hfp b hb).2
    cases f with
    | ret v => exact h₃
    | brk => exact h₃
    | next => exact fin h₃
    | cont => exact fin h₃
  · obtain rfl : i = n := Nat.le_antisymm hi (Nat.not_lt.mp hlt)
    refine W.done s' _ _ hst' fun h' tk hk => ?_
    dsimp only
    exact wpAny_mono (done ρ' news' _ hJ' (S'.iters hW hn' ⟨rfl, rfl, rfl⟩ hk)) (fun f s₃ h₃ => h₃) fun _ _ x => x.elim

/-- over a tuple that stands fast -/
theorem for_tup {target : Expr} {body orelse : List Stmt} {Q : Flow → Shared → Prop} {l : Addr} {items : Array Value} {k : Nat}
    (J : Nat → (Str → Option Value) → List (Addr × Obj) → Prop) (S : St base R Fs env own Av z ρ news s) (hh : A.handled = none) (hl : s.heap.get? l = some (tupOf items k)) (hlo : l ∉ own ∧ l ∉ frs Fs) (hJ : J 0 ρ news)
    (turn : ∀ i v ρ₁ news₁ R' Av' s₁, items[i]? = some v → Turn R R' Av Av' [l] → ∀ Q₁, HQ (LoopTo base R' Fs env own Av' z (J (i + 1)) Q) Q₁ → J i ρ₁ news₁ → St base R' Fs env own Av' z ρ₁ news₁ s₁ →
      wpAny (model prog w) A (assign target env v) (fun _ s₂ => wpAny (model prog w) A (execs body env) Q₁ NoE s₂) NoE s₁)
    (done : ∀ ρ₁ news₁ s₁, J items.size ρ₁ news₁ → St base R Fs env own Av z ρ₁ news₁ s₁ → wpAny (model prog w) A (execs orelse env) Q NoE s₁) :
    wpAny (model prog w) A (pyIter (.ref l)) (ForAt prog w A target body orelse env Q) NoE s := by
  have hls : s.heap.IsTuple l items := ⟨_, hl, rfl, k, rfl⟩
  have hlt : l < s.heap.objs.size := Heap.lt_size hl
  have hne : l ≠ s.heap.objs.size := Nat.ne_of_lt hlt
  refine wpAny_pyIter_tuple hls ?_
  have S₂ : St base R Fs env own Av z ρ news { s with heap := s.heap.push { cls := .type "tuple_iterator", data := .fields #[.ref l, .int 0 0] } } := S.grow0 ⟨rfl, rfl, rfl⟩ fun _ _ e => Heap.get?_push_of_some _ e
  refine for_core (fp := [l]) J (Walks.tuple hh s.heap.objs.size l hne items) (fun i v s' Q' st q => ?_) (fun i h st => let ⟨o, e, _⟩ := st.1; ⟨o, e⟩) S₂ ⟨⟨_, Heap.get?_push_size _ rfl, rfl, rfl⟩, ⟨_, Heap.get?_push_of_some _ hl, rfl, k, rfl⟩⟩ (S.avFresh (Nat.le_refl _)) (S.fresh (Nat.le_refl _))
    (fun p hp => Nat.ne_of_lt (Heap.lt_size (S.led p hp).1)) (fun b m => by rw [List.mem_singleton.mp m]; exact hlo) hJ (fun i v ρ₁ news₁ R' Av' s₁ _ hv T _ j S₁ => turn i v ρ₁ news₁ R' Av' s₁ hv T _ (fun _ _ x => x) j S₁) done
  · obtain ⟨⟨o, e, hc, _⟩, _⟩ := st
    exact go_plain e hc (by decide) q

/-- for i, x in enumerate(t) -/
theorem for_enumT {elts : List Expr} {ek : Nat} {ep : Pos} {body orelse : List Stmt} {Q : Flow → Shared → Prop} {l : Addr} {items : Array Value} {k : Nat}
    (J : Nat → (Str → Option Value) → List (Addr × Obj) → Prop) (S : St base R Fs env own Av z ρ news s) (hh : A.handled = none) (hl : s.heap.get? l = some (tupOf items k)) (hlo : l ∉ own ∧ l ∉ frs Fs) (hJ : J 0 ρ news)
    (turn : ∀ i t v T ρ₁ news₁ R' Av' s₁, items[i]? = some v → (∀ D, Mu R D → ¬ Av' D → D ≠ l → Mu R' D) → ∀ Q₁, HQ (LoopTo base R' Fs env own Av' z (J (i + 1)) Q) Q₁ → J i ρ₁ news₁ → s₁.heap.IsTuple T #[.int i t, v] → St base R' Fs env own Av' z ρ₁ news₁ s₁ →
      wpAny (model prog w) A (assign (.Tuple elts ek ep) env (.ref T)) (fun _ s₂ => wpAny (model prog w) A (execs body env) Q₁ NoE s₂) NoE s₁)
    (done : ∀ ρ₁ news₁ s₁, J items.size ρ₁ news₁ → St base R Fs env own Av z ρ₁ news₁ s₁ → wpAny (model prog w) A (execs orelse env) Q NoE s₁) :
    wpAny (model prog w) A (call (.type "enumerate") [.ref l]) (fun xv s₁ => wpAny (model prog w) A (pyIter xv) (ForAt prog w A (.Tuple elts ek ep) body orelse env Q) NoE s₁) NoE s := by
  have hlt : l < s.heap.objs.size := Heap.lt_size hl
  refine call_enumT hl fun h' he hit hsz hk => ?_
  have S₁ : St base R Fs env own Av z ρ news { s with heap := h' } := S.grow0 ⟨rfl, rfl, rfl⟩ hk
  refine wpAny_pyIter_enum he ?_
  have hli : l ≠ s.heap.objs.size := Nat.ne_of_lt hlt
  have hle : l ≠ s.heap.objs.size + 1 := Nat.ne_of_lt (Nat.lt_succ_of_lt hlt)
  have hei : (s.heap.objs.size + 1 : Addr) ≠ s.heap.objs.size := Nat.ne_of_gt (Nat.lt_succ_self _)
  have av1 : ¬ Av s.heap.objs.size := S.avFresh (Nat.le_refl _)
  have av2 : ¬ Av (s.heap.objs.size + 1) := S.avFresh (Nat.le_succ _)
  have mu1 : Mu R s.heap.objs.size := S.fresh (Nat.le_refl _)
  have mu2 : Mu R (s.heap.objs.size + 1) := S.fresh (Nat.le_succ _)
  have W := WalksT.enumerateD (e := s.heap.objs.size + 1) (drawsT (prog := prog) (w := w) (A := A.in1) hh s.heap.objs.size l hli items) hei (fun m => by
    rcases List.mem_cons.mp m with q | m
    · exact hei q
    · exact hle (List.mem_singleton.mp m).symm) (List.mem_cons_self)
  refine for_coreT J W (fun i h st I m => ?_) S₁ ⟨⟨_, he⟩, hit, ⟨_, hk _ _ hl, rfl, k, rfl⟩⟩ (fun I m => ?_) (fun p hp m => ?_) (fun b m => ?_) hJ ?_ done
  · rcases List.mem_cons.mp m with rfl | m
    · obtain ⟨⟨old, e⟩, _⟩ := st; exact ⟨_, e⟩
    · rw [List.mem_singleton.mp m]
      obtain ⟨_, ⟨o, e, _⟩, _⟩ := st; exact ⟨o, e⟩
  · rcases List.mem_cons.mp m with rfl | m
    · exact ⟨av2, mu2⟩
    · rw [List.mem_singleton.mp m]; exact ⟨av1, mu1⟩
  · have := Heap.lt_size (S.led p hp).1
    rcases List.mem_cons.mp m with q | m
    · exact Nat.ne_of_lt (Nat.lt_succ_of_lt this) q
    · exact Nat.ne_of_lt this (List.mem_singleton.mp m)
  · rcases List.mem_cons.mp m with rfl | m
    · exact ⟨fun q => av2 (S.av _ q), fun q => av2 (S.fav _ q)⟩
    · rcases List.mem_cons.mp m with rfl | m
      · exact ⟨fun q => av1 (S.av _ q), fun q => av1 (S.fav _ q)⟩
      · rw [List.mem_singleton.mp m]; exact hlo
  · intro i vals T ρ₁ news₁ R' Av' s₁ hi hP TT hw hj hT S₂
    obtain ⟨t, v, hv, rfl⟩ := hP
    refine turn i t v T ρ₁ news₁ R' Av' s₁ hv (fun D m n h => TT.mu D m n fun q => ?_) _ (fun _ _ x => x) hj hT S₂
    rcases List.mem_cons.mp q with q | q
    · exact n (q ▸ hw _ List.mem_cons_self)
    · rcases List.mem_cons.mp q with q | q
      · exact n (q ▸ hw _ (List.mem_cons_of_mem _ List.mem_cons_self))
      · exact h (List.mem_singleton.mp q)
end
end Mine
end
section
open PySem PySem.W PySem.Calls PyProof.Rows
set_option Elab.async false
set_option maxRecDepth 100000
set_option maxHeartbeats 1000000
namespace Mine
section
variable {prog : Program} {w : World} {A : Around} {E : Value → Shared → Prop} {s : Shared}
variable {base : Heap} {R : Addr → Obj → Prop} {Fs : List Env} {env : Env} {own : List Addr} {Av : Addr → Prop} {z : Shared} {ρ : Str → Option Value} {news : List (Addr × Obj)}
theorem a_tup2 {x y : Str} {px py pos : Pos} {k : Nat} {T : Addr} {a b : Value} {Q : Unit → Shared → Prop} (S : St base R Fs env own Av z ρ news s) (hh : A.handled = none) (hT : s.heap.IsTuple T #[a, b]) (hx : env.kindOf x = some .local) (hy : env.kindOf y = some .local)
    (h : ∀ s', St base R Fs env own Av z (up (up ρ x a) y b) news s' → Q () s') : wpAny (model prog w) A (assign (.Tuple [.Name x px, .Name y py] k pos) env (.ref T)) Q E s := by
  refine wpAny_assign_Tuple hh hT rfl rfl fun h' hx' => ?_
  have S₁ : St base R Fs env own Av z ρ news { s with heap := h' } := S.grow0 ⟨rfl, rfl, rfl⟩ fun b o e => hx' b o (Nat.ne_of_lt (Heap.lt_size e)) e
  show wpAny _ _ (assignInOrder [fun v => assign (.Name x px) env v, fun v => assign (.Name y py) env v] [a, b]) _ _ _
  refine assignInOrder_cons (wpAny_assign_Name (stL S₁ hx fun s₂ S₂ => ?_))
  refine assignInOrder_cons (wpAny_assign_Name (stL S₂ hy fun s₃ S₃ => ?_))
  exact assignInOrder_nil (h _ S₃)
end
end Mine
end
section
open PySem PySem.W PySem.Calls PyProof.Rows
set_option Elab.async false
set_option maxRecDepth 100000
set_option maxHeartbeats 1000000
namespace Mine
section
variable {prog : Program} {w : World} {A : Around} {E : Value → Shared → Prop} {s : Shared}
variable {base : Heap} {R : Addr → Obj → Prop} {Fs : List Env} {env : Env} {own : List Addr} {Av : Addr → Prop} {z : Shared} {ρ : Str → Option Value} {news : List (Addr × Obj)}
theorem k_methS {o : Expr} {name : Str} {apos pos : Pos} {args : List Expr} {id : String} {Q : Value → Shared → Prop}
    (pa : PlainAttrs "str") (slot : Slot "str" name id) (hty : typeOf (.builtin id) = pure (.type "method_descriptor")) (hne : args ≠ [])
    (h : wpAny (model prog w) A (eval o env) (fun ov s₁ => ∃ x t, ov = .str x t ∧ 
      wpAny (model prog w) A (spliced (backTo pos (starEach args env))) (fun vs s₂ => wpAny (model prog w) A (call (.builtin id) (.str x t :: vs)) Q E s₂) E s₁) E s)
    (hbase : attributeBase o name env (eval o env) = eval o env := by rfl)
    (hfew : ((backTo pos (starEach args env)).all (fun x => !x.1) && (backToKw pos (keywordEach [] env)).all (fun x => x.1.isSome)
      && decide (args.length + ([] : List Keyword).length + (if ([] : List Keyword).isEmpty then 0 else 1) < 30)) = true := by rfl)
    (hline : (apos.endLine == pos.line) = true := by rfl)
    (he : backTo pos (starEach args env) = (args.map fun e => (false, eval e env)) := by rfl) :
    wpAny (model prog w) A (eval (.Call (.Attribute o name apos) args [] pos) env) Q E s := by
  refine wpAny_Call_method hbase hfew hline pa slot hty (wpAny_mono h (fun ov s₁ h₁ => ?_) fun _ _ x => x)
  obtain ⟨x, t, rfl, q⟩ := h₁
  refine ⟨typeIs_str _ _ _, (fun a e => by cases e), ?_⟩
  rw [he] at q ⊢
  have hp : (args.map fun e => (false, eval e env)).any (·.1) = false := by rw [List.any_map]; simp
  cases args with
  | nil => exact absurd rfl hne
  | cons e r => exact Calls.callWith_builtin hp (evalArgs_plain (wpAny_mono q (fun vs s₁ h₁ => h₁) fun _ _ x => x))
theorem strs_pairs {news : List (Addr × Obj)} : ∀ {vs : List Value} {xs : List Str}, DatAll news vs (xs.map .str) → ∃ l : List (Str × Tok), vs = strValues l ∧ l.map (·.1) = xs
  | _, [], .nil => ⟨[], rfl, rfl⟩
  | _, x :: xs, .cons (.str _ t) r => by
    obtain ⟨l, rfl, rfl⟩ := strs_pairs r
    exact ⟨(x, t) :: l, rfl, rfl⟩
theorem d_join {l : Addr} {vs : List Value} {n : Nat} {xs : List Str} {x : Str} {t : Tok} {Q : Value → Shared → Prop} (S : St base R Fs env own Av z ρ news s) (hl : (l, listOf vs.toArray n) ∈ news) (D : DatAll news vs (xs.map .str)) (hok : JoinOk x xs = true)
    (h : ∀ t s', St base R Fs env own Av z ρ news s' → Q (.str (Txt.join x xs) t) s') : wpAny (model prog w) A (call (.builtin "str.join") [.str x t, .ref l]) Q E s := by
  obtain ⟨ps, rfl, hps⟩ := strs_pairs D
  exact SC.join ⟨_, S.get hl, rfl, n, rfl⟩ hps hok fun t' k => h _ _ (S.tok k)
end
end Mine
end
section
open PySem PySem.W PySem.Calls PyProof.Rows
set_option Elab.async false
set_option maxRecDepth 100000
set_option maxHeartbeats 1000000
namespace Mine
/-- comparing, where H holds -/
noncomputable def CmpIn (prog : Program) (w : World) (A : Around) (H : Heap → Prop) (P : Nat → Value → Prop) (bt : Nat → Nat → Bool) : Prop :=
  ∀ i j vi vj (s : Shared) (Q : Value → Shared → Prop) (E : Value → Shared → Prop), H s.heap → P i vi → P j vj → Q (.bool (bt i j)) s → wpAny (model prog w) A (richCompare .Lt vi vj) Q E s
section
variable {prog : Program} {w : World} {A : Around} {Rs : Result → Shared → Prop} {I : Addr} {fp wr : List Addr} {n : Nat} {P : Nat → Value → Prop} {St : Nat → Heap → Prop} {H : Heap → Prop}
theorem min_loop (W : Walks prog w A.in1 I fp wr n P St) (bt : Nat → Nat → Bool) (hcmp : CmpIn prog w A.in1 H P bt) (S : Addr) (hSf : S ∉ fp) (hH : ∀ h h', H h → (∀ b o, b ∉ wr → b ≠ S → h.get? b = some o → h'.get? b = some o) → H h') :
    ∀ (k j : Nat) (s : Shared) (vb : Value) (c : Nat), n - (j + 1) = k → j + 1 ≤ n → St (j + 1) s.heap → H s.heap → P (argBest bt j) vb →
    s.heap.get? S = some { cls := .type "list", dict := none, data := .seq #[vb, vb] c, slots := #[] } →
    (∀ v h' tk, P (argBest bt (n - 1)) v → (∀ b o, b ∉ wr → b ≠ S → s.heap.get? b = some o → h'.get? b = some o) → Rs (.ok (.ret v)) { s with heap := h', toks := tk }) →
    codeAny (model prog w) A (.builtin "min.loop" ⟨[.ref I, .none, .ref S], []⟩) Rs s := by
  have hSw : S ∉ wr := fun h => hSf (W.sub _ h)
  have hname : (toString "min" ++ toString ".loop" : String) = "min.loop" := by decide
  intro k
  induction k with
  | zero =>
    intro j s vb c hk hj hst hh hPb hS hR
    have hin : j + 1 = n := by omega
    refine codeAny_builtin F.entry_min_loop ?_
    rw [Around.under_plainId F.plain_min_loop _]
    show wpAny _ A.in1 (seqItems? (.ref S) >>= _) _ _ s
    refine wpAny_bind (wpAny_seqItems hS rfl ?_)
    show wpAny _ A.in1 (tryCatch (pyNext (.ref I)) _ >>= _) _ _ s
    refine wpAny_bind (wpAny_tryCatch (W.done s _ _ (hin ▸ hst) fun h' tk hk' => ?_))
    have hS' := hk' S _ hSw hS
    show wpAny _ A.in1 (updateSeq S (fun _ => #[]) >>= _) _ _ _
    refine wpAny_bind ?_
    refine wpAny_updateSeq hS' rfl (wpAny_bind (wpAny_letGo (wpAny_pure ?_)))
    exact hR vb _ tk (by rw [← hin]; exact hPb) fun b o hbw hbS e => (Heap.get?_update_other _ _ (Ne.symm hbS)).trans (hk' b o hbw e)
  | succ k ih =>
    intro j s vb c hk hj hst hh hPb hS hR
    have hlt : j + 1 < n := by omega
    refine codeAny_builtin F.entry_min_loop ?_
    rw [Around.under_plainId F.plain_min_loop _]
    show wpAny _ A.in1 (seqItems? (.ref S) >>= _) _ _ s
    refine wpAny_bind (wpAny_seqItems hS rfl ?_)
    show wpAny _ A.in1 (tryCatch (pyNext (.ref I)) _ >>= _) _ _ s
    refine wpAny_bind (wpAny_tryCatch (W.item (j + 1) s _ _ hlt hst fun v h' tk hP hst' hk' => ?_))
    have hS' := hk' S _ hSw hS
    have hh' : H h' := hH _ _ hh fun b o hb _ e => hk' b o hb e
    show wpAny _ A.in1 (tryCatch (holding [v, v] (richCompare .Lt v vb >>= _)) _ >>= _) _ _ _
    refine wpAny_bind (wpAny_tryCatch (wpAny_holding (wpAny_bind (hcmp (j + 1) (argBest bt j) v vb _ _ _ hh' hP hPb ?_))))
    refine wpAny_bind (wpAny_holding (wpAny_truthy_bool ?_))
    refine wpAny_bind (wpAny_letGo (wpAny_pure ?_))
    cases hb : bt (j + 1) (argBest bt j) with
    | true =>
      simp only [if_true]
      refine wpAny_bind ?_
      refine wpAny_updateSeq hS' rfl (wpAny_bind (wpAny_letGo ?_))
      rw [hname]
      refine wpAny_pure ⟨plainId_quiet F.plain_min_loop _, ih (j + 1) _ v _ (by omega) hlt (W.frame _ _ _ hst' fun b hbf o e => ?_) (hH _ _ hh' fun b o _ hbS e => (Heap.get?_update_other _ _ (Ne.symm hbS)).trans e) (by simp only [argBest, hb, if_true]; exact hP) (Heap.get?_update_self _ hS' rfl)
        fun v' h'' tk'' hP' hk'' => ?_⟩
      · exact (Heap.get?_update_other _ _ (fun h : S = b => hSf (by rw [h]; exact hbf))).trans e
      · exact hR v' h'' tk'' hP' fun b o hbw hbS e => hk'' b o hbw hbS ((Heap.get?_update_other _ _ (Ne.symm hbS)).trans (hk' b o hbw e))
    | false =>
      simp only [Bool.false_eq_true, if_false]
      refine wpAny_bind (wpAny_letGo ?_)
      rw [hname]
      refine wpAny_pure ⟨plainId_quiet F.plain_min_loop _, ih (j + 1) _ vb c (by omega) hlt hst' hh' (by simp only [argBest, hb, Bool.false_eq_true, if_false]; exact hPb) hS' fun v' h'' tk'' hP' hk'' => ?_⟩
      exact hR v' h'' tk'' hP' fun b o hbw hbS e => hk'' b o hbw hbS (hk' b o hbw e)
theorem min_loop_first (W : Walks prog w A.in1 I fp wr n P St) (bt : Nat → Nat → Bool) (hcmp : CmpIn prog w A.in1 H P bt) (S : Addr) (hSf : S ∉ fp) (hH : ∀ h h', H h → (∀ b o, b ∉ wr → b ≠ S → h.get? b = some o → h'.get? b = some o) → H h') (hn : 0 < n) {s : Shared} {c : Nat} (hst : St 0 s.heap) (hh : H s.heap)
    (hS : s.heap.get? S = some { cls := .type "list", dict := none, data := .seq #[] c, slots := #[] })
    (hR : ∀ v h' tk, P (argBest bt (n - 1)) v → (∀ b o, b ∉ wr → b ≠ S → s.heap.get? b = some o → h'.get? b = some o) → Rs (.ok (.ret v)) { s with heap := h', toks := tk }) :
    codeAny (model prog w) A (.builtin "min.loop" ⟨[.ref I, .none, .ref S], []⟩) Rs s := by
  have hSw : S ∉ wr := fun h => hSf (W.sub _ h)
  have hname : (toString "min" ++ toString ".loop" : String) = "min.loop" := by decide
  refine codeAny_builtin F.entry_min_loop ?_
  rw [Around.under_plainId F.plain_min_loop _]
  show wpAny _ A.in1 (seqItems? (.ref S) >>= _) _ _ s
  refine wpAny_bind (wpAny_seqItems hS rfl ?_)
  show wpAny _ A.in1 (tryCatch (pyNext (.ref I)) _ >>= _) _ _ s
  refine wpAny_bind (wpAny_tryCatch (W.item 0 s _ _ hn hst fun v h' tk hP hst' hk' => ?_))
  have hS' := hk' S _ hSw hS
  have hh' : H h' := hH _ _ hh fun b o hb _ e => hk' b o hb e
  show wpAny _ A.in1 (updateSeq S (fun _ => #[v, v]) >>= _) _ _ _
  refine wpAny_bind ?_
  refine wpAny_updateSeq hS' rfl ?_
  rw [hname]
  refine wpAny_pure ⟨plainId_quiet F.plain_min_loop _, min_loop W bt hcmp S hSf hH _ 0 _ v _ rfl hn (W.frame _ _ _ hst' fun b hbf o e => ?_) (hH _ _ hh' fun b o _ hbS e => (Heap.get?_update_other _ _ (Ne.symm hbS)).trans e) hP (Heap.get?_update_self _ hS' rfl) fun v' h'' tk'' hP' hk'' => ?_⟩
  · exact (Heap.get?_update_other _ _ (fun h : S = b => hSf (by rw [h]; exact hbf))).trans e
  · exact hR v' h'' tk'' hP' fun b o hbw hbS e => hk'' b o hbw hbS ((Heap.get?_update_other _ _ (Ne.symm hbS)).trans (hk' b o hbw e))
end
section
variable {prog : Program} {w : World} {A : Around} {E : Value → Shared → Prop} {s : Shared}
variable {base : Heap} {R : Addr → Obj → Prop} {Fs : List Env} {env : Env} {own : List Addr} {Av : Addr → Prop} {z : Shared} {ρ : Str → Option Value} {news : List (Addr × Obj)}
/-- min of a list of data that `<` may meet -/
theorem d_min {l : Addr} {vs : List Value} {k : Nat} {ds : List Dat} {Q : Value → Shared → Prop} (S : St base R Fs env own Av z ρ news s) (hh : A.handled = none) (hl : (l, listOf vs.toArray k) ∈ news) (D : DatAll news vs ds) (hk : ∀ d ∈ ds, kqdOk 4 d = true) (hc : ∀ d ∈ ds, ∀ e ∈ ds, dcan d e = true) (hne : 0 < ds.length) (hz : ds.length ≤ 1000) (hu : A.units + 20 < cLine)
    (h : ∀ v s', (hb : argBest (fun i j => dlt (ds.getD i .none) (ds.getD j .none)) (ds.length - 1) < ds.length) → vs[argBest (fun i j => dlt (ds.getD i .none) (ds.getD j .none)) (ds.length - 1)]? = some v → St base R Fs env own Av z ρ news s' → Q v s') : wpAny (model prog w) A (call (.builtin "min") [.ref l]) Q E s := by
  have hlen := D.length
  have hol := S.get hl
  have hlt : l < s.heap.objs.size := Heap.lt_size hol
  have hne' : l ≠ s.heap.objs.size := Nat.ne_of_lt hlt
  have hname : (toString "min" ++ toString ".loop" : String) = "min.loop" := by decide
  refine call_function_tree F.kind_min F.plain_min F.entry_min (F.args_min1 _) ?_
  show wpAny _ A.in1 (Builtin.Builtins.bindParams "min" ["key", "default"] 0 ⟨[], []⟩ >>= _) _ _ s
  refine wpAny_bind (wpAny_of_eq (show Builtin.Builtins.bindParams "min" ["key", "default"] 0 ⟨[], []⟩ = pure [none, none] from rfl) ?_)
  refine wpAny_bind (wpAny_pure ?_)
  refine wpAny_bind (wpAny_pyIter_list ⟨_, hol, rfl, k, rfl⟩ ?_)
  have S2 : St base R Fs env own Av z ρ news { s with heap := s.heap.push { cls := .type "list_iterator", data := .fields #[.ref l, .int 0 0] } } := S.grow0 ⟨rfl, rfl, rfl⟩ fun _ _ e => Heap.get?_push_of_some _ e
  refine wpAny_bind (wpAny_newObj_type ?_)
  have S3 : St base R Fs env own Av z ρ news { s with heap := (s.heap.push { cls := .type "list_iterator", data := .fields #[.ref l, .int 0 0] }).push { cls := .type "list", data := .seq ([] : List Value).toArray } } := S2.grow0 ⟨rfl, rfl, rfl⟩ fun _ _ e => Heap.get?_push_of_some _ e
  rw [hname]
  have hz1 : (s.heap.push { cls := .type "list_iterator", data := .fields #[.ref l, .int 0 0] }).objs.size = s.heap.objs.size + 1 := Heap.size_push ..
  have mem : ∀ i v, vs.toArray[i]? = some v → ∃ d, ds.getD i .none = d ∧ d ∈ ds ∧ DatIn news v d := fun i v hv => by
    have hv' : vs[i]? = some v := by simpa using hv
    have hi : i < ds.length := by rw [← hlen]; exact (List.getElem?_eq_some_iff.mp hv').1
    obtain ⟨v', hv2, hd⟩ := D.get hi
    rw [hv'] at hv2; cases hv2
    refine ⟨ds[i], ?_, List.getElem_mem _, hd⟩
    rw [List.getD_eq_getElem?_getD, List.getElem?_eq_getElem hi]; rfl
  have ntouch : ∀ p ∈ news, p.1 ≠ s.heap.objs.size ∧ p.1 ≠ s.heap.objs.size + 1 := fun p hp => by
    have := Heap.lt_size (S.led p hp).1
    exact ⟨Nat.ne_of_lt this, Nat.ne_of_lt (Nat.lt_succ_of_lt this)⟩
  refine wpAny_pure ⟨plainId_quiet F.plain_min_loop _, ?_⟩
  show codeAny (model prog w) A (.builtin "min.loop" ⟨[.ref s.heap.objs.size, .none, .ref (s.heap.push { cls := .type "list_iterator", data := .fields #[.ref l, .int 0 0] }).objs.size], []⟩) _ _
  rw [hz1]
  refine min_loop_first (A := A) (H := fun h => Led h news) (Walks.list (A := A.in1) hh s.heap.objs.size l hne' vs.toArray) (fun i j => dlt (ds.getD i .none) (ds.getD j .none)) ?_ (s.heap.objs.size + 1) ?_ ?_ (by simp [hlen]; exact hne) ⟨⟨_, Heap.get?_push_of_some _ (Heap.get?_push_size _ rfl), rfl, rfl⟩, ⟨_, Heap.get?_push_of_some _ (Heap.get?_push_of_some _ hol), rfl, k, rfl⟩⟩ S3.held (by
    have := Heap.get?_push_size (s.heap.push { cls := .type "list_iterator", data := .fields #[.ref l, .int 0 0] }) (o := { cls := .type "list", data := .seq ([] : List Value).toArray }) rfl
    rw [hz1] at this; exact this) ?_
  · intro i j vi vj s' Q' E' N hi hj hq
    obtain ⟨d, e1, m1, r1⟩ := mem i vi hi
    obtain ⟨e, e2, m2, r2⟩ := mem j vj hj
    dsimp only at hq
    rw [e1, e2] at hq
    exact ltD (A := A.in1) 4 N r1 r2 (hk _ m1) (hk _ m2) (hc _ m1 _ m2) (by show A.units + 1 + 2 * 4 < cLine; omega) hq
  · intro m
    rcases List.mem_cons.mp m with q | m
    · exact Nat.succ_ne_self _ q
    · have q : s.heap.objs.size + 1 = l := List.mem_singleton.mp m
      have : @LT.lt Nat _ l s.heap.objs.size := hlt
      rw [← q] at this
      exact absurd this (Nat.not_lt.mpr (Nat.le_succ _))
  · intro h h' N kk p hp
    exact kk _ _ (by simpa using (ntouch p hp).1) (ntouch p hp).2 (N p hp)
  · intro v h' tk hv kk
    have hv' : vs[argBest (fun i j => dlt (ds.getD i .none) (ds.getD j .none)) (ds.length - 1)]? = some v := by
      have e : vs.toArray.size = ds.length := by simp [hlen]
      rw [e] at hv
      simpa using hv
    have hlt2 : argBest (fun i j => dlt (ds.getD i .none) (ds.getD j .none)) (ds.length - 1) < ds.length := by
      exact Nat.lt_of_lt_of_eq (List.getElem?_eq_some_iff.mp hv').1 hlen
    refine h v _ hlt2 hv' ?_
    have mem2 : ∀ b o, s.heap.get? b = some o → h'.get? b = some o := fun b o e => by
      have hb := Heap.lt_size e
      refine kk b o (by simpa using Nat.ne_of_lt hb) (Nat.ne_of_lt (Nat.lt_succ_of_lt hb)) (Heap.get?_push_of_some _ (Heap.get?_push_of_some _ e))
    exact S.grow0 (s' := { s with heap := h', toks := tk }) ⟨rfl, rfl, rfl⟩ mem2
end
end Mine
end
section
open PySem PySem.W PySem.Calls PyProof.Rows
set_option Elab.async false
set_option maxRecDepth 100000
set_option maxHeartbeats 1000000
namespace Mine
theorem picks_ints {vs : List Value} {ns : List Int} (hi : IntsAre vs ns) : ∀ (l : List Nat), ∃ ms : List Int, IntsAre (l.filterMap (vs.toArray[·]?)) ms ∧ ms.length ≤ l.length
  | [] => ⟨[], .nil, Nat.le_refl _⟩
  | i :: l => by
    obtain ⟨ms, h, hl⟩ := picks_ints hi l
    rw [List.filterMap_cons]
    have key : ∀ {vs : List Value} {ns : List Int}, IntsAre vs ns → ∀ (i : Nat) (v : Value), vs[i]? = some v → ∃ n t, v = .int n t := by
      intro vs ns h
      induction h with
      | nil => intro i v hv; simp at hv
      | cons n t _ ih => intro i v hv; cases i with
        | zero => simp at hv; exact ⟨n, t, hv.symm⟩
        | succ i => exact ih i v (by simpa using hv)
    cases hv : vs.toArray[i]? with
    | none => exact ⟨ms, h, Nat.le_succ_of_le hl⟩
    | some v =>
      obtain ⟨n, t, rfl⟩ := key hi i v (by simpa using hv)
      exact ⟨n :: ms, .cons n t h, by simp; exact hl⟩
section
variable {prog : Program} {w : World} {A : Around} {E : Value → Shared → Prop} {s : Shared}
variable {base : Heap} {R : Addr → Obj → Prop} {Fs : List Env} {env : Env} {own : List Addr} {Av : Addr → Prop} {z : Shared} {ρ : Str → Option Value} {news : List (Addr × Obj)}
theorem d_slice {value slice : Expr} {l : Addr} {vs : List Value} {n : Nat} {vl vu vk : Value} {lo hi st : Option Int} {ops : List Value} {Q : Value → Shared → Prop} (S : St base R Fs env own Av z ρ news s) (hl : (l, listOf vs.toArray n) ∈ news) (pl : IsPart vl lo) (pu : IsPart vu hi) (pk : IsPart vk st) (h0 : st ≠ some 0) (hz : vs.length ≤ 16000)
    (h : ∀ D s', Mu R D → (∀ p ∈ news, p.1 ≠ D) → St base R Fs env own Av z ρ ((D, listOf (slicePick vs.toArray lo hi st).toList.toArray 0) :: news) s' → Q (.ref D) s')
    (hs : subscripted slice false (.ref l) (.ref s.heap.objs.size) = operate ops (getItem (.ref l) (.ref s.heap.objs.size)) := by with_unfolding_all rfl)
    (ht : ∀ r, letTemporaryGo value (.ref l) r = pure () := by intro _; with_unfolding_all rfl) :
    wpAny (model prog w) A (subscriptTail value slice (.ref l) (.ref s.heap.objs.size)) Q E { s with heap := s.heap.push { cls := .type "slice", data := .fields #[vl, vu, vk] } } := by
  obtain ⟨m₀, hm, F0, N0⟩ := S.k0
  refine slice_list3 F0 N0 ⟨_, S.get hl, rfl, n, rfl⟩ pl pu pk h0 (fun h' F' N' => ?_) hs ht (by rw [List.size_toArray, sizeLine_eq]; omega)
  have N2 : News noHeap env.locals h' ([(s.heap.objs.size + 1, listOf (slicePick vs.toArray lo hi st).toList.toArray 0)] ++ allBut s.heap [env.locals]) := by
    rw [Array.toArray_toList]; exact N'
  obtain ⟨S', f⟩ := S.viaK (t := s.toks) hm F' N2 (fun p hp q hq => by rw [List.mem_singleton.mp hp]; exact Nat.lt_succ_of_lt (Heap.lt_size (N0 q hq).1))
  exact h _ _ (f _ (.head _)).1 (f _ (.head _)).2 S'
/-- a part of a list of ints -/
theorem d_sliceI {value slice : Expr} {l : Addr} {vs : List Value} {n : Nat} {ns : List Int} {vl vu vk : Value} {lo hi st : Option Int} {ops : List Value} {Q : Value → Shared → Prop} (S : St base R Fs env own Av z ρ news s) (hl : (l, listOf vs.toArray n) ∈ news) (hi' : IntsAre vs ns) (pl : IsPart vl lo) (pu : IsPart vu hi) (pk : IsPart vk st) (h0 : st ≠ some 0) (hz : vs.length ≤ 16000)
    (h : ∀ D ws ms s', Mu R D → (∀ p ∈ news, p.1 ≠ D) → IntsAre ws ms → St base R Fs env own Av z ρ ((D, listOf ws.toArray 0) :: news) s' → Q (.ref D) s')
    (hs : subscripted slice false (.ref l) (.ref s.heap.objs.size) = operate ops (getItem (.ref l) (.ref s.heap.objs.size)) := by with_unfolding_all rfl)
    (ht : ∀ r, letTemporaryGo value (.ref l) r = pure () := by intro _; with_unfolding_all rfl) :
    wpAny (model prog w) A (subscriptTail value slice (.ref l) (.ref s.heap.objs.size)) Q E { s with heap := s.heap.push { cls := .type "slice", data := .fields #[vl, vu, vk] } } := by
  obtain ⟨ms, hm, _⟩ := picks_ints hi' (sliceRange (sliceBounds lo hi st vs.toArray.size).1 (sliceBounds lo hi st vs.toArray.size).2.1 (sliceBounds lo hi st vs.toArray.size).2.2)
  refine d_slice S hl pl pu pk h0 hz (fun D s' muD nD S' => h D (slicePick vs.toArray lo hi st).toList ms s' muD nD ?_ S') hs ht
  unfold slicePick
  simpa using hm
end
end Mine
end
set_option compiler.extract_closed false
namespace Mine
section
open PySem PySem.W PySem.Calls PyProof.Rows
-- the walk's own lines
local macro_rules | `(tactic| walk_at "look") => `(tactic| first
  | with_reducible assumption
  | with_reducible exact up_self
  | (refine (up_ne ?_).trans ?_; (focus decide); walk_at "look")
  | rfl)
local macro_rules | `(tactic| walk_at "mem") => `(tactic| first
  | with_reducible assumption
  | exact List.mem_cons_self
  | (refine List.mem_cons_of_mem _ ?_; walk_at "mem"))
local macro_rules | `(tactic| walk_at "mulok") => `(tactic| exact IntMulOk.of_left (by decide))
local macro_rules | `(tactic| walk_at "m") => `(tactic| first
  | ((with_reducible show wpAny _ _ (execs _ _) (LoopTo _ _ _ _ _ _ _ _ _) _ _); refine execs_hideQ ?_; intro _ _)
  | ((with_reducible show wpAny _ _ (execs _ _) (WhTo _ _ _ _ _ _ _ _ _ _) _ _); refine execs_hideQ ?_; intro _ _)
  | ((with_reducible show wpAny _ _ (execs _ _) (Ret _ _ _ _ _ _ _ _ _ _) _ _); refine execs_hideQ ?_; intro _ _)
  | (with_reducible refine execs_hide ?_; intro _ _)
  | (with_reducible refine wpAny_execs_nil ?_)
  | (with_reducible refine wpAny_If ?_)
  | (with_reducible refine wpAny_Return_some ?_)
  | (with_reducible refine wpAny_Continue ?_)
  | (with_reducible refine wpAny_Break ?_)
  | (with_reducible refine wpAny_BinOp ?_)
  | (with_reducible refine Subscript_ ?_)
  | (with_reducible refine wpAny_truthy_bool ?_)
  | (with_reducible refine lt_int ?_)
  | (with_reducible refine gt_int ?_)
  | (with_reducible refine ge_int ?_)
  | (with_reducible refine eq_int ?_)
  | (with_reducible refine wpAny_items_nil ?_)
  | (with_reducible refine wpAny_isTrue_BoolOp ?_)
  | (with_reducible refine wpAny_allTrue_And_cons ?_)
  | (with_reducible refine wpAny_allTrue_And_nil ?_)
  | (with_reducible refine wpAny_isTrue_Not ?_)
  | (with_reducible refine wpAny_allTrue_Or_cons ?_)
  | (with_reducible refine wpAny_allTrue_Or_nil ?_)
  | (with_reducible refine wpAny_assign_Name ?_)
  | (with_reducible refine wpAny_Constant_none ?_)
  | (with_reducible refine wpAny_Slice ?_)
  | (with_reducible refine evalPart_none_step ?_)
  | (with_reducible refine evalPart_some_step ?_)
  | (with_reducible refine c_int (by assumption) ?_; intro _ _ _)
  | (with_reducible refine c_str (by assumption) ?_; intro _ _ _)
  | (with_reducible refine b_add (by assumption) ?_; intro _ _ _)
  | (with_reducible refine b_sub (by assumption) ?_; intro _ _ _)
  | (with_reducible refine b_and (by assumption) ?_; intro _ _ _)
  | (with_reducible refine b_xor (by assumption) ?_; intro _ _ _)
  | ((with_reducible refine b_shr1 (by assumption) ?_ ?_); omega; intro _ _ _)
  | ((with_reducible refine b_mul (by assumption) ?_ ?_); walk_at "mulok"; intro _ _ _)
  | ((with_reducible refine b_mod' (by assumption) ?_ ?_); decide; intro _ _ _)
  | ((with_reducible refine b_div' (by assumption) ?_ ?_ ?_); decide; decide; intro _ _ _)
  | ((with_reducible refine l_len (by assumption) (by assumption) ?_ ?_); omega; intro _ _ _)
  | ((with_reducible refine l_truthy (by assumption) (by assumption) ?_ ?_); omega; intro _ _)
  | ((with_reducible refine stL (by assumption) ?_ ?_); rfl; intro _ _)
  | ((with_reducible show wpAny _ _ (eval (Expr.Name _ _) _) _ _ _); refine ldv (by with_reducible assumption) (by walk_at "look") ?_)
  | ((with_reducible show wpAny _ _ (exec (Stmt.Expr _ _) _) _ _ _); refine wpAny_Expr_any ?_)
  | ((with_reducible show wpAny _ _ (exec (Stmt.Assign [Expr.Name _ _] _ _) _) _ _ _); refine wpAny_Assign_Name ?_)
  | ((with_reducible show wpAny _ _ (isTrue (Expr.Compare _ [_] [_] _) _ _) _ _ _); refine wpAny_isTrue_Compare1 ?_)
  | ((with_reducible show wpAny _ _ (eval (Expr.Compare _ [_] [_] _) _) _ _ _); refine wpAny_Compare1 ?_)
  | ((with_reducible show wpAny _ _ (exec (Stmt.Assign [Expr.Subscript _ _ _] _ _) _) _ _ _); refine wpAny_Assign_Subscript ?_)
  | ((with_reducible show wpAny _ _ (spliced (backTo _ (starEach (_ :: _) _))) _ _ _); refine wpAny_items_cons ?_)
  | ((with_reducible show wpAny _ _ (isTrue (Expr.Name _ _) _ _) _ _ _); refine wpAny_isTrue_value ?_)
  | ((with_reducible show wpAny _ _ (eval (Expr.Call (Expr.Name _ _) (_ :: _) [] _) _) _ _ _); first | refine k_bi (by with_reducible assumption) (by assumption) (by assumption) (by rfl) (by decide) (by exact List.cons_ne_nil _ _) ?_ | refine k_ty (by with_reducible assumption) (by assumption) (by assumption) (by rfl) (by decide) (by exact List.cons_ne_nil _ _) ?_)
  | ((with_reducible show (ite (true = true) _ _)); rw [if_pos rfl])
  | ((with_reducible show (ite (false = true) _ _)); rw [if_neg Bool.false_ne_true])
  | ((with_reducible show wpAny _ _ (exec (Stmt.For _ _ _ _ _) _) _ _ _); refine for_ ?_)
  | ((with_reducible show wpAny _ _ (exec (Stmt.Assign [Expr.Attribute _ _ _] _ _) _) _ _ _); refine plainObj_wpAny_Assign_Attribute ?_)
  | ((with_reducible show wpAny _ _ (eval (Expr.Attribute _ _ _) _) _ _ _); refine e_attr ?_)
  | (with_reducible refine HS.next (by assumption) ?_)
  | (with_reducible refine HS.ret (by assumption) ?_)
  | (with_reducible refine HS.brk (by assumption) ?_)
  | (with_reducible refine HS.cont (by assumption) ?_)
  | (with_reducible refine CQ.use (by assumption) ?_)
  | (with_reducible refine HQ.use (by assumption) ?_)
  | (with_reducible refine LoopTo.next ?_)
  | (with_reducible refine LoopTo.cont ?_)
  | (with_reducible refine LoopTo.brk ?_)
  | (with_reducible refine LoopTo.ret ?_)
  | (with_reducible refine WhTo.next ?_)
  | (with_reducible refine WhTo.cont ?_)
  | (with_reducible refine WhTo.brk ?_)
  | (with_reducible refine WhTo.ret ?_)
  | ((fail_if_success (with_reducible show wpAny _ _ _ _ _ _)); dsimp only; with_reducible first | show wpAny _ _ _ _ _ _ | show WhTo _ _ _ _ _ _ _ _ _ _ _ _ | show LoopTo _ _ _ _ _ _ _ _ _ _ _ | show Ret _ _ _ _ _ _ _ _ _ _ _ _))


set_option Elab.async false
set_option maxRecDepth 100000
set_option maxHeartbeats 2000000
section

noncomputable def sdGo {D : Type} (lt : D → D → Bool) (x : D) (start : Nat) : Nat → List D → Nat → List D × Nat
  | 0, xs, p => (xs, p)
  | f + 1, xs, p => if p > start then
      match xs[(p - 1) / 2]? with
      | some y => if lt x y = true then sdGo lt x start f (xs.set p y) ((p - 1) / 2) else (xs, p)
      | none => (xs, p)
    else (xs, p)
noncomputable def siftdown {D : Type} (lt : D → D → Bool) (xs : List D) (start p : Nat) : List D :=
  match xs[p]? with
  | some x => (sdGo lt x start p xs p).1.set (sdGo lt x start p xs p).2 x
  | none => xs

inductive SdJ {D : Type} {prog : Program} {w : World} (K : Kind D prog w) (news : List (Addr × Obj)) (hp : Addr) (start p : Nat) (t : Tok) (nv : Value) (x : D) (ds : List D) (k : Nat) (ρ' : Str → Option Value) (news' : List (Addr × Obj)) : Prop
  | mk (q : Nat) (vs₁ : List Value) (n₁ : Nat) (ds₁ : List D) (u₁ : Tok) (f : Nat) (e : k = q) (h1 : q ≤ p) (h2 : q ≤ f) (l1 : ρ' "heap" = some (.ref hp)) (l2 : ρ' "startpos" = some (.int start t)) (l3 : ρ' "pos" = some (.int q u₁)) (l4 : ρ' "newitem" = some nv)
      (hl : (hp, listOf vs₁.toArray n₁) ∈ news') (hr : Rels (K.Rel news') vs₁ ds₁) (len : ds₁.length = ds.length) (hn : K.Rel news' nv x) (sub : ∀ y ∈ news, y.1 ≠ hp → y ∈ news') (go : sdGo K.lt x start f ds₁ q = sdGo K.lt x start p ds p) : SdJ K news hp start p t nv x ds k ρ' news'
section
variable {prog : Program} {w : World} {A : Around} {base : Heap} {tab : List (Str × Option Value)} {news : List (Addr × Obj)} {D : Type} (K : Kind D prog w)
theorem siftdown_con {f hp : Addr} {vs : List Value} {n : Nat} {ds : List D} {start p : Nat} {t u : Tok} (F : FnP base tab "_siftdown" f) (G : GF base tab) (rm : Room A 2)
    (hl : (hp, listOf vs.toArray n) ∈ news) (hb : base.get? hp = none) (hr : Rels (K.Rel news) vs ds) (hp' : p < ds.length) (hz : ds.length ≤ 1000) :
    Con prog w base A (.ref f) [.ref hp, .int start t, .int p u] [hp] news (fun _ news' => ∃ vs' n', (hp, listOf vs'.toArray n') ∈ news' ∧ Rels (K.Rel news') vs' (siftdown K.lt ds start p)) := by
  have e : fnOfP "_siftdown" = fnOfP "_siftdown" := rfl
  conv at e => rhs; whnf
  unfold FnP at F
  rw [e] at F
  clear e
  dsimp only at F
  refine Con.ofFn (binds := [(Str.ofString "heap", .ref hp), (Str.ofString "startpos", .int start t), (Str.ofString "pos", .int p u)]) F G rm (by rfl) (by rfl) (by rfl) (fun _ _ _ => by rfl) (by rfl) (by rfl) (by decide) (fun a m => by rw [List.mem_singleton.mp m]; exact ⟨⟨_, hl⟩, hb⟩) ?_
  clear F
  intro z s A R Fs L Av cdv rm hfr mu S
  repeat' walk_at "m"
  obtain ⟨nv, hnv, hnr⟩ := hr.at hp'
  refine i_list S hl (by omega) (by omega) (by simpa using hnv) ?_
  repeat' walk_at "m"
  rename St _ _ _ _ _ _ _ _ _ _ => S1
  refine while_ (J := SdJ K news hp start p t nv ds[p] ds) p S1
    ⟨p, vs, n, ds, u, p, rfl, Nat.le_refl _, Nat.le_refl _, by walk_at "look", by walk_at "look", by walk_at "look", by walk_at "look", hl, hr, rfl, hnr, fun x hx _ => hx, rfl⟩ ?_
  clear S1
  rintro q ρ' news' s2 Q₁ hQ₁ ⟨_, vs₁, n₁, ds₁, u₁, f₁, rfl, hqp, hqf, l1, l2, l3, l4, hl₁, hr₁, hlen, hnr₁, sub, hgo⟩ S2
  repeat' walk_at "m"
  by_cases hgt : start < q
  · rw [if_pos (by simpa using hgt)]
    repeat' walk_at "m"
    have e1 : ((q : Int) - 1) / 2 = (((q - 1) / 2 : Nat) : Int) := by omega
    rw [e1]
    repeat' walk_at "m"
    have hq2 : (q - 1) / 2 < ds₁.length := by omega
    obtain ⟨pv, hpv, hpr⟩ := hr₁.at hq2
    refine i_list (by assumption) hl₁ (by omega) (by omega) (show vs₁.toArray[(q - 1) / 2]? = some pv by simpa using hpv) ?_
    repeat' walk_at "m"
    rename St _ _ _ _ _ _ _ _ _ _ => S5
    refine K.cmp rm.hh rm.ul S5.held hnr₁ hpr ?_
    repeat' walk_at "m"
    by_cases hlt : K.lt ds[p] ds₁[(q - 1) / 2] = true
    · rw [if_pos hlt]
      repeat' walk_at "m"
      refine s_item S5 hl₁ (mu hp (by simp)) (by omega) (by omega) (by rw [hr₁.1]; show q < _; omega) ?_
      intro n₂ s6 S6
      repeat' walk_at "m"
      obtain ⟨f', rfl⟩ : ∃ f', f₁ = f' + 1 := ⟨f₁ - 1, by omega⟩
      have tp := S5.tups hl₁ (listOf (vs₁.set (q : Int).toNat pv).toArray n₂)
      rename St _ _ _ _ _ _ _ _ _ _ => S7
      refine ⟨_, _, (q - 1) / 2, S7, ⟨_, _, _, ds₁.set q ds₁[(q - 1) / 2], _, f', rfl, by omega, by omega, by walk_at "look", by walk_at "look", by rw [← e1]; exact up_self, by walk_at "look", setN_self hl₁,
        (hr₁.mono fun v d h => K.mono h tp).set q (K.mono hpr tp), by rw [List.length_set]; exact hlen, K.mono hnr₁ tp, sub_setN sub, ?_⟩, by omega⟩
      rw [← hgo, sdGo, if_pos hgt, List.getElem?_eq_getElem hq2]
      dsimp only
      rw [if_pos hlt]
    · rw [if_neg hlt]
      repeat' walk_at "m"
      refine s_item S5 hl₁ (mu hp (by simp)) (by omega) (by omega) (by rw [hr₁.1]; show q < _; omega) ?_
      intro n₂ s6 S6
      repeat' walk_at "m"
      have tp := S5.tups hl₁ (listOf (vs₁.set (q : Int).toNat nv).toArray n₂)
      refine ⟨_, _, S6, fun x hx hn => sub_setN sub x hx (by simpa using hn), _, _, setN_self hl₁, ?_⟩
      have ee : siftdown K.lt ds start p = ds₁.set q ds[p] := by
        obtain ⟨f', rfl⟩ : ∃ f', f₁ = f' + 1 := ⟨f₁ - 1, by omega⟩
        have h2 : sdGo K.lt ds[p] start (f' + 1) ds₁ q = (ds₁, q) := by
          rw [sdGo, if_pos hgt, List.getElem?_eq_getElem hq2]
          dsimp only
          rw [if_neg hlt]
        rw [siftdown, List.getElem?_eq_getElem hp']
        dsimp only
        rw [← hgo, h2]
      rw [ee]
      exact (hr₁.mono fun v d h => K.mono h tp).set q (K.mono hnr₁ tp)
  · rw [if_neg (by simpa using hgt)]
    repeat' walk_at "m"
    refine s_item S2 hl₁ (mu hp (by simp)) (by omega) (by omega) (by rw [hr₁.1]; show q < _; omega) ?_
    intro n₂ s6 S6
    repeat' walk_at "m"
    have tp := S2.tups hl₁ (listOf (vs₁.set (q : Int).toNat nv).toArray n₂)
    refine ⟨_, _, S6, fun x hx hn => sub_setN sub x hx (by simpa using hn), _, _, setN_self hl₁, ?_⟩
    have ee : siftdown K.lt ds start p = ds₁.set q ds[p] := by
      have h2 : sdGo K.lt ds[p] start f₁ ds₁ q = (ds₁, q) := by
        cases f₁ with
        | zero => rfl
        | succ f' => rw [sdGo, if_neg hgt]
      rw [siftdown, List.getElem?_eq_getElem hp']
      dsimp only
      rw [← hgo, h2]
    rw [ee]
    exact (hr₁.mono fun v d h => K.mono h tp).set q (K.mono hnr₁ tp)
end
end
set_option Elab.async false
set_option maxRecDepth 100000
set_option maxHeartbeats 2000000
section
noncomputable def suGo {D : Type} (lt : D → D → Bool) : Nat → List D → Nat → List D × Nat
  | 0, xs, p => (xs, p)
  | f + 1, xs, p => match xs[2 * p + 1]? with
      | some a => match xs[2 * p + 2]? with
          | some b => if lt a b = true then suGo lt f (xs.set p a) (2 * p + 1) else suGo lt f (xs.set p b) (2 * p + 2)
          | none => suGo lt f (xs.set p a) (2 * p + 1)
      | none => (xs, p)
noncomputable def siftup {D : Type} (lt : D → D → Bool) (xs : List D) (p : Nat) : List D :=
  match xs[p]? with
  | some x => siftdown lt ((suGo lt xs.length xs p).1.set (suGo lt xs.length xs p).2 x) p (suGo lt xs.length xs p).2
  | none => xs
inductive SuJ {D : Type} {prog : Program} {w : World} (K : Kind D prog w) (news : List (Addr × Obj)) (hp : Addr) (p : Nat) (nv : Value) (x : D) (ds : List D) (k : Nat) (ρ' : Str → Option Value) (news' : List (Addr × Obj)) : Prop
  | mk (q : Nat) (vs₁ : List Value) (n₁ : Nat) (ds₁ : List D) (u₁ u₂ u₃ u₄ : Tok) (f : Nat) (e : k = 2 * ds.length - q) (h1 : q < ds.length) (h2 : ds.length ≤ q + f) (l1 : ρ' "heap" = some (.ref hp)) (l2 : ρ' "startpos" = some (.int p u₁)) (l3 : ρ' "pos" = some (.int q u₂)) (l4 : ρ' "newitem" = some nv)
      (l5 : ρ' "childpos" = some (.int ((2 * q + 1 : Nat) : Int) u₃)) (l6 : ρ' "endpos" = some (.int ds.length u₄))
      (hl : (hp, listOf vs₁.toArray n₁) ∈ news') (hr : Rels (K.Rel news') vs₁ ds₁) (len : ds₁.length = ds.length) (hn : K.Rel news' nv x) (sub : ∀ y ∈ news, y.1 ≠ hp → y ∈ news') (go : suGo K.lt f ds₁ q = suGo K.lt ds.length ds p) : SuJ K news hp p nv x ds k ρ' news'
section
variable {prog : Program} {w : World} {A : Around} {base : Heap} {tab : List (Str × Option Value)} {news : List (Addr × Obj)} {D : Type} (K : Kind D prog w)
theorem siftup_con {f fd hp : Addr} {vs : List Value} {n : Nat} {ds : List D} {p : Nat} {u : Tok} (F : FnP base tab "_siftup" f) (Fd : FnP base tab "_siftdown" fd) (G : GF base tab) (tl : TB tab "len") (rm : Room A 3)
    (hl : (hp, listOf vs.toArray n) ∈ news) (hb : base.get? hp = none) (hr : Rels (K.Rel news) vs ds) (hp' : p < ds.length) (hz : ds.length ≤ 1000) :
    Con prog w base A (.ref f) [.ref hp, .int p u] [hp] news (fun _ news' => ∃ vs' n', (hp, listOf vs'.toArray n') ∈ news' ∧ Rels (K.Rel news') vs' (siftup K.lt ds p)) := by
  have e : fnOfP "_siftup" = fnOfP "_siftup" := rfl
  conv at e => rhs; whnf
  unfold FnP at F
  rw [e] at F
  clear e
  dsimp only at F
  refine Con.ofFn (binds := [(Str.ofString "heap", .ref hp), (Str.ofString "pos", .int p u)]) F G rm (by rfl) (by rfl) (by rfl) (fun _ _ _ => by rfl) (by rfl) (by rfl) (by decide) (fun a m => by rw [List.mem_singleton.mp m]; exact ⟨⟨_, hl⟩, hb⟩) ?_
  clear F
  intro z s A R Fs L Av cdv rm hfr mu S
  have hzv : vs.length = ds.length := hr.1
  repeat' walk_at "m"
  obtain ⟨nv, hnv, hnr⟩ := hr.at hp'
  refine i_list (by assumption) hl (by omega) (by omega) (by simpa using hnv) ?_
  repeat' walk_at "m"
  rename St _ _ _ _ _ _ _ _ _ _ => S1
  refine while_ (J := SuJ K news hp p nv ds[p] ds) (2 * ds.length - p) S1
    ⟨p, vs, n, ds, u, u, _, _, ds.length, rfl, hp', by omega, by walk_at "look", by walk_at "look", by walk_at "look", by walk_at "look", by walk_at "look", by rw [← hzv]; walk_at "look", hl, hr, rfl, hnr, fun x hx _ => hx, rfl⟩ ?_
  clear S1
  rintro _ ρ' news' s2 Q₁ hQ₁ ⟨q, vs₁, n₁, ds₁, u₁, u₂, u₃, u₄, f₁, rfl, hqn, hqf, l1, l2, l3, l4, l5, l6, hl₁, hr₁, hlen, hnr₁, sub, hgo⟩ S2
  repeat' walk_at "m"
  by_cases hc : 2 * q + 1 < ds.length
  · rw [if_pos (by rw [decide_eq_true_eq]; omega)]
    obtain ⟨f', rfl⟩ : ∃ f', f₁ = f' + 1 := ⟨f₁ - 1, by omega⟩
    obtain ⟨av, hav, har⟩ := hr₁.at (show 2 * q + 1 < ds₁.length by omega)
    repeat' walk_at "m"
    by_cases hc2 : 2 * q + 2 < ds.length
    · rw [if_pos (by rw [decide_eq_true_eq]; omega)]
      obtain ⟨bv, hbv, hbr⟩ := hr₁.at (show 2 * q + 2 < ds₁.length by omega)
      repeat' walk_at "m"
      refine i_list (by assumption) hl₁ (by omega) (by omega) (show vs₁.toArray[2 * q + 1]? = some av by simpa using hav) ?_
      repeat' walk_at "m"
      refine i_list (by assumption) hl₁ (by omega) (by omega) (show vs₁.toArray[2 * q + 2]? = some bv by simpa using hbv) ?_
      repeat' walk_at "m"
      rename St _ _ _ _ _ _ _ _ _ _ => S3
      refine K.cmp rm.hh rm.ul S3.held har hbr ?_
      repeat' walk_at "m"
      by_cases hlt : K.lt ds₁[2 * q + 1] ds₁[2 * q + 2] = true
      · rw [hlt]
        show ite (false = true) _ _
        repeat' walk_at "m"
        repeat' walk_at "m"
        refine i_list (by assumption) hl₁ (by omega) (by omega) (show vs₁.toArray[2 * q + 1]? = some av by simpa using hav) ?_
        repeat' walk_at "m"
        rename St _ _ _ _ _ _ _ _ _ _ => S4
        refine s_item S4 hl₁ (mu hp (by simp)) (by omega) (by omega) (by rw [hr₁.1]; show q < _; omega) ?_
        intro n₂ s6 S6
        repeat' walk_at "m"
        rename St _ _ _ _ _ _ _ _ _ _ => S7
        have tp := S4.tups hl₁ (listOf (vs₁.set (q : Int).toNat av).toArray n₂)
        refine ⟨_, _, 2 * ds.length - (2 * q + 1), S7, ⟨2 * q + 1, _, _, ds₁.set q ds₁[2 * q + 1], u₁, _, _, u₄, f', rfl, by omega, by omega, by walk_at "look", by walk_at "look", by walk_at "look", by walk_at "look", by walk_at "look", by walk_at "look", setN_self hl₁,
          (hr₁.mono fun v d h => K.mono h tp).set q (K.mono har tp), by rw [List.length_set]; exact hlen, K.mono hnr₁ tp, sub_setN sub, ?_⟩, by omega⟩
        rw [← hgo, suGo, List.getElem?_eq_getElem (show 2 * q + 1 < ds₁.length by omega), List.getElem?_eq_getElem (show 2 * q + 2 < ds₁.length by omega)]
        dsimp only
        rw [if_pos hlt]
      · rw [Bool.eq_false_iff.mpr hlt]
        show ite (true = true) _ _
        repeat' walk_at "m"
        repeat' walk_at "m"
        refine i_list (by assumption) hl₁ (by omega) (by omega) (show vs₁.toArray[2 * q + 2]? = some bv by simpa using hbv) ?_
        repeat' walk_at "m"
        rename St _ _ _ _ _ _ _ _ _ _ => S4
        refine s_item S4 hl₁ (mu hp (by simp)) (by omega) (by omega) (by rw [hr₁.1]; show q < _; omega) ?_
        intro n₂ s6 S6
        repeat' walk_at "m"
        rename St _ _ _ _ _ _ _ _ _ _ => S7
        have tp := S4.tups hl₁ (listOf (vs₁.set (q : Int).toNat bv).toArray n₂)
        refine ⟨_, _, 2 * ds.length - (2 * q + 2), S7, ⟨2 * q + 2, _, _, ds₁.set q ds₁[2 * q + 2], u₁, _, _, u₄, f', rfl, by omega, by omega, by walk_at "look", by walk_at "look", by walk_at "look", by walk_at "look", by walk_at "look", by walk_at "look", setN_self hl₁,
          (hr₁.mono fun v d h => K.mono h tp).set q (K.mono hbr tp), by rw [List.length_set]; exact hlen, K.mono hnr₁ tp, sub_setN sub, ?_⟩, by omega⟩
        rw [← hgo, suGo, List.getElem?_eq_getElem (show 2 * q + 1 < ds₁.length by omega), List.getElem?_eq_getElem (show 2 * q + 2 < ds₁.length by omega)]
        dsimp only
        rw [if_neg hlt]
    · rw [if_neg (by rw [decide_eq_true_eq]; omega)]
      (
        repeat' walk_at "m"
        refine i_list (by assumption) hl₁ (by omega) (by omega) (show vs₁.toArray[2 * q + 1]? = some av by simpa using hav) ?_
        repeat' walk_at "m"
        rename St _ _ _ _ _ _ _ _ _ _ => S4
        refine s_item S4 hl₁ (mu hp (by simp)) (by omega) (by omega) (by rw [hr₁.1]; show q < _; omega) ?_
        intro n₂ s6 S6
        repeat' walk_at "m"
        rename St _ _ _ _ _ _ _ _ _ _ => S7
        have tp := S4.tups hl₁ (listOf (vs₁.set (q : Int).toNat av).toArray n₂)
        refine ⟨_, _, 2 * ds.length - (2 * q + 1), S7, ⟨2 * q + 1, _, _, ds₁.set q ds₁[2 * q + 1], u₁, _, _, u₄, f', rfl, by omega, by omega, by walk_at "look", by walk_at "look", by walk_at "look", by walk_at "look", by walk_at "look", by walk_at "look", setN_self hl₁,
          (hr₁.mono fun v d h => K.mono h tp).set q (K.mono har tp), by rw [List.length_set]; exact hlen, K.mono hnr₁ tp, sub_setN sub, ?_⟩, by omega⟩
        rw [← hgo, suGo, List.getElem?_eq_getElem (show 2 * q + 1 < ds₁.length by omega), List.getElem?_eq_none (show ds₁.length ≤ 2 * q + 2 by omega)])
  · rw [if_neg (by rw [decide_eq_true_eq]; omega)]
    repeat' walk_at "m"
    refine s_item S2 hl₁ (mu hp (by simp)) (by omega) (by omega) (by rw [hr₁.1]; show q < _; omega) ?_
    intro n₂ s6 S6
    repeat' walk_at "m"
    have tp := S2.tups hl₁ (listOf (vs₁.set (q : Int).toNat nv).toArray n₂)
    have ee : siftup K.lt ds p = siftdown K.lt (ds₁.set q ds[p]) p q := by
      have h2 : suGo K.lt f₁ ds₁ q = (ds₁, q) := by
        cases f₁ with
        | zero => rfl
        | succ f' => rw [suGo, List.getElem?_eq_none (show ds₁.length ≤ 2 * q + 1 by omega)]
      rw [siftup, List.getElem?_eq_getElem hp']
      dsimp only
      rw [← hgo, h2]
    refine k_call S6 G Fd (List.cons_ne_nil _ _) ?_
    repeat' walk_at "m"
    refine CallTo.mk (X := [hp]) S6 hfr (siftdown_con K (ds := ds₁.set q ds[p]) Fd G rm (setN_self hl₁) hb ((hr₁.mono fun v d h => K.mono h tp).set q (K.mono hnr₁ tp)) (by rw [List.length_set]; omega) (by rw [List.length_set]; omega)) (fun a m => by rw [List.mem_singleton.mp m]; exact ⟨⟨_, setN_self hl₁⟩, mu hp (by simp)⟩) (fun r s' news' S' sub' post => ?_)
    obtain ⟨vs', n', hm', hr'⟩ := post
    repeat' walk_at "m"
    exact ⟨_, _, S', fun x hx hn => sub' x (sub_setN sub x hx (by simpa using hn)) hn, vs', n', hm', by rw [ee]; exact hr'⟩
end
end
set_option Elab.async false
set_option maxRecDepth 100000
set_option maxHeartbeats 2000000
section
noncomputable def heappush {D : Type} (lt : D → D → Bool) (xs : List D) (x : D) : List D := siftdown lt (xs ++ [x]) 0 xs.length
/-- what is taken off, and what stays -/
noncomputable def heappop {D : Type} (lt : D → D → Bool) (xs : List D) (last : D) : D × List D :=
  match xs with
  | [] => (last, [])
  | x :: r => (x, siftup lt (last :: r) 0)
section
variable {prog : Program} {w : World} {A : Around} {base : Heap} {tab : List (Str × Option Value)} {news : List (Addr × Obj)} {D : Type} (K : Kind D prog w)
theorem heappush_con {f fd hp : Addr} {vs : List Value} {n : Nat} {ds : List D} {v : Value} {d : D} (F : FnP base tab "heappush" f) (Fd : FnP base tab "_siftdown" fd) (G : GF base tab) (tl : TB tab "len") (rm : Room A 3)
    (hl : (hp, listOf vs.toArray n) ∈ news) (hb : base.get? hp = none) (hr : Rels (K.Rel news) vs ds) (hv : K.Rel news v d) (hz : ds.length < 1000) :
    Con prog w base A (.ref f) [.ref hp, v] [hp] news (fun _ news' => ∃ vs' n', (hp, listOf vs'.toArray n') ∈ news' ∧ Rels (K.Rel news') vs' (heappush K.lt ds d)) := by
  have e : fnOfP "heappush" = fnOfP "heappush" := rfl
  conv at e => rhs; whnf
  unfold FnP at F
  rw [e] at F
  clear e
  dsimp only at F
  refine Con.ofFn (binds := [(Str.ofString "heap", .ref hp), (Str.ofString "item", v)]) F G rm (by rfl) (by rfl) (by rfl) (fun _ _ _ => by rfl) (by rfl) (by rfl) (by decide) (fun a m => by rw [List.mem_singleton.mp m]; exact ⟨⟨_, hl⟩, hb⟩) ?_
  clear F
  intro z s A R Fs L Av cdv rm hfr mu S
  have hzv : vs.length = ds.length := hr.1
  repeat' walk_at "m"
  refine k_meth PySem.F.plainAttrs_list PySem.F.slot_list_append PySem.F.type_list_append (List.cons_ne_nil _ _) ?_
  repeat' walk_at "m"
  refine ⟨hp, _, _, rfl, S.get hl, ?_⟩
  repeat' walk_at "m"
  refine l_append S hl (mu hp (by simp)) (by omega) ?_
  intro n₁ s₁ S₁
  have tp := S.tups hl (listOf (vs ++ [v]).toArray n₁)
  have hl₁ : (hp, listOf (vs ++ [v]).toArray n₁) ∈ setN hp (listOf (vs ++ [v]).toArray n₁) news := setN_self hl
  have hz₁ : (vs ++ [v]).length = ds.length + 1 := by rw [List.length_append, hzv]; rfl
  repeat' walk_at "m"
  refine k_call S₁ G Fd (List.cons_ne_nil _ _) ?_
  repeat' walk_at "m"
  have e1 : ((vs ++ [v]).length : Int) - 1 = (ds.length : Int) := by omega
  rw [e1]
  rename St _ _ _ _ _ _ _ _ _ _ => S2
  refine CallTo.mk (X := [hp]) S2 hfr (siftdown_con K (start := 0) (p := ds.length) (ds := ds ++ [d]) Fd G rm hl₁ hb ((hr.mono fun v d h => K.mono h tp).append (Rels.one (K.mono hv tp))) (by rw [List.length_append]; simp) (by rw [List.length_append]; simp; omega)) (fun a m => by rw [List.mem_singleton.mp m]; exact ⟨⟨_, hl₁⟩, mu hp (by simp)⟩) (fun r s' news' S' sub' post => ?_)
  obtain ⟨vs', n', hm', hr'⟩ := post
  repeat' walk_at "m"
  exact ⟨_, _, S', fun x hx hn => sub' x (sub_setN (fun y hy _ => hy) x hx (by simpa using hn)) hn, vs', n', hm', hr'⟩

theorem heappop_con {f fu fd hp : Addr} {vs : List Value} {n : Nat} {ds : List D} {d : D} (F : FnP base tab "heappop" f) (Fu : FnP base tab "_siftup" fu) (Fd : FnP base tab "_siftdown" fd) (G : GF base tab) (tl : TB tab "len") (rm : Room A 4)
    (hl : (hp, listOf vs.toArray n) ∈ news) (hb : base.get? hp = none) (hr : Rels (K.Rel news) vs (ds ++ [d])) (hz : ds.length < 1000) :
    Con prog w base A (.ref f) [.ref hp] [hp] news (fun r news' => ∃ vs' n', (hp, listOf vs'.toArray n') ∈ news' ∧ Rels (K.Rel news') vs' (heappop K.lt ds d).2 ∧ K.Rel news' r (heappop K.lt ds d).1) := by
  have e : fnOfP "heappop" = fnOfP "heappop" := rfl
  conv at e => rhs; whnf
  unfold FnP at F
  rw [e] at F
  clear e
  dsimp only at F
  refine Con.ofFn (binds := [(Str.ofString "heap", .ref hp)]) F G rm (by rfl) (by rfl) (by rfl) (fun _ _ _ => by rfl) (by rfl) (by rfl) (by decide) (fun a m => by rw [List.mem_singleton.mp m]; exact ⟨⟨_, hl⟩, hb⟩) ?_
  clear F
  intro z s A R Fs L Av cdv rm hfr mu S
  obtain ⟨vs₁, v, rfl, hr₁, hv⟩ : ∃ vs₁ v, vs = vs₁ ++ [v] ∧ Rels (K.Rel news) vs₁ ds ∧ K.Rel news v d := by
    have hlen := hr.1
    rw [List.length_append, List.length_singleton] at hlen
    obtain ⟨v, hv, hvr⟩ := hr.at' (i := ds.length) (d := d) (by simp)
    have e1 : vs = vs.take ds.length ++ [v] := by
      apply List.ext_getElem?
      intro i
      by_cases hi : i < ds.length
      · rw [List.getElem?_append_left (by rw [List.length_take]; omega), List.getElem?_take, if_pos hi]
      · rw [List.getElem?_append_right (by rw [List.length_take]; omega)]
        by_cases hi2 : i = ds.length
        · subst hi2; rw [hv]; simp [List.length_take, hlen]
        · rw [List.getElem?_eq_none (by omega), List.getElem?_eq_none (by simp [List.length_take]; omega)]
    refine ⟨_, v, e1, ?_, hvr⟩
    have := hr.take ds.length
    simpa using this
  have hzv : vs₁.length = ds.length := hr₁.1
  repeat' walk_at "m"
  refine k_meth0 PySem.F.plainAttrs_list PySem.F.slot_list_pop PySem.F.type_list_pop ?_
  repeat' walk_at "m"
  refine ⟨hp, _, _, rfl, S.get hl, ?_⟩
  refine l_pop S hl (mu hp (by simp)) (by omega) ?_
  intro n₁ s₁ S₁
  have tp := S.tups hl (listOf vs₁.toArray n₁)
  have hl₁ : (hp, listOf vs₁.toArray n₁) ∈ setN hp (listOf vs₁.toArray n₁) news := setN_self hl
  repeat' walk_at "m"
  cases vs₁ with
  | nil =>
    have hd : ds = [] := by cases ds with
      | nil => rfl
      | cons a l => simp at hzv
    subst hd
    show ite (false = true) _ _
    repeat' walk_at "m"
    rename St _ _ _ _ _ _ _ _ _ _ => S2
    exact ⟨_, _, S2, fun x hx hn => setN_ne hx (by simpa using hn), [], _, hl₁, Rels.nil, K.mono hv tp⟩
  | cons xv rv =>
    obtain ⟨x, r, rfl⟩ : ∃ x r, ds = x :: r := by cases ds with
      | nil => simp at hzv
      | cons a l => exact ⟨a, l, rfl⟩
    show ite (true = true) _ _
    have hxr : K.Rel news xv x := hr₁.2 0 xv x rfl rfl
    have hrr : Rels (K.Rel news) rv r := by simpa using hr₁.drop 1
    simp only [List.length_cons] at hzv hz
    repeat' walk_at "m"
    refine i_list (by assumption) hl₁ (by decide) (by decide) (show (xv :: rv).toArray[0]? = some xv by simp) ?_
    repeat' walk_at "m"
    rename St _ _ _ _ _ _ _ _ _ _ => S2
    refine s_item S2 hl₁ (mu hp (by simp)) (by decide) (by decide) (by show 0 < _; simp) ?_
    intro n₂ s3 S3
    have tp2 := S2.tups hl₁ (listOf ((xv :: rv).set (0 : Int).toNat v).toArray n₂)
    have hl₂ : (hp, listOf (v :: rv).toArray n₂) ∈ setN hp (listOf ((xv :: rv).set (0 : Int).toNat v).toArray n₂) (setN hp (listOf (xv :: rv).toArray n₁) news) := setN_self hl₁
    repeat' walk_at "m"
    refine k_call S3 G Fu (List.cons_ne_nil _ _) ?_
    repeat' walk_at "m"
    rename St _ _ _ _ _ _ _ _ _ _ => S4
    have tps : ∀ {v' d'}, K.Rel news v' d' → K.Rel (setN hp (listOf ((xv :: rv).set (0 : Int).toNat v).toArray n₂) (setN hp (listOf (xv :: rv).toArray n₁) news)) v' d' := fun h => K.mono (K.mono h tp) (S2.tups hl₁ _)
    refine CallTo.mk (X := [hp]) S4 hfr (siftup_con K (p := 0) (ds := d :: r) Fu Fd G tl rm hl₂ hb (Rels.cons (K.mono (K.mono hv tp) tp2) (hrr.mono fun v d h => K.mono (K.mono h tp) tp2)) (by simp) (by simp; omega)) (fun a m => by rw [List.mem_singleton.mp m]; exact ⟨⟨_, hl₂⟩, mu hp (by simp)⟩) (fun r s' news' S' sub' post => ?_)
    obtain ⟨vs', n', hm', hr'⟩ := post
    repeat' walk_at "m"
    rename St _ _ _ _ _ _ _ _ _ _ => S5
    refine ⟨_, _, S5, fun x hx hn => sub' x (sub_setN (sub_setN (fun y hy _ => hy)) x hx (by simpa using hn)) hn, vs', n', hm', hr', ?_⟩
    exact K.mono (tps hxr) fun p hp hc => sub' p hp (by simpa using S4.notL hl₂ p hp hc)
end
end
set_option Elab.async false
section
section
variable {D : Type} {lt : D → D → Bool}
noncomputable def par (i : Nat) : Nat := (i - 1) / 2
/-- a total order, told by < -/
structure Ord (lt : D → D → Bool) : Prop where
  asym : ∀ a b, lt a b = true → lt b a = false
  trans : ∀ a b c, lt b a = false → lt c b = false → lt c a = false
noncomputable def OkAt (lt : D → D → Bool) (v : List D) (i : Nat) : Prop := ∀ a b, v[par i]? = some a → v[i]? = some b → lt b a = false
noncomputable def HeapFrom (lt : D → D → Bool) (v : List D) (s : Nat) : Prop := ∀ i, 0 < i → s ≤ par i → OkAt lt v i
inductive Desc (s : Nat) : Nat → Prop
  | self : Desc s s
  | down {q : Nat} : 0 < q → Desc s (par q) → Desc s q
theorem Desc.le {s q : Nat} (h : Desc s q) : s ≤ q := by
  induction h with
  | self => exact Nat.le_refl _
  | down h _ ih => unfold par at ih; omega
theorem Desc.up {s q : Nat} (h : Desc s q) (hq : s < q) : Desc s (par q) := by
  cases h with
  | self => exact absurd hq (Nat.lt_irrefl _)
  | down _ d => exact d
theorem swap_perm {v : List D} {p q : Nat} (hp : p < v.length) (hq : q < v.length) : ((v.set p v[q]).set q v[p]).Perm v := by
  have h := Array.swap_perm (xs := v.toArray) (i := p) (j := q) (by simpa using hp) (by simpa using hq)
  have h2 := h.toList
  simpa [Array.swap, List.set_set] using h2

/-- what siftdown leans on: all is in order but what stands at q may be too small -/
structure SdIn (lt : D → D → Bool) (v : List D) (s q : Nat) : Prop where
  ok : ∀ i, 0 < i → s ≤ par i → i ≠ q → OkAt lt v i
  kids : s < q → ∀ c, 0 < c → par c = q → ∀ a b, v[par q]? = some a → v[c]? = some b → lt b a = false

theorem sd_step (O : Ord lt) {v : List D} {s q : Nat} {x y : D} (hq : s < q) (hd : Desc s q) (hx : v[q]? = some x) (hy : v[par q]? = some y) (hlt : lt x y = true) (I : SdIn lt v s q) : SdIn lt ((v.set q y).set (par q) x) s (par q) := by
  have hpq : par q < q := by unfold par; omega
  have hql : q < v.length := (List.getElem?_eq_some_iff.mp hx).1
  have hyx := O.asym _ _ hlt
  have get : ∀ i, ((v.set q y).set (par q) x)[i]? = if i = par q then some x else if i = q then some y else v[i]? := fun i => by
    rw [List.getElem?_set, List.getElem?_set]
    by_cases h1 : par q = i
    · subst h1; simp; omega
    · rw [if_neg h1, if_neg (Ne.symm h1)]
      by_cases h2 : q = i
      · subst h2; simp [hql]
      · rw [if_neg h2, if_neg (Ne.symm h2)]
  refine ⟨fun i h0 hs hi a b ha hb => ?_, fun hs c h0 hc a b ha hb => ?_⟩
  · rw [get] at ha hb
    rw [if_neg hi] at hb
    by_cases hiq : i = q
    · subst hiq
      rw [if_pos rfl] at hb ha
      cases ha; cases hb; exact hyx
    · rw [if_neg hiq] at hb
      by_cases h1 : par i = par q
      · rw [if_pos h1] at ha
        cases ha
        have := I.ok i h0 hs hiq y b (by rw [h1]; exact hy) hb
        exact O.trans x y b hyx this
      · rw [if_neg h1] at ha
        by_cases h2 : par i = q
        · rw [if_pos h2] at ha
          cases ha
          exact I.kids hq i h0 h2 y b hy hb
        · rw [if_neg h2] at ha
          exact I.ok i h0 hs hiq a b ha hb
  · rw [get] at ha hb
    have hpp : par (par q) ≠ par q := by unfold par at hs ⊢; omega
    have hppq : par (par q) ≠ q := by unfold par at hs ⊢; omega
    rw [if_neg hpp, if_neg hppq] at ha
    have hcp : c ≠ par q := by unfold par at hc hs ⊢; omega
    rw [if_neg hcp] at hb
    have h1 := I.ok (par q) (by omega) ((hd.up hq).up hs).le (by omega) a y ha hy
    by_cases hcq : c = q
    · rw [if_pos hcq] at hb
      cases hb; exact h1
    · rw [if_neg hcq] at hb
      have h2 := I.ok c h0 (by rw [hc]; exact (hd.up hq).le) hcq y b (by rw [hc]; exact hy) hb
      exact O.trans a y b h1 h2

theorem sdGo_spec (O : Ord lt) {x : D} {s : Nat} : ∀ (f : Nat) (xs : List D) (q : Nat), q ≤ f → q < xs.length → Desc s q → SdIn lt (xs.set q x) s q →
    HeapFrom lt ((sdGo lt x s f xs q).1.set (sdGo lt x s f xs q).2 x) s ∧ ((sdGo lt x s f xs q).1.set (sdGo lt x s f xs q).2 x).Perm (xs.set q x) := by
  intro f
  induction f with
  | zero =>
    intro xs q hf hq hd I
    obtain rfl : q = 0 := by omega
    refine ⟨fun i h0 hs => ?_, List.Perm.refl _⟩
    exact I.ok i h0 hs (by omega)
  | succ f ih =>
    intro xs q hf hq hd I
    rw [sdGo]
    by_cases hs : q > s
    · rw [if_pos hs]
      have hpl : par q < xs.length := by unfold par; omega
      have hy : xs[(q - 1) / 2]? = some xs[par q] := List.getElem?_eq_getElem hpl
      rw [hy]
      dsimp only
      have hne : par q ≠ q := by unfold par; omega
      have hgq : (xs.set q x)[q]? = some x := by rw [List.getElem?_set]; simp [hq]
      have hgp : (xs.set q x)[par q]? = some xs[par q] := by rw [List.getElem?_set, if_neg (Ne.symm hne)]; exact List.getElem?_eq_getElem hpl
      by_cases hlt : lt x xs[par q] = true
      · rw [if_pos hlt]
        have I' := sd_step O hs hd hgq hgp hlt I
        rw [List.set_set] at I'
        have := ih (xs.set q xs[par q]) (par q) (by unfold par; omega) (by rw [List.length_set]; exact hpl) (hd.up hs) I'
        refine ⟨this.1, this.2.trans ?_⟩
        have sp := swap_perm (v := xs.set q x) (p := q) (q := par q) (by rw [List.length_set]; exact hq) (by rw [List.length_set]; exact hpl)
        have e1 : (xs.set q x)[q]'(by rw [List.length_set]; exact hq) = x := by simp
        have e2 : (xs.set q x)[par q]'(by rw [List.length_set]; exact hpl) = xs[par q] := by rw [List.getElem_set_ne (Ne.symm hne)]
        rw [e1, e2, List.set_set] at sp
        exact sp
      · rw [if_neg hlt]
        refine ⟨fun i h0 hs' => ?_, List.Perm.refl _⟩
        by_cases hi : i = q
        · subst hi
          intro a b ha hb
          rw [hgp] at ha; rw [hgq] at hb
          cases ha; cases hb
          simpa using hlt
        · exact I.ok i h0 hs' hi
    · rw [if_neg hs]
      refine ⟨fun i h0 hs' => ?_, List.Perm.refl _⟩
      by_cases hi : i = q
      · subst hi
        have := hd.le
        unfold par at hs'
        omega
      · exact I.ok i h0 hs' hi
theorem siftdown_spec (O : Ord lt) {v : List D} {s q : Nat} (hq : q < v.length) (hd : Desc s q) (I : SdIn lt v s q) : HeapFrom lt (siftdown lt v s q) s ∧ (siftdown lt v s q).Perm v := by
  unfold siftdown
  rw [List.getElem?_eq_getElem hq]
  dsimp only
  have e : v.set q v[q] = v := List.set_getElem_self hq
  have := sdGo_spec O (x := v[q]) (s := s) q v q (Nat.le_refl _) hq hd (by rw [e]; exact I)
  rw [e] at this
  exact this

/-- what the way down leans on: the place q is free -/
structure SuIn (lt : D → D → Bool) (v : List D) (s q : Nat) : Prop where
  ok : ∀ i, 0 < i → s ≤ par i → par i ≠ q → i ≠ q → OkAt lt v i
  kids : s < q → ∀ c, 0 < c → par c = q → ∀ a b, v[par q]? = some a → v[c]? = some b → lt b a = false

theorem su_step {v : List D} {s q c : Nat} {y : D} (hq : q < v.length) (hd : s ≤ q) (hc0 : 0 < c) (hc : par c = q) (hy : v[c]? = some y) (best : ∀ i b, 0 < i → par i = q → i ≠ c → v[i]? = some b → lt b y = false) (I : SuIn lt v s q) : SuIn lt (v.set q y) s c := by
  have hcq : q < c := by unfold par at hc; omega
  have get : ∀ i, (v.set q y)[i]? = if i = q then some y else v[i]? := fun i => by
    rw [List.getElem?_set]
    by_cases h : q = i
    · subst h; simp [hq]
    · rw [if_neg h, if_neg (Ne.symm h)]
  refine ⟨fun i h0 hs h1 h2 a b ha hb => ?_, fun hs d h0 hdc a b ha hb => ?_⟩
  · rw [get] at ha hb
    by_cases hiq : i = q
    · subst hiq
      rw [if_pos rfl] at hb
      cases hb
      have hp : par i ≠ i := by unfold par; omega
      rw [if_neg hp] at ha
      exact I.kids (by unfold par at hs; omega) c hc0 hc a y ha hy
    · rw [if_neg hiq] at hb
      by_cases hpq : par i = q
      · rw [if_pos hpq] at ha
        cases ha
        exact best i b h0 hpq h2 hb
      · rw [if_neg hpq] at ha
        exact I.ok i h0 hs hpq hiq a b ha hb
  · rw [get] at ha hb
    rw [hc, if_pos rfl] at ha
    cases ha
    have hdq : d ≠ q := by unfold par at hdc; omega
    rw [if_neg hdq] at hb
    exact I.ok d h0 (by rw [hdc]; omega) (by rw [hdc]; omega) hdq y b (by rw [hdc]; exact hy) hb

theorem suGo_spec (O : Ord lt) {x : D} {s : Nat} : ∀ (f : Nat) (xs : List D) (q : Nat), xs.length ≤ q + f → q < xs.length → Desc s q → SuIn lt xs s q →
    SuIn lt (suGo lt f xs q).1 s (suGo lt f xs q).2 ∧ Desc s (suGo lt f xs q).2 ∧ (suGo lt f xs q).2 < xs.length ∧ (suGo lt f xs q).1.length = xs.length ∧ xs.length ≤ 2 * (suGo lt f xs q).2 + 1 ∧ ((suGo lt f xs q).1.set (suGo lt f xs q).2 x).Perm (xs.set q x) := by
  intro f
  induction f with
  | zero => intro xs q hf hq; omega
  | succ f ih =>
    intro xs q hf hq hd I
    have go : ∀ (c : Nat) (y : D), xs[c]? = some y → 0 < c → par c = q → (∀ i b, 0 < i → par i = q → i ≠ c → xs[i]? = some b → lt b y = false) →
        SuIn lt (suGo lt f (xs.set q y) c).1 s (suGo lt f (xs.set q y) c).2 ∧ Desc s (suGo lt f (xs.set q y) c).2 ∧ (suGo lt f (xs.set q y) c).2 < xs.length ∧ (suGo lt f (xs.set q y) c).1.length = xs.length ∧ xs.length ≤ 2 * (suGo lt f (xs.set q y) c).2 + 1 ∧ ((suGo lt f (xs.set q y) c).1.set (suGo lt f (xs.set q y) c).2 x).Perm (xs.set q x) := by
      intro c y hy h0 hc best
      have hcl : c < xs.length := (List.getElem?_eq_some_iff.mp hy).1
      have hcq : q < c := by unfold par at hc; omega
      have hyc : xs[c] = y := (List.getElem?_eq_some_iff.mp hy).2
      have := ih (xs.set q y) c (by rw [List.length_set]; omega) (by rw [List.length_set]; exact hcl) (.down h0 (hc ▸ hd)) (su_step hq hd.le h0 hc hy best I)
      rw [List.length_set] at this
      obtain ⟨a1, a2, a3, a4, a5, a6⟩ := this
      refine ⟨a1, a2, a3, a4, a5, a6.trans ?_⟩
      have sp := swap_perm (v := xs.set q x) (p := q) (q := c) (by rw [List.length_set]; exact hq) (by rw [List.length_set]; exact hcl)
      have e1 : (xs.set q x)[q]'(by rw [List.length_set]; exact hq) = x := by simp
      have e2 : (xs.set q x)[c]'(by rw [List.length_set]; exact hcl) = y := by rw [List.getElem_set_ne (by omega)]; exact hyc
      rw [e1, e2, List.set_set] at sp
      exact sp
    have two : ∀ i, 0 < i → par i = q → i = 2 * q + 1 ∨ i = 2 * q + 2 := fun i h0 h => by unfold par at h; omega
    rw [suGo]
    cases ha : xs[2 * q + 1]? with
    | none =>
      exact ⟨I, hd, hq, rfl, by simpa using List.getElem?_eq_none_iff.mp ha, List.Perm.refl _⟩
    | some a =>
      dsimp only
      cases hb : xs[2 * q + 2]? with
      | none =>
        dsimp only
        refine go (2 * q + 1) a ha (by omega) (by unfold par; omega) fun i b h0 hp hne hi => ?_
        rcases two i h0 hp with rfl | rfl
        · exact absurd rfl hne
        · rw [hb] at hi; cases hi
      | some b =>
        dsimp only
        by_cases hlt : lt a b = true
        · rw [if_pos hlt]
          refine go (2 * q + 1) a ha (by omega) (by unfold par; omega) fun i b' h0 hp hne hi => ?_
          rcases two i h0 hp with rfl | rfl
          · exact absurd rfl hne
          · rw [hb] at hi; cases hi; exact O.asym _ _ hlt
        · rw [if_neg hlt]
          refine go (2 * q + 2) b hb (by omega) (by unfold par; omega) fun i b' h0 hp hne hi => ?_
          rcases two i h0 hp with rfl | rfl
          · rw [ha] at hi; cases hi; simpa using hlt
          · exact absurd rfl hne
theorem siftup_spec (O : Ord lt) {v : List D} {p : Nat} (hp : p < v.length) (H : HeapFrom lt v (p + 1)) : HeapFrom lt (siftup lt v p) p ∧ (siftup lt v p).Perm v := by
  have I : SuIn lt v p p := ⟨fun i h0 hs h1 h2 => H i h0 (by omega), fun h => absurd h (Nat.lt_irrefl _)⟩
  obtain ⟨a1, a2, a3, a4, a5, a6⟩ := suGo_spec O (x := v[p]) v.length v p (by omega) hp .self I
  unfold siftup
  rw [List.getElem?_eq_getElem hp]
  dsimp only
  have J : SdIn lt ((suGo lt v.length v p).1.set (suGo lt v.length v p).2 v[p]) p (suGo lt v.length v p).2 := by
    have leaf : ∀ i, 0 < i → par i = (suGo lt v.length v p).2 → ((suGo lt v.length v p).1.set (suGo lt v.length v p).2 v[p])[i]? = none := fun i h0 h => by
      apply List.getElem?_eq_none
      rw [List.length_set, a4]
      unfold par at h
      omega
    refine ⟨fun i h0 hs hi a b ha hb => ?_, fun _ c h0 hc a b _ hb => ?_⟩
    · by_cases h : par i = (suGo lt v.length v p).2
      · rw [leaf i h0 h] at hb; cases hb
      · rw [List.getElem?_set, if_neg (Ne.symm h)] at ha
        rw [List.getElem?_set, if_neg (Ne.symm hi)] at hb
        exact a1.ok i h0 hs h hi a b ha hb
    · rw [leaf c h0 hc] at hb; cases hb
  obtain ⟨b1, b2⟩ := siftdown_spec O (by rw [List.length_set, a4]; exact a3) a2 J
  refine ⟨b1, b2.trans (a6.trans ?_)⟩
  rw [List.set_getElem_self hp]
end
end
set_option Elab.async false
section
noncomputable def runT {α : Type} (bt : Nat → Nat → Bool) : KasT α → α
  | .ret a => a
  | .ask i j k => runT bt (k (bt i j))
theorem runT_bind {α β : Type} (bt : Nat → Nat → Bool) (f : α → KasT β) : ∀ t : KasT α, runT bt (t.bind f) = runT bt (f (runT bt t))
  | .ret _ => rfl
  | .ask i j k => runT_bind bt f (k (bt i j))
theorem rev_get {p : Array Nat} {i j k : Nat} (hj : j ≤ p.size) (hij : i ≤ j) : (kas_rev p i j).getD k 0 = if i ≤ k ∧ k < j then p.getD (i + j - 1 - k) 0 else p.getD k 0 := by
  unfold kas_rev
  rw [Array.getD_eq_getD_getElem?, getElem?_mirror hj _ (by omega)]
  by_cases h : (i ≤ k ∧ k < i + (j - i) / 2) ∨ (j - (j - i) / 2 ≤ k ∧ k < j)
  · rw [if_pos h, if_pos (by omega), Array.getD_eq_getD_getElem?]
  · rw [if_neg h]
    by_cases h2 : i ≤ k ∧ k < j
    · rw [if_pos h2, Array.getD_eq_getD_getElem?]
      have : i + j - 1 - k = k := by omega
      rw [this]
    · rw [if_neg h2, Array.getD_eq_getD_getElem?]
theorem rev_size {p : Array Nat} {i j : Nat} : (kas_rev p i j).size = p.size := mirror_size _ _ _ _
theorem rev_perm {p : Array Nat} {i j : Nat} : (kas_rev p i j).Perm p := mirror_perm _ _ _ _
section
variable {D : Type} {lt : D → D → Bool} (O : Ord lt) (f : Nat → D)
noncomputable abbrev bOf (lt : D → D → Bool) (f : Nat → D) : Nat → Nat → Bool := fun i j => lt (f i) (f j)
/-- the key at a place -/
noncomputable abbrev key (f : Nat → D) (p : Array Nat) (i : Nat) : D := f (p.getD i 0)
noncomputable def SortTo (lt : D → D → Bool) (f : Nat → D) (p : Array Nat) (k : Nat) : Prop := ∀ i j, i ≤ j → j < k → lt (key f p j) (key f p i) = false
noncomputable def DownTo (lt : D → D → Bool) (f : Nat → D) (p : Array Nat) (k : Nat) : Prop := ∀ i j, i ≤ j → j < k → lt (key f p i) (key f p j) = false
theorem Ord.refl (O : Ord lt) (a : D) : lt a a = false := by
  cases h : lt a a with
  | false => rfl
  | true => rw [O.asym _ _ h] at h; cases h
include O in
theorem sort_step {p : Array Nat} {n : Nat} (hn : 1 ≤ n) (S : SortTo lt f p n) (h : lt (key f p n) (key f p (n - 1)) = false) : SortTo lt f p (n + 1) := fun i j hij hj => by
  by_cases hjn : j = n
  · subst hjn
    by_cases hi : i = j
    · subst hi; exact O.refl _
    · exact O.trans _ _ _ (S i (j - 1) (by omega) (by omega)) h
  · exact S i j hij (by omega)
theorem asc_run {bt : Nat → Nat → Bool} {p : Array Nat} {fu n : Nat} : runT bt (kas_asc p (fu + 1) n) = if bt (p.getD n 0) (p.getD (n - 1) 0) = true then n else runT bt (kas_asc p fu (n + 1)) := by
  show runT bt (if bt (p.getD n 0) (p.getD (n - 1) 0) = true then KasT.ret n else kas_asc p fu (n + 1)) = _
  split <;> rfl
include O in
theorem asc_spec {p : Array Nat} : ∀ (fu n : Nat), 1 ≤ n → SortTo lt f p n → n ≤ runT (bOf lt f) (kas_asc p fu n) ∧ runT (bOf lt f) (kas_asc p fu n) ≤ n + fu ∧ SortTo lt f p (runT (bOf lt f) (kas_asc p fu n)) ∧
    (runT (bOf lt f) (kas_asc p fu n) < n + fu → lt (key f p (runT (bOf lt f) (kas_asc p fu n))) (key f p (runT (bOf lt f) (kas_asc p fu n) - 1)) = true)
  | 0, n, _, S => ⟨Nat.le_refl _, Nat.le_refl _, S, fun h => absurd h (Nat.lt_irrefl _)⟩
  | fu + 1, n, hn, S => by
    rw [asc_run]
    by_cases h : bOf lt f (p.getD n 0) (p.getD (n - 1) 0) = true
    · rw [if_pos h]
      exact ⟨Nat.le_refl _, Nat.le_add_right _ _, S, fun _ => h⟩
    · rw [if_neg h]
      have ih := asc_spec fu (n + 1) (by omega) (sort_step O f hn S (Bool.eq_false_iff.mpr h))
      exact ⟨by omega, by omega, ih.2.2.1, fun hl => ih.2.2.2 (by omega)⟩

/-- alike -/
noncomputable def Eqv (lt : D → D → Bool) (a b : D) : Prop := lt a b = false ∧ lt b a = false
include O in
theorem Eqv.le {a b c : D} (h : Eqv lt a b) (k : lt c a = false) : lt c b = false := O.trans _ _ _ h.1 k
include O in
theorem Eqv.ge {a b c : D} (h : Eqv lt a b) (k : lt a c = false) : lt b c = false := O.trans _ _ _ k h.2
/-- places alike one by one -/
noncomputable def Like (lt : D → D → Bool) (f : Nat → D) (p q : Array Nat) : Prop := ∀ k, Eqv lt (key f p k) (key f q k)
include O in
theorem DownTo.like {p q : Array Nat} {n : Nat} (S : DownTo lt f p n) (h : Like lt f p q) : DownTo lt f q n := fun i j hij hj => by
  have a := S i j hij hj
  exact Eqv.ge O (h i) (Eqv.le O (h j) a)
include O in
theorem rev_like {p : Array Nat} {i j : Nat} (hj : j ≤ p.size) (hij : i ≤ j) (e : ∀ k, i ≤ k → k < j → Eqv lt (key f p k) (key f p (j - 1))) : Like lt f p (kas_rev p i j) := fun k => by
  unfold key
  rw [rev_get hj hij]
  by_cases h : i ≤ k ∧ k < j
  · rw [if_pos h]
    have a := e k h.1 h.2
    have b := e (i + j - 1 - k) (by omega) (by omega)
    exact ⟨O.trans _ _ _ b.2 a.1, O.trans _ _ _ a.2 b.1⟩
  · rw [if_neg h]
    exact ⟨O.refl _, O.refl _⟩

theorem desc_run {bt : Nat → Nat → Bool} {p : Array Nat} {fu n q : Nat} : runT bt (kas_desc (fu + 1) p n q) = if bt (p.getD n 0) (p.getD (n - 1) 0) = true then (if q > 0 then runT bt (kas_desc fu (kas_rev p (n - (q + 1)) n) (n + 1) 0) else runT bt (kas_desc fu p (n + 1) 0))
    else if bt (p.getD (n - 1) 0) (p.getD n 0) = true then (p, n, q) else runT bt (kas_desc fu p (n + 1) (q + 1)) := by
  show runT bt (if bt (p.getD n 0) (p.getD (n - 1) 0) = true then (if q > 0 then kas_desc fu (kas_rev p (n - (q + 1)) n) (n + 1) 0 else kas_desc fu p (n + 1) 0)
    else .ask (p.getD (n - 1) 0) (p.getD n 0) fun d => if d = true then .ret (p, n, q) else kas_desc fu p (n + 1) (q + 1)) = _
  split
  · split <;> rfl
  · show runT bt (if bt (p.getD (n - 1) 0) (p.getD n 0) = true then KasT.ret (p, n, q) else kas_desc fu p (n + 1) (q + 1)) = _
    split <;> rfl
structure DescIn (lt : D → D → Bool) (f : Nat → D) (p : Array Nat) (n q : Nat) : Prop where
  down : DownTo lt f p n
  run : ∀ k, n - (q + 1) ≤ k → k < n → Eqv lt (key f p k) (key f p (n - 1))
  q : q + 1 ≤ n
  n : n ≤ p.size
include O in
theorem down_step {p : Array Nat} {n : Nat} (hn : 1 ≤ n) (S : DownTo lt f p n) (h : lt (key f p (n - 1)) (key f p n) = false) : DownTo lt f p (n + 1) := fun i j hij hj => by
  by_cases hjn : j = n
  · subst hjn
    by_cases hi : i = j
    · subst hi; exact O.refl _
    · exact O.trans _ _ _ h (S i (j - 1) (by omega) (by omega))
  · exact S i j hij (by omega)
include O in
theorem desc_spec : ∀ (fu : Nat) (p : Array Nat) (n q : Nat), n + fu ≤ p.size → DescIn lt f p n q →
    DescIn lt f (runT (bOf lt f) (kas_desc fu p n q)).1 (runT (bOf lt f) (kas_desc fu p n q)).2.1 (runT (bOf lt f) (kas_desc fu p n q)).2.2 ∧ (runT (bOf lt f) (kas_desc fu p n q)).1.Perm p ∧ n ≤ (runT (bOf lt f) (kas_desc fu p n q)).2.1 ∧ (runT (bOf lt f) (kas_desc fu p n q)).2.1 ≤ n + fu
  | 0, p, n, q, _, I => ⟨I, Array.Perm.refl _, Nat.le_refl _, Nat.le_refl _⟩
  | fu + 1, p, n, q, hf, I => by
    have hq := I.q
    rw [desc_run]
    by_cases h : bOf lt f (p.getD n 0) (p.getD (n - 1) 0) = true
    · rw [if_pos h]
      have hle : lt (key f p (n - 1)) (key f p n) = false := O.asym _ _ h
      have one : ∀ {p' : Array Nat}, p'.size = p.size → DownTo lt f p' (n + 1) → DescIn lt f p' (n + 1) 0 := fun hs hd => ⟨hd, fun k h1 h2 => by
        have : k = n + 1 - 1 := by omega
        subst this; exact ⟨O.refl _, O.refl _⟩, by omega, by omega⟩
      by_cases hq0 : q > 0
      · rw [if_pos hq0]
        have lk := rev_like O f (p := p) (i := n - (q + 1)) (j := n) I.n (by omega) I.run
        have hd : DownTo lt f (kas_rev p (n - (q + 1)) n) (n + 1) := DownTo.like O f (down_step O f (by omega) I.down hle) lk
        obtain ⟨a, b, c, d⟩ := desc_spec fu (kas_rev p (n - (q + 1)) n) (n + 1) 0 (by rw [rev_size]; omega) (one rev_size hd)
        exact ⟨a, b.trans rev_perm, by omega, by omega⟩
      · rw [if_neg hq0]
        obtain ⟨a, b, c, d⟩ := desc_spec fu p (n + 1) 0 (by omega) (one rfl (down_step O f (by omega) I.down hle))
        exact ⟨a, b, by omega, by omega⟩
    · rw [if_neg h]
      have h1 : lt (key f p n) (key f p (n - 1)) = false := Bool.eq_false_iff.mpr h
      by_cases h2 : bOf lt f (p.getD (n - 1) 0) (p.getD n 0) = true
      · rw [if_pos h2]
        exact ⟨I, Array.Perm.refl _, Nat.le_refl _, Nat.le_add_right _ _⟩
      · rw [if_neg h2]
        have h3 : lt (key f p (n - 1)) (key f p n) = false := Bool.eq_false_iff.mpr h2
        obtain ⟨a, b, c, d⟩ := desc_spec fu p (n + 1) (q + 1) (by omega) ⟨down_step O f (by omega) I.down h3, fun k h4 h5 => by
          show Eqv lt (key f p k) (key f p n)
          by_cases hk : k = n
          · subst hk; exact ⟨O.refl _, O.refl _⟩
          · have e := I.run k (by omega) (by omega)
            exact ⟨O.trans _ _ _ h3 e.1, O.trans _ _ _ e.2 h1⟩, by omega, by omega⟩
        exact ⟨a, b, by omega, by omega⟩

theorem rev_sort {p : Array Nat} {n : Nat} (hn : n ≤ p.size) (S : DownTo lt f p n) : SortTo lt f (kas_rev p 0 n) n := fun i j hij hj => by
  unfold key
  rw [rev_get hn (Nat.zero_le _), rev_get hn (Nat.zero_le _), if_pos ⟨Nat.zero_le _, hj⟩, if_pos ⟨Nat.zero_le _, by omega⟩]
  exact S (0 + n - 1 - j) (0 + n - 1 - i) (by omega) (by omega)
/-- what a count gives -/
noncomputable def CountOk (lt : D → D → Bool) (f : Nat → D) (nrem : Nat) (p : Array Nat) (r : Nat × Array Nat) : Prop := SortTo lt f r.2 r.1 ∧ 1 ≤ r.1 ∧ r.1 ≤ nrem ∧ r.2.Perm p
include O in
theorem tail3_spec {p : Array Nat} {n nrem : Nat} (h1 : 1 ≤ n) (h2 : n ≤ nrem) (h3 : nrem ≤ p.size) (S : DownTo lt f p n) : CountOk lt f nrem p (runT (bOf lt f) (kas_tail3 n nrem p)) := by
  have e : runT (bOf lt f) (kas_tail3 n nrem p) = (runT (bOf lt f) (kas_asc (kas_rev p 0 n) (nrem - n) n), kas_rev p 0 n) := by
    unfold kas_tail3
    rw [runT_bind]; rfl
  rw [e]
  obtain ⟨a, b, c, _⟩ := asc_spec O f (p := kas_rev p 0 n) (nrem - n) n h1 (rev_sort f (by omega) S)
  exact ⟨c, by show 1 ≤ _; omega, by show _ ≤ nrem; omega, rev_perm⟩
include O in
theorem descPart_spec {p : Array Nat} {n nrem : Nat} (h1 : 1 ≤ n) (h2 : n + 1 ≤ nrem) (h3 : nrem ≤ p.size) (S : DownTo lt f p (n + 1)) : CountOk lt f nrem p (runT (bOf lt f) (kas_descPart n nrem p)) := by
  have I : DescIn lt f p (n + 1) 0 := ⟨S, fun k a b => by
    have : k = n + 1 - 1 := by omega
    subst this; exact ⟨O.refl _, O.refl _⟩, by omega, by omega⟩
  obtain ⟨a, b, c, d⟩ := desc_spec O f (nrem - (n + 1)) p (n + 1) 0 (by omega) I
  unfold kas_descPart
  rw [runT_bind]
  have hsz := b.size_eq
  have hq := a.q
  by_cases hq0 : (runT (bOf lt f) (kas_desc (nrem - (n + 1)) p (n + 1) 0)).2.2 > 0
  · simp only [hq0, if_true]
    have lk := rev_like O f a.n (Nat.sub_le _ _) a.run
    obtain ⟨u, v, w, x⟩ := tail3_spec O f (p := kas_rev (runT (bOf lt f) (kas_desc (nrem - (n + 1)) p (n + 1) 0)).1 ((runT (bOf lt f) (kas_desc (nrem - (n + 1)) p (n + 1) 0)).2.1 - ((runT (bOf lt f) (kas_desc (nrem - (n + 1)) p (n + 1) 0)).2.2 + 1)) (runT (bOf lt f) (kas_desc (nrem - (n + 1)) p (n + 1) 0)).2.1)
      (n := (runT (bOf lt f) (kas_desc (nrem - (n + 1)) p (n + 1) 0)).2.1) (nrem := nrem) (by omega) (by omega) (by rw [rev_size]; omega) (DownTo.like O f a.down lk)
    exact ⟨u, v, w, x.trans (rev_perm.trans b)⟩
  · simp only [hq0, if_false]
    obtain ⟨u, v, w, x⟩ := tail3_spec O f (p := (runT (bOf lt f) (kas_desc (nrem - (n + 1)) p (n + 1) 0)).1) (n := (runT (bOf lt f) (kas_desc (nrem - (n + 1)) p (n + 1) 0)).2.1) (nrem := nrem) (by omega) (by omega) (by omega) a.down
    exact ⟨u, v, w, x.trans b⟩
include O in
theorem count_spec {p : Array Nat} {nrem : Nat} (h1 : 1 ≤ nrem) (h3 : nrem ≤ p.size) : CountOk lt f nrem p (runT (bOf lt f) (kas_count nrem p)) := by
  have S1 : SortTo lt f p 1 := fun i j hij hj => by
    obtain rfl : i = j := by omega
    exact O.refl _
  obtain ⟨a, b, c, d⟩ := asc_spec O f (p := p) (nrem - 1) 1 (Nat.le_refl _) S1
  unfold kas_count
  rw [runT_bind]
  generalize runT (bOf lt f) (kas_asc p (nrem - 1) 1) = n at a b c d ⊢
  by_cases hn : n = nrem
  · subst hn
    simp only [beq_self_eq_true, if_true]
    exact ⟨c, a, Nat.le_refl _, Array.Perm.refl _⟩
  · have hb : (n == nrem) = false := by simpa using hn
    simp only [hb, Bool.false_eq_true, if_false]
    have hlast := d (by omega)
    have hle : lt (key f p (n - 1)) (key f p n) = false := O.asym _ _ hlast
    by_cases h2 : n > 1
    · simp only [h2, if_true]
      show CountOk lt f nrem p (runT (bOf lt f) (if bOf lt f (p.getD 0 0) (p.getD (n - 1) 0) = true then KasT.ret (n, p) else kas_descPart n nrem (kas_rev p 0 n)))
      by_cases h4 : bOf lt f (p.getD 0 0) (p.getD (n - 1) 0) = true
      · rw [if_pos h4]
        exact ⟨c, a, by show n ≤ nrem; omega, Array.Perm.refl _⟩
      · rw [if_neg h4]
        have h5 : lt (key f p 0) (key f p (n - 1)) = false := Bool.eq_false_iff.mpr h4
        have eqv : ∀ k, k < n → Eqv lt (key f p k) (key f p (n - 1)) := fun k hk => ⟨O.trans _ _ _ h5 (c 0 k (Nat.zero_le _) hk), c k (n - 1) (by omega) (by omega)⟩
        · have lk := rev_like O f (p := p) (i := 0) (j := n) (by omega) (Nat.zero_le _) fun k _ hk => eqv k hk
          have down : DownTo lt f p (n + 1) := down_step O f (by omega) (fun i j hij hj => by
            have e1 := eqv i (by omega)
            have e2 := eqv j hj
            exact O.trans _ _ _ e2.2 e1.1) hle
          obtain ⟨u, v, w, x⟩ := descPart_spec O f (p := kas_rev p 0 n) (n := n) (nrem := nrem) (by omega) (by omega) (by rw [rev_size]; omega) (DownTo.like O f down lk)
          exact ⟨u, v, w, x.trans rev_perm⟩
    · simp only [h2, if_false]
      obtain rfl : n = 1 := by omega
      exact descPart_spec O f (p := p) (n := 1) (nrem := nrem) (by omega) (by omega) h3 (down_step O f (by omega) (fun i j hij hj => by
        obtain rfl : i = j := by omega
        exact O.refl _) hle)

theorem place_run {bt : Nat → Nat → Bool} {p : Array Nat} {k fu l r : Nat} : runT bt (kas_place p k (fu + 1) l r) = if l ≥ r then l else if bt (p.getD k 0) (p.getD ((l + r) / 2) 0) = true then runT bt (kas_place p k fu l ((l + r) / 2)) else runT bt (kas_place p k fu ((l + r) / 2 + 1) r) := by
  show runT bt (if l ≥ r then KasT.ret l else .ask (p.getD k 0) (p.getD ((l + r) / 2) 0) fun c => if c = true then kas_place p k fu l ((l + r) / 2) else kas_place p k fu ((l + r) / 2 + 1) r) = _
  split
  · rfl
  · show runT bt (if bt (p.getD k 0) (p.getD ((l + r) / 2) 0) = true then kas_place p k fu l ((l + r) / 2) else kas_place p k fu ((l + r) / 2 + 1) r) = _
    split <;> rfl
include O in
theorem place_spec {p : Array Nat} {k : Nat} (S : SortTo lt f p k) : ∀ (fu l r : Nat), r - l ≤ fu → l ≤ r → r ≤ k → (∀ i, i < l → lt (key f p k) (key f p i) = false) → (∀ i, r ≤ i → i < k → lt (key f p i) (key f p k) = false) →
    runT (bOf lt f) (kas_place p k fu l r) ≤ k ∧ (∀ i, i < runT (bOf lt f) (kas_place p k fu l r) → lt (key f p k) (key f p i) = false) ∧ (∀ i, runT (bOf lt f) (kas_place p k fu l r) ≤ i → i < k → lt (key f p i) (key f p k) = false)
  | 0, l, r, hf, hlr, hrk, a, b => by
    obtain rfl : l = r := by omega
    exact ⟨hrk, a, b⟩
  | fu + 1, l, r, hf, hlr, hrk, a, b => by
    rw [place_run]
    by_cases h : l ≥ r
    · rw [if_pos h]
      obtain rfl : l = r := by omega
      exact ⟨hrk, a, b⟩
    · rw [if_neg h]
      by_cases h2 : bOf lt f (p.getD k 0) (p.getD ((l + r) / 2) 0) = true
      · rw [if_pos h2]
        refine place_spec S fu l ((l + r) / 2) (by omega) (by omega) (by omega) a fun i h3 h4 => ?_
        exact O.trans _ _ _ (O.asym _ _ h2) (S ((l + r) / 2) i h3 h4)
      · rw [if_neg h2]
        refine place_spec S fu ((l + r) / 2 + 1) r (by omega) (by omega) hrk (fun i h3 => ?_) b
        have h5 : lt (key f p k) (key f p ((l + r) / 2)) = false := Bool.eq_false_iff.mpr h2
        exact O.trans _ _ _ (S i ((l + r) / 2) (by omega) (by omega)) h5
theorem bubble_get {p : Array Nat} {k l i : Nat} (hk : k < p.size) (hl : l ≤ k) : (bubble p k (k - l)).getD i 0 = if i = l then p.getD k 0 else if l < i ∧ i ≤ k then p.getD (i - 1) 0 else p.getD i 0 := by
  have e : k - (k - l) = l := by omega
  rw [Array.getD_eq_getD_getElem?, getElem?_bubble hk _ (by omega), e]
  by_cases h : i = l
  · rw [if_pos h, if_pos h, Array.getD_eq_getD_getElem?]
  · rw [if_neg h, if_neg h]
    by_cases h2 : l < i ∧ i ≤ k
    · rw [if_pos h2, if_pos h2, Array.getD_eq_getD_getElem?]
    · rw [if_neg h2, if_neg h2, Array.getD_eq_getD_getElem?]
include O in
theorem ins_sort {p : Array Nat} {k l : Nat} (hk : k < p.size) (hl : l ≤ k) (S : SortTo lt f p k) (a : ∀ i, i < l → lt (key f p k) (key f p i) = false) (b : ∀ i, l ≤ i → i < k → lt (key f p i) (key f p k) = false) : SortTo lt f (bubble p k (k - l)) (k + 1) := fun i j hij hj => by
  unfold key
  rw [bubble_get hk hl, bubble_get hk hl]
  by_cases hi : i = l
  · rw [if_pos hi]
    by_cases hjl : j = l
    · rw [if_pos hjl]; exact O.refl _
    · rw [if_neg hjl, if_pos (by omega)]
      exact b (j - 1) (by omega) (by omega)
  · rw [if_neg hi]
    by_cases hi2 : l < i ∧ i ≤ k
    · rw [if_pos hi2, if_neg (show ¬ j = l by omega), if_pos (by omega)]
      exact S (i - 1) (j - 1) (by omega) (by omega)
    · rw [if_neg hi2]
      by_cases hjl : j = l
      · rw [if_pos hjl]; exact a i (by omega)
      · rw [if_neg hjl]
        by_cases hj2 : l < j ∧ j ≤ k
        · rw [if_pos hj2]; exact S i (j - 1) (by omega) (by omega)
        · rw [if_neg hj2]; exact S i j hij (by omega)
include O in
theorem bin_spec : ∀ (fu : Nat) (p : Array Nat) (k : Nat), k + fu ≤ p.size → SortTo lt f p k → SortTo lt f (runT (bOf lt f) (kas_bin fu p k)) (k + fu) ∧ (runT (bOf lt f) (kas_bin fu p k)).Perm p
  | 0, p, k, _, S => ⟨S, Array.Perm.refl _⟩
  | fu + 1, p, k, hf, S => by
    have e : runT (bOf lt f) (kas_bin (fu + 1) p k) = runT (bOf lt f) (kas_bin fu (bubble p k (k - runT (bOf lt f) (kas_place p k k 0 k))) (k + 1)) := by
      show runT (bOf lt f) ((kas_place p k k 0 k).bind fun l => kas_bin fu (bubble p k (k - l)) (k + 1)) = _
      rw [runT_bind]
    rw [e]
    obtain ⟨h1, h2, h3⟩ := place_spec O f S k 0 k (by omega) (Nat.zero_le _) (Nat.le_refl _) (fun i hi => absurd hi (Nat.not_lt_zero _)) (fun i h1 h2 => absurd h2 (Nat.not_lt.mpr h1))
    obtain ⟨u, v⟩ := bin_spec fu (bubble p k (k - runT (bOf lt f) (kas_place p k k 0 k))) (k + 1) (by rw [bubble_size]; omega) (ins_sort O f (by omega) h1 S h2 h3)
    exact ⟨by rw [show k + (fu + 1) = k + 1 + fu by omega]; exact u, v.trans (bubble_perm _ _ _)⟩
include O in
/-- the library's tree of questions sorts -/
theorem kas_sort_spec {n : Nat} (hn : 1 ≤ n) : SortTo lt f (runT (bOf lt f) (kas_sort n)) n ∧ (runT (bOf lt f) (kas_sort n)).Perm (List.range n).toArray := by
  have hs : (List.range n).toArray.size = n := by simp
  obtain ⟨a, b, c, d⟩ := count_spec O f (p := (List.range n).toArray) hn (by omega)
  unfold kas_sort
  rw [runT_bind]
  generalize runT (bOf lt f) (kas_count n (List.range n).toArray) = r at a b c d ⊢
  have hsz := d.size_eq
  by_cases h : r.1 < n
  · simp only [h, if_true]
    have e : max r.1 1 = r.1 := by omega
    rw [e]
    obtain ⟨u, v⟩ := bin_spec O f (n - r.1) r.2 r.1 (by omega) a
    exact ⟨by rw [show r.1 + (n - r.1) = n by omega] at u; exact u, v.trans d⟩
  · simp only [h, if_false]
    obtain h2 : r.1 = n := by omega
    exact ⟨by rw [h2] at a; exact a, d⟩
end
end
set_option Elab.async false
section
/-- on the way that bt answers, it asks within n alone -/
noncomputable def tameR {α : Type} (bt : Nat → Nat → Bool) (n : Nat) : KasT α → Prop
  | .ret _ => True
  | .ask i j k => i < n ∧ j < n ∧ tameR bt n (k (bt i j))
theorem tameR_bind {α β : Type} {bt : Nat → Nat → Bool} {n : Nat} {f : α → KasT β} : ∀ {t : KasT α}, tameR bt n t → tameR bt n (f (runT bt t)) → tameR bt n (t.bind f)
  | .ret _, _, h => h
  | .ask _ _ _, ⟨hi, hj, hk⟩, h => ⟨hi, hj, tameR_bind hk h⟩
theorem kasWp_run {α : Type} {bt : Nat → Nat → Bool} {n : Nat} {cmp : Nat → Nat → (Bool → Shared → Prop) → Shared → Prop} {s : Shared} (hc : ∀ i j (Q : Bool → Shared → Prop), i < n → j < n → Q (bt i j) s → cmp i j Q s) {Q : α → Shared → Prop} : ∀ (t : KasT α), tameR bt n t → Q (runT bt t) s → t.kasWp cmp Q s
  | .ret _, _, h => h
  | .ask i j k, ⟨hi, hj, hk⟩, h => hc i j _ hi hj (kasWp_run hc (k (bt i j)) hk h)
noncomputable def AllLt (n : Nat) (p : Array Nat) : Prop := 0 < n ∧ ∀ x ∈ p, x < n
theorem AllLt.at {n : Nat} {p : Array Nat} (h : AllLt n p) (i : Nat) : p.getD i 0 < n := by
  rw [Array.getD_eq_getD_getElem?]
  cases e : p[i]? with
  | none => exact h.1
  | some x => exact h.2 x (Array.mem_of_getElem? e)
theorem AllLt.perm {n : Nat} {p q : Array Nat} (h : AllLt n p) (e : q.Perm p) : AllLt n q := ⟨h.1, fun x hx => h.2 x (e.mem_iff.mp hx)⟩
section
variable {bt : Nat → Nat → Bool} {n : Nat}
theorem asc_tame {p : Array Nat} (hp : AllLt n p) : ∀ (fu k : Nat), tameR bt n (kas_asc p fu k)
  | 0, _ => trivial
  | fu + 1, k => ⟨hp.at _, hp.at _, by
    show tameR bt n (if bt (p.getD k 0) (p.getD (k - 1) 0) = true then KasT.ret k else kas_asc p fu (k + 1))
    split
    · trivial
    · exact asc_tame hp fu (k + 1)⟩
theorem desc_tame : ∀ (fu : Nat) (p : Array Nat) (k q : Nat), AllLt n p → tameR bt n (kas_desc fu p k q)
  | 0, _, _, _, _ => trivial
  | fu + 1, p, k, q, hp => ⟨hp.at _, hp.at _, by
    show tameR bt n (if bt (p.getD k 0) (p.getD (k - 1) 0) = true then (if q > 0 then kas_desc fu (kas_rev p (k - (q + 1)) k) (k + 1) 0 else kas_desc fu p (k + 1) 0)
      else .ask (p.getD (k - 1) 0) (p.getD k 0) fun d => if d = true then .ret (p, k, q) else kas_desc fu p (k + 1) (q + 1))
    split
    · split
      · exact desc_tame fu _ _ _ (hp.perm rev_perm)
      · exact desc_tame fu _ _ _ hp
    · refine ⟨hp.at _, hp.at _, ?_⟩
      show tameR bt n (if bt (p.getD (k - 1) 0) (p.getD k 0) = true then KasT.ret (p, k, q) else kas_desc fu p (k + 1) (q + 1))
      split
      · trivial
      · exact desc_tame fu _ _ _ hp⟩
theorem desc_perm : ∀ (fu : Nat) (p : Array Nat) (k q : Nat), (runT bt (kas_desc fu p k q)).1.Perm p
  | 0, p, _, _ => Array.Perm.refl p
  | fu + 1, p, k, q => by
    rw [desc_run]
    split
    · split
      · exact (desc_perm fu _ _ _).trans rev_perm
      · exact desc_perm fu _ _ _
    · split
      · exact Array.Perm.refl p
      · exact desc_perm fu _ _ _
theorem tail3_tame {p : Array Nat} {k r : Nat} (hp : AllLt n p) : tameR bt n (kas_tail3 k r p) := tameR_bind (asc_tame (hp.perm rev_perm) _ _) trivial
theorem descPart_tame {p : Array Nat} {k r : Nat} (hp : AllLt n p) : tameR bt n (kas_descPart k r p) := by
  refine tameR_bind (desc_tame _ _ _ _ hp) ?_
  have h2 := hp.perm (desc_perm (bt := bt) (r - (k + 1)) p (k + 1) 0)
  split
  · exact tail3_tame (h2.perm rev_perm)
  · exact tail3_tame h2
theorem count_tame {p : Array Nat} {r : Nat} (hp : AllLt n p) : tameR bt n (kas_count r p) := by
  refine tameR_bind (asc_tame hp _ _) ?_
  split
  · trivial
  · split
    · refine ⟨hp.at _, hp.at _, ?_⟩
      dsimp only
      split
      · trivial
      · exact descPart_tame (hp.perm rev_perm)
    · exact descPart_tame hp
theorem place_tame {p : Array Nat} {k : Nat} (hp : AllLt n p) : ∀ (fu l r : Nat), tameR bt n (kas_place p k fu l r)
  | 0, _, _ => trivial
  | fu + 1, l, r => by
    rw [kas_place]
    split
    · trivial
    · refine ⟨hp.at _, hp.at _, ?_⟩
      show tameR bt n (if bt (p.getD k 0) (p.getD ((l + r) / 2) 0) = true then kas_place p k fu l ((l + r) / 2) else kas_place p k fu ((l + r) / 2 + 1) r)
      split
      · exact place_tame hp fu _ _
      · exact place_tame hp fu _ _
theorem bin_tame : ∀ (fu : Nat) (p : Array Nat) (k : Nat), AllLt n p → tameR bt n (kas_bin fu p k)
  | 0, _, _, _ => trivial
  | fu + 1, p, k, hp => tameR_bind (place_tame hp _ _ _) (bin_tame fu _ _ (hp.perm (bubble_perm _ _ _)))
end
section
variable {D : Type} {lt : D → D → Bool}
theorem sort_tame (O : Ord lt) (f : Nat → D) {n : Nat} (hn : 1 ≤ n) : tameR (bOf lt f) n (kas_sort n) := by
  have h0 : AllLt n (List.range n).toArray := ⟨hn, fun x hx => by simpa using hx⟩
  refine tameR_bind (count_tame h0) ?_
  obtain ⟨a, b, c, d⟩ := count_spec O f (p := (List.range n).toArray) hn (by simp)
  split
  · exact bin_tame _ _ _ (h0.perm d)
  · trivial
end
end
set_option Elab.async false
set_option maxRecDepth 100000
set_option maxHeartbeats 1000000
section
/-- a tuple whose first is of the kind told -/
noncomputable def firstIs (int : Bool) : Dat → Bool
  | .tuple (.int _ :: _) => int
  | .tuple (.str _ :: _) => !int
  | _ => false
section
variable {prog : Program} {w : World} {A : Around} {s : Shared} {news : List (Addr × Obj)}
theorem lex_more {Q : Bool → Shared → Prop} {fin : Bool} (N : Led s.heap news) (hu : A.units + 20 < cLine) : ∀ {xs ys : List Value} {ds es : List Dat} (i : Nat), 1 ≤ i → DatAll news xs ds → DatAll news ys es → (∀ d ∈ ds, kqdOk 3 d = true) → (∀ d ∈ es, kqdOk 3 d = true) → dcanAll ds es = true → (fin = decide (xs.length < ys.length)) →
    Q (dltAll ds es) s → KatLex prog w A true fin Q (xs.zip ys) i s
  | _, _, _, _, i, hi, .nil, .nil, _, _, _, hf, h => by
    rw [dltAll] at h
    exact kat_nil (by rw [hf]; exact h)
  | _, _, _, _, i, hi, .nil, .cons _ _, _, _, _, hf, h => by
    rw [dltAll] at h
    exact kat_nil (by rw [hf]; simpa using h)
  | _, _, _, _, i, hi, .cons _ _, .nil, _, _, _, hf, h => by
    rw [dltAll] at h
    exact kat_nil (by rw [hf]; simpa using h)
  | _, _, d :: ds, e :: es, i, hi, .cons hd rd, .cons he re, k1, k2, hc, hf, h => by
    have hc2 : (deq d e = true ∨ dcan d e = true) ∧ dcanAll ds es = true := by simpa [dcanAll] using hc
    refine kat_cons (eqB 3 N hd he (k1 _ (.head _)) (k2 _ (.head _)) (by omega) ?_)
    rw [dltAll] at h
    cases hde : deq d e with
    | true =>
      rw [hde, if_pos rfl] at h
      exact kat_yes (lex_more N hu (i + 1) (by omega) rd re (fun x m => k1 x (.tail _ m)) (fun x m => k2 x (.tail _ m)) hc2.2 (by rw [hf]; simp) h)
    | false =>
      rw [hde, if_neg (by simp)] at h
      have hdc : dcan d e = true := by
        rcases hc2.1 with q | q
        · rw [hde] at q; cases q
        · exact q
      refine kat_no ?_
      have e0 : (true && i == 0) = false := by simp; omega
      rw [e0]
      exact kat_one _ _ (ltD 3 N hd he (k1 _ (.head _)) (k2 _ (.head _)) hdc (by omega) h)
theorem ask_tup {x y : Value} {d e : Dat} {int : Bool} {Q : Bool → Shared → Prop} (N : Led s.heap news) (hu : A.units + 20 < cLine) (rx : DatIn news x d) (ry : DatIn news y e) (fx : firstIs int d = true) (fy : firstIs int e = true) (k1 : kqdOk 4 d = true) (k2 : kqdOk 4 e = true) (hc : dcan d e = true) (h : Q (dlt d e) s) :
    wpAny (model prog w) A (keyLt' (tuples' true) x y) Q (fun _ _ => False) s := by
  cases rx with
  | @tuple a vs n ds ha D =>
    cases ry with
    | @tuple b us m es hb Ds =>
      have hc' : dcanAll ds es = true := by simpa [dcan] using hc
      rw [dlt] at h
      have k1' : ∀ x ∈ ds, kqdOk 3 x = true := by simpa [kqdOk] using k1
      have k2' : ∀ x ∈ es, kqdOk 3 x = true := by simpa [kqdOk] using k2
      refine kat_lt (N _ ha) rfl (N _ hb) rfl ?_
      cases D with
      | nil => simp [firstIs] at fx
      | @cons v vs' d₁ ds' hd rd =>
        cases Ds with
        | nil => simp [firstIs] at fy
        | @cons u us' e₁ es' he re =>
          have hc2 : (deq d₁ e₁ = true ∨ dcan d₁ e₁ = true) ∧ dcanAll ds' es' = true := by simpa [dcanAll] using hc'
          rw [dltAll] at h
          show KatLex prog w A true _ Q ((v, u) :: vs'.zip us') 0 s
          refine kat_cons (eqB 3 N hd he (k1' _ (.head _)) (k2' _ (.head _)) (by omega) ?_)
          cases hde : deq d₁ e₁ with
          | true =>
            rw [hde, if_pos rfl] at h
            exact kat_yes (lex_more N hu 1 (Nat.le_refl _) rd re (fun x m => k1' x (.tail _ m)) (fun x m => k2' x (.tail _ m)) hc2.2 (by simp) h)
          | false =>
            rw [hde, if_neg (by simp)] at h
            refine kat_no ?_
            show wpAny _ _ (oneLt' true v u) _ _ _
            cases hd with
            | int i t => cases he with
              | int j t' => exact oneLt_int (by simpa only [dlt] using h)
              | str y t' => simp [firstIs] at fx fy; rw [fx] at fy; cases fy
              | _ => simp [firstIs] at fy
            | str i t => cases he with
              | str j t' => exact oneLt_str (by simpa only [dlt] using h)
              | int y t' => simp [firstIs] at fx fy; rw [fx] at fy; cases fy
              | _ => simp [firstIs] at fy
            | _ => simp [firstIs] at fx
    | _ => simp [firstIs] at fy
  | _ => simp [firstIs] at fx

theorem katTups_of {h : Heap} {int : Bool} : ∀ {vs : List Value} {ds : List Dat}, Led h news → DatAll news vs ds → (∀ d ∈ ds, firstIs int d = true) → ∃ fs, KatTups h vs fs ∧ fs.length = vs.length ∧ ∀ v ∈ fs, (∃ i t, v = .int i t ∧ int = true) ∨ ∃ x t, v = .str x t ∧ int = false
  | _, _, _, .nil, _ => ⟨[], .nil, rfl, fun v hv => nomatch hv⟩
  | _, _, N, .cons (d := d) hd r, hf => by
    obtain ⟨fs, a, b, c⟩ := katTups_of N r fun x m => hf x (.tail _ m)
    have fd := hf d (.head _)
    cases hd with
    | @tuple ad us n es ha D =>
      cases D with
      | nil => simp [firstIs] at fd
      | @cons u us' e es' he re =>
        refine ⟨u :: fs, .cons (N _ ha) rfl rfl (by simp) a, by simp [b], fun v hv => ?_⟩
        rcases List.mem_cons.mp hv with rfl | hv
        · cases he with
          | int i t => exact .inl ⟨i, t, rfl, by simpa [firstIs] using fd⟩
          | str x t => exact .inr ⟨x, t, rfl, by simpa [firstIs] using fd⟩
          | _ => simp [firstIs] at fd
        · exact c v hv
    | _ => simp [firstIs] at fd
theorem kind_tup {int : Bool} {vs : List Value} {ds : List Dat} {Q : SortKind → Shared → Prop} (N : Led s.heap news) (D : DatAll news vs ds) (hf : ∀ d ∈ ds, firstIs int d = true) (hne : 0 < vs.length) (h : Q (tuples' true) s) : wpAny (model prog w) A (keyKind' vs.toArray) Q (fun _ _ => False) s := by
  obtain ⟨fs, a, b, c⟩ := katTups_of N D hf
  cases int with
  | true => exact kat_kind (T := .type "int") a (by omega) (fun v hv => by
      rcases c v hv with ⟨i, t, rfl, _⟩ | ⟨_, _, _, q⟩
      · exact Looks.of_pure rfl
      · cases q) (by decide) (by rw [show ((Value.type "int" != Value.type "tuple") : Bool) = true by decide]; exact h)
  | false => exact kat_kind (T := .type "str") a (by omega) (fun v hv => by
      rcases c v hv with ⟨_, _, _, q⟩ | ⟨x, t, rfl, _⟩
      · cases q
      · exact Looks.of_pure rfl) (by decide) (by rw [show ((Value.type "str" != Value.type "tuple") : Bool) = true by decide]; exact h)
end
section
variable {prog : Program} {w : World} {A : Around} {E : Value → Shared → Prop} {s : Shared}
variable {base : Heap} {R : Addr → Obj → Prop} {Fs : List Env} {env : Env} {own : List Addr} {Av : Addr → Prop} {z : Shared} {ρ : Str → Option Value} {news : List (Addr × Obj)}
theorem d_sortT {X : Type} (K : Kin X) {l : Addr} {vs : List Value} {n : Nat} {xs : List X} {x0 : X} {int : Bool} {Q : Value → Shared → Prop} (O : Ord fun a b => dlt (K.enc a) (K.enc b)) (S : St base R Fs env own Av z ρ news s) (hl : (l, listOf vs.toArray n) ∈ news) (D : DatAll news vs (xs.map K.enc))
    (hf : ∀ x, firstIs int (K.enc x) = true) (h2 : 2 ≤ xs.length) (h64 : xs.length < 64) (hu : A.units + 40 < cLine)
    (h : ∀ D vs' (xs' : List X) c s', Mu R D → (∀ p ∈ news, p.1 ≠ D) → DatAll news vs' (xs'.map K.enc) → xs'.Perm xs → xs'.Pairwise (fun a b => dlt (K.enc b) (K.enc a) = false) → St base R Fs env own Av z ρ ((D, listOf vs'.toArray c) :: news) s' → Q (.ref D) s') :
    wpAny (model prog w) A (call (.builtin "sorted") [.ref l]) Q E s := by
  have hlen : vs.length = xs.length := by rw [D.length, List.length_map]
  obtain ⟨m₀, hm, F0, N0⟩ := S.k0
  refine kat_sorted F0 N0 ⟨_, S.get hl, rfl, n, rfl⟩ (by omega) (by omega) fun Dn e1 h' F' N' lt => ?_
  have N1 : Led h' news := fun p hp => by
    have nL : p.1 ≠ env.locals := fun q => (S.led p hp).2 (q ▸ S.av _ S.loc)
    exact (N' _ (.tail _ (allBut_mem (S.led p hp).1 (by simp [nL])))).1
  have ok4 : ∀ x, kqdOk 4 (K.enc x) = true := fun x => by
    have up : ∀ (k : Nat) (d : Dat), kqdOk k d = true → kqdOk (k + 1) d = true := by
      intro k
      induction k with
      | zero => intro d hd; cases d <;> simp_all [kqdOk]
      | succ k ih => intro d hd; cases d with
        | tuple ds => simp only [kqdOk, List.all_eq_true] at hd ⊢; exact fun x hx => ih x (hd x hx)
        | list ds => simp only [kqdOk, List.all_eq_true] at hd ⊢; exact fun x hx => ih x (hd x hx)
        | _ => simp_all [kqdOk]
    exact up 3 _ (K.ok x)
  refine kind_tup (s := { s with heap := h' }) N1 D (fun d hd => by obtain ⟨x, _, rfl⟩ := List.mem_map.mp hd; exact hf x) (by omega) ?_
  have item : ∀ i, i < xs.length → DatIn news (vs.getD i Value.none) (K.enc (xs.getD i x0)) := fun i hi => by
    obtain ⟨v, hv, hd⟩ := D.get (k := i) (by rw [List.length_map]; exact hi)
    rw [List.getD_eq_getElem?_getD, hv, List.getD_eq_getElem?_getD, List.getElem?_eq_getElem hi]
    simpa using hd
  refine kasWp_run (n := xs.length) (bt := bOf (fun a b => dlt (K.enc a) (K.enc b)) fun i => xs.getD i x0) (fun i j Q' hi hj hq => ?_) _ (by rw [hlen]; exact sort_tame O _ (by omega)) ?_
  · exact ask_tup (s := { s with heap := h' }) N1 (by show A.units + 1 + 1 + 20 < cLine; omega) (item i hi) (item j hj) (hf _) (hf _) (ok4 _) (ok4 _) (K.can _ _) hq
  · obtain ⟨srt, prm⟩ := kas_sort_spec O (fun i => xs.getD i x0) (n := xs.length) (by omega)
    rw [hlen]
    generalize runT (bOf (fun a b => dlt (K.enc a) (K.enc b)) fun i => xs.getD i x0) (kas_sort xs.length) = pm at srt prm ⊢
    have hne : ∀ q ∈ allBut s.heap [env.locals], q.1 ≠ Dn := fun q hq => Nat.ne_of_lt (lt q hq)
    refine KasFin.intro F' N' (.head hne) fun h'' c F2 N2 => ?_
    have mem : ∀ i ∈ pm.toList, i < xs.length := fun i hi => by
      have := (prm.mem_iff (a := i)).mp (by simpa using hi)
      simpa using this
    obtain ⟨S', f⟩ := S.viaK (t := s.toks) (add := [(Dn, listOf (pm.toList.map fun i => vs.getD i Value.none).toArray c)]) hm F2 N2 (fun p hp q hq => by rw [List.mem_singleton.mp hp]; exact lt q hq)
    refine h Dn (pm.toList.map fun i => vs.getD i Value.none) (pm.toList.map fun i => xs.getD i x0) c _ (f _ (.head _)).1 (f _ (.head _)).2 ?_ ?_ ?_ S'
    · have all : ∀ l : List Nat, (∀ i ∈ l, i < xs.length) → DatAll news (l.map fun i => vs.getD i Value.none) ((l.map fun i => xs.getD i x0).map K.enc) := by
        intro l
        induction l with
        | nil => intro _; exact .nil
        | cons i l ih => intro hl; exact .cons (item i (hl i (.head _))) (ih fun j hj => hl j (.tail _ hj))
      exact all _ mem
    · have p1 : pm.toList.Perm (List.range xs.length) := by simpa using prm.toList
      have p2 := p1.map (fun i => xs.getD i x0)
      refine p2.trans (List.Perm.of_eq ?_)
      apply List.ext_getElem (by simp)
      intro i h1 h3
      simp [List.getElem?_eq_getElem h3]
    · rw [List.pairwise_iff_getElem]
      intro i j hi hj hij
      simp only [List.length_map, Array.length_toList] at hi hj
      have hsz : pm.size = xs.length := by have := prm.size_eq; simpa using this
      have := srt i j (by omega) (by omega)
      unfold key at this
      rw [Array.getD_eq_getD_getElem?, Array.getD_eq_getD_getElem?, Array.getElem?_eq_getElem (by omega), Array.getElem?_eq_getElem (by omega)] at this
      simpa using this
end
end
set_option Elab.async false
set_option maxRecDepth 100000
set_option maxHeartbeats 1000000
section
section
variable {prog : Program} {w : World} {A : Around} {E : Value → Shared → Prop} {s : Shared}
variable {base : Heap} {R : Addr → Obj → Prop} {Fs : List Env} {env : Env} {own : List Addr} {Av : Addr → Prop} {z : Shared} {ρ : Str → Option Value} {news : List (Addr × Obj)}
theorem sort_small {a : Addr} {vs : List Value} {n : Nat} {P : PySem.Fin → Shared → Prop} (ho : s.heap.get? a = some (seqObj "list" vs.toArray n)) (h1 : vs.length < 2)
    (h : ∀ h' c, (∀ b o, b ≠ a → s.heap.get? b = some o → h'.get? b = some o) → h'.get? a = some (seqObj "list" vs.toArray c) → P (.done (.ret .none)) { s with heap := h' }) :
    wpAny (model prog w) A (Builtin.«list.sort» ⟨[.ref a], []⟩) P E s := by
  have ha : a < s.heap.objs.size := Heap.lt_size ho
  have s1 := Heap.SameBut.update s.heap a (Obj.mapSeq fun _ => (#[] : Array Value))
  obtain ⟨e1, ho1⟩ : ∃ e1, (s.heap.update a (Obj.mapSeq fun _ => (#[] : Array Value))).get? a = some (seqObj "list" #[] e1) := ⟨_, get?_update_seq ho fun _ => #[]⟩
  rw [list_sort_plain]
  refine wpAny_bind (listItems_at ho rfl ?_)
  refine wpAny_bind (listUpdate_at ho rfl ?_ (by rw [List.size_toArray, sizeLine_eq]; omega) (Nat.zero_le _))
  refine wpAny_bind (seqEpoch_at ho1 rfl ?_)
  refine wpAny_bind (wpAny_newTuple ?_ (by show vs.length ≤ _; rw [sizeLine_eq]; omega))
  refine wpAny_bind (wpAny_newList ?_ (Nat.zero_le _))
  refine wpAny_holding ?_
  show wpAny (model prog w) A _ P E { s with heap := ((s.heap.update a (Obj.mapSeq fun _ => (#[] : Array Value))).push (seqObj "tuple" vs.toArray 0)).push (seqObj "list" #[] 0) }
  dsimp only
  have hn2 : vs.toArray.size < 2 := by rw [List.size_toArray]; omega
  rw [if_pos hn2]
  rw [if_pos hn2]
  refine wpAny_bind (wpAny_pure ?_)
  show wpAny _ _ ((pure ((), SortSt.mk' general' (vs.toArray.zip vs.toArray) #[] 7 none) : Sem (Unit × SortSt)) >>= _) _ _ _
  refine wpAny_bind (wpAny_pure ?_)
  dsimp only
  have ho2 : (((s.heap.update a (Obj.mapSeq fun _ => (#[] : Array Value))).push (seqObj "tuple" vs.toArray 0)).push (seqObj "list" #[] 0)).get? a = some (seqObj "list" #[] e1) := Heap.get?_push_of_some _ (Heap.get?_push_of_some _ ho1)
  refine wpAny_bind (seqEpoch_at ho2 rfl ?_)
  have hout : Array.map (fun x => x.snd) (arrOf (SortSt.mk' general' (vs.toArray.zip vs.toArray) #[] 7 none)) = vs.toArray := by
    show Array.map (fun x => x.snd) (vs.toArray.zip vs.toArray) = vs.toArray
    apply Array.toList_inj.mp
    rw [Array.toList_map, Array.toList_zip]
    simp only [List.zip, List.zipWith_self, List.map_map]
    exact List.map_id' vs
  rw [hout]
  obtain ⟨c2, hc2⟩ : ∃ c2, ((((s.heap.update a (Obj.mapSeq fun _ => (#[] : Array Value))).push (seqObj "tuple" vs.toArray 0)).push (seqObj "list" #[] 0)).update a (Obj.mapSeq fun _ => vs.toArray)).get? a = some (seqObj "list" vs.toArray c2) := ⟨_, get?_update_seq ho2 fun _ => vs.toArray⟩
  refine wpAny_bind (listUpdate_at ho2 rfl ?_ (Nat.zero_le _) (by rw [List.size_toArray, sizeLine_eq]; omega))
  show wpAny _ _ (if (e1 != e1) = true then _ else _) _ _ _
  rw [if_neg (by simp)]
  refine wpAny_pure (h _ c2 (fun b o hb e => ?_) hc2)
  have s2 := Heap.SameBut.update (((s.heap.update a (Obj.mapSeq fun _ => (#[] : Array Value))).push (seqObj "tuple" vs.toArray 0)).push (seqObj "list" #[] 0)) a (Obj.mapSeq fun _ => vs.toArray)
  exact (s2.2 b hb).trans (Heap.get?_push_of_some _ (Heap.get?_push_of_some _ ((s1.2 b hb).trans e)))
theorem d_sort1 {l : Addr} {vs : List Value} {n : Nat} {Q : Value → Shared → Prop} (S : St base R Fs env own Av z ρ news s) (hl : (l, listOf vs.toArray n) ∈ news) (h1 : vs.length < 2)
    (h : ∀ D c s', Mu R D → (∀ p ∈ news, p.1 ≠ D) → St base R Fs env own Av z ρ ((D, listOf vs.toArray c) :: news) s' → Q (.ref D) s') : wpAny (model prog w) A (call (.builtin "sorted") [.ref l]) Q E s := by
  refine Calls.call_function_entry kind_sorted plain_sorted entry_sorted (args_sorted1 _) ?_
  unfold Builtin.«sorted»
  refine wpAny_bind (m := checkCount "sorted" 1 1 _) (wpAny_pure ?_)
  refine wpAny_bind (collect_list ⟨_, S.get hl, rfl, n, rfl⟩ ?_ (by show vs.length ≤ _; rw [sizeLine_eq]; omega))
  refine wpAny_bind (wpAny_newList ?_ (by show vs.length ≤ _; rw [sizeLine_eq]; omega))
  have hsz : ((s.heap.push (seqObj "list" #[] 0)).update s.heap.objs.size (Obj.mapSeq (· ++ vs.toArray))).objs.size = s.heap.objs.size + 1 := by
    rw [Heap.size_update, size_push']
  have hoL : (((s.heap.push (seqObj "list" #[] 0)).update s.heap.objs.size (Obj.mapSeq (· ++ vs.toArray))).push (seqObj "list" vs.toArray 0)).get? (s.heap.objs.size + 1) = some (seqObj "list" vs.toArray 0) := by
    rw [← hsz]; exact Heap.get?_push_size _ rfl
  have keep : ∀ b o, s.heap.get? b = some o → (((s.heap.push (seqObj "list" #[] 0)).update s.heap.objs.size (Obj.mapSeq (· ++ vs.toArray))).push (seqObj "list" vs.toArray 0)).get? b = some o := fun b o q => by
    have hlt : b < s.heap.objs.size := Heap.lt_size q
    rw [Heap.get?_push_ne _ _ _ (by rw [hsz]; exact Nat.ne_of_lt (Nat.lt_succ_of_lt hlt)), Heap.get?_update_ne _ _ _ _ (Nat.ne_of_lt hlt), Heap.get?_push_ne _ _ _ (Nat.ne_of_lt hlt)]
    exact q
  show wpAny _ _ _ _ _ { s with heap := ((s.heap.push (seqObj "list" #[] 0)).update s.heap.objs.size (Obj.mapSeq (· ++ vs.toArray))).push (seqObj "list" vs.toArray 0) }
  rw [hsz]
  refine wpAny_bind (wpAny_holding (wpAny_call_entry slot_list_sort ⟨_, hoL, rfl⟩ entry_list_sort ?body (args_list_sort _)))
  case body =>
    refine sort_small (s := { s with heap := ((s.heap.push (seqObj "list" #[] 0)).update s.heap.objs.size (Obj.mapSeq (· ++ vs.toArray))).push (seqObj "list" vs.toArray 0) }) hoL h1 fun h' c k hc => ?_
    refine ⟨_, rfl, wpAny_pure ⟨_, rfl, ?_⟩⟩
    refine h _ c _ (S.fresh (Nat.le_succ _)) (fun p hp => Nat.ne_of_lt (Nat.lt_succ_of_lt (Heap.lt_size (S.led p hp).1))) (S.grow (s' := { s with heap := h' }) (add := [(s.heap.objs.size + 1, listOf vs.toArray c)]) ⟨rfl, rfl, rfl⟩ (fun b o e => k b o (Nat.ne_of_lt (Nat.lt_succ_of_lt (Heap.lt_size e))) (keep b o e)) fun p hp => by rw [List.mem_singleton.mp hp]; exact ⟨hc, Nat.le_succ _⟩)
end
end
set_option Elab.async false
set_option maxRecDepth 100000
set_option maxHeartbeats 2000000
section
section
variable {D : Type} {lt : D → D → Bool}
theorem sdGo_len {x : D} {start : Nat} : ∀ (f : Nat) (xs : List D) (p : Nat), (sdGo lt x start f xs p).1.length = xs.length
  | 0, _, _ => rfl
  | f + 1, xs, p => by
    rw [sdGo]
    split
    · split
      · split
        · rw [sdGo_len f]; simp
        · rfl
      · rfl
    · rfl
theorem siftdown_len {xs : List D} {start p : Nat} : (siftdown lt xs start p).length = xs.length := by
  unfold siftdown
  split
  · rw [List.length_set, sdGo_len]
  · rfl
theorem suGo_len : ∀ (f : Nat) (xs : List D) (p : Nat), (suGo lt f xs p).1.length = xs.length
  | 0, _, _ => rfl
  | f + 1, xs, p => by
    rw [suGo]
    split
    · split
      · split
        · rw [suGo_len f]; simp
        · rw [suGo_len f]; simp
      · rw [suGo_len f]; simp
    · rfl
theorem siftup_len {xs : List D} {p : Nat} : (siftup lt xs p).length = xs.length := by
  unfold siftup
  split
  · rw [siftdown_len, List.length_set, suGo_len]
  · rfl
noncomputable def hfGo (lt : D → D → Bool) : Nat → List D → List D
  | 0, xs => xs
  | k + 1, xs => hfGo lt k (siftup lt xs k)
noncomputable def heapify (lt : D → D → Bool) (xs : List D) : List D := hfGo lt (xs.length / 2) xs
end
section
variable {prog : Program} {w : World} {A : Around} {base : Heap} {tab : List (Str × Option Value)} {news : List (Addr × Obj)} {D : Type} (K : Kind D prog w)
theorem heapify_con {f fu fd hp : Addr} {vs : List Value} {n : Nat} {ds : List D} (F : FnP base tab "heapify" f) (Fu : FnP base tab "_siftup" fu) (Fd : FnP base tab "_siftdown" fd) (G : GF base tab) (tl : TB tab "len") (tr : TB tab "reversed") (tg : TB tab "range") (rm : Room A 4)
    (hl : (hp, listOf vs.toArray n) ∈ news) (hb : base.get? hp = none) (hr : Rels (K.Rel news) vs ds) (hz : ds.length ≤ 1000) :
    Con prog w base A (.ref f) [.ref hp] [hp] news (fun _ news' => ∃ vs' n', (hp, listOf vs'.toArray n') ∈ news' ∧ Rels (K.Rel news') vs' (heapify K.lt ds)) := by
  have e : fnOfP "heapify" = fnOfP "heapify" := rfl
  conv at e => rhs; whnf
  unfold FnP at F
  rw [e] at F
  clear e
  dsimp only at F
  refine Con.ofFn (binds := [(Str.ofString "x", .ref hp)]) F G rm (by rfl) (by rfl) (by rfl) (fun _ _ _ => by rfl) (by rfl) (by rfl) (by decide) (fun a m => by rw [List.mem_singleton.mp m]; exact ⟨⟨_, hl⟩, hb⟩) ?_
  clear F
  intro z s A R Fs L Av cdv rm hfr mu S
  have hzv : vs.length = ds.length := hr.1
  repeat' walk_at "m"
  have e1 : (vs.length : Int) / 2 = ((ds.length / 2 : Nat) : Int) := by omega
  rw [e1]
  refine r_range (by assumption) ?_
  intro r t u v s1 _ nr S1
  repeat' walk_at "m"
  refine r_rev S1 (List.mem_cons_self) (by omega) ?_
  intro I s2 mI nI S2
  refine for_revrange (J := fun i ρ' news' => ∃ vs₁ n₁ ds₁, ρ' "x" = some (.ref hp) ∧ (hp, listOf vs₁.toArray n₁) ∈ news' ∧ Rels (K.Rel news') vs₁ ds₁ ∧ ds₁.length = ds.length ∧ (∀ x ∈ news, x.1 ≠ hp → x ∈ news') ∧ hfGo K.lt (ds.length / 2 - i) ds₁ = heapify K.lt ds)
    S2 rm.hh nI mI ⟨vs, n, ds, by walk_at "look", by walk_at "mem", hr.mono fun v d h => K.mono h fun p hp _ => by walk_at "mem", rfl, fun x hx _ => by walk_at "mem", rfl⟩ ?_ ?_
  · rintro i t ρ₁ news₁ R' Av' s₁ hi T Q₁ hQ₁ ⟨vs₁, n₁, ds₁, l1, hl₁, hr₁, hlen, sub, hgo⟩ S₁
    repeat' walk_at "m"
    rename St _ _ _ _ _ _ _ _ _ _ => S3
    have mu' : Mu R' hp := T.mu hp (mu hp (by simp)) (S3.led _ hl₁).2 (by simp)
    refine k_call S3 G Fu (List.cons_ne_nil _ _) ?_
    repeat' walk_at "m"
    refine CallTo.mk (X := [hp]) S3 hfr (siftup_con K Fu Fd G tl rm hl₁ hb hr₁ (by omega) (by omega)) (fun a m => by rw [List.mem_singleton.mp m]; exact ⟨⟨_, hl₁⟩, mu'⟩) (fun r s' news' S' sub' post => ?_)
    obtain ⟨vs', n', hm', hr'⟩ := post
    repeat' walk_at "m"
    refine ⟨_, _, S', vs', n', _, by walk_at "look", hm', hr', by rw [siftup_len]; exact hlen, fun x hx hn => sub' x (sub x hx hn) (by simpa using hn), ?_⟩
    rw [← hgo, show ds.length / 2 - i = (ds.length / 2 - (i + 1)) + 1 by omega, hfGo]
    congr 2
    omega
  · rintro ρ₁ news₁ s₁ ⟨vs₁, n₁, ds₁, l1, hl₁, hr₁, hlen, sub, hgo⟩ S₁
    repeat' walk_at "m"
    rw [Nat.sub_self, hfGo] at hgo
    exact ⟨_, _, S₁, fun x hx hn => sub x hx (by simpa using hn), vs₁, n₁, hl₁, by rw [← hgo]; exact hr₁⟩
end
end
set_option Elab.async false
section
section
variable {D : Type} {lt : D → D → Bool}
theorem HeapFrom.nil : HeapFrom lt ([] : List D) 0 := fun i _ _ a b ha => by simp at ha
theorem Ord.irrefl (O : Ord lt) (a : D) : lt a a = false := by
  cases h : lt a a with
  | false => rfl
  | true => rw [O.asym _ _ h] at h; cases h
theorem HeapFrom.least (O : Ord lt) {x : D} {r : List D} (H : HeapFrom lt (x :: r) 0) : ∀ (n i : Nat), i ≤ n → ∀ y, (x :: r)[i]? = some y → lt y x = false
  | 0, i, hi, y, hy => by
    obtain rfl : i = 0 := by omega
    simp at hy; subst hy; exact O.irrefl _
  | n + 1, i, hi, y, hy => by
    by_cases h : i = 0
    · subst h; simp at hy; subst hy; exact O.irrefl _
    · have hl := (List.getElem?_eq_some_iff.mp hy).1
      have hp : par i < (x :: r).length := by unfold par; omega
      have h1 := H.least O n (par i) (by unfold par; omega) _ (List.getElem?_eq_getElem hp)
      have h2 := H i (by omega) (Nat.zero_le _) _ y (List.getElem?_eq_getElem hp) hy
      exact O.trans _ _ _ h1 h2
theorem HeapFrom.head (O : Ord lt) {x : D} {r : List D} (H : HeapFrom lt (x :: r) 0) : ∀ y ∈ x :: r, lt y x = false := fun y hy => by
  obtain ⟨i, hi, rfl⟩ := List.getElem_of_mem hy
  exact H.least O i i (Nat.le_refl _) _ (List.getElem?_eq_getElem hi)
theorem desc0 : ∀ q, Desc 0 q := fun q => by
  induction q using Nat.strongRecOn with
  | _ q ih =>
    by_cases h : q = 0
    · subst h; exact .self
    · exact .down (by omega) (ih _ (by unfold par; omega))
theorem heappush_spec (O : Ord lt) {xs : List D} {x : D} (H : HeapFrom lt xs 0) : HeapFrom lt (heappush lt xs x) 0 ∧ (heappush lt xs x).Perm (x :: xs) := by
  have J : SdIn lt (xs ++ [x]) 0 xs.length := by
    refine ⟨fun i h0 _ hi a b ha hb => ?_, fun _ c h0 hc a b _ hb => ?_⟩
    · have hl := (List.getElem?_eq_some_iff.mp hb).1
      rw [List.length_append, List.length_singleton] at hl
      have hil : i < xs.length := by omega
      rw [List.getElem?_append_left hil] at hb
      rw [List.getElem?_append_left (by unfold par; omega)] at ha
      exact H i h0 (Nat.zero_le _) a b ha hb
    · have hl := (List.getElem?_eq_some_iff.mp hb).1
      rw [List.length_append, List.length_singleton] at hl
      unfold par at hc
      omega
  obtain ⟨a, b⟩ := siftdown_spec O (v := xs ++ [x]) (s := 0) (q := xs.length) (by simp) (desc0 _) J
  exact ⟨a, b.trans (List.perm_append_singleton x xs)⟩
theorem heappop_spec (O : Ord lt) {ds : List D} {d : D} (H : HeapFrom lt (ds ++ [d]) 0) :
    HeapFrom lt (heappop lt ds d).2 0 ∧ ((heappop lt ds d).1 :: (heappop lt ds d).2).Perm (ds ++ [d]) ∧ ∀ y ∈ ds ++ [d], lt y (heappop lt ds d).1 = false := by
  cases ds with
  | nil =>
    refine ⟨HeapFrom.nil, List.Perm.refl _, fun y hy => ?_⟩
    simp at hy; subst hy
    exact O.irrefl _
  | cons x r =>
    have hl := H.head O
    have H1 : HeapFrom lt (d :: r) (0 + 1) := fun i h0 hs a b ha hb => by
      have e : ∀ (j : Nat) (z : D), 0 < j → (d :: r)[j]? = some z → (x :: r ++ [d])[j]? = some z := fun j z hj hz => by
        cases j with
        | zero => omega
        | succ j =>
          simp only [List.getElem?_cons_succ, List.cons_append] at hz ⊢
          rw [List.getElem?_append_left (List.getElem?_eq_some_iff.mp hz).1]; exact hz
      exact H i h0 (Nat.zero_le _) a b (e _ _ (by omega) ha) (e _ _ h0 hb)
    obtain ⟨a, b⟩ := siftup_spec O (v := d :: r) (p := 0) (by simp) H1
    refine ⟨a, ?_, hl⟩
    show (x :: siftup lt (d :: r) 0).Perm (x :: r ++ [d])
    refine (b.cons x).trans ?_
    exact (List.perm_append_singleton d r).symm.cons x
theorem hfGo_spec (O : Ord lt) : ∀ (k : Nat) (xs : List D), k ≤ xs.length → HeapFrom lt xs k → HeapFrom lt (hfGo lt k xs) 0 ∧ (hfGo lt k xs).Perm xs
  | 0, xs, _, H => ⟨H, List.Perm.refl _⟩
  | k + 1, xs, hk, H => by
    obtain ⟨a, b⟩ := siftup_spec O (v := xs) (p := k) (by omega) H
    obtain ⟨c, d⟩ := hfGo_spec O k (siftup lt xs k) (by rw [siftup_len]; omega) a
    exact ⟨c, d.trans b⟩
theorem heapify_spec (O : Ord lt) (xs : List D) : HeapFrom lt (heapify lt xs) 0 ∧ (heapify lt xs).Perm xs :=
  hfGo_spec O (xs.length / 2) xs (by omega) fun i h0 hs a b ha hb => by
    have := (List.getElem?_eq_some_iff.mp hb).1
    unfold par at hs
    omega
end
end
set_option Elab.async false
set_option maxRecDepth 100000
section
mutual
noncomputable def noList : Dat → Bool
  | .list _ => false
  | .tuple ds => noLists ds
  | _ => true
noncomputable def noLists : List Dat → Bool
  | [] => true
  | d :: ds => noList d && noLists ds
end
mutual
theorem datIn_tup {news news' : List (Addr × Obj)} (hs : ∀ p ∈ news, p.2.cls = .type "tuple" → p ∈ news') : ∀ {v : Value} {d : Dat}, DatIn news v d → noList d = true → DatIn news' v d
  | _, _, .none, _ => .none
  | _, _, .bool b, _ => .bool b
  | _, _, .int i t, _ => .int i t
  | _, _, .str x t, _ => .str x t
  | _, _, .bytes b t, _ => .bytes b t
  | _, _, .tuple h r, hn => .tuple (hs _ h rfl) (datAll_tup hs r (by simpa [noList] using hn))
  | _, _, .list h r, hn => by simp [noList] at hn
theorem datAll_tup {news news' : List (Addr × Obj)} (hs : ∀ p ∈ news, p.2.cls = .type "tuple" → p ∈ news') : ∀ {vs : List Value} {ds : List Dat}, DatAll news vs ds → noLists ds = true → DatAll news' vs ds
  | _, _, .nil, _ => .nil
  | _, _, .cons h r, hn => by
    simp only [noLists, Bool.and_eq_true] at hn
    exact .cons (datIn_tup hs h hn.1) (datAll_tup hs r hn.2)
end
theorem ints_noList : ∀ l : List Int, noLists (l.map .int) = true
  | [] => rfl
  | _ :: l => by simp [noLists, noList, ints_noList l]
theorem ints_ok : ∀ (n : Nat) (l : List Int), (l.map Dat.int).all (kqdOk n) = true := fun n l => by
  rw [List.all_map]; simp; intro x _; cases n <;> rfl
theorem ints_can : ∀ l m : List Int, dcanAll (l.map .int) (m.map .int) = true
  | [], _ => by cases ‹List Int› <;> rfl
  | _ :: _, [] => rfl
  | a :: l, b :: m => by simp [dcanAll, dcan, ints_can l m]
/-- (how many, the numbers) -/
noncomputable def kinF : Kin (Int × List Int) where
  enc d := .tuple [.int d.1, .tuple (d.2.map .int)]
  flat d := ⟨_, rfl⟩
  ok d := by simp only [kqdOk, List.all_cons, List.all_nil, Bool.and_true, Bool.true_and]; exact ints_ok 1 d.2
  can d e := by simp [dcan, dcanAll, ints_can]
  tup h hs := datIn_tup hs h (by simp [noList, noLists, ints_noList])
/-- (how many, which) -/
noncomputable def kinA : Kin (Int × Int) where
  enc d := .tuple [.int d.1, .int d.2]
  flat d := ⟨_, rfl⟩
  ok d := by simp [kqdOk]
  can d e := by simp [dcan, dcanAll]
  tup h hs := datIn_tup hs h (by simp [noList, noLists])
theorem deq_int {a b : Int} : deq (.int a) (.int b) = decide (a = b) := by
  unfold deq
  by_cases h : a = b
  · subst h; simp [kqdP, PyData.eqv]
  · simp [kqdP, PyData.eqv, h]
/-- lists of ints by the first that differs -/
noncomputable def lexI : List Int → List Int → Bool
  | [], [] => false
  | [], _ :: _ => true
  | _ :: _, [] => false
  | a :: l, b :: m => if a = b then lexI l m else decide (a < b)
theorem dltAll_lexI : ∀ l m : List Int, dltAll (l.map .int) (m.map .int) = lexI l m
  | [], [] => rfl
  | [], _ :: _ => rfl
  | _ :: _, [] => rfl
  | a :: l, b :: m => by
    rw [List.map_cons, List.map_cons, dltAll, deq_int, dltAll_lexI l m, dlt, lexI]
    by_cases h : a = b
    · subst h; simp
    · simp [h]
theorem lexI_asym : ∀ l m : List Int, lexI l m = true → lexI m l = false
  | [], [], h => by cases h
  | [], _ :: _, _ => rfl
  | _ :: _, [], h => by cases h
  | a :: l, b :: m, h => by
    rw [lexI] at h ⊢
    by_cases e : a = b
    · subst e; rw [if_pos rfl] at h ⊢; exact lexI_asym l m h
    · rw [if_neg e] at h; rw [if_neg (Ne.symm e)]
      simp only [decide_eq_true_eq, decide_eq_false_iff_not] at h ⊢; omega
theorem lexI_trans : ∀ l m n : List Int, lexI m l = false → lexI n m = false → lexI n l = false
  | [], m, [], _, _ => rfl
  | [], m, c :: n, h1, h2 => by cases m <;> rfl
  | a :: l, [], n, h1, h2 => by cases h1
  | a :: l, b :: m, [], h1, h2 => by cases h2
  | a :: l, b :: m, c :: n, h1, h2 => by
    rw [lexI] at h1 h2 ⊢
    by_cases e1 : b = a
    · subst e1
      rw [if_pos rfl] at h1
      by_cases e2 : c = b
      · subst e2; rw [if_pos rfl] at h2 ⊢; exact lexI_trans l m n h1 h2
      · rw [if_neg e2] at h2 ⊢; exact h2
    · rw [if_neg e1] at h1
      simp only [decide_eq_false_iff_not] at h1
      by_cases e2 : c = b
      · subst e2; rw [if_neg e1]; simp only [decide_eq_false_iff_not]; exact h1
      · rw [if_neg e2] at h2
        simp only [decide_eq_false_iff_not] at h2
        by_cases e3 : c = a
        · omega
        · rw [if_neg e3]; simp only [decide_eq_false_iff_not]; omega
theorem lexI_total : ∀ l m : List Int, lexI l m = false → lexI m l = false → l = m
  | [], [], _, _ => rfl
  | [], _ :: _, h, _ => by cases h
  | _ :: _, [], _, h => by cases h
  | a :: l, b :: m, h1, h2 => by
    rw [lexI] at h1 h2
    by_cases e : a = b
    · subst e; rw [if_pos rfl] at h1 h2; rw [lexI_total l m h1 h2]
    · rw [if_neg e] at h1; rw [if_neg (Ne.symm e)] at h2
      simp only [decide_eq_false_iff_not] at h1 h2; omega
noncomputable def ltA (d e : Int × Int) : Bool := if d.1 = e.1 then decide (d.2 < e.2) else decide (d.1 < e.1)
noncomputable def ltF (d e : Int × List Int) : Bool := if d.1 = e.1 then lexI d.2 e.2 else decide (d.1 < e.1)
theorem kinA_lt (d e : Int × Int) : dlt (kinA.enc d) (kinA.enc e) = ltA d e := by
  show dltAll [.int d.1, .int d.2] [.int e.1, .int e.2] = _
  simp only [dltAll, deq_int, dlt, ltA]
  by_cases h : d.1 = e.1
  · simp only [h, decide_true, if_true]
    by_cases h2 : d.2 = e.2
    · simp [h2]
    · simp [h2]
  · simp [h]
theorem deq_tupI {l m : List Int} : deq (.tuple (l.map .int)) (.tuple (m.map .int)) = decide (l = m) := by
  have a : kqdOk 1 (.tuple (l.map .int)) = true := by rw [kqdOk]; exact ints_ok 0 l
  have b : kqdOk 1 (.tuple (m.map .int)) = true := by rw [kqdOk]; exact ints_ok 0 m
  have inj : ∀ l m : List Int, l.map Dat.int = m.map Dat.int → l = m := fun l m h => by
    induction l generalizing m with
    | nil => cases m with
      | nil => rfl
      | cons b m => cases h
    | cons a l ih => cases m with
      | nil => cases h
      | cons b m =>
        rw [List.map_cons, List.map_cons] at h
        injection h with h1 h2
        injection h1 with h1
        rw [h1, ih m h2]
  by_cases h : l = m
  · subst h
    rw [(deq_eq a b).mpr rfl]; simp
  · have : ¬ deq (.tuple (l.map .int)) (.tuple (m.map .int)) = true := fun q => h (inj _ _ (by have := (deq_eq a b).mp q; injection this))
    rw [Bool.eq_false_iff.mpr this]; simp [h]
theorem lexI_irrefl : ∀ l, lexI l l = false
  | [] => rfl
  | a :: l => by rw [lexI, if_pos rfl]; exact lexI_irrefl l
theorem kinF_lt (d e : Int × List Int) : dlt (kinF.enc d) (kinF.enc e) = ltF d e := by
  show dltAll [.int d.1, .tuple (d.2.map .int)] [.int e.1, .tuple (e.2.map .int)] = _
  simp only [dltAll, deq_int, dlt, ltF, deq_tupI, dltAll_lexI]
  by_cases h : d.1 = e.1
  · simp only [h, decide_true, if_true]
    by_cases h2 : d.2 = e.2
    · simp [h2, lexI_irrefl]
    · simp [h2]
  · simp [h]
theorem ordA : Ord ltA where
  asym a b h := by
    unfold ltA at h ⊢
    by_cases e : a.1 = b.1
    · rw [if_pos e] at h; rw [if_pos e.symm]
      simp only [decide_eq_true_eq, decide_eq_false_iff_not] at h ⊢; omega
    · rw [if_neg e] at h; rw [if_neg (Ne.symm e)]
      simp only [decide_eq_true_eq, decide_eq_false_iff_not] at h ⊢; omega
  trans a b c h1 h2 := by
    unfold ltA at h1 h2 ⊢
    split at h1 <;> split at h2 <;> split <;> simp only [decide_eq_false_iff_not] at h1 h2 ⊢ <;> omega
theorem ordF : Ord ltF where
  asym a b h := by
    unfold ltF at h ⊢
    by_cases e : a.1 = b.1
    · rw [if_pos e] at h; rw [if_pos e.symm]; exact lexI_asym _ _ h
    · rw [if_neg e] at h; rw [if_neg (Ne.symm e)]
      simp only [decide_eq_true_eq, decide_eq_false_iff_not] at h ⊢; omega
  trans a b c h1 h2 := by
    unfold ltF at h1 h2 ⊢
    by_cases e1 : b.1 = a.1
    · rw [if_pos e1] at h1
      by_cases e2 : c.1 = b.1
      · rw [if_pos e2] at h2; rw [if_pos (e2.trans e1)]; exact lexI_trans _ _ _ h1 h2
      · rw [if_neg e2] at h2; rw [if_neg (by omega)]
        simp only [decide_eq_false_iff_not] at h2 ⊢; omega
    · rw [if_neg e1] at h1
      simp only [decide_eq_false_iff_not] at h1
      by_cases e2 : c.1 = b.1
      · rw [if_neg (by omega)]; simp only [decide_eq_false_iff_not]; omega
      · rw [if_neg e2] at h2
        simp only [decide_eq_false_iff_not] at h2
        rw [if_neg (by omega)]; simp only [decide_eq_false_iff_not]; omega
theorem ordKF : Ord fun a b => dlt (kinF.enc a) (kinF.enc b) := by
  have e : (fun a b => dlt (kinF.enc a) (kinF.enc b)) = ltF := by funext a b; exact kinF_lt a b
  rw [e]; exact ordF
end
set_option Elab.async false
set_option maxRecDepth 100000
section
theorem datAll_at {news : List (Addr × Obj)} : ∀ {vs : List Value} {ds : List Dat}, DatAll news vs ds → ∀ {i : Nat} {v : Value}, vs[i]? = some v → ∃ d, ds[i]? = some d ∧ DatIn news v d
  | _, _, .nil, i, v, h => by simp at h
  | _, _, .cons h r, 0, v, e => by simp at e; subst e; exact ⟨_, rfl, h⟩
  | _, _, .cons h r, i + 1, v, e => by simp only [List.getElem?_cons_succ] at e ⊢; exact datAll_at r e
theorem datAll_of {α : Type} {news : List (Addr × Obj)} {f : α → Dat} {vs : List Value} {l : List α} (D : DatAll news vs (l.map f)) {i : Nat} {v : Value} (h : vs[i]? = some v) : ∃ x, l[i]? = some x ∧ DatIn news v (f x) := by
  obtain ⟨d, hd, q⟩ := datAll_at D h
  rw [List.getElem?_map] at hd
  cases hx : l[i]? with
  | none => rw [hx] at hd; cases hd
  | some x => rw [hx] at hd; cases hd; exact ⟨x, rfl, q⟩
theorem datAll_to {α : Type} {news : List (Addr × Obj)} {f : α → Dat} {vs : List Value} {l : List α} (D : DatAll news vs (l.map f)) {i : Nat} {x : α} (h : l[i]? = some x) : ∃ v, vs[i]? = some v ∧ DatIn news v (f x) := by
  obtain ⟨hi, rfl⟩ := List.getElem?_eq_some_iff.mp h
  obtain ⟨v, hv, q⟩ := DatAll.get D (k := i) (by simpa using hi)
  exact ⟨v, hv, by simpa using q⟩
theorem datInt {news : List (Addr × Obj)} {v : Value} {x : Int} (h : DatIn news v (.int x)) : ∃ t, v = .int x t := by cases h; exact ⟨_, rfl⟩
theorem take_ext {α : Type} {l : List α} {i : Nat} {x : α} (h : l[i]? = some x) : l.take (i + 1) = l.take i ++ [x] := by
  rw [List.take_succ, h]; rfl
theorem rels_of {D : Type} {K : Kin D} {prog : Program} {w : World} {news : List (Addr × Obj)} {vs : List Value} {l : List D} (h : DatAll news vs (l.map K.enc)) : Rels ((K.kind prog w).Rel news) vs l := by
  refine ⟨by rw [h.length, List.length_map], fun i v d a b => ?_⟩
  obtain ⟨x, hx, q⟩ := datAll_of h a
  rw [hx] at b; cases b; exact q
theorem of_rels {D : Type} {K : Kin D} {prog : Program} {w : World} {news : List (Addr × Obj)} : ∀ {vs : List Value} {l : List D}, Rels ((K.kind prog w).Rel news) vs l → DatAll news vs (l.map K.enc)
  | [], [], _ => .nil
  | [], _ :: _, h => by cases h.1
  | _ :: _, [], h => by cases h.1
  | v :: vs, d :: l, h => .cons (h.2 0 v d rfl rfl) (of_rels ⟨by simpa using h.1, fun i v d a b => h.2 (i + 1) v d (by simpa using a) (by simpa using b)⟩)
theorem any_int (l : List Int) (p : Int) : ((l.map Dat.int).any fun y => deq y (.int p)) = l.contains p := by
  rw [List.any_map]
  induction l with
  | nil => rfl
  | cons a l ih =>
    rw [List.any_cons, ih, List.contains_cons]
    congr 1
    show deq (.int a) (.int p) = _
    rw [deq_int]
    by_cases h : a = p
    · subst h; simp
    · simp [h, Ne.symm h]
theorem deq_listI {l m : List Int} : deq (.list (l.map .int)) (.list (m.map .int)) = decide (l = m) := by
  have a : kqdOk 1 (.list (l.map .int)) = true := by rw [kqdOk]; exact ints_ok 0 l
  have b : kqdOk 1 (.list (m.map .int)) = true := by rw [kqdOk]; exact ints_ok 0 m
  have inj : ∀ l m : List Int, l.map Dat.int = m.map Dat.int → l = m := fun l m h => by
    induction l generalizing m with
    | nil => cases m with
      | nil => rfl
      | cons b m => cases h
    | cons a l ih => cases m with
      | nil => cases h
      | cons b m =>
        rw [List.map_cons, List.map_cons] at h
        injection h with h1 h2
        injection h1 with h1
        rw [h1, ih m h2]
  by_cases h : l = m
  · subst h
    rw [(deq_eq a b).mpr rfl]; simp
  · have : ¬ deq (.list (l.map .int)) (.list (m.map .int)) = true := fun q => h (inj _ _ (by have := (deq_eq a b).mp q; injection this))
    rw [Bool.eq_false_iff.mpr this]; simp [h]
section
variable {prog : Program} {w : World} {A : Around}
variable {base : Heap} {R : Addr → Obj → Prop} {Fs : List Env} {env : Env} {own : List Addr} {Av : Addr → Prop} {z : Shared} {ρ : Str → Option Value} {news : List (Addr × Obj)} {s s' : Shared}
theorem kdone_to {Jn : List Value → List (Addr × Obj) → Prop} {y : Str} {py : Pos} {Q : Shared → Prop} (hy : env.kindOf y = some .local)
    (h : ∀ D ys news' s', Jn ys news' → St base R Fs env own Av z (up ρ y (.ref D)) ((D, listOf ys.toArray ys.length) :: news') s' → (∀ p ∈ news', p.1 ≠ D) → Mu R D → Q s') :
    KDone base R Fs env own Av z ρ Jn (compPost (model prog w) A NoE (some (assign (.Name y py) env)) (fun _ s' => Q s')) := kdone_assign (Q := fun _ => Q) hy h
theorem ifs_nil {env : Env} {Q : Bool → Shared → Prop} (h : Q true s) : wpAny (model prog w) A (forIn ([] : List Expr) true fun c r => if r = true then do let ok ← isTrue c env (eval c env); pure (ForInStep.yield ok) else pure (ForInStep.yield r)) Q NoE s := by
  rw [List.forIn_nil]; exact wpAny_pure h
theorem ifs_one {c : Expr} {env : Env} {Q : Bool → Shared → Prop} (h : wpAny (model prog w) A (isTrue c env (eval c env)) Q NoE s) : wpAny (model prog w) A (forIn [c] true fun c r => if r = true then do let ok ← isTrue c env (eval c env); pure (ForInStep.yield ok) else pure (ForInStep.yield r)) Q NoE s := by
  rw [List.forIn_cons, if_pos rfl, bind_assoc]
  refine wpAny_bind (wpAny_mono h (fun b s' hb => ?_) fun _ _ e => e)
  rw [pure_bind]
  show wpAny _ _ (forIn [] b _) _ _ _
  rw [List.forIn_nil]
  exact wpAny_pure hb
theorem St.none (S : St base R Fs env own Av z ρ news s) {D : Addr} (m : Mu R D) : base.get? D = Option.none := by
  cases h : base.get? D with
  | none => rfl
  | some o => exact absurd (S.baseR _ _ h) (m o)
end
end
set_option Elab.async false
set_option maxRecDepth 100000
set_option maxHeartbeats 2000000
section
section
variable {prog : Program} {w : World} {A : Around} {base : Heap} {tab : List (Str × Option Value)} {news : List (Addr × Obj)} {K : Frag} {C pI pF fI fT fN : Addr}
theorem ff_init {x dx l : Addr} {bm : Value} {its : Array Value} {n : Nat} {od : Obj} (F : MthP base "filterfalse" "__init__" fI) (G : GF base tab) (X : K.In base) (ff : Ff K C pI pF fI fT fN) (ti : TB tab "iter") (rm : Room A 1)
    (hx : (x, ffObj C dx #[]) ∈ news) (hd : (dx, od) ∈ news) (hxd : x ≠ dx) (hl : (l, listOf its n) ∈ news) (hxl : x ≠ l) (hb : base.get? x = none) :
    ConE prog w base A (.ref fI) [.ref x, bm, .ref l] [x] news (fun r news' => r = .none ∧ ∃ I, (x, ffObj C dx #[some bm, some (.ref I)]) ∈ news' ∧ (I, iterObj l 0) ∈ news' ∧ ∀ p ∈ news, p.1 ≠ I) (fun _ => False) := by
  have e : mthOfP "filterfalse" "__init__" = mthOfP "filterfalse" "__init__" := rfl
  conv at e => rhs; whnf
  unfold MthP at F
  rw [e] at F
  clear e
  dsimp only at F
  refine ConE.ofFun (binds := [(Str.ofString "self", .ref x), (Str.ofString "function", bm), (Str.ofString "iterable", .ref l)]) F G rm (by rfl) (by rfl) (by rfl) (fun _ _ _ => by rfl) (by rfl) (by rfl) (by decide) (fun a m => by rw [List.mem_singleton.mp m]; exact ⟨⟨_, hx⟩, hb⟩) ?_
  clear F
  intro z s A R Fs L Av cdv E rm hfr mu hL muL _ _ S
  repeat' walk_at "m"
  refine it_iter (by assumption) hl ?_
  intro I s1 muI nI S1
  have hxI : x ≠ I := nI _ hx
  repeat' walk_at "m"
  refine ff_set S1 X (List.mem_cons_of_mem _ hx) (List.mem_cons_of_mem _ hd) (mu x (by simp)) muL hL ff.set ff.over ff.kI ff.mI ff.sI (by decide) ?_
  intro s2 S2
  have hx2 : (x, ffObj C dx #[none, some (.ref I)]) ∈ setN x (ffObj C dx #[none, some (.ref I)]) ((I, iterObj l 0) :: news) := setN_self (List.mem_cons_of_mem _ hx)
  have hd2 : (dx, od) ∈ setN x (ffObj C dx #[none, some (.ref I)]) ((I, iterObj l 0) :: news) := setN_ne (List.mem_cons_of_mem _ hd) (Ne.symm hxd)
  repeat' walk_at "m"
  refine ff_set S2 X hx2 hd2 (mu x (by simp)) muL hL ff.set ff.over ff.kF ff.mF ff.sF (by decide) ?_
  intro s3 S3
  repeat' walk_at "m"
  exact ⟨_, _, S3, fun p hp hn => sub_setN (sub_setN fun p hp _ => List.mem_cons_of_mem _ hp) p hp (by simpa using hn), rfl, I, setN_self hx2, setN_ne (setN_ne List.mem_cons_self (Ne.symm hxI)) (Ne.symm hxI), nI⟩
end
end
set_option Elab.async false
set_option maxRecDepth 100000
set_option maxHeartbeats 2000000
section
section
variable {prog : Program} {w : World} {A : Around} {base : Heap} {tab : List (Str × Option Value)} {news : List (Addr × Obj)} {K : Frag} {C pI pF fI fT fN : Addr}
theorem ff_iter {x : Addr} (F : MthP base "filterfalse" "__iter__" fT) (G : GF base tab) (rm : Room A 1) :
    Con prog w base A (.ref fT) [.ref x] [] news (fun r news' => r = .ref x) := by
  have e : mthOfP "filterfalse" "__iter__" = mthOfP "filterfalse" "__iter__" := rfl
  conv at e => rhs; whnf
  unfold MthP at F
  rw [e] at F
  clear e
  dsimp only at F
  refine Con.ofFun (binds := [(Str.ofString "self", .ref x)]) F G rm (by rfl) (by rfl) (by rfl) (fun _ _ _ => by rfl) (by rfl) (by rfl) (by decide) (fun a m => nomatch m) ?_
  clear F
  intro z s A R Fs L Av cdv rm hfr mu S
  repeat' walk_at "m"
  exact ⟨_, _, S, fun p hp _ => hp, rfl⟩

theorem ff_next {x dx bm I l sk : Addr} {items sks : List Value} {n m i : Nat} {od : Obj} {ds es : List Dat} {news₀ : List (Addr × Obj)} (F : MthP base "filterfalse" "__next__" fN) (G : GF base tab) (X : K.In base) (ff : Ff K C pI pF fI fT fN) (tn : TB tab "next") (tb : TB tab "bool") (rm : Room A 2)
    (hx : (x, ffObj C dx #[some (.ref bm), some (.ref I)]) ∈ news) (hd : (dx, od) ∈ news) (hbm : (bm, mwObj sk) ∈ news) (hI : (I, iterObj l i) ∈ news) (hI0 : base.get? I = none) (hxI : x ≠ I) (hdI : dx ≠ I) (hbI : bm ≠ I)
    (hl : (l, listOf items.toArray n) ∈ news₀) (hsk : (sk, listOf sks.toArray m) ∈ news₀) (h0 : ∀ p ∈ news₀, p ∈ news ∧ p.1 ≠ I) (D : DatAll news₀ items ds) (Ds : DatAll news₀ sks es) (kD : ∀ d ∈ ds, kqdOk 4 d = true) (kE : ∀ d ∈ es, kqdOk 4 d = true) (hi : i ≤ ds.length) :
    ConE prog w base A (.ref fN) [.ref x] [I] news
      (fun r news' => ∃ j, ∃ hj : j < ds.length, i ≤ j ∧ items[j]? = some r ∧ dIn ds[j] es = false ∧ (∀ k (hk : k < ds.length), i ≤ k → k < j → dIn ds[k] es = true) ∧ (I, iterObj l (j + 1)) ∈ news')
      (fun news' => (∀ k (hk : k < ds.length), i ≤ k → dIn ds[k] es = true) ∧ ∃ o', (I, o') ∈ news') := by
  have e : mthOfP "filterfalse" "__next__" = mthOfP "filterfalse" "__next__" := rfl
  conv at e => rhs; whnf
  unfold MthP at F
  rw [e] at F
  clear e
  dsimp only at F
  have hlen := D.length
  refine ConE.ofFun (binds := [(Str.ofString "self", .ref x)]) F G rm (by rfl) (by rfl) (by rfl) (fun _ _ _ => by rfl) (by rfl) (by rfl) (by decide) (fun a m => by rw [List.mem_singleton.mp m]; exact ⟨⟨_, hI⟩, hI0⟩) ?_
  clear F
  intro z s A R Fs L Av cdv E rm hfr mu hL muL hE hR S
  repeat' walk_at "m"
  refine ff_get S X hx hd ff.gF ff.cls ff.aF ff.nF ff.tkF ff.sF rfl rfl ?_
  intro s1 S1
  repeat' walk_at "m"
  rename St _ _ _ _ _ _ _ _ _ _ => S2
  refine whileE (J := fun k ρ' news' => ∃ j, k = ds.length - j ∧ i ≤ j ∧ j ≤ ds.length ∧ ρ' "self" = some (.ref x) ∧ ρ' "func" = some (.ref bm) ∧ (I, iterObj l j) ∈ news' ∧ (∀ p ∈ news, p.1 ≠ I → p ∈ news') ∧ ∀ k (hk : k < ds.length), i ≤ k → k < j → dIn ds[k] es = true)
    (ds.length - i) S2 hE ⟨i, rfl, Nat.le_refl _, hi, by walk_at "look", by walk_at "look", hI, fun p hp _ => hp, fun k hk h1 h2 => absurd h1 (Nat.not_le.mpr h2)⟩ ?_
  clear S2
  rintro _ ρ' news' s2 Q₁ hQ₁ ⟨j, rfl, hij, hj, l1, l2, hIj, sub, hin⟩ S2
  refine wpAny_isTrue_value (wpAny_Constant_bool ?_)
  repeat' walk_at "m"
  rename St _ _ _ _ _ _ _ _ _ _ => S2
  refine ff_get S2 X (sub _ hx hxI) (sub _ hd hdI) ff.gI ff.cls ff.aI ff.nI ff.tkI ff.sI rfl rfl ?_
  intro s3 S3
  clear S2
  have hlj := sub _ (h0 _ hl).1 (h0 _ hl).2
  have sub0 : ∀ p ∈ news₀, p ∈ news' := fun p hp => sub _ (h0 _ hp).1 (h0 _ hp).2
  repeat' walk_at "m"
  by_cases hlt : j < ds.length
  · obtain ⟨v, hv, hdv⟩ := D.get hlt
    refine nx_item S3 hIj (mu I (by simp)) hlj (by simpa using hv) ?_
    intro s4 S4
    repeat' walk_at "m"
    refine wpAny_is_other rfl (fun q => nomatch q) ?_
    repeat' walk_at "m"
    refine e_bi (by assumption) G tb (by rfl) (by decide) ?_
    refine wpAny_is_other rfl (fun q => nomatch q) ?_
    repeat' walk_at "m"
    rename St _ _ _ _ _ _ _ _ _ _ => S5
    have hbI5 : (bm, mwObj sk) ∈ setN I (iterObj l (j + 1)) news' := setN_ne (sub _ hbm hbI) hbI
    refine wpAny_isTrue_value (k_val (P := fun h => h.get? bm = some (mwObj sk)) S5 (by walk_at "look") (List.cons_ne_nil _ _) (fun h hh => keeper_mw hh) ?_)
    repeat' walk_at "m"
    refine ⟨S5.get hbI5, call_mw S5.held (S5.get hbI5) (setN_ne (sub0 _ hsk) (h0 _ hsk).2) (Ds.mono fun p hp => setN_ne (sub0 _ hp) (h0 _ hp).2) (hdv.mono fun p hp => setN_ne (sub0 _ hp) (h0 _ hp).2) kE (kD _ (List.getElem_mem _)) ?_ ?_⟩
    · have := rm.units
      show A.units + 20 < 9900
      omega
    repeat' walk_at "m"
    cases hq : dIn ds[j] es with
    | true =>
      show ite (false = true) _ _
      repeat' walk_at "m"
      refine ⟨_, _, ds.length - (j + 1), S5, ⟨j + 1, rfl, by omega, by omega, by walk_at "look", by walk_at "look", setN_self hIj, fun p hp hn => setN_ne (sub p hp hn) hn, fun k hk h1 h2 => ?_⟩, by omega⟩
      by_cases hkj : k = j
      · subst hkj; exact hq
      · exact hin k hk h1 (by omega)
    | false =>
      show ite (true = true) _ _
      repeat' walk_at "m"
      exact ⟨_, _, S5, fun p hp hn => setN_ne (sub p hp (by simpa using hn)) (by simpa using hn), j, hlt, hij, hv, hq, hin, setN_self hIj⟩
  · refine nx_stop S3 rm.hh hIj (mu I (by simp)) hlj (by rw [List.getElem?_toArray]; exact List.getElem?_eq_none (by omega)) ?_
    intro a s' h₁ o' S4 hx4
    refine hR _ _ ⟨a, _, _, h₁, rfl, S4, fun p hp hn => setN_ne (sub p hp (by simpa using hn)) (by simpa using hn), ⟨fun k hk h1 => hin k hk h1 (by omega), o', setN_self hIj⟩, hx4⟩
end
end
set_option Elab.async false
set_option maxRecDepth 100000
set_option maxHeartbeats 2000000
section
section
variable {prog : Program} {w : World} {A : Around} {E : Value → Shared → Prop} {s : Shared} {tab : List (Str × Option Value)} {K : Frag} {C pI pF fI fT fN : Addr}
variable {base : Heap} {R : Addr → Obj → Prop} {Fs : List Env} {env : Env} {own : List Addr} {Av : Addr → Prop} {z : Shared} {ρ : Str → Option Value} {news : List (Addr × Obj)}
/-- making one -/
theorem ff_new {l bm : Addr} {its : Array Value} {n : Nat} {Q : Value → Shared → Prop} (S : St base R Fs env own Av z ρ news s) (hfr : A.frames = some Fs) (X : K.In base) (ff : Ff K C pI pF fI fT fN) (F : MthP base "filterfalse" "__init__" fI) (G : GF base tab) (ti : TB tab "iter") (rm : Room A 2)
    (hl : (l, listOf its n) ∈ news) (muL : Mu R env.locals) (hE : E = NoE)
    (h : ∀ x dx I s', (∀ p ∈ news, p.1 ≠ x ∧ p.1 ≠ dx ∧ p.1 ≠ I) → x ≠ dx → x ≠ I → dx ≠ I → Mu R x → Mu R dx → Mu R I → St base R Fs env own Av z ρ ((x, ffObj C dx #[some (.ref bm), some (.ref I)]) :: (dx, emptyDict) :: (I, iterObj l 0) :: news) s' → Q (.ref x) s') :
    wpAny (model prog w) A (call (.ref C) [.ref bm, .ref l]) Q E s := by
  subst hE
  obtain ⟨m, hm, _⟩ := S.ev.ns
  have F0 : Fr noHeap env.locals s.heap m := ⟨hm, fun b o e => (by rw [noHeap_get] at e; cases e), Nat.zero_le _⟩
  have N0 : News noHeap env.locals s.heap (allBut s.heap [env.locals]) := fun p hp => by
    obtain ⟨a, b⟩ := allBut_of hp
    exact ⟨a, fun q => b (by simp [q]), noHeap_get⟩
  refine wpAny_call (make_K F0 N0 (S.In X) ff.makes ff.init ff.tI fun x dx h' F' N' l1 l2 => ?_)
  have old : ∀ b o, b ≠ env.locals → s.heap.get? b = some o → h'.get? b = some o ∧ @LT.lt Nat _ b dx := fun b o n e => by
    have hm := allBut_mem (S := [env.locals]) e (by simp [n])
    exact ⟨(N' _ (.tail _ (.tail _ hm))).1, l1 _ hm⟩
  have hxL : x ≠ env.locals := (N' _ (.head _)).2.1
  have hdL : dx ≠ env.locals := (N' _ (.tail _ (.head _))).2.1
  have avx : ¬ Av x := fun a => by
    obtain ⟨o, e⟩ := S.live x a
    have := (old x o hxL e).2
    exact Nat.lt_asymm this l2
  have avd : ¬ Av dx := fun a => by
    obtain ⟨o, e⟩ := S.live dx a
    exact Nat.lt_irrefl _ (old dx o hdL e).2
  have mux : Mu R x := fun o r => by
    obtain ⟨sl, e, _⟩ := (S.keep x o r).1
    exact Nat.lt_asymm (old x _ hxL e).2 l2
  have mud : Mu R dx := fun o r => by
    obtain ⟨sl, e, _⟩ := (S.keep dx o r).1
    exact Nat.lt_irrefl _ (old dx _ hdL e).2
  have nwL : ∀ p ∈ news, p.1 ≠ env.locals := fun p hp q => (S.led p hp).2 (q ▸ S.av _ S.loc)
  have nwx : ∀ p ∈ news, p.1 ≠ x := fun p hp q => Nat.lt_asymm (old p.1 p.2 (nwL p hp) (S.led p hp).1).2 (q ▸ l2)
  have nwd : ∀ p ∈ news, p.1 ≠ dx := fun p hp q => Nat.lt_irrefl _ (show @LT.lt Nat _ p.1 p.1 from q ▸ (old p.1 p.2 (nwL p hp) (S.led p hp).1).2)
  have hxd : x ≠ dx := fun q => Nat.lt_irrefl _ (show @LT.lt Nat _ dx dx from q ▸ l2)
  have S1 : St base R Fs env own Av z ρ ((x, ffObj C dx #[]) :: (dx, emptyDict) :: news) { s with heap := h' } := by
    refine S.alter (t := s.toks) (fun b o n e => (old b o n e).1) (fun m' hm' => ?_) (fun p hp => ?_) muL
    · have : m' = m := hm'.eq_nsMap.trans hm.eq_nsMap.symm
      rw [this]; exact F'.ns
    · rcases List.mem_cons.mp hp with rfl | hp
      · exact ⟨(N' _ (.head _)).1, avx⟩
      · rcases List.mem_cons.mp hp with rfl | hp
        · exact ⟨(N' _ (.tail _ (.head _))).1, avd⟩
        · exact ⟨(old _ _ (nwL p hp) (S.led p hp).1).1, (S.led p hp).2⟩
  have hbx : base.get? x = none := by
    cases q : base.get? x with
    | none => rfl
    | some o => exact absurd (S.baseR _ _ q) (mux o)
  have rm1 : Room (A.under (.builtin "type.__call__" ⟨.ref C :: [.ref bm, .ref l], []⟩)) 1 := ⟨rm.hh, by
    have := rm.depth
    show A.depth + 1 + 1 < 1000
    omega, by
    have := rm.units
    show A.units + 1 + 40 * 1 < 9900
    omega⟩
  have Ci := ff_init (prog := prog) (w := w) (A := A.under (.builtin "type.__call__" ⟨.ref C :: [.ref bm, .ref l], []⟩)) (bm := .ref bm) (news := (x, ffObj C dx #[]) :: (dx, emptyDict) :: news) F G X ff ti rm1 (.head _) (.tail _ (.head _)) hxd (.tail _ (.tail _ hl)) (fun q => nwx _ hl q.symm) hbx
  refine Ci Fs _ (fun a => Av a ∨ ((∃ o, h'.get? a = some o) ∧ ∀ p ∈ (x, ffObj C dx #[]) :: (dx, emptyDict) :: news, p.1 ≠ a)) (fun r s' => r = .none ∧ Q (.ref x) s') NoE hfr S1.ff (fun a m => .inl (S1.fav a m)) (fun _ _ e => S1.bget e)
    (fun p hp => ⟨(S1.led p hp).1, fun q => q.elim (S1.led p hp).2 fun q => q.2 p hp rfl⟩) (fun a q => q.elim (S1.live a) fun q => q.1) ?_ ?_
  · intro r s' news' sr kp N2 sub post
    obtain ⟨rfl, I, hx2, hI2, nI⟩ := post
    refine ⟨rfl, h x dx I s' (fun p hp => ⟨nwx p hp, nwd p hp, nI _ (.tail _ (.tail _ hp))⟩) hxd (nI _ (.head _)) (nI _ (.tail _ (.head _))) mux mud ?_ ?_⟩
    · intro o r
      obtain ⟨sl, e, _⟩ := (S1.keep I o r).1
      exact (N2 _ hI2).2 (.inr ⟨⟨_, e⟩, nI⟩)
    · refine S1.call (X := [x]) sr kp (fun a m => by rw [List.mem_singleton.mp m]; exact ⟨avx, mux⟩) fun p hp => ?_
      rcases List.mem_cons.mp hp with rfl | hp
      · exact ⟨(N2 _ hx2).1, fun q => (N2 _ hx2).2 (.inl q)⟩
      · rcases List.mem_cons.mp hp with rfl | hp
        · have := N2 _ (sub _ (.tail _ (.head _)) (by simpa using Ne.symm hxd)); exact ⟨this.1, fun q => this.2 (.inl q)⟩
        · rcases List.mem_cons.mp hp with rfl | hp
          · exact ⟨(N2 _ hI2).1, fun q => (N2 _ hI2).2 (.inl q)⟩
          · have := N2 _ (sub _ (.tail _ (.tail _ hp)) (by simpa using nwx p hp)); exact ⟨this.1, fun q => this.2 (.inl q)⟩
  · intro e s' news' _ _ _ _ x _
    exact x.elim
end
end
set_option Elab.async false
set_option maxRecDepth 100000
set_option maxHeartbeats 2000000
section
theorem filter_step {p : Dat → Bool} {ds : List Dat} : ∀ (n i j : Nat), j - i = n → i ≤ j → (hj : j < ds.length) → (∀ k (hk : k < ds.length), i ≤ k → k < j → p ds[k] = false) → p ds[j] = true → (ds.take (j + 1)).filter p = (ds.take i).filter p ++ [ds[j]]
  | 0, i, j, e, hij, hj, _, h2 => by
    obtain rfl : i = j := by omega
    rw [List.take_succ_eq_append_getElem hj, List.filter_append]
    simp [h2]
  | n + 1, i, j, e, hij, hj, h1, h2 => by
    rw [filter_step n (i + 1) j (by omega) (by omega) hj (fun k hk a b => h1 k hk (by omega) b) h2, List.take_succ_eq_append_getElem (show i < ds.length by omega), List.filter_append]
    simp [h1 i (by omega) (Nat.le_refl _) (by omega)]
theorem filter_end {p : Dat → Bool} {ds : List Dat} : ∀ (n i : Nat), ds.length - i = n → i ≤ ds.length → (∀ k (hk : k < ds.length), i ≤ k → p ds[k] = false) → ds.filter p = (ds.take i).filter p
  | 0, i, e, hi, _ => by rw [List.take_of_length_le (by omega)]
  | n + 1, i, e, hi, h => by
    rw [filter_end n (i + 1) (by omega) (by omega) (fun k hk a => h k hk (by omega)), List.take_succ_eq_append_getElem (show i < ds.length by omega), List.filter_append]
    simp [h i (by omega) (Nat.le_refl _)]
theorem Room.in1 {A : Around} {k : Nat} (r : Room A (k + 1)) : Room A.in1 k := ⟨r.hh, by have := r.depth; show A.depth + k < 1000; omega, by have := r.units; show A.units + 1 + 40 * k < 9900; omega⟩
section
variable {prog : Program} {w : World} {A : Around} {E : Value → Shared → Prop} {s : Shared} {tab : List (Str × Option Value)} {K : Frag} {C pI pF fI fT fN : Addr}
variable {base : Heap} {R : Addr → Obj → Prop} {Fs : List Env} {env : Env} {own : List Addr} {Av : Addr → Prop} {z : Shared} {ρ : Str → Option Value} {news : List (Addr × Obj)}

theorem ff_pyNext {x dx bm I l sk : Addr} {items sks : List Value} {n m i : Nat} {od : Obj} {ds es : List Dat} {news₀ : List (Addr × Obj)} {Q : Option Value → Shared → Prop} (S : St base R Fs env own Av z ρ news s) (hfr : A.frames = some Fs) (F : MthP base "filterfalse" "__next__" fN) (G : GF base tab) (X : K.In base) (ff : Ff K C pI pF fI fT fN) (tn : TB tab "next") (tb : TB tab "bool") (rm : Room A 2)
    (hx : (x, ffObj C dx #[some (.ref bm), some (.ref I)]) ∈ news) (hd : (dx, od) ∈ news) (hbm : (bm, mwObj sk) ∈ news) (hI : (I, iterObj l i) ∈ news) (muI : Mu R I) (hxI : x ≠ I) (hdI : dx ≠ I) (hbI : bm ≠ I)
    (hl : (l, listOf items.toArray n) ∈ news₀) (hsk : (sk, listOf sks.toArray m) ∈ news₀) (h0 : ∀ p ∈ news₀, p ∈ news ∧ p.1 ≠ I) (D : DatAll news₀ items ds) (Ds : DatAll news₀ sks es) (kD : ∀ d ∈ ds, kqdOk 4 d = true) (kE : ∀ d ∈ es, kqdOk 4 d = true) (hi : i ≤ ds.length)
    (hQ : ∀ j r s' news', (hj : j < ds.length) → i ≤ j → items[j]? = some r → dIn ds[j] es = false → (∀ k (hk : k < ds.length), i ≤ k → k < j → dIn ds[k] es = true) → (I, iterObj l (j + 1)) ∈ news' → (∀ p ∈ news, p.1 ≠ I → p ∈ news') → St base R Fs env own Av z ρ news' s' → Q (some r) s')
    (hN : ∀ s' news', (∀ k (hk : k < ds.length), i ≤ k → dIn ds[k] es = true) → (∀ p ∈ news, p.1 ≠ I → p ∈ news') → St base R Fs env own Av z ρ news' s' → Q none s') : wpAny (model prog w) A (pyNext (.ref x)) Q E s := by
  obtain ⟨m₀, F₀⟩ := S.fr
  have hbI0 : base.get? I = none := by
    cases q : base.get? I with
    | none => rfl
    | some o => exact absurd (S.baseR _ _ q) (muI o)
  refine owit_next F₀ (S.inCut X) (inst_of S.held hx hd) ff.next ff.isN (wpAny_call ?_)
  refine ff_next (prog := prog) (w := w) (news := news) F G X ff tn tb rm hx hd hbm hI hbI0 hxI hdI hbI hl hsk h0 D Ds kD kE hi Fs s Av _ _ hfr S.ff S.fav (fun _ _ e => S.bget e) S.led S.live ?_ ?_
  · intro r s' news' sr kp N sub post
    obtain ⟨j, hj, h1, h2, h3, h4, h5⟩ := post
    exact hQ j r s' news' hj h1 h2 h3 h4 h5 (fun p hp hn => sub p hp (by simpa using hn)) (S.call (X := [I]) sr kp (fun a m => by rw [List.mem_singleton.mp m]; exact ⟨(S.led _ hI).2, muI⟩) N)
  · intro e s' news' sr kp N sub post ho
    obtain ⟨o, ho, hc⟩ := ho
    unfold OwitStop
    refine wpAny_isInstance (T := "StopIteration") ⟨o, ho, hc⟩ isSubtype_stop ?_
    show (if true = true then Q none s' else E (.ref e) s')
    rw [if_pos rfl]
    exact hN s' news' post.1 (fun p hp hn => sub p hp (by simpa using hn)) (S.call (X := [I]) sr kp (fun a m => by rw [List.mem_singleton.mp m]; exact ⟨(S.led _ hI).2, muI⟩) N)

theorem ff_loop {x dx bm I l sk D₀ : Addr} {items sks : List Value} {n m : Nat} {od : Obj} {ds es : List Dat} {news₀ : List (Addr × Obj)} {Rs : Result → Shared → Prop} (hfr : A.frames = some Fs) (F : MthP base "filterfalse" "__next__" fN) (G : GF base tab) (X : K.In base) (ff : Ff K C pI pF fI fT fN) (tn : TB tab "next") (tb : TB tab "bool") (rm : Room A 3)
    (muI : Mu R I) (muD : Mu R D₀) (hxI : x ≠ I) (hdI : dx ≠ I) (hbI : bm ≠ I) (hxD : x ≠ D₀) (hdD : dx ≠ D₀) (hbD : bm ≠ D₀) (hID : I ≠ D₀)
    (hl : (l, listOf items.toArray n) ∈ news₀) (hsk : (sk, listOf sks.toArray m) ∈ news₀) (h0 : ∀ p ∈ news₀, p.1 ≠ I ∧ p.1 ≠ D₀) (D : DatAll news₀ items ds) (Ds : DatAll news₀ sks es) (kD : ∀ d ∈ ds, kqdOk 4 d = true) (kE : ∀ d ∈ es, kqdOk 4 d = true) (hz : ds.length ≤ 1000) :
    ∀ (k i : Nat) (s : Shared) (acc : List Value) (c : Nat) (news : List (Addr × Obj)), ds.length - i = k → i ≤ ds.length → St base R Fs env own Av z ρ news s → (x, ffObj C dx #[some (.ref bm), some (.ref I)]) ∈ news → (dx, od) ∈ news → (bm, mwObj sk) ∈ news → (I, iterObj l i) ∈ news →
      (D₀, listOf acc.toArray c) ∈ news → (∀ p ∈ news₀, p ∈ news) → DatAll news₀ acc ((ds.take i).filter fun d => !dIn d es) →
      (∀ s' acc' c' news', St base R Fs env own Av z ρ news' s' → (D₀, listOf acc'.toArray c') ∈ news' → (∀ p ∈ news, p.1 ≠ I → p.1 ≠ D₀ → p ∈ news') → DatAll news₀ acc' (ds.filter fun d => !dIn d es) → Rs (.ok (.ret .none)) s') →
      codeAny (model prog w) A (.builtin "list.extend.loop" ⟨[.ref D₀, .ref x, .none], []⟩) Rs s := by
  intro k
  induction k using Nat.strongRecOn with
  | _ k ih =>
    intro i s acc c news hk hi S hx hd hbm hI hD sub0 hacc hR
    refine codeAny_builtin PySem.F.entry_extend_loop ?_
    rw [Around.under_plainId PySem.F.plain_extend_loop _]
    show wpAny _ A.in1 (pyNext (.ref x) >>= _) _ _ s
    refine wpAny_bind (ff_pyNext (A := A.in1) S hfr F G X ff tn tb rm.in1 hx hd hbm hI muI hxI hdI hbI hl hsk (fun p hp => ⟨sub0 p hp, (h0 p hp).1⟩) D Ds kD kE hi ?_ ?_)
    · intro j r s' news' hj hij hr hn hin hI' sub S'
      have hD' := sub _ hD (Ne.symm hID)
      have hst : (ds.take (j + 1)).filter (fun d => !dIn d es) = (ds.take i).filter (fun d => !dIn d es) ++ [ds[j]] := filter_step _ i j rfl hij hj (fun k hk a b => by rw [hin k hk a b]; rfl) (by rw [hn]; rfl)
      obtain ⟨v, hv, hdv⟩ := D.get hj
      rw [hr] at hv; cases hv
      have hacc' : DatAll news₀ (acc ++ [r]) ((ds.take (j + 1)).filter fun d => !dIn d es) := by rw [hst]; exact hacc.append (.one hdv)
      have hal : acc.length ≤ 1000 := by
        rw [hacc.length]
        exact Nat.le_trans (List.length_filter_le _ _) (by rw [List.length_take]; omega)
      show wpAny _ A.in1 (updateSeq D₀ (·.push r) >>= _) _ _ _
      refine wpAny_bind ?_
      refine wpAny_updateSeq (S'.get hD') rfl (wpAny_pure ⟨plainId_quiet PySem.F.plain_extend_loop _, ?_⟩) (by rw [List.size_toArray, sizeLine_eq]; omega) (by show (acc.toArray.push r).size ≤ sizeLine + 1; rw [Array.size_push, List.size_toArray, sizeLine_eq]; omega)
      have e2 := get?_update_seq (c := "list") (S'.get hD') (·.push r)
      have e3 : acc.toArray.push r = (acc ++ [r]).toArray := by simp
      have S2 := S'.change (t := s'.toks) hD' muD e2 (Heap.SameBut.update ..)
      rw [e3] at S2
      refine ih (ds.length - (j + 1)) (by omega) (j + 1) _ (acc ++ [r]) _ _ rfl hj S2 (setN_ne (sub _ hx hxI) hxD) (setN_ne (sub _ hd hdI) hdD) (setN_ne (sub _ hbm hbI) hbD) (setN_ne hI' hID) (setN_self hD') (fun p hp => setN_ne (sub _ (sub0 p hp) (h0 p hp).1) (h0 p hp).2) hacc' ?_
      intro s'' acc'' c'' news'' S'' hD'' sub'' h''
      exact hR s'' acc'' c'' news'' S'' hD'' (fun p hp h1 h2 => sub'' p (setN_ne (sub p hp h1) h2) h1 h2) h''
    · intro s' news' hin sub S'
      refine wpAny_pure (hR s' acc c news' S' (sub _ hD (Ne.symm hID)) (fun p hp h1 h2 => sub p hp h1) ?_)
      rw [filter_end _ i rfl hi (fun k hk a => by rw [hin k hk a]; rfl)]
      exact hacc
end
end
set_option Elab.async false
set_option maxRecDepth 100000
set_option maxHeartbeats 2000000
section
section
variable {prog : Program} {w : World} {A : Around} {E : Value → Shared → Prop} {s : Shared} {tab : List (Str × Option Value)} {K : Frag} {C pI pF fI fT fN : Addr}
variable {base : Heap} {R : Addr → Obj → Prop} {Fs : List Env} {env : Env} {own : List Addr} {Av : Addr → Prop} {z : Shared} {ρ : Str → Option Value} {news : List (Addr × Obj)}

theorem ff_pyIter {x dx : Addr} {sl : Array (Option Value)} {od : Obj} {Q : Value → Shared → Prop} (S : St base R Fs env own Av z ρ news s) (hfr : A.frames = some Fs) (FT : MthP base "filterfalse" "__iter__" fT) (G : GF base tab) (X : K.In base) (ff : Ff K C pI pF fI fT fN) (rm : Room A 1)
    (hx : (x, ffObj C dx sl) ∈ news) (hd : (dx, od) ∈ news) (h : ∀ s', St base R Fs env own Av z ρ news s' → Q (.ref x) s') : wpAny (model prog w) A (pyIter (.ref x)) Q E s := by
  obtain ⟨m₀, F₀⟩ := S.fr
  refine owit_iter F₀ (S.inCut X) (inst_of S.held hx hd) ff.iter ff.isT (wpAny_noRaise ?_)
  refine Con.use (ff_iter FT G rm) S hfr (fun a m => nomatch m) fun r s' news' S' sub post => ?_
  subst post
  have S2 : St base R Fs env own Av z ρ news s' := S'.sub fun p hp => sub p hp (fun m => nomatch m)
  obtain ⟨m₁, F₁⟩ := S2.fr
  exact owit_it F₁ (S2.inCut X) (inst_of S2.held hx hd) ff.next (h _ S2)

theorem ff_special {x dx : Addr} {sl : Array (Option Value)} {od : Obj} {name : Str} {r : Option Value} {Q : Option Value → Shared → Prop} (S : St base R Fs env own Av z ρ news s) (X : K.In base) (hx : (x, ffObj C dx sl) ∈ news) (hd : (dx, od) ∈ news)
    (hf : findIn K (.ref C) name = some r) (h : Q r s) : wpAny (model prog w) A (specialOf (.ref x) name) Q E s := by
  unfold specialOf
  exact wpAny_bind ((inst_of S.held hx hd).type.here ((looks_findIn (S.In X) hf).here h))

theorem ff_extend {x dx bm I l sk D₀ : Addr} {items sks : List Value} {n m c : Nat} {od : Obj} {ds es : List Dat} {news₀ : List (Addr × Obj)} {Rs : Result → Shared → Prop} (S : St base R Fs env own Av z ρ news s) (hfr : A.frames = some Fs) (FT : MthP base "filterfalse" "__iter__" fT) (FN : MthP base "filterfalse" "__next__" fN) (G : GF base tab) (X : K.In base) (ff : Ff K C pI pF fI fT fN) (tn : TB tab "next") (tb : TB tab "bool") (rm : Room A 3)
    (muI : Mu R I) (muD : Mu R D₀) (hxI : x ≠ I) (hdI : dx ≠ I) (hbI : bm ≠ I) (hxD : x ≠ D₀) (hdD : dx ≠ D₀) (hbD : bm ≠ D₀) (hID : I ≠ D₀)
    (hx : (x, ffObj C dx #[some (.ref bm), some (.ref I)]) ∈ news) (hd : (dx, od) ∈ news) (hbm : (bm, mwObj sk) ∈ news) (hI : (I, iterObj l 0) ∈ news) (hD : (D₀, listOf #[] c) ∈ news)
    (hl : (l, listOf items.toArray n) ∈ news₀) (hsk : (sk, listOf sks.toArray m) ∈ news₀) (h0 : ∀ p ∈ news₀, p ∈ news ∧ p.1 ≠ I ∧ p.1 ≠ D₀) (D : DatAll news₀ items ds) (Ds : DatAll news₀ sks es) (kD : ∀ d ∈ ds, kqdOk 4 d = true) (kE : ∀ d ∈ es, kqdOk 4 d = true) (hz : ds.length ≤ 1000)
    (hR : ∀ s' acc' c' news', St base R Fs env own Av z ρ news' s' → (D₀, listOf acc'.toArray c') ∈ news' → (∀ p ∈ news, p.1 ≠ I → p.1 ≠ D₀ → p ∈ news') → DatAll news₀ acc' (ds.filter fun d => !dIn d es) → Rs (.ok (.ret .none)) s') :
    wpAny (model prog w) A.in1 (Builtin.List.listExtendWith (.ref D₀) (.ref x) .none)
      (fun fin s' => match fin with | .done f => Rs (.ok f) s' | .again c' => c'.quiet = true ∧ codeAny (model prog w) A c' Rs s') (fun e s' => Rs (.error e) s') s := by
  unfold Builtin.List.listExtendWith
  refine wpAny_bind ((inst_of S.held hx hd).type.here ?_)
  have h1 : Builtin.List.listSameRef (.ref D₀) (.ref x) = false := by simp [Builtin.List.listSameRef, Ne.symm hxD]
  have h2 : (Value.ref C == Value.type "list") = false := by simp
  have h3 : (Value.ref C == Value.type "tuple") = false := by simp
  simp only [h1, h2, h3, Bool.or_false, Bool.false_eq_true, if_false]
  refine wpAny_bind (ff_pyIter (A := A.in1) S hfr FT G X ff (rm.in1.mono (by omega)) hx hd fun s1 S1 => ?_)
  refine wpAny_bind (wpAny_holding ?_)
  unfold Builtin.List.listLengthHint
  refine wpAny_bind (ff_special S1 X hx hd ff.len ?_)
  show wpAny _ A.in1 (specialOf (Value.ref x) (Str.ofString "__length_hint__") >>= _) _ _ _
  refine wpAny_bind (ff_special S1 X hx hd ff.hint ?_)
  refine wpAny_pure ?_
  show wpAny _ A.in1 (rule "list.extend.makes-room" >>= fun _ => Builtin.List.listTouch (.ref D₀) >>= fun _ =>
    again (.builtin "list.extend.loop" ⟨[.ref D₀, .ref x, .none], []⟩)) _ _ _
  refine wpAny_bind (wpAny_rule ?_)
  refine wpAny_bind ?_
  show wpAny _ A.in1 (updateSeq D₀ (·.push .none) >>= fun _ => updateSeq D₀ (·.pop)) _ _ _
  refine wpAny_bind (wpAny_updateSeq (S1.get hD) rfl ?_ (by simp) (by rw [sizeLine_eq]; simp))
  have e2 := get?_update_seq (c := "list") (S1.get hD) (·.push Value.none)
  have S2 := S1.change (t := s1.toks) hD muD e2 (Heap.SameBut.update ..)
  refine wpAny_updateSeq (S2.get (setN_self hD)) rfl ?_ (by rw [sizeLine_eq]; simp) (by simp)
  have e3 := get?_update_seq (c := "list") (S2.get (setN_self hD)) (·.pop)
  have S3 := S2.change (t := s1.toks) (setN_self hD) muD e3 (Heap.SameBut.update ..)
  refine wpAny_pure ⟨plainId_quiet PySem.F.plain_extend_loop _, ?_⟩
  refine ff_loop (n := n) (m := m) hfr FN G X ff tn tb rm muI muD hxI hdI hbI hxD hdD hbD hID hl hsk (fun p hp => (h0 p hp).2) D Ds kD kE hz _ 0 _ [] _ _ rfl (Nat.zero_le _) S3 (setN_ne (setN_ne hx hxD) hxD) (setN_ne (setN_ne hd hdD) hdD) (setN_ne (setN_ne hbm hbD) hbD) (setN_ne (setN_ne hI hID) hID)
    (setN_self (setN_self hD)) (fun p hp => setN_ne (setN_ne (h0 p hp).1 (h0 p hp).2.2) (h0 p hp).2.2) .nil ?_
  intro s' acc' c' news' S' hD' sub h'
  exact hR s' acc' c' news' S' hD' (fun p hp h1 h2 => sub p (setN_ne (setN_ne hp h2) h2) h1 h2) h'

theorem ff_list {x dx bm I l sk : Addr} {items sks : List Value} {n m : Nat} {od : Obj} {ds es : List Dat} {news₀ : List (Addr × Obj)} {Q : Value → Shared → Prop} (S : St base R Fs env own Av z ρ news s) (hfr : A.frames = some Fs) (FT : MthP base "filterfalse" "__iter__" fT) (FN : MthP base "filterfalse" "__next__" fN) (G : GF base tab) (X : K.In base) (ff : Ff K C pI pF fI fT fN) (tn : TB tab "next") (tb : TB tab "bool") (rm : Room A 5)
    (muI : Mu R I) (hxI : x ≠ I) (hdI : dx ≠ I) (hbI : bm ≠ I)
    (hx : (x, ffObj C dx #[some (.ref bm), some (.ref I)]) ∈ news) (hd : (dx, od) ∈ news) (hbm : (bm, mwObj sk) ∈ news) (hI : (I, iterObj l 0) ∈ news)
    (hl : (l, listOf items.toArray n) ∈ news₀) (hsk : (sk, listOf sks.toArray m) ∈ news₀) (h0 : ∀ p ∈ news₀, p ∈ news ∧ p.1 ≠ I) (D : DatAll news₀ items ds) (Ds : DatAll news₀ sks es) (kD : ∀ d ∈ ds, kqdOk 4 d = true) (kE : ∀ d ∈ es, kqdOk 4 d = true) (hz : ds.length ≤ 1000)
    (hQ : ∀ D₀ s' acc' c' news', St base R Fs env own Av z ρ news' s' → Mu R D₀ → (∀ p ∈ news, p.1 ≠ D₀) → (D₀, listOf acc'.toArray c') ∈ news' → (∀ p ∈ news, p.1 ≠ I → p ∈ news') → DatAll news₀ acc' (ds.filter fun d => !dIn d es) → Q (.ref D₀) s') :
    wpAny (model prog w) A (call (.type "list") [.ref x]) Q E s := by
  refine callType_codes (Q₁ := fun obj s₁ => obj = .ref s.heap.objs.size ∧ s₁ = { s with heap := s.heap.push { cls := .type "list", data := .seq #[] } }) PySem.F.called_list (PySem.F.typeCall_list_1 _) PySem.F.entry_list_init
    (code_list_new _ ⟨rfl, rfl⟩) fun obj s₁ h₁ => ?_
  obtain ⟨rfl, rfl⟩ := h₁
  have hS : (s.heap.push { cls := .type "list", data := .seq #[] }).get? s.heap.objs.size = some { cls := .type "list", data := .seq #[] } := Heap.get?_push_size _ rfl
  refine ⟨⟨_, hS, rfl⟩, PySem.F.args_list_init_2 _ _, ?_⟩
  have S1 : St base R Fs env own Av z ρ ((s.heap.objs.size, listOf #[] 0) :: news) { s with heap := s.heap.push { cls := .type "list", data := .seq #[] } } := S.push (listOf #[] 0) s.toks
  have muD : Mu R s.heap.objs.size := S.fresh (Nat.le_refl _)
  have nD : ∀ p ∈ news, p.1 ≠ s.heap.objs.size := fun p hp => Nat.ne_of_lt (Heap.lt_size (S.led p hp).1)
  show wpAny _ A.in1.in1 (do let old ← Builtin.List.listItems (.ref s.heap.objs.size); Builtin.List.listUpdate (.ref s.heap.objs.size) (fun _ => #[]); letGo old.toList.reverse; Builtin.List.listExtendWith (.ref s.heap.objs.size) (.ref x) .none) _ _ _
  refine wpAny_bind ?_
  unfold Builtin.List.listItems
  refine wpAny_bind (wpAny_seqItems hS rfl (wpAny_pure ?_))
  show wpAny _ A.in1.in1 (updateSeq s.heap.objs.size (fun _ => #[]) >>= fun _ => letGo (#[] : Array Value).toList.reverse >>= fun _ => Builtin.List.listExtendWith (.ref s.heap.objs.size) (.ref x) .none) _ _ _
  refine wpAny_bind (wpAny_updateSeq hS rfl ?_ (by simp) (by simp))
  have e2 := get?_update_seq (c := "list") (S1.get List.mem_cons_self) (fun _ => (#[] : Array Value))
  have S2 := S1.change (t := s.toks) List.mem_cons_self muD e2 (Heap.SameBut.update ..)
  refine wpAny_bind (wpAny_letGo ?_)
  have nl : ∀ {p}, p ∈ news → p ∈ setN s.heap.objs.size (seqObj "list" #[] (if (#[] : Array Value).size == (#[] : Array Value).size then 0 else 0 + 1)) ((s.heap.objs.size, listOf #[] 0) :: news) := fun hp => setN_ne (List.mem_cons_of_mem _ hp) (nD _ hp)
  refine ff_extend (A := A.in1) (Rs := wants (fun r s₂ => r = .none ∧ Q (.ref s.heap.objs.size) s₂) E) S2 hfr FT FN G X ff tn tb (rm.in1.mono (by omega)) muI muD hxI hdI hbI (nD _ hx) (nD _ hd) (nD _ hbm) (nD _ hI) (nl hx) (nl hd) (nl hbm) (nl hI) (setN_self List.mem_cons_self) hl hsk (fun p hp => ⟨nl (h0 p hp).1, (h0 p hp).2, nD _ (h0 p hp).1⟩) D Ds kD kE hz ?_
  intro s' acc' c' news' S' hD' sub h'
  exact ⟨rfl, hQ _ s' acc' c' news' S' muD nD hD' (fun p hp h1 => sub p (nl hp) h1 (nD _ hp)) h'⟩
end
end
set_option Elab.async false
set_option maxRecDepth 100000
set_option maxHeartbeats 2000000
section
section
variable {prog : Program} {w : World} {A : Around} {E : Value → Shared → Prop} {s : Shared} {tab : List (Str × Option Value)} {K : Frag} {C pI pF fI fT fN : Addr}
variable {base : Heap} {R : Addr → Obj → Prop} {Fs : List Env} {env : Env} {own : List Addr} {Av : Addr → Prop} {z : Shared} {ρ : Str → Option Value} {news : List (Addr × Obj)}
theorem Con.ofE {f : Value} {args : List Value} {X : List Addr} {Post : Value → List (Addr × Obj) → Prop} (C : ConE prog w base A f args X news Post (fun _ => False)) : Con prog w base A f args X news Post :=
  fun Fs s Av Q hfr hff hfav hb hled hlive hQ => wpAny_call (C Fs s Av Q NoE hfr hff hfav hb hled hlive hQ fun _ _ _ _ _ _ _ x => x.elim)
theorem k_cls {x : Str} {np pos : Pos} {args : List Expr} {Q : Value → Shared → Prop} (S : St base R Fs env own Av z ρ news s) (G : GF base tab) (e : tab.lookup x = some (some (.ref C))) (hk : keepIn K (.ref C) = true) (hne : args ≠ [])
    (h : wpAny (model prog w) A (spliced (backTo pos (starEach args env))) (fun vs s₁ => K.In s₁.heap ∧ wpAny (model prog w) A (call (.ref C) vs) Q E s₁) E s)
    (he : backTo pos (starEach args env) = (args.map fun e => (false, eval e env)) := by rfl)
    (hkk : env.scope.kind = .function := by rfl) (hx : env.kindOf x = some .globalImplicit := by rfl) (hg : env.globals = mainGlobals := by rfl) (hdb : (x == ("__debug__" : Str)) = false := by decide) :
    wpAny (model prog w) A (eval (.Call (.Name x np) args [] pos) env) Q E s := by
  refine wpAny_Call_Name_kw (e_gl S G e ?_ hkk hx hg hdb)
  rw [he] at h ⊢
  cases args with
  | nil => exact absurd rfl hne
  | cons e r =>
    have hp : ((e :: r).map fun e => (false, eval e env)).any (·.1) = false := by rw [List.any_map]; simp
    refine callWith_of (P := fun h => K.In h) ?_ (keeps_K hk) (evalArgs_plain h)
    show (((e :: r).map fun e => (false, eval e env)).any (·.1) || false) = false
    rw [hp]; rfl

/-- what _filter leans on -/
structure FilterAt (base : Heap) (tab : List (Str × Option Value)) (K : Frag) (C pI pF fI fT fN f : Addr) : Prop where
  X : K.In base
  ff : Ff K C pI pF fI fT fN
  cls : tab.lookup (Str.ofString "filterfalse") = some (some (.ref C))
  FI : MthP base "filterfalse" "__init__" fI
  FT : MthP base "filterfalse" "__iter__" fT
  FN : MthP base "filterfalse" "__next__" fN
  F : FnP base tab "_filter" f
  ti : TB tab "iter"
  tn : TB tab "next"
  tb : TB tab "bool"
  tl : TB tab "list"

noncomputable def dFilter (ds es : List Dat) : List Dat := ds.filter fun d => !dIn d es
theorem filter_con {f l sk : Addr} {items sks : List Value} {n m : Nat} {ds es : List Dat} (FA : FilterAt base tab K C pI pF fI fT fN f) (G : GF base tab) (rm : Room A 6)
    (hl : (l, listOf items.toArray n) ∈ news) (hsk : (sk, listOf sks.toArray m) ∈ news) (D : DatAll news items ds) (Ds : DatAll news sks es) (kD : ∀ d ∈ ds, kqdOk 4 d = true) (kE : ∀ d ∈ es, kqdOk 4 d = true) (hz : ds.length ≤ 1000) :
    Con prog w base A (.ref f) [.ref l, .ref sk] [] news (fun r news' => ∃ a vs k, r = .ref a ∧ (∀ p ∈ news, p.1 ≠ a) ∧ (a, listOf vs.toArray k) ∈ news' ∧ DatAll news' vs (dFilter ds es)) := by
  obtain ⟨X, ff, hcls, FI, FT, FN, F, ti, tn, tb, tl⟩ := FA
  have e : fnOfP "_filter" = fnOfP "_filter" := rfl
  conv at e => rhs; whnf
  unfold FnP at F
  rw [e] at F
  clear e
  dsimp only at F
  refine Con.ofE (ConE.ofFun (binds := [(Str.ofString "flist", .ref l), (Str.ofString "skip", .ref sk)]) F.2 G rm (by rfl) (by rfl) (by rfl) (fun _ _ _ => by rfl) (by rfl) (by rfl) (by decide) (fun a m => nomatch m) ?_)
  clear F
  intro z s A R Fs L Av cdv E rm hfr mu hL muL hE hR S
  refine wpAny_noRaise ?_
  repeat' walk_at "m"
  refine k_cls S G hcls ff.keep (List.cons_ne_nil _ _) ?_
  repeat' walk_at "m"
  refine attr_contains (S.get hsk) fun tk => ?_
  have S1 := S.push (mwObj sk) tk
  have muB : Mu R s.heap.objs.size := S.fresh (Nat.le_refl _)
  have nB : ∀ p ∈ news, p.1 ≠ s.heap.objs.size := fun p hp => Nat.ne_of_lt (Heap.lt_size (S.led p hp).1)
  generalize s.heap.objs.size = bm at S1 muB nB ⊢
  repeat' walk_at "m"
  refine ⟨S1.In X, ?_⟩
  refine ff_new S1 hfr X ff FI G ti (rm.mono (by omega)) (List.mem_cons_of_mem _ hl) muL rfl ?_
  intro x dx I s2 ne hxd hxI hdI mux mud muI S2
  repeat' walk_at "m"
  refine ff_list (news₀ := news) S2 hfr FT FN G X ff tn tb rm muI hxI hdI (ne _ (.head _)).2.2 (.head _) (.tail _ (.head _)) (.tail _ (.tail _ (.tail _ (.head _)))) (.tail _ (.tail _ (.head _))) hl hsk (fun p hp => ⟨.tail _ (.tail _ (.tail _ (.tail _ hp))), (ne _ (.tail _ hp)).2.2⟩) D Ds kD kE hz ?_
  intro D₀ s' acc c news' S' muD nD hD sub h'
  have sub' : ∀ p ∈ news, p ∈ news' := fun p hp => sub p (.tail _ (.tail _ (.tail _ (.tail _ hp)))) (ne _ (.tail _ hp)).2.2
  repeat' walk_at "m"
  exact ⟨_, _, S', fun p hp _ => sub' p hp, D₀, acc, c, rfl, fun p hp => nD p (.tail _ (.tail _ (.tail _ (.tail _ hp)))), hD, h'.mono sub'⟩
end
end
set_option Elab.async false
set_option maxRecDepth 100000
set_option maxHeartbeats 2000000
section
/-- the eight pieces -/
noncomputable def piecesOf (a b d e : Int) : List Int :=
  let c := if e % 4 = 0 then a else if e % 4 = 1 then b else if e % 4 = 2 then Builtin.bitXor a b else e
  [Builtin.bitAnd a b, Builtin.bitAnd a (511 - b), Builtin.bitAnd b (511 - a), Builtin.bitAnd (511 - a) (511 - b), Builtin.bitAnd a d, Builtin.bitAnd a (511 - d), c, 511 - c]
noncomputable def In512 (x : Int) : Prop := 0 ≤ x ∧ x < 512
section
variable {prog : Program} {w : World} {A : Around} {base : Heap} {tab : List (Str × Option Value)} {news : List (Addr × Obj)}
theorem pieces_con {f l : Addr} {vs : List Value} {n : Nat} {ns : List Int} (F : FnP base tab "_law_pieces" f) (G : GF base tab) (ts : TB tab "sum") (rm : Room A 1)
    (hl : (l, listOf vs.toArray n) ∈ news) (hi : IntsAre vs ns) (hz : vs.length ≤ 1000) :
    Con prog w base A (.ref f) [.ref l] [] news (fun r news' => ∃ D ws k a b d e, r = .ref D ∧ (D, listOf ws.toArray k) ∈ news' ∧ DatAll [] ws ((piecesOf a b d e).map .int) ∧ In512 a ∧ In512 b ∧ In512 d ∧ In512 e) := by
  have e : fnOfP "_law_pieces" = fnOfP "_law_pieces" := rfl
  conv at e => rhs; whnf
  unfold FnP at F
  rw [e] at F
  clear e
  dsimp only at F
  refine Con.ofFn (binds := [(Str.ofString "script", .ref l)]) F G rm (by rfl) (by rfl) (by rfl) (fun _ _ _ => by rfl) (by rfl) (by rfl) (by decide) (fun a m => by cases m) ?_
  clear F
  intro z s A R Fs L Av cdv rm hfr mu S
  repeat' walk_at "m"
  refine d_sliceI (by assumption) (by walk_at "mem") hi (.int _ _) .none (.int _ _) (by decide) (by omega) ?_
  intro D1 ws1 ms1 s1 mu1 n1 i1 S1
  repeat' walk_at "m"
  refine d_sum (by assumption) rm.hh List.mem_cons_self i1 ?_
  intro t1 u1 T1
  repeat' walk_at "m"
  refine d_sliceI (by assumption) (by walk_at "mem") hi (.int _ _) .none (.int _ _) (by decide) (by omega) ?_
  intro D2 ws2 ms2 s2 mu2 n2 i2 S2
  repeat' walk_at "m"
  refine d_sum (by assumption) rm.hh List.mem_cons_self i2 ?_
  intro t2 u2 T2
  repeat' walk_at "m"
  refine d_sliceI (by assumption) (by walk_at "mem") hi (.int _ _) .none (.int _ _) (by decide) (by omega) ?_
  intro D3 ws3 ms3 s3 mu3 n3 i3 S3
  repeat' walk_at "m"
  refine d_sum (by assumption) rm.hh List.mem_cons_self i3 ?_
  intro t3 u3 T3
  repeat' walk_at "m"
  refine d_sliceI (by assumption) (by walk_at "mem") hi (.int _ _) .none (.int _ _) (by decide) (by omega) ?_
  intro D4 ws4 ms4 s4 mu4 n4 i4 S4
  repeat' walk_at "m"
  refine d_sum (by assumption) rm.hh List.mem_cons_self i4 ?_
  intro t4 u4 T4
  repeat' walk_at "m"
  refine d_list (base := base) ?_
  repeat' walk_at "m"
  rename St _ _ _ _ _ _ _ _ _ _ => S5
  refine DispTo.mk S5 (by simp) ?_
  intro D5 s5 mu5 n5 S5
  repeat' walk_at "m"
  rename St _ _ _ _ _ _ _ _ _ _ => S6
  have pick : ∀ (x y z e : Int) (t₁ t₂ t₃ t₄ : Tok), 0 ≤ e → ∃ tc, ([.int x t₁, .int y t₂, .int z t₃, .int e t₄] : List Value).toArray[(e % 4).toNat]? = some (.int (if e % 4 = 0 then x else if e % 4 = 1 then y else if e % 4 = 2 then z else e) tc) := by
    intro x y z e t₁ t₂ t₃ t₄ he
    have h4 : e % 4 = 0 ∨ e % 4 = 1 ∨ e % 4 = 2 ∨ e % 4 = 3 := by omega
    rcases h4 with h | h | h | h <;> rw [h]
    · exact ⟨t₁, rfl⟩
    · exact ⟨t₂, rfl⟩
    · exact ⟨t₃, rfl⟩
    · exact ⟨t₄, rfl⟩
  obtain ⟨tc, hpick⟩ := pick _ _ _ _ _ _ _ _ (show 0 ≤ (4 + ms4.sum) % 512 by omega)
  refine i_list S6 List.mem_cons_self (by omega) (by omega) hpick ?_
  repeat' walk_at "m"
  refine d_list (base := base) ?_
  repeat' walk_at "m"
  rename St _ _ _ _ _ _ _ _ _ _ => S7
  refine DispTo.mk S7 (by simp) ?_
  intro D7 s7 mu7 n7 S7
  repeat' walk_at "m"
  refine ⟨_, _, S7, fun p hp _ => by walk_at "mem", D7, _, 0, (234 + ms1.sum) % 512, (333 + ms2.sum) % 512, (85 + ms3.sum) % 512, (4 + ms4.sum) % 512, rfl, List.mem_cons_self, ?_, ⟨by omega, by omega⟩, ⟨by omega, by omega⟩, ⟨by omega, by omega⟩, ⟨by omega, by omega⟩⟩
  unfold piecesOf
  dsimp only [List.map]
  repeat (first | exact .nil | refine .cons (.int _ _) ?_)
end
end
set_option Elab.async false
set_option maxRecDepth 100000
set_option maxHeartbeats 4000000
section
noncomputable abbrev dI (l : List Int) : Dat := .list (l.map .int)
noncomputable def sortI (l : List Int) : List Int := l.mergeSort fun a b => decide (a ≤ b)
noncomputable def dropI (l m : List Int) : List Int := l.filter fun x => !m.contains x
noncomputable def heldAt (held : List (List Int)) (f : Int) : List Int := held.getD f.toNat []
noncomputable def askI (held : List (List Int)) (files : List Int) (p : Int) : Int × Int := (((files.filter fun f => (heldAt held f).contains p).length : Int), p)
noncomputable def leastI (l : List (Int × Int)) : Int × Int := l.getD (argBest (fun i j => ltA (l.getD i (0, 0)) (l.getD j (0, 0))) (l.length - 1)) (0, 0)
noncomputable def clashI (held : List (List Int)) (files : List Int) (f : Int) : List Int := files.filter fun g => !decide (dropI (heldAt held g) (heldAt held f) = heldAt held g)
noncomputable def seekI (held : List (List Int)) : Nat → List Int → List Int → List Int → List (Int × List Int) → List (Int × List Int)
  | 0, _, _, _, acc => acc
  | n + 1, files, rights, chosen, acc => if rights = [] then heappush ltF acc ((chosen.length : Int), sortI chosen) else
      files.foldl (fun acc f => if (heldAt held f).contains (leastI (rights.map (askI held files))).2 = true then seekI held n (dropI files (clashI held files f)) (dropI rights (heldAt held f)) (chosen ++ [f]) acc else acc) acc
theorem push_len {D : Type} {lt : D → D → Bool} {xs : List D} {x : D} : (heappush lt xs x).length = xs.length + 1 := by
  unfold heappush; rw [siftdown_len]; simp
theorem seekI_mono (held : List (List Int)) : ∀ (n : Nat) (files rights chosen : List Int) (acc : List (Int × List Int)), acc.length ≤ (seekI held n files rights chosen acc).length
  | 0, _, _, _, _ => Nat.le_refl _
  | n + 1, files, rights, chosen, acc => by
    rw [seekI]
    split
    · rw [push_len]; omega
    · have key : ∀ (l : List Int) (acc : List (Int × List Int)), acc.length ≤ (l.foldl (fun acc f => if (heldAt held f).contains (leastI (rights.map (askI held files))).2 = true then seekI held n (dropI files (clashI held files f)) (dropI rights (heldAt held f)) (chosen ++ [f]) acc else acc) acc).length := by
        intro l
        induction l with
        | nil => intro acc; exact Nat.le_refl _
        | cons f r ih =>
          intro acc
          rw [List.foldl_cons]
          refine Nat.le_trans ?_ (ih _)
          split
          · exact seekI_mono held n _ _ _ _
          · exact Nat.le_refl _
      exact key files acc
theorem seekI_fold (held : List (List Int)) (n : Nat) (files rights chosen : List Int) (p : Int) : ∀ (l : List Int) (acc : List (Int × List Int)), acc.length ≤ (l.foldl (fun acc f => if (heldAt held f).contains p = true then seekI held n (dropI files (clashI held files f)) (dropI rights (heldAt held f)) (chosen ++ [f]) acc else acc) acc).length
  | [], _ => Nat.le_refl _
  | f :: r, acc => by
    rw [List.foldl_cons]
    refine Nat.le_trans ?_ (seekI_fold held n files rights chosen p r _)
    split
    · exact seekI_mono held n _ _ _ _
    · exact Nat.le_refl _
/-- the functions of the first law -/
structure Fns (base : Heap) (tab : List (Str × Option Value)) (K : Frag) (C pI pF fI fT fN fFil fPush fPop fHeap fUp fDown fSeek : Addr) : Prop where
  fil : FilterAt base tab K C pI pF fI fT fN fFil
  G : GF base tab
  push : FnP base tab "heappush" fPush
  pop : FnP base tab "heappop" fPop
  heap : FnP base tab "heapify" fHeap
  up : FnP base tab "_siftup" fUp
  down : FnP base tab "_siftdown" fDown
  seek : FnP base tab "_law_seek" fSeek
  tlen : TB tab "len"
  trev : TB tab "reversed"
  trange : TB tab "range"
  ttuple : TB tab "tuple"
  tsorted : TB tab "sorted"
  tmin : TB tab "min"
theorem dFilter_int (l m : List Int) : dFilter (l.map .int) (m.map .int) = (dropI l m).map .int := by
  unfold dFilter dropI
  induction l with
  | nil => rfl
  | cons a l ih =>
    rw [List.map_cons, List.filter_cons, List.filter_cons, ih]
    have e : dIn (.int a) (m.map .int) = m.contains a := any_int m a
    rw [e]
    cases m.contains a <;> rfl
theorem argBest_spec {D : Type} {lt : D → D → Bool} (O : Ord lt) (g : Nat → D) : ∀ n, argBest (fun i j => lt (g i) (g j)) n ≤ n ∧ ∀ i, i ≤ n → lt (g i) (g (argBest (fun i j => lt (g i) (g j)) n)) = false
  | 0 => ⟨Nat.le_refl _, fun i hi => by obtain rfl : i = 0 := by omega
                                        exact O.irrefl _⟩
  | n + 1 => by
    obtain ⟨h1, h2⟩ := argBest_spec O g n
    rw [argBest]
    cases hb : lt (g (n + 1)) (g (argBest (fun i j => lt (g i) (g j)) n)) with
    | true =>
      simp only [if_true]
      refine ⟨Nat.le_refl _, fun i hi => ?_⟩
      by_cases h : i = n + 1
      · subst h; exact O.irrefl _
      · exact O.trans _ _ _ (O.asym _ _ hb) (h2 i (by omega))
    | false =>
      simp only [Bool.false_eq_true, if_false]
      refine ⟨by omega, fun i hi => ?_⟩
      by_cases h : i = n + 1
      · subst h; exact hb
      · exact h2 i (by omega)
theorem gD_at {α : Type} {l : List α} {i : Nat} {d : α} (h : i < l.length) : l.getD i d = l[i] := by
  rw [List.getD_eq_getElem?_getD, List.getElem?_eq_getElem h]; rfl
theorem argBest_le (bt : Nat → Nat → Bool) : ∀ n, argBest bt n ≤ n
  | 0 => Nat.le_refl _
  | n + 1 => by
    rw [argBest]
    split
    · exact Nat.le_refl _
    · exact Nat.le_succ_of_le (argBest_le bt n)
theorem argBest_congr {bt bt' : Nat → Nat → Bool} : ∀ n, (∀ i j, i ≤ n → j ≤ n → bt i j = bt' i j) → argBest bt n = argBest bt' n
  | 0, _ => rfl
  | n + 1, h => by
    have e := argBest_congr (bt := bt) (bt' := bt') n fun i j hi hj => h i j (by omega) (by omega)
    have l := argBest_le bt' n
    rw [argBest, argBest, e, h _ _ (Nat.le_refl _) (by omega)]
theorem getD_map {α β : Type} {l : List α} {f : α → β} {i : Nat} {d : α} {e : β} (h : i < l.length) : (l.map f).getD i e = f (l.getD i d) := by
  simp [List.getD_eq_getElem?_getD, List.getElem?_eq_getElem h]
theorem least_at {l : List (Int × Int)} (h : l ≠ []) : l[argBest (fun i j => dlt ((l.map kinA.enc).getD i .none) ((l.map kinA.enc).getD j .none)) ((l.map kinA.enc).length - 1)]? = some (leastI l) := by
  have hl : 0 < l.length := List.length_pos_iff.mpr h
  have e : argBest (fun i j => dlt ((l.map kinA.enc).getD i .none) ((l.map kinA.enc).getD j .none)) ((l.map kinA.enc).length - 1) = argBest (fun i j => ltA (l.getD i (0, 0)) (l.getD j (0, 0))) (l.length - 1) := by
    rw [List.length_map]
    refine argBest_congr _ fun i j hi hj => ?_
    rw [getD_map (d := (0, 0)) (by omega), getD_map (d := (0, 0)) (by omega), kinA_lt]
  rw [e]
  have := argBest_le (fun i j => ltA (l.getD i (0, 0)) (l.getD j (0, 0))) (l.length - 1)
  unfold leastI
  rw [gD_at (by omega)]
  exact List.getElem?_eq_getElem _
theorem ltA_total {a b : Int × Int} (h1 : ltA a b = false) (h2 : ltA b a = false) : a = b := by
  unfold ltA at h1 h2
  by_cases e : a.1 = b.1
  · rw [if_pos e] at h1; rw [if_pos e.symm] at h2
    simp only [decide_eq_false_iff_not] at h1 h2
    exact Prod.ext e (by omega)
  · rw [if_neg e] at h1; rw [if_neg (Ne.symm e)] at h2
    simp only [decide_eq_false_iff_not] at h1 h2
    exact absurd (by omega) e
theorem leastI_spec {l : List (Int × Int)} (h : l ≠ []) : leastI l ∈ l ∧ ∀ y ∈ l, ltA y (leastI l) = false := by
  have hl : 0 < l.length := List.length_pos_iff.mpr h
  obtain ⟨h1, h2⟩ := argBest_spec ordA (fun i => l.getD i (0, 0)) (l.length - 1)
  unfold leastI
  constructor
  · rw [gD_at (by omega)]; exact List.getElem_mem _
  · intro y hy
    obtain ⟨i, hi, rfl⟩ := List.getElem_of_mem hy
    have := h2 i (by omega)
    rwa [gD_at hi] at this
theorem rowAt {news : List (Addr × Obj)} {hvs : List Value} {held : List (List Int)} (Dh : DatAll news hvs (held.map dI)) {f : Int} (h0 : 0 ≤ f) (h1 : f < held.length) :
    ∃ a vs n, hvs.toArray[f.toNat]? = some (.ref a) ∧ (a, listOf vs n) ∈ news ∧ DatAll news vs.toList ((heldAt held f).map .int) := by
  have e : held[f.toNat]? = some (heldAt held f) := by
    unfold heldAt
    rw [gD_at (by omega)]
    exact List.getElem?_eq_getElem _
  obtain ⟨v, hv, q⟩ := datAll_to Dh e
  cases q with | @list a vs n _ hm D => ?_
  exact ⟨a, vs.toArray, n, by simpa using hv, hm, by simpa using D⟩
section
variable {prog : Program} {w : World} {A : Around} {base : Heap} {tab : List (Str × Option Value)} {K : Frag} {C pI pF fI fT fN fFil fPush fPop fHeap fUp fDown fSeek : Addr}
theorem seek_con (B : Fns base tab K C pI pF fI fT fN fFil fPush fPop fHeap fUp fDown fSeek) {held : List (List Int)} (hheld : held.length ≤ 100) : ∀ (n : Nat) {A : Around} {files rights chosen : List Int} {news news₀ : List (Addr × Obj)} {fv hv rv cv : Value} {fd : Addr} {vs : List Value} {k : Nat} {acc : List (Int × List Int)},
    Room A (10 * n + 20) → rights.length < n → rights.length + chosen.length ≤ 20 → files.length ≤ 100 → (∀ f ∈ files, 0 ≤ f ∧ f < held.length) → (∀ h ∈ held, h.length ≤ 100) →
    DatIn news₀ fv (dI files) → DatIn news₀ hv (.list (held.map dI)) → DatIn news₀ rv (dI rights) → DatIn news₀ cv (dI chosen) → (∀ p ∈ news₀, p ∈ news ∧ p.1 ≠ fd) → (fd, listOf vs.toArray k) ∈ news → base.get? fd = none →
    Rels ((kinF.kind prog w).Rel news) vs acc → (seekI held n files rights chosen acc).length ≤ 900 →
    Con prog w base A (.ref fSeek) [fv, hv, rv, cv, .ref fd] [fd] news (fun _ news' => ∃ vs' k', (fd, listOf vs'.toArray k') ∈ news' ∧ Rels ((kinF.kind prog w).Rel news') vs' (seekI held n files rights chosen acc)) := by
  intro n
  induction n with
  | zero => intro A files rights chosen news news₀ fv hv rv cv fd vs k acc rm hr; omega
  | succ n ih =>
    intro A files rights chosen news news₀ fv hv rv cv fd vs k acc rm hr hc hf hfi hh rf rh rr rc h0 hl hb hrel hsz
    cases rf with | @list fa fvs fn _ hfm Df => ?_
    cases rh with | @list ha hvs hn _ hhm Dh => ?_
    cases rr with | @list ra rvs rn _ hrm Dr => ?_
    cases rc with | @list ca cvs cn _ hcm Dc => ?_
    have lf : fvs.length = files.length := by rw [Df.length, List.length_map]
    have lh : hvs.length = held.length := by rw [Dh.length, List.length_map]
    have lr : rvs.length = rights.length := by rw [Dr.length, List.length_map]
    have lc : cvs.length = chosen.length := by rw [Dc.length, List.length_map]
    have sub0 : ∀ p ∈ news₀, p ∈ news := fun p hp => (h0 p hp).1
    obtain ⟨fil, G, push, pop, heap, up, down, F, tlen, trev, trange, ttuple, tsorted, tmin⟩ := B
    have F' := F
    have e : fnOfP "_law_seek" = fnOfP "_law_seek" := rfl
    conv at e => rhs; whnf
    unfold FnP at F
    rw [e] at F
    clear e
    dsimp only at F
    refine Con.ofFn (binds := [(Str.ofString "files", .ref fa), (Str.ofString "held", .ref ha), (Str.ofString "rights", .ref ra), (Str.ofString "chosen", .ref ca), (Str.ofString "found", .ref fd)]) F G rm (by rfl) (by rfl) (by rfl) (fun _ _ _ => by rfl) (by rfl) (by rfl) (by decide) (fun a m => by rw [List.mem_singleton.mp m]; exact ⟨⟨_, hl⟩, hb⟩) ?_
    intro z s A R Fs L Av cdv rm hfr mu S
    repeat' walk_at "m"
    refine d_list (base := base) ?_
    repeat' walk_at "m"
    refine DispTo.mk S (by simp) ?_
    intro D s1 muD nD S1
    have hle1000 : ∀ g : Int, 0 ≤ g → g < held.length → (heldAt held g).length ≤ 1000 := fun g h0 h1 => by
      have : heldAt held g ∈ held := by
        unfold heldAt
        rw [gD_at (by omega)]
        exact List.getElem_mem _
      have := hh _ this
      omega
    have hun' : ∀ {B : Around}, Room B (10 * (n + 1) + 19) → B.units + 20 < cLine := fun {B} rm => by
      have := rm.units
      show B.units + 20 < 9900
      omega
    have hun : A.units + 20 < cLine := by
      have := rm.units
      show A.units + 20 < 9900
      omega
    refine d_eq S1 (.list (List.mem_cons_of_mem _ (sub0 _ hrm)) (Dr.mono fun p hp => List.mem_cons_of_mem _ (sub0 p hp))) (.list List.mem_cons_self .nil) (by rw [kqdOk]; exact ints_ok 5 rights) (by rfl) hun ?_
    have deqR : deq (dI rights) (.list []) = decide (rights = []) := by
      have := deq_eq (n := 6) (d := dI rights) (e := .list []) (by rw [kqdOk]; exact ints_ok 5 rights) (by rfl)
      by_cases h : rights = []
      · subst h; rw [this.mpr rfl]; simp
      · have h2 : ¬ deq (dI rights) (.list []) = true := fun q => h (by have := this.mp q; injection this with q2; simpa using q2)
        rw [Bool.eq_false_iff.mpr h2]; simp [h]
    rw [deqR]
    repeat' walk_at "m"
    by_cases hre : rights = []
    · rw [if_pos (by simpa using hre)]
      repeat' walk_at "m"
      rename St _ _ _ _ _ _ _ _ _ _ => S2
      refine k_call S2 G push (List.cons_ne_nil _ _) ?_
      repeat' walk_at "m"
      refine d_tuple (base := base) ?_
      repeat' walk_at "m"
      rename St _ _ _ _ _ _ _ _ _ _ => S3
      refine l_len S3 (List.mem_cons_of_mem _ (sub0 _ hcm)) (by omega) ?_
      intro t1 s4 S4
      repeat' walk_at "m"
      refine d_sorted S4 (List.mem_cons_of_mem _ (sub0 _ hcm)) (intsAre_of Dc) (by omega) ?_
      intro D2 ws ms c2 s5 mu2 n2 iw pm srt S5
      have lms : ms = sortI chosen := ksm_same (pm.trans (List.mergeSort_perm chosen _).symm) srt (by
        have := List.pairwise_mergeSort (le := fun a b : Int => decide (a ≤ b)) (fun a b c h1 h2 => by simp only [decide_eq_true_eq] at h1 h2 ⊢; omega) (fun a b => by simp only [Bool.or_eq_true, decide_eq_true_eq]; omega) chosen
        exact this.imp fun h => by simpa using h)
      have lws : ws.length = chosen.length := by rw [iw.length, pm.length_eq]
      repeat' walk_at "m"
      refine d_tupleOf S5 List.mem_cons_self (by omega) ?_
      intro D3 s6 mu3 n3 S6
      repeat' walk_at "m"
      refine DispTo.mk S6 (by simp) ?_
      intro D4 s7 mu4 n4 S7
      repeat' walk_at "m"
      rename St _ _ _ _ _ _ _ _ _ _ => S8
      rw [seekI, if_pos hre] at hsz
      rw [push_len] at hsz
      refine CallTo.mk (X := [fd]) S8 hfr (heappush_con (kinF.kind prog w) (ds := acc) (d := ((chosen.length : Int), sortI chosen)) push down G tlen (rm.mono (by omega)) (.tail _ (.tail _ (.tail _ (.tail _ hl)))) hb
        (hrel.mono fun v d h => (kinF.kind prog w).mono h fun p hp _ => .tail _ (.tail _ (.tail _ (.tail _ hp)))) ?_ (by omega)) (fun a m => by rw [List.mem_singleton.mp m]; exact ⟨⟨_, .tail _ (.tail _ (.tail _ (.tail _ hl)))⟩, mu fd (by simp)⟩) (fun r s' news' S' sub' post => ?_)
      · show DatIn _ _ (.tuple [.int (chosen.length : Int), .tuple ((sortI chosen).map .int)])
        rw [← lc, ← lms]
        exact .tuple (.head _) (.cons (.int _ _) (.cons (.tuple (.tail _ (.head _)) (of_intsAre iw)) .nil))
      · obtain ⟨vs', k', hm', hr'⟩ := post
        have klt : (kinF.kind prog w).lt = ltF := by funext a b; exact kinF_lt a b
        rw [klt] at hr'
        repeat' walk_at "m"
        refine ⟨_, _, S', fun p hp hn => sub' p (.tail _ (.tail _ (.tail _ (.tail _ hp)))) hn, vs', k', hm', ?_⟩
        rw [seekI, if_pos hre]
        exact hr'
    · rw [if_neg (by simpa using hre)]
      repeat' walk_at "m"
      refine comp_assign S1 (by rfl) (by rfl) (by decide) (by rfl) ?_
      repeat' walk_at "m"
      refine comp_list (J := fun i ys news' => (∀ p ∈ (D, listOf [].toArray 0) :: news, p ∈ news') ∧ DatAll news' ys ((rights.take i).map fun p => kinA.enc (askI held files p))) S1 rm.hh (.tail _ (sub0 _ hrm)) (by rfl) (by decide) (by rfl) (by rw [List.size_toArray, sizeLine_eq]; omega) ⟨fun p hp => hp, .nil⟩ ?_ ?_ ?_
      · rintro i v hv ys C R' Av' ρ₁ news₁ s₂ K₁ hK₁ ⟨sb, dy⟩ hfre hR' hA' S2
        obtain ⟨place, hpl, dpl⟩ := datAll_of Dr (by simpa using hv)
        obtain ⟨tp, rfl⟩ := datInt dpl
        repeat' walk_at "m"
        refine stC S2 (by rfl) (by rfl) (.tail _ (.head _)) ?_
        intro s3 S3
        refine ifs_nil ?_
        repeat' walk_at "m"
        have lk1 : ρ₁ (Str.ofString "files") = some (.ref fa) := (hfre _ (by decide)).trans (by walk_at "look")
        have lk2 : ρ₁ (Str.ofString "held") = some (.ref ha) := (hfre _ (by decide)).trans (by walk_at "look")
        have hfm' : (fa, listOf fvs.toArray fn) ∈ news₁ := sb _ (.tail _ (sub0 _ hfm))
        refine d_tuple (base := base) ?_
        repeat' walk_at "m"
        refine comp_eval S3 (by rfl) (by decide) (by rfl) ?_
        repeat' walk_at "m"
        refine comp_list (J := fun j zs news' => (∀ p ∈ news₁, p ∈ news') ∧ DatAll [] zs (((files.take j).filter fun f => (heldAt held f).contains place).map .int)) S3 rm.hh hfm' (by rfl) (by decide) (by rfl) (by rw [List.size_toArray, sizeLine_eq]; omega) ⟨fun p hp => hp, .nil⟩ ?_ ?_ ?_
        · rintro j fv hfv zs C2 R2 Av2 ρ₂ news₂ s₄ K₁ hK₁ ⟨sb2, dz⟩ hfre2 hR2 hA2 S4
          obtain ⟨f, hfj, df⟩ := datAll_of Df (by simpa using hfv)
          obtain ⟨tf, rfl⟩ := datInt df
          obtain ⟨f0, f1⟩ := hfi f (List.mem_of_getElem? hfj)
          obtain ⟨ra2, rvs2, rn2, hrow, hrm2, Drow⟩ := rowAt Dh f0 f1
          have lk3 : ρ₂ (Str.ofString "held") = some (.ref ha) := (hfre2 _ (by decide)).trans (by walk_at "look")
          have lk4 : ρ₂ (Str.ofString "place") = some (.int place tp) := (hfre2 _ (by decide)).trans (by walk_at "look")
          have sb3 : ∀ p ∈ news₀, p ∈ news₂ := fun p hp => sb2 p (sb p (.tail _ (sub0 p hp)))
          repeat' walk_at "m"
          refine ifs_one ?_
          repeat' walk_at "m"
          rename St _ _ _ _ _ _ _ _ _ _ => S5
          refine i_list S5 (sb3 _ hhm) f0 (by omega) hrow ?_
          repeat' walk_at "m"
          refine d_in S5 (.list (sb3 _ hrm2) (Drow.mono sb3)) (.int place tp) (fun e he => by obtain ⟨x, _, rfl⟩ := List.mem_map.mp he; rfl) (by rfl) (hun' rm) ?_
          rw [any_int]
          repeat' walk_at "m"
          by_cases hc : (heldAt held f).contains place = true
          · rw [hc]
            repeat' walk_at "m"
            refine ⟨_, _, S5, fun x hx => ?_, sb2, ?_⟩
            · exact (up_ne (by rintro rfl; revert hx; decide)).trans (hfre2 x hx)
            · rw [take_ext hfj, List.filter_append, List.map_append]
              refine dz.append ?_
              rw [List.filter_cons, if_pos hc]
              exact .cons (.int _ _) .nil
          · rw [Bool.eq_false_iff.mpr hc]
            repeat' walk_at "m"
            refine ⟨_, _, S5, fun x hx => ?_, sb2, ?_⟩
            · exact (up_ne (by rintro rfl; revert hx; decide)).trans (hfre2 x hx)
            · rw [take_ext hfj, List.filter_append, List.filter_cons, if_neg hc]
              simpa using dz
        · rintro j zs news' ⟨_, dz⟩
          rw [dz.length, List.length_map]
          exact Nat.le_trans (List.length_filter_le _ _) (by rw [List.length_take]; omega)
        · refine kdone_eval ?_
          rintro D4 zs news' s' ⟨sb2, dz⟩ S4 nD4 muD4
          repeat' walk_at "m"
          refine l_len S4 (.head _) (by rw [dz.length, List.length_map]; exact Nat.le_trans (List.length_filter_le _ _) (by rw [List.length_take]; omega)) ?_
          intro t6 s6 S6
          repeat' walk_at "m"
          refine DispTo.mk S6 (by simp) ?_
          intro D5 s7 muD5 nD5 S7
          repeat' walk_at "m"
          refine ⟨_, _, S7, fun x hx => ?_, fun p hp => .tail _ (.tail _ (sb2 _ (sb _ hp))), ?_⟩
          · exact (up_ne (by rintro rfl; revert hx; decide)).trans (hfre x hx)
          · rw [take_ext hpl, List.map_append]
            refine (dy.mono fun p hp => .tail _ (.tail _ (sb2 _ hp))).append (.cons (.tuple (.head _) (.cons ?_ (.cons (.int _ _) .nil))) .nil)
            have ez : ((zs.length : Nat) : Int) = (askI held files place).1 := by
              rw [dz.length, List.length_map]
              unfold askI
              rw [show fvs.toArray.size = files.length by rw [List.size_toArray, lf], List.take_length]
            rw [ez]
            exact .int _ _
      · rintro i ys news' ⟨_, dy⟩
        rw [dy.length, List.length_map, List.length_take]; omega
      · refine kdone_to ?_ ?_
        · rfl
        rintro D1 ys news' s' ⟨sb, dy⟩ S2 nD1 muD1
        repeat' walk_at "m"
        have e : rvs.toArray.size = rights.length := by rw [List.size_toArray, lr]
        rw [e, List.take_length] at dy
        have dy' : DatAll news' ys ((rights.map (askI held files)).map kinA.enc) := by rw [List.map_map]; exact dy
        clear dy
        generalize hask : rights.map (askI held files) = asked at dy'
        have hlen : asked.length = rights.length := by rw [← hask, List.length_map]
        have hne : asked ≠ [] := by rw [← hask]; simpa using hre
        obtain ⟨lm, lb⟩ := leastI_spec hne
        refine d_min S2 rm.hh (.head _) (dy'.mono fun p hp => .tail _ hp) (fun d hd => ?_) (fun d hd e he => ?_) ?_ ?_ (hun' rm) ?_
        · obtain ⟨x, _, rfl⟩ := List.mem_map.mp hd
          show kqdOk 4 (.tuple [.int x.1, .int x.2]) = true
          rfl
        · obtain ⟨x, _, rfl⟩ := List.mem_map.mp hd
          obtain ⟨y, _, rfl⟩ := List.mem_map.mp he
          exact kinA.can x y
        · rw [List.length_map, hlen]; exact List.length_pos_iff.mpr hre
        · rw [List.length_map, hlen]; omega
        intro lv s3 _ hlv S3
        have hlv' : DatIn news' lv (kinA.enc (leastI asked)) := by
          obtain ⟨x, hx, q⟩ := datAll_of dy' hlv
          rw [least_at hne] at hx
          cases hx
          exact q
        repeat' walk_at "m"
        rename St _ _ _ _ _ _ _ _ _ _ => S4
        have klt : (kinA.kind prog w).lt = ltA := by funext a b; exact kinA_lt a b
        refine k_call S4 G heap (List.cons_ne_nil _ _) ?_
        repeat' walk_at "m"
        refine CallTo.mk (X := [D1]) S4 hfr (heapify_con (kinA.kind prog w) heap up down G tlen trev trange (rm.mono (by omega)) (.head _) (S4.none muD1) (rels_of (dy'.mono fun p hp => .tail _ hp)) (by omega)) (fun a m => by rw [List.mem_singleton.mp m]; exact ⟨⟨_, .head _⟩, muD1⟩) ?_
        rintro r s5 news5 S5 sub5 ⟨vs5, n5, hm5, hr5⟩
        rw [klt] at hr5
        obtain ⟨hh5, hp5⟩ := heapify_spec ordA asked
        have sb5 : ∀ p ∈ news', p ∈ news5 := fun p hp => sub5 p (.tail _ hp) (by simpa using nD1 p hp)
        have hlv5 : DatIn news5 lv (kinA.enc (leastI asked)) := hlv'.mono sb5
        have l5 : (heapify ltA asked).length = rights.length := by rw [hp5.length_eq, hlen]
        obtain ⟨ds, d, hds⟩ : ∃ ds d, heapify ltA asked = ds ++ [d] := by
          rcases List.eq_nil_or_concat (heapify ltA asked) with h | ⟨ds, d, h⟩
          · rw [h] at l5; exact absurd (List.eq_nil_of_length_eq_zero l5.symm) hre
          · exact ⟨ds, d, by rw [h, List.concat_eq_append]⟩
        rw [hds] at hr5 hh5 hp5 l5
        rw [List.length_append, List.length_singleton] at l5
        obtain ⟨hh6, hp6, hb6⟩ := heappop_spec ordA hh5
        have hfirst : (heappop ltA ds d).1 = leastI asked := by
          have m1 : (heappop ltA ds d).1 ∈ asked := hp5.mem_iff.mp (hp6.mem_iff.mp (.head _))
          exact ltA_total (lb _ m1) (hb6 _ (hp5.mem_iff.mpr lm))
        repeat' walk_at "m"
        refine k_call S5 G pop (List.cons_ne_nil _ _) ?_
        repeat' walk_at "m"
        refine CallTo.mk (X := [D1]) S5 hfr (heappop_con (kinA.kind prog w) pop up down G tlen (rm.mono (by omega)) hm5 (S5.none muD1) hr5 (by omega)) (fun a m => by rw [List.mem_singleton.mp m]; exact ⟨⟨_, hm5⟩, muD1⟩) ?_
        rintro r s6 news6 S6 sub6 ⟨vs6, n6, hm6, _, hrv6⟩
        rw [klt, hfirst] at hrv6
        have sb6 : ∀ p ∈ news', p ∈ news6 := fun p hp => sub6 p (sb5 p hp) (by simpa using nD1 p hp)
        have hlv6 : DatIn news6 lv (kinA.enc (leastI asked)) := hlv'.mono sb6
        generalize hleast : leastI asked = least at hlv6 hrv6
        have hrv : DatIn news6 r (.tuple [.int least.1, .int least.2]) := hrv6
        have hrvf := hrv
        cases hrv with | @tuple aF vF nF _ hmF DF => ?_
        cases DF with | @cons q1 _ r1 _ d1 DF => ?_
        cases DF with | @cons q2 _ r2 _ d2 DF => ?_
        cases DF
        obtain ⟨t2, rfl⟩ := datInt d2
        repeat' walk_at "m"
        rename St _ _ _ _ _ _ _ _ _ _ => S7
        refine i_tup (j := 1) S7 hmF (by decide) (by decide) (by rfl) (by rfl) ?_
        repeat' walk_at "m"
        rename St _ _ _ _ _ _ _ _ _ _ => S8
        have sb8 : ∀ p ∈ news₀, p ∈ news6 := fun p hp => sb6 p (sb p (.tail _ (sub0 p hp)))
        have hlfd : (fd, listOf vs.toArray k) ∈ news6 := sb6 _ (sb _ (.tail _ hl))
        have hrel6 : Rels ((kinF.kind prog w).Rel news6) vs acc := hrel.mono fun v d h => (kinF.kind prog w).mono h fun p hp _ => sb6 p (sb p (.tail _ hp))
        repeat' walk_at "m"
        have tne : ∀ p ∈ news6, p.2.cls = .type "tuple" → p.1 ≠ fd := fun p hp hc he => by
          obtain ⟨a, o⟩ := p
          dsimp only at hc he
          subst he
          have := S8.uniq hp hlfd
          rw [this] at hc
          injection hc with hc
          exact absurd hc (by decide)
        refine for_list (J := fun i ρ' news' => (∀ p ∈ news6, p.1 ≠ fd → p ∈ news') ∧ (∃ vs k, (fd, listOf vs.toArray k) ∈ news' ∧ Rels ((kinF.kind prog w).Rel news') vs ((files.take i).foldl (fun acc f => if (heldAt held f).contains least.2 = true then seekI held n (dropI files (clashI held files f)) (dropI rights (heldAt held f)) (chosen ++ [f]) acc else acc) acc)) ∧
          ρ' (Str.ofString "files") = some (.ref fa) ∧ ρ' (Str.ofString "held") = some (.ref ha) ∧ ρ' (Str.ofString "rights") = some (.ref ra) ∧ ρ' (Str.ofString "chosen") = some (.ref ca) ∧ ρ' (Str.ofString "found") = some (.ref fd) ∧ ρ' (Str.ofString "place") = some (.int least.2 t2) ∧ ρ' (Str.ofString "first") = some (.ref aF) ∧ ρ' (Str.ofString "least") = some lv)
          S8 rm.hh (sb8 _ hfm) ⟨fun p hp _ => hp, ⟨vs, k, hlfd, hrel6⟩, by walk_at "look", by walk_at "look", by walk_at "look", by walk_at "look", by walk_at "look", by walk_at "look", by walk_at "look", by walk_at "look"⟩ ?_ ?_
        · rintro i fv ρ₁ news₁ R' Av' s9 hfv T Q₁ hQ₁ ⟨sb9, ⟨vs9, k9, hl9, hrel9⟩, k1, k2, k3, k4, k5, k6, k7, k8⟩ S9
          obtain ⟨f, hfj, df⟩ := datAll_of Df (by simpa using hfv)
          obtain ⟨tf, rfl⟩ := datInt df
          obtain ⟨f0, f1⟩ := hfi f (List.mem_of_getElem? hfj)
          obtain ⟨ha2, hvs2, hn2, hrow, hhm2, Drow⟩ := rowAt Dh f0 f1
          have sb3 : ∀ p ∈ news₀, p ∈ news₁ := fun p hp => sb9 p (sb8 p hp) (h0 p hp).2
          repeat' walk_at "m"
          refine stC S9 (by rfl) (by rfl) (.tail _ (.head _)) ?_
          intro s10 S10
          repeat' walk_at "m"
          refine i_list S10 (sb3 _ hhm) f0 (by omega) hrow ?_
          repeat' walk_at "m"
          refine d_in S10 (.list (sb3 _ hhm2) (Drow.mono sb3)) (.int least.2 t2) (fun e he => by obtain ⟨x, _, rfl⟩ := List.mem_map.mp he; rfl) (by rfl) (hun' rm) ?_
          rw [any_int]
          repeat' walk_at "m"
          by_cases hc : (heldAt held f).contains least.2 = true
          · rw [hc]
            repeat' walk_at "m"
            have tup9 : ∀ p ∈ news6, p.2.cls = .type "tuple" → p ∈ news₁ := fun p hp hq => sb9 p hp (tne p hp hq)
            refine d_eq S10 (kinA.tup (d := least) hrvf tup9) (kinA.tup hlv6 tup9) (by rfl) (by rfl) (hun' rm) ?_
            rw [(deq_eq (n := 6) (d := kinA.enc least) (e := kinA.enc least) (by rfl) (by rfl)).mpr rfl]
            repeat' walk_at "m"
            refine comp_assign S10 (by rfl) (by rfl) (by decide) (by rfl) ?_
            repeat' walk_at "m"
            refine comp_list (J := fun j zs news' => (∀ p ∈ news₁, p ∈ news') ∧ DatAll [] zs ((clashI held (files.take j) f).map .int)) S10 rm.hh (sb3 _ hfm) (by rfl) (by decide) (by rfl) (by rw [List.size_toArray, sizeLine_eq]; omega) ⟨fun p hp => hp, .nil⟩ ?_ ?_ ?_
            · rintro j gv hgv zs C2 R2 Av2 ρ₂ news₂ s11 K₁ hK₁ ⟨sb2, dz⟩ hfre2 hR2 hA2 S11
              obtain ⟨g, hgj, dg⟩ := datAll_of Df (by simpa using hgv)
              obtain ⟨tg, rfl⟩ := datInt dg
              obtain ⟨g0, g1⟩ := hfi g (List.mem_of_getElem? hgj)
              obtain ⟨hb2, gvs2, gn2, grow, ghm2, Dgrow⟩ := rowAt Dh g0 g1
              have lk3 : ρ₂ (Str.ofString "held") = some (.ref ha) := (hfre2 _ (by decide)).trans (by walk_at "look")
              have lk4 : ρ₂ (Str.ofString "f") = some (.int f tf) := (hfre2 _ (by decide)).trans (by walk_at "look")
              have sb4 : ∀ p ∈ news₀, p ∈ news₂ := fun p hp => sb2 p (sb3 p hp)
              repeat' walk_at "m"
              refine ifs_one ?_
              repeat' walk_at "m"
              rename St _ _ _ _ _ _ _ _ _ _ => S12
              refine k_call S12 G fil.F (List.cons_ne_nil _ _) ?_
              repeat' walk_at "m"
              refine i_list S12 (sb4 _ hhm) g0 (by omega) grow ?_
              repeat' walk_at "m"
              refine i_list S12 (sb4 _ hhm) f0 (by omega) hrow ?_
              repeat' walk_at "m"
              refine CallTo.mk (X := []) S12 hfr (filter_con (items := gvs2.toList) (sks := hvs2.toList) fil G (rm.mono (by omega)) (sb4 _ ghm2) (sb4 _ hhm2) (Dgrow.mono sb4) (Drow.mono sb4) (fun e he => by obtain ⟨x, _, rfl⟩ := List.mem_map.mp he; rfl) (fun e he => by obtain ⟨x, _, rfl⟩ := List.mem_map.mp he; rfl) (by rw [List.length_map]; exact hle1000 g g0 g1)) ((fun a m => by cases m)) ?_
              rintro r s13 news13 S13 sub13 ⟨a13, vs13, k13, hr13, _, hm13, D13⟩
              subst hr13
              rw [dFilter_int] at D13
              have sb13 : ∀ p ∈ news₂, p ∈ news13 := fun p hp => sub13 p hp (by simp)
              repeat' walk_at "m"
              refine i_list S13 (sb13 _ (sb4 _ hhm)) g0 (by omega) grow ?_
              repeat' walk_at "m"
              refine d_ne S13 (.list hm13 D13) (.list (sb13 _ (sb4 _ ghm2)) (Dgrow.mono fun p hp => sb13 p (sb4 p hp))) (by rw [kqdOk]; exact ints_ok 5 _) (by rw [kqdOk]; exact ints_ok 5 _) (hun' rm) ?_
              rw [deq_listI]
              have ecl : clashI held (files.take (j + 1)) f = clashI held (files.take j) f ++ clashI held [g] f := by
                rw [take_ext hgj]; exact List.filter_append ..
              repeat' walk_at "m"
              by_cases hg : dropI (heldAt held g) (heldAt held f) = heldAt held g
              · have eg : clashI held [g] f = [] := by simp [clashI, hg]
                rw [decide_eq_true hg, Bool.not_true]
                repeat' walk_at "m"
                refine ⟨_, _, S13, fun x hx => ?_, fun p hp => sb13 p (sb2 p hp), ?_⟩
                · exact (up_ne (by rintro rfl; revert hx; decide)).trans (hfre2 x hx)
                · rw [ecl, eg, List.append_nil]; exact dz
              · have eg : clashI held [g] f = [g] := by simp [clashI, hg]
                rw [decide_eq_false hg, Bool.not_false]
                repeat' walk_at "m"
                refine ⟨_, _, S13, fun x hx => ?_, fun p hp => sb13 p (sb2 p hp), ?_⟩
                · exact (up_ne (by rintro rfl; revert hx; decide)).trans (hfre2 x hx)
                · rw [ecl, eg, List.map_append]; exact dz.append (.cons (.int _ _) .nil)
            · rintro j zs news' ⟨_, dz⟩
              rw [dz.length, List.length_map]
              exact Nat.le_trans (List.length_filter_le _ _) (by rw [List.length_take]; omega)
            · refine kdone_to ?_ ?_
              · rfl
              rintro D5 zs news11 s11 ⟨sb11, dz⟩ S11 nD5 muD5
              rw [show fvs.toArray.size = files.length by rw [List.size_toArray, lf], List.take_length] at dz
              have sbC : ∀ p ∈ news₁, p ∈ (D5, listOf zs.toArray zs.length) :: news11 := fun p hp => .tail _ (sb11 p hp)
              repeat' walk_at "m"
              refine k_call S11 G F' (List.cons_ne_nil _ _) ?_
              repeat' walk_at "m"
              refine k_call S11 G fil.F (List.cons_ne_nil _ _) ?_
              repeat' walk_at "m"
              refine CallTo.mk (X := []) S11 hfr (filter_con fil G (rm.mono (by omega)) (sbC _ (sb3 _ hfm)) (.head _) (Df.mono fun p hp => sbC p (sb3 p hp)) (dz.mono fun p hp => by cases hp) (fun e he => by obtain ⟨x, _, rfl⟩ := List.mem_map.mp he; rfl) (fun e he => by obtain ⟨x, _, rfl⟩ := List.mem_map.mp he; rfl) (by rw [List.length_map]; omega)) ((fun a m => by cases m)) ?_
              rintro r s12 news12 S12 sub12 ⟨a12, vs12, k12, hr12, ne12, hm12, D12⟩
              subst hr12
              rw [dFilter_int] at D12
              have sb12 : ∀ p ∈ news₁, p ∈ news12 := fun p hp => sub12 p (sbC p hp) (by simp)
              have n12 : a12 ≠ fd := Ne.symm (ne12 _ (sbC _ hl9))
              repeat' walk_at "m"
              refine k_call S12 G fil.F (List.cons_ne_nil _ _) ?_
              repeat' walk_at "m"
              refine i_list S12 (sb12 _ (sb3 _ hhm)) f0 (by omega) hrow ?_
              repeat' walk_at "m"
              refine CallTo.mk (X := []) S12 hfr (filter_con (sks := hvs2.toList) fil G (rm.mono (by omega)) (sb12 _ (sb3 _ hrm)) (sb12 _ (sb3 _ hhm2)) (Dr.mono fun p hp => sb12 p (sb3 p hp)) (Drow.mono fun p hp => sb12 p (sb3 p hp)) (fun e he => by obtain ⟨x, _, rfl⟩ := List.mem_map.mp he; rfl) (fun e he => by obtain ⟨x, _, rfl⟩ := List.mem_map.mp he; rfl) (by rw [List.length_map]; omega)) ((fun a m => by cases m)) ?_
              rintro r s13 news13 S13 sub13 ⟨a13, vs13, k13, hr13, ne13, hm13, D13⟩
              subst hr13
              rw [dFilter_int] at D13
              have sb13 : ∀ p ∈ news12, p ∈ news13 := fun p hp => sub13 p hp (by simp)
              have n13 : a13 ≠ fd := Ne.symm (ne13 _ (sb12 _ hl9))
              repeat' walk_at "m"
              refine d_list (base := base) ?_
              repeat' walk_at "m"
              refine DispTo.mk S13 (by simp) ?_
              intro D6 s14 muD6 nD6 S14
              repeat' walk_at "m"
              have sb14 : ∀ p ∈ news13, p ∈ (D6, listOf [Value.int f tf].toArray 0) :: news13 := fun p hp => .tail _ hp
              refine d_addL S14 (sb14 _ (sb13 _ (sb12 _ (sb3 _ hcm)))) (.head _) (by simp; omega) ?_
              intro D7 s15 muD7 nD7 S15
              repeat' walk_at "m"
              have sb15 : ∀ p ∈ news₁, p ∈ (D7, listOf (cvs ++ [Value.int f tf]).toArray 0) :: (D6, listOf [Value.int f tf].toArray 0) :: news13 := fun p hp => .tail _ (.tail _ (sb13 _ (sb12 _ hp)))
              have hst : (files.take (i + 1)) = files.take i ++ [f] := take_ext hfj
              have hmem : least.2 ∈ rights := by
                have : least ∈ asked := hleast ▸ lm
                rw [← hask] at this
                obtain ⟨p, hp, rfl⟩ := List.mem_map.mp this
                exact hp
              have hdrop : (dropI rights (heldAt held f)).length < rights.length := by
                refine (List.length_filter_lt_length_iff_exists).mpr ⟨least.2, hmem, ?_⟩
                rw [hc]; decide
              have hsz9 : (seekI held n (dropI files (clashI held files f)) (dropI rights (heldAt held f)) (chosen ++ [f]) ((files.take i).foldl (fun acc f => if (heldAt held f).contains least.2 = true then seekI held n (dropI files (clashI held files f)) (dropI rights (heldAt held f)) (chosen ++ [f]) acc else acc) acc)).length ≤ 900 := by
                refine Nat.le_trans ?_ hsz
                rw [seekI, if_neg hre, hask, hleast]
                have e1 : files = files.take i ++ ([f] ++ files.drop (i + 1)) := by
                  rw [← List.append_assoc, ← hst, List.take_append_drop]
                have e2 : ∀ {α : Type} (g : α → Int → α) (a : α), files.foldl g a = (files.drop (i + 1)).foldl g (g ((files.take i).foldl g a) f) := fun g a => by
                  conv => lhs; rw [e1]
                  rw [List.foldl_append, List.foldl_append]; rfl
                rw [e2]
                refine Nat.le_trans ?_ (seekI_fold held n files rights chosen least.2 _ _)
                rw [if_pos hc]
                exact Nat.le_refl _
              generalize hnewsE : (D7, listOf (cvs ++ [Value.int f tf]).toArray 0) :: (D6, listOf [Value.int f tf].toArray 0) :: news13 = newsE at S15 sb15
              have h13 : ∀ p ∈ news13, p ∈ newsE := fun p hp => by rw [← hnewsE]; exact .tail _ (.tail _ hp)
              have n7 : D7 ≠ fd := Ne.symm (nD7 _ (.tail _ (sb13 _ (sb12 _ hl9))))
              have hN : ∀ p ∈ newsE, p.1 ≠ fd → p ∈ newsE.filter fun p => decide (p.1 ≠ fd) := fun p hp hn => List.mem_filter.mpr ⟨hp, by simpa using hn⟩
              have hN0 : ∀ p ∈ news₀, p ∈ newsE.filter fun p => decide (p.1 ≠ fd) := fun p hp => hN p (sb15 p (sb3 p hp)) (h0 p hp).2
              have Df14 : DatIn (newsE.filter fun p => decide (p.1 ≠ fd)) (.ref a12) (dI (dropI files (clashI held files f))) := .list (hN _ (h13 _ (sb13 _ hm12)) n12) (of_intsAre (intsAre_of D12))
              have Dr14 : DatIn (newsE.filter fun p => decide (p.1 ≠ fd)) (.ref a13) (dI (dropI rights (heldAt held f))) := .list (hN _ (h13 _ hm13) n13) (of_intsAre (intsAre_of D13))
              have Dh14 : DatIn (newsE.filter fun p => decide (p.1 ≠ fd)) (.ref ha) (.list (held.map dI)) := .list (hN0 _ hhm) (Dh.mono hN0)
              have Dc14 : DatIn (newsE.filter fun p => decide (p.1 ≠ fd)) (.ref D7) (dI (chosen ++ [f])) := .list (vs := cvs ++ [Value.int f tf]) (hN _ (by rw [← hnewsE]; exact .head _) n7) (by rw [List.map_append]; exact (Dc.mono hN0).append (.cons (.int _ _) .nil))
              refine CallTo.mk (X := [fd]) S15 hfr (ih (rm.mono (by omega)) (by omega) (by rw [List.length_append, List.length_singleton]; omega) (Nat.le_trans (List.length_filter_le _ _) hf) (fun g hg => hfi g (List.mem_filter.mp hg).1) hh Df14 Dh14 Dr14 Dc14 (fun p hp => by have := List.mem_filter.mp hp; exact ⟨this.1, by simpa using this.2⟩) (sb15 _ hl9) hb ?_ hsz9) (fun a m => by rw [List.mem_singleton.mp m]; exact ⟨⟨_, sb15 _ hl9⟩, T.mu fd (mu fd (by simp)) (S9.led _ hl9).2 (by simpa using Ne.symm (h0 _ hfm).2)⟩) ?_
              · refine hrel9.mono fun v d h => (kinF.kind prog w).mono h fun p hp _ => sb15 p hp
              rintro r s16 news16 S16 sub16 ⟨vs16, k16, hm16, hr16⟩
              repeat' walk_at "m"
              refine ⟨_, _, S16, fun p hp hn => sub16 p (sb15 p (sb9 p hp hn)) (by simpa using hn), ⟨vs16, k16, hm16, ?_⟩, by walk_at "look", by walk_at "look", by walk_at "look", by walk_at "look", by walk_at "look", by walk_at "look", by walk_at "look", by walk_at "look"⟩
              rw [hst, List.foldl_append, List.foldl_cons, List.foldl_nil, if_pos hc]
              exact hr16
          · rw [Bool.eq_false_iff.mpr hc]
            repeat' walk_at "m"
            have hst : (files.take (i + 1)) = files.take i ++ [f] := take_ext hfj
            refine ⟨_, _, S10, sb9, ⟨vs9, k9, hl9, ?_⟩, by walk_at "look", by walk_at "look", by walk_at "look", by walk_at "look", by walk_at "look", by walk_at "look", by walk_at "look", by walk_at "look"⟩
            rw [hst, List.foldl_append, List.foldl_cons, List.foldl_nil, if_neg hc]
            exact hrel9
        · rintro ρ₁ news₁ s9 ⟨sb9, ⟨vs9, k9, hl9, hrel9⟩, k1, k2, k3, k4, k5, k6, k7, k8⟩ S9
          repeat' walk_at "m"
          refine ⟨_, _, S9, fun p hp hn => sb9 p (sb6 p (sb p (.tail _ hp))) (by simpa using hn), vs9, k9, hl9, ?_⟩
          rw [seekI, if_neg hre]
          rw [show fvs.toArray.size = files.length by rw [List.size_toArray, lf], List.take_length] at hrel9
          rw [hask, hleast]
          exact hrel9
end
end
set_option Elab.async false
set_option maxRecDepth 100000
set_option maxHeartbeats 4000000
section
noncomputable def duStep (p : List Int) (cs : List (List Int × Int)) (k : Nat) : List (List Int × Int) :=
  if p.getD k 0 = 0 then cs else cs ++ (cs.filter fun c => decide (Builtin.bitAnd c.2 (p.getD k 0) = 0)).map fun c => (c.1 ++ [(k : Int)], c.2 + p.getD k 0)
noncomputable def duAll (p : List Int) : Nat → List (List Int × Int)
  | 0 => [([], 0)]
  | k + 1 => duStep p (duAll p k) k
noncomputable def dueI (p : List Int) : List (Int × List Int) := ((duAll p 8).filter fun c => decide (c.2 = 511)).map fun c => ((c.1.length : Int), c.1)
theorem duAll_len (p : List Int) : ∀ k, (duAll p k).length ≤ 2 ^ k
  | 0 => Nat.le_refl _
  | k + 1 => by
    have := duAll_len p k
    rw [duAll, duStep]
    split
    · rw [Nat.pow_succ]; omega
    · rw [List.length_append, List.length_map, Nat.pow_succ]
      have := List.length_filter_le (fun c : List Int × Int => decide (Builtin.bitAnd c.2 (p.getD k 0) = 0)) (duAll p k)
      omega
theorem duAll_in (p : List Int) : ∀ k, ∀ c ∈ duAll p k, c.1.length ≤ k
  | 0, c, h => by rw [duAll, List.mem_singleton] at h; subst h; exact Nat.le_refl _
  | k + 1, c, h => by
    rw [duAll, duStep] at h
    split at h
    · have := duAll_in p k c h; omega
    · rcases List.mem_append.mp h with h | h
      · have := duAll_in p k c h; omega
      · obtain ⟨x, hx, rfl⟩ := List.mem_map.mp h
        have := duAll_in p k x (List.mem_filter.mp hx).1
        rw [List.length_append, List.length_singleton]; omega
/-- (the numbers, the sum) -/
noncomputable def encC (c : List Int × Int) : Dat := .tuple [.tuple (c.1.map .int), .int c.2]
section
variable {prog : Program} {w : World} {A : Around} {base : Heap} {tab : List (Str × Option Value)} {news : List (Addr × Obj)}
theorem d_addT' {R : Addr → Obj → Prop} {Fs : List Env} {env : Env} {own : List Addr} {Av : Addr → Prop} {z : Shared} {ρ : Str → Option Value} {s : Shared} {E : Value → Shared → Prop} {a b : Addr} {vs ws : List Value} {n m : Nat} {ds es : List Dat} {Q : Value → Shared → Prop} (S : St base R Fs env own Av z ρ news s) (ha : (a, tupOf vs.toArray n) ∈ news) (hb : (b, tupOf ws.toArray m) ∈ news) (Da : DatAll news vs ds) (Db : DatAll news ws es) (hz : vs.length + ws.length ≤ 100000)
    (h : ∀ r s' news', St base R Fs env own Av z ρ news' s' → (∀ p ∈ news, p ∈ news') → DatIn news' r (.tuple (ds ++ es)) → Q r s') : wpAny (model prog w) A (binaryOp .Add (.ref a) (.ref b)) Q E s := by
  refine d_addT S ha hb hz (fun e => ?_) (fun _ e => ?_) fun _ _ D s' mu nD S' => ?_
  · subst e; cases Da; exact h _ _ _ S (fun p hp => hp) (.tuple hb Db)
  · subst e; cases Db; exact h _ _ _ S (fun p hp => hp) (by rw [List.append_nil]; exact .tuple ha Da)
  · exact h _ _ _ S' (fun p hp => .tail _ hp) (.tuple (.head _) ((Da.mono fun p hp => .tail _ hp).append (Db.mono fun p hp => .tail _ hp)))
theorem l_lenT {R : Addr → Obj → Prop} {Fs : List Env} {env : Env} {own : List Addr} {Av : Addr → Prop} {z : Shared} {ρ : Str → Option Value} {s : Shared} {E : Value → Shared → Prop} {l : Addr} {its : List Value} {n : Nat} {Q : Value → Shared → Prop} (S : St base R Fs env own Av z ρ news s) (hl : (l, tupOf its.toArray n) ∈ news) (hz : its.length ≤ 10000)
    (h : ∀ t s', St base R Fs env own Av z ρ news s' → Q (.int its.length t) s') : wpAny (model prog w) A (call (.builtin "len") [.ref l]) Q E s :=
  kun_lenT (k := its.length) ⟨_, S.get hl, rfl, n, rfl⟩ (by rw [List.size_toArray]) (by omega) (h _ _ (S.tok _))
theorem due_con {f l : Addr} {pvs : List Value} {n : Nat} {p : List Int} (F : FnP base tab "_law_due" f) (G : GF base tab) (trange : TB tab "range") (tlen : TB tab "len") (tsorted : TB tab "sorted") (rm : Room A 2)
    (hl : (l, listOf pvs.toArray n) ∈ news) (hp : DatAll [] pvs (p.map .int)) (hp8 : p.length = 8) (hz : (dueI p).length < 64) :
    Con prog w base A (.ref f) [.ref l] [] news (fun r news' => ∃ D ws k, ∃ ds : List (Int × List Int), r = .ref D ∧ (D, listOf ws.toArray k) ∈ news' ∧ DatAll news' ws (ds.map kinF.enc) ∧ ds.Perm (dueI p) ∧ ds.Pairwise fun a b => ltF b a = false) := by
  have e : fnOfP "_law_due" = fnOfP "_law_due" := rfl
  conv at e => rhs; whnf
  unfold FnP at F
  rw [e] at F
  clear e
  dsimp only at F
  refine Con.ofFn (binds := [(Str.ofString "pieces", .ref l)]) F G rm (by rfl) (by rfl) (by rfl) (fun _ _ _ => by rfl) (by rfl) (by rfl) (by decide) (fun a m => by cases m) ?_
  clear F
  intro z s A R Fs L Av cdv rm hfr mu S
  have hun : ∀ {B : Around}, Room B 1 → B.units + 20 < cLine := fun {B} rm => by
    have := rm.units
    show B.units + 20 < 9900
    omega
  have hlen : pvs.length = 8 := by rw [hp.length, List.length_map, hp8]
  repeat' walk_at "m"
  refine d_list (base := base) ?_
  repeat' walk_at "m"
  refine d_tuple (base := base) ?_
  repeat' walk_at "m"
  refine d_tuple (base := base) ?_
  repeat' walk_at "m"
  refine DispTo.mk S (by simp) ?_
  intro D1 s1 muD1 nD1 S1
  repeat' walk_at "m"
  refine DispTo.mk (by assumption) (by simp) ?_
  intro D2 s2 muD2 nD2 S2
  repeat' walk_at "m"
  refine DispTo.mk S2 (by simp) ?_
  intro D3 s3 muD3 nD3 S3
  repeat' walk_at "m"
  rename St _ _ _ _ _ _ _ _ _ _ => S4
  refine r_range S4 ?_
  intro rg t5 u5 v5 s5 muR nR S5
  repeat' walk_at "m"
  refine for_range (n := 8) (J := fun i ρ' news' => (∀ p ∈ news, p ∈ news') ∧ ρ' (Str.ofString "pieces") = some (.ref l) ∧ ∃ cA cvs ck, ρ' (Str.ofString "choices") = some (.ref cA) ∧ (cA, listOf cvs.toArray ck) ∈ news' ∧ DatAll news' cvs ((duAll p i).map encC))
    S5 rm.hh (S5.get (.head _)) (by decide) (by decide) ⟨fun p hp => by walk_at "mem", by walk_at "look", D3, _, _, by walk_at "look", .tail _ (.head _), ?_⟩ ?_ ?_
  · exact .cons (.tuple (.tail _ (.tail _ (.head _))) (.cons (.tuple (.tail _ (.tail _ (.tail _ (.head _)))) .nil) (.cons (.int _ _) .nil))) .nil
  · rintro i t ρ₁ news₁ R' Av' s₁ hi T Q₁ hQ₁ ⟨sb, k1, cA, cvs, ck, k2, hcA, Dc⟩ S₁
    have hlc : cvs.length ≤ 1000 := by
      rw [Dc.length, List.length_map]
      have := duAll_len p i
      have : 2 ^ i ≤ 2 ^ 8 := Nat.pow_le_pow_right (by omega) (by omega)
      omega
    obtain ⟨pv, hpv, dpv⟩ := datAll_to (f := Dat.int) hp (i := i) (x := p.getD i 0) (by rw [List.getD_eq_getElem?_getD, List.getElem?_eq_getElem (by omega)]; rfl)
    obtain ⟨tp, rfl⟩ := datInt dpv
    generalize hpi : p.getD i 0 = pi at hpv dpv
    repeat' walk_at "m"
    refine stC S₁ (by rfl) (by rfl) (.tail _ (.head _)) ?_
    intro s6 S6
    repeat' walk_at "m"
    refine i_list S6 (sb _ hl) (by omega) (by omega) (by rw [List.getElem?_toArray]; rw [show ((0 : Int) + (i : Int)).toNat = i by omega]; exact hpv) ?_
    repeat' walk_at "m"
    rename St _ _ _ _ _ _ _ _ _ _ => S6
    refine d_ne (news := news₁) S6 (.int _ _) (.int _ _) (by rfl) (by rfl) (hun rm) ?_
    rw [deq_int]
    repeat' walk_at "m"
    by_cases h0 : pi = 0
    · rw [decide_eq_true h0, Bool.not_true]
      repeat' walk_at "m"
      refine ⟨_, _, S6, sb, by walk_at "look", cA, cvs, ck, by walk_at "look", hcA, ?_⟩
      rw [duAll, duStep, hpi, if_pos h0]
      exact Dc
    · rw [decide_eq_false h0, Bool.not_false]
      repeat' walk_at "m"
      refine comp_eval S6 (by rfl) (by decide) (by rfl) ?_
      repeat' walk_at "m"
      refine comp_list (J := fun j zs news' => (∀ p ∈ news₁, p ∈ news') ∧ DatAll news' zs (((((duAll p i).take j).filter fun c => decide (Builtin.bitAnd c.2 pi = 0)).map fun c => (c.1 ++ [(i : Int)], c.2 + pi)).map encC)) S6 rm.hh hcA (by rfl) (by decide) (by rfl) (by rw [List.size_toArray, sizeLine_eq]; omega) ⟨fun p hp => hp, .nil⟩ ?_ ?_ ?_
      · rintro j v hv zs C2 R2 Av2 ρ₂ news₂ s₂ K₁ hK₁ ⟨sb2, dz⟩ hfre2 hR2 hA2 S2
        have lk1 : ρ₂ (Str.ofString "pieces") = some (.ref l) := (hfre2 _ (by decide)).trans (by walk_at "look")
        have lk2 : ρ₂ (Str.ofString "k") = some (.int (0 + (i : Int)) t) := (hfre2 _ (by decide)).trans (by walk_at "look")
        obtain ⟨c, hcj, dc⟩ := datAll_of Dc (by simpa using hv)
        obtain ⟨T, g⟩ := c
        unfold encC at dc
        dsimp only at dc
        cases dc with | @tuple a2 vs2 n2 _ hm2 D2 => ?_
        cases D2 with | @cons q1 _ r1 _ d1 D2 => ?_
        cases D2 with | @cons q2 _ r2 _ d2 D2 => ?_
        cases D2
        obtain ⟨t2, rfl⟩ := datInt d2
        cases d1 with | @tuple a3 vs3 n3 _ hm3 D3 => ?_
        refine a_tup2 S2 rm.hh ⟨_, S2.get (sb2 _ hm2), rfl, _, rfl⟩ (by rfl) (by rfl) ?_
        intro s7 S7
        refine ifs_one ?_
        repeat' walk_at "m"
        have sbl : ∀ p ∈ news, p ∈ news₂ := fun p hp => sb2 p (sb p hp)
        have hpi' : pvs.toArray[((0 : Int) + (i : Int)).toNat]? = some (.int pi tp) := by rw [List.getElem?_toArray]; rw [show ((0 : Int) + (i : Int)).toNat = i by omega]; exact hpv
        have hlenT : vs3.length ≤ 8 := by
          have := duAll_in p i _ (List.mem_of_getElem? hcj)
          rw [D3.length, List.length_map]; dsimp only at this; omega
        refine i_list S7 (sbl _ hl) (by omega) (by omega) hpi' ?_
        repeat' walk_at "m"
        by_cases hb : Builtin.bitAnd g pi = 0
        · rw [show (Builtin.bitAnd g pi == 0) = true by simpa using hb]
          repeat' walk_at "m"
          refine d_tuple (base := base) ?_
          repeat' walk_at "m"
          refine d_tuple (base := base) ?_
          repeat' walk_at "m"
          rename St _ _ _ _ _ _ _ _ _ _ => S8
          refine DispTo.mk S8 (by simp) ?_
          intro D5 s9 muD5 nD5 S9
          repeat' walk_at "m"
          refine d_addT' S9 (.tail _ (sb2 _ hm3)) (.head _) (D3.mono fun p hp => .tail _ (sb2 p hp)) (.cons (.int _ _) .nil) (by simp; omega) ?_
          intro r s10 news10 S10 sb10 dr
          repeat' walk_at "m"
          rename St _ _ _ _ _ _ _ _ _ _ => S11
          refine i_list S11 (sb10 _ (.tail _ (sbl _ hl))) (by omega) (by omega) hpi' ?_
          repeat' walk_at "m"
          rename St _ _ _ _ _ _ _ _ _ _ => S12
          refine DispTo.mk S12 (by simp) ?_
          intro D6 s13 muD6 nD6 S13
          repeat' walk_at "m"
          refine ⟨_, _, S13, fun x hx => ?_, fun p hp => .tail _ (sb10 _ (.tail _ (sb2 p hp))), ?_⟩
          · exact (up_ne (by rintro rfl; revert hx; decide)).trans ((up_ne (by rintro rfl; revert hx; decide)).trans (hfre2 x hx))
          · rw [take_ext hcj, List.filter_append, List.map_append, List.map_append]
            refine (dz.mono fun p hp => .tail _ (sb10 _ (.tail _ hp))).append ?_
            rw [List.filter_cons, if_pos (by simpa using hb), List.filter_nil]
            refine .cons ?_ .nil
            unfold encC
            dsimp only
            rw [List.map_append, show ((i : Nat) : Int) = 0 + (i : Int) by omega]
            exact .tuple (.head _) (.cons (dr.mono fun p hp => .tail _ hp) (.cons (.int _ _) .nil))
        · rw [show (Builtin.bitAnd g pi == 0) = false by simpa using hb]
          repeat' walk_at "m"
          rename St _ _ _ _ _ _ _ _ _ _ => S8
          refine ⟨_, _, S8, fun x hx => ?_, sb2, ?_⟩
          · exact (up_ne (by rintro rfl; revert hx; decide)).trans ((up_ne (by rintro rfl; revert hx; decide)).trans (hfre2 x hx))
          · rw [take_ext hcj, List.filter_append, List.filter_cons, if_neg (by simpa using hb), List.filter_nil, List.append_nil]
            exact dz
      · rintro j zs news' ⟨_, dz⟩
        rw [dz.length, List.length_map, List.length_map]
        exact Nat.le_trans (List.length_filter_le _ _) (by rw [List.length_take]; omega)
      · refine kdone_eval ?_
        rintro D4 zs news' s' ⟨sb2, dz⟩ S7 nD4 muD4
        rw [show cvs.toArray.size = (duAll p i).length by rw [List.size_toArray, Dc.length, List.length_map], List.take_length] at dz
        repeat' walk_at "m"
        have hzs : zs.length ≤ 1000 := by
          rw [dz.length, List.length_map, List.length_map]
          refine Nat.le_trans (List.length_filter_le _ _) ?_
          have := Dc.length; rw [List.length_map] at this; omega
        refine d_addL S7 (.tail _ (sb2 _ hcA)) (.head _) (by omega) ?_
        intro D7 s8 muD7 nD7 S8
        repeat' walk_at "m"
        rename St _ _ _ _ _ _ _ _ _ _ => S9
        refine ⟨_, _, S9, fun p hp => .tail _ (.tail _ (sb2 p (sb p hp))), by walk_at "look", D7, _, _, by walk_at "look", .head _, ?_⟩
        rw [duAll, duStep, hpi, if_neg h0, List.map_append]
        exact (Dc.mono fun p hp => .tail _ (.tail _ (sb2 p hp))).append (dz.mono fun p hp => .tail _ (.tail _ hp))
  · rintro ρ₁ news₁ s₁ ⟨sb, k1, cA, cvs, ck, k2, hcA, Dc⟩ S₁
    repeat' walk_at "m"
    have hlc : cvs.length ≤ 1000 := by
      rw [Dc.length, List.length_map]
      have := duAll_len p 8
      omega
    refine comp_eval S₁ (by rfl) (by decide) (by rfl) ?_
    repeat' walk_at "m"
    refine comp_list (J := fun j zs news' => (∀ p ∈ news₁, p ∈ news') ∧ DatAll news' zs (((((duAll p 8).take j).filter fun c => decide (c.2 = 511)).map fun c => ((c.1.length : Int), c.1)).map kinF.enc)) S₁ rm.hh hcA (by rfl) (by decide) (by rfl) (by rw [List.size_toArray, sizeLine_eq]; omega) ⟨fun p hp => hp, .nil⟩ ?_ ?_ ?_
    · rintro j v hv zs C2 R2 Av2 ρ₂ news₂ s₂ K₁ hK₁ ⟨sb2, dz⟩ hfre2 hR2 hA2 S2
      obtain ⟨c, hcj, dc⟩ := datAll_of Dc (by simpa using hv)
      obtain ⟨T, g⟩ := c
      unfold encC at dc
      dsimp only at dc
      cases dc with | @tuple a2 vs2 n2 _ hm2 D2 => ?_
      cases D2 with | @cons q1 _ r1 _ d1 D2 => ?_
      cases D2 with | @cons q2 _ r2 _ d2 D2 => ?_
      cases D2
      obtain ⟨t2, rfl⟩ := datInt d2
      have d1' := d1
      cases d1 with | @tuple a3 vs3 n3 _ hm3 D3 => ?_
      have hlenT : vs3.length = T.length := by rw [D3.length, List.length_map]
      have hlT : T.length ≤ 8 := duAll_in p 8 _ (List.mem_of_getElem? hcj)
      refine a_tup2 S2 rm.hh ⟨_, S2.get (sb2 _ hm2), rfl, _, rfl⟩ (by rfl) (by rfl) ?_
      intro s7 S7
      refine ifs_one ?_
      repeat' walk_at "m"
      by_cases hb : g = 511
      · rw [show (g == 511) = true by simpa using hb]
        repeat' walk_at "m"
        refine d_tuple (base := base) ?_
        repeat' walk_at "m"
        rename St _ _ _ _ _ _ _ _ _ _ => S8
        refine l_lenT S8 (sb2 _ hm3) (by omega) ?_
        intro t3 s9 S9
        repeat' walk_at "m"
        refine DispTo.mk S9 (by simp) ?_
        intro D6 s10 muD6 nD6 S10
        repeat' walk_at "m"
        refine ⟨_, _, S10, fun x hx => ?_, fun p hp => .tail _ (sb2 p hp), ?_⟩
        · exact absurd hx (by simp)
        · rw [take_ext hcj, List.filter_append, List.map_append, List.map_append]
          refine (dz.mono fun p hp => .tail _ hp).append ?_
          rw [List.filter_cons, if_pos (by simpa using hb), List.filter_nil]
          refine .cons ?_ .nil
          show DatIn _ _ (.tuple [.int (T.length : Int), .tuple (T.map .int)])
          rw [← hlenT]
          exact .tuple (.head _) (.cons (.int _ _) (.cons (d1'.mono fun p hp => .tail _ (sb2 p hp)) .nil))
      · rw [show (g == 511) = false by simpa using hb]
        repeat' walk_at "m"
        rename St _ _ _ _ _ _ _ _ _ _ => S8
        refine ⟨_, _, S8, fun x hx => ?_, sb2, ?_⟩
        · exact absurd hx (by simp)
        · rw [take_ext hcj, List.filter_append, List.filter_cons, if_neg (by simpa using hb), List.filter_nil, List.append_nil]
          exact dz
    · rintro j zs news' ⟨_, dz⟩
      rw [dz.length, List.length_map, List.length_map]
      exact Nat.le_trans (List.length_filter_le _ _) (by rw [List.length_take]; omega)
    · refine kdone_eval ?_
      rintro D4 zs news' s' ⟨sb2, dz⟩ S7 nD4 muD4
      rw [show cvs.toArray.size = (duAll p 8).length by rw [List.size_toArray, Dc.length, List.length_map], List.take_length] at dz
      repeat' walk_at "m"
      have edu : ((duAll p 8).filter fun c => decide (c.2 = 511)).map (fun c => ((c.1.length : Int), c.1)) = dueI p := rfl
      rw [edu] at dz
      have hzz : zs.length = (dueI p).length := by rw [dz.length, List.length_map]
      have elt : (fun a b => dlt (kinF.enc b) (kinF.enc a) = false) = fun a b : Int × List Int => ltF b a = false := by funext a b; rw [kinF_lt]
      by_cases h2 : zs.length < 2
      · refine d_sort1 S7 (.head _) h2 ?_
        intro D9 c s9 muD9 nD9 S9
        repeat' walk_at "m"
        refine ⟨_, _, S9, fun p hp _ => .tail _ (.tail _ (sb2 p (sb p hp))), D9, _, _, dueI p, rfl, .head _, dz.mono fun p hp => .tail _ (.tail _ hp), List.Perm.refl _, ?_⟩
        rw [hzz] at h2
        rcases hd : dueI p with _ | ⟨x, _ | ⟨y, l⟩⟩
        · exact List.Pairwise.nil
        · exact List.pairwise_singleton _ _
        · rw [hd] at h2; simp at h2; omega
      · refine d_sortT kinF (x0 := (0, [])) (int := true) ordKF S7 (.head _) (dz.mono fun p hp => .tail _ hp) (fun x => by rfl) (by omega) hz ?_ ?_
        · have := rm.units
          show A.units + 40 < 9900
          omega
        intro D9 vs' xs' c s9 muD9 nD9 d9 pm9 pw9 S9
        rw [elt] at pw9
        repeat' walk_at "m"
        exact ⟨_, _, S9, fun p hp _ => .tail _ (.tail _ (sb2 p (sb p hp))), D9, _, _, xs', rfl, .head _, d9.mono fun p hp => .tail _ hp, pm9, pw9⟩
end
end
set_option Elab.async false
section
theorem sortI_iff {l m : List Int} : sortI l = sortI m ↔ l.Perm m := by
  have sw : ∀ l : List Int, (sortI l).Pairwise fun a b => a ≤ b := fun l => by
    have := List.pairwise_mergeSort (le := fun a b : Int => decide (a ≤ b)) (fun a b c h1 h2 => by simp only [decide_eq_true_eq] at h1 h2 ⊢; omega) (fun a b => by simp only [Bool.or_eq_true, decide_eq_true_eq]; omega) l
    exact this.imp fun h => by simpa using h
  have sp : ∀ l : List Int, (sortI l).Perm l := fun l => List.mergeSort_perm l _
  constructor
  · intro h; exact (sp l).symm.trans (h ▸ sp m)
  · intro h; exact ksm_same ((sp l).trans (h.trans (sp m).symm)) (sw l) (sw m)
theorem sum_one {α : Type} {g : α → Nat} {f : α} : ∀ {l : List α}, l.Nodup → f ∈ l → g f = 1 → (∀ x ∈ l, x ≠ f → g x = 0) → (l.map g).sum = 1
  | [], _, h, _, _ => by cases h
  | x :: l, nd, h, h1, h0 => by
    rw [List.map_cons, List.sum_cons]
    have nx := (List.nodup_cons.mp nd)
    have zero : ∀ (m : List α), (∀ y ∈ m, g y = 0) → (m.map g).sum = 0 := by
      intro m
      induction m with
      | nil => intro _; rfl
      | cons y m ih => intro hy; rw [List.map_cons, List.sum_cons, hy y List.mem_cons_self, ih fun z hz => hy z (List.mem_cons_of_mem _ hz)]
    rcases List.mem_cons.mp h with rfl | h
    · rw [h1, zero l fun y hy => h0 y (List.mem_cons_of_mem _ hy) (by rintro rfl; exact nx.1 hy)]
    · rw [h0 x List.mem_cons_self (by rintro rfl; exact nx.1 h), sum_one nx.2 h h1 fun y hy hn => h0 y (List.mem_cons_of_mem _ hy) hn]
section
variable (held : List (List Int)) (al rts : List Int)
noncomputable def fOf (c : List Int) : List Int := al.filter fun g => c.all fun f => decide (dropI (heldAt held g) (heldAt held f) = heldAt held g)
noncomputable def rOf (c : List Int) : List Int := rts.filter fun q => c.all fun f => !(heldAt held f).contains q
theorem fOf_step (c : List Int) (f : Int) : dropI (fOf held al c) (clashI held (fOf held al c) f) = fOf held al (c ++ [f]) := by
  have e : dropI (fOf held al c) (clashI held (fOf held al c) f) = (fOf held al c).filter fun g => decide (dropI (heldAt held g) (heldAt held f) = heldAt held g) := by
    refine List.filter_congr fun x hx => ?_
    unfold clashI
    by_cases h : dropI (heldAt held x) (heldAt held f) = heldAt held x
    · rw [decide_eq_true h, Bool.not_eq_true', Bool.eq_false_iff]
      intro hc
      have := (List.mem_filter.mp (List.contains_iff_mem.mp hc)).2
      simp [h] at this
    · rw [decide_eq_false h, Bool.not_eq_false']
      exact List.contains_iff_mem.mpr (List.mem_filter.mpr ⟨hx, by simp [h]⟩)
  rw [e]
  unfold fOf
  rw [List.filter_filter]
  refine List.filter_congr fun x _ => ?_
  rw [List.all_append, List.all_cons, List.all_nil, Bool.and_true, Bool.and_comm]
theorem rOf_step (c : List Int) (f : Int) : dropI (rOf held rts c) (heldAt held f) = rOf held rts (c ++ [f]) := by
  unfold dropI rOf
  rw [List.filter_filter]
  refine List.filter_congr fun x _ => ?_
  rw [List.all_append, List.all_cons, List.all_nil, Bool.and_true, Bool.and_comm]
noncomputable def lv : Nat → List Int → List (List Int)
  | 0, _ => []
  | n + 1, c => if rOf held rts c = [] then [c] else (fOf held al c).flatMap fun f => if (heldAt held f).contains (leastI ((rOf held rts c).map (askI held (fOf held al c)))).2 = true then lv n (c ++ [f]) else []
noncomputable def encL (c : List Int) : Int × List Int := ((c.length : Int), sortI c)
theorem seek_lv : ∀ (n : Nat) (c : List Int) (acc : List (Int × List Int)), HeapFrom ltF acc 0 →
    HeapFrom ltF (seekI held n (fOf held al c) (rOf held rts c) c acc) 0 ∧ (seekI held n (fOf held al c) (rOf held rts c) c acc).Perm (acc ++ (lv held al rts n c).map encL)
  | 0, c, acc, H => ⟨H, by rw [seekI, lv]; simp⟩
  | n + 1, c, acc, H => by
    rw [seekI, lv]
    split
    · obtain ⟨a, b⟩ := heappush_spec ordF (x := ((c.length : Int), sortI c)) H
      exact ⟨a, b.trans (List.perm_append_singleton _ _).symm⟩
    · generalize leastI ((rOf held rts c).map (askI held (fOf held al c))) = p
      have key : ∀ (l : List Int) (acc : List (Int × List Int)), HeapFrom ltF acc 0 →
        HeapFrom ltF (l.foldl (fun acc f => if (heldAt held f).contains p.2 = true then seekI held n (dropI (fOf held al c) (clashI held (fOf held al c) f)) (dropI (rOf held rts c) (heldAt held f)) (c ++ [f]) acc else acc) acc) 0 ∧
        (l.foldl (fun acc f => if (heldAt held f).contains p.2 = true then seekI held n (dropI (fOf held al c) (clashI held (fOf held al c) f)) (dropI (rOf held rts c) (heldAt held f)) (c ++ [f]) acc else acc) acc).Perm (acc ++ (l.flatMap fun f => if (heldAt held f).contains p.2 = true then lv held al rts n (c ++ [f]) else []).map encL) := by
        intro l
        induction l with
        | nil => intro acc H; exact ⟨H, by simp⟩
        | cons f l ih =>
          intro acc H
          rw [List.foldl_cons, List.flatMap_cons, List.map_append, ← List.append_assoc]
          by_cases hc : (heldAt held f).contains p.2 = true
          · simp only [if_pos hc]
            rw [fOf_step, rOf_step]
            obtain ⟨a, b⟩ := seek_lv n (c ++ [f]) acc H
            obtain ⟨a', b'⟩ := ih _ a
            exact ⟨a', b'.trans (b.append_right _)⟩
          · simp only [if_neg hc, List.map_nil, List.append_nil]
            exact ih acc H
      exact key _ acc H
/-- files that share nothing -/
structure Good (c : List Int) : Prop where
  nd : c.Nodup
  mem : ∀ f ∈ c, f ∈ al
  ne : ∀ f ∈ c, heldAt held f ≠ []
  dj : ∀ f ∈ c, ∀ g ∈ c, ∀ q, q ∈ heldAt held f → q ∈ heldAt held g → f = g
noncomputable def Cov (c : List Int) : Prop := ∀ q ∈ rts, ∃ f ∈ c, q ∈ heldAt held f
variable {held al rts}
theorem Good.perm {c d : List Int} (G : Good held al c) (h : c.Perm d) : Good held al d :=
  ⟨h.nodup_iff.mp G.nd, fun f m => G.mem f (h.mem_iff.mpr m), fun f m => G.ne f (h.mem_iff.mpr m), fun f m g n => G.dj f (h.mem_iff.mpr m) g (h.mem_iff.mpr n)⟩
theorem Cov.perm {c d : List Int} (G : Cov held rts c) (h : c.Perm d) : Cov held rts d := fun q m => let ⟨f, a, b⟩ := G q m; ⟨f, h.mem_iff.mp a, b⟩
theorem mem_fOf {c : List Int} {g : Int} : g ∈ fOf held al c ↔ g ∈ al ∧ ∀ f ∈ c, ∀ q ∈ heldAt held g, q ∉ heldAt held f := by
  unfold fOf dropI
  rw [List.mem_filter, List.all_eq_true]
  refine and_congr Iff.rfl (forall_congr' fun f => imp_congr Iff.rfl ?_)
  rw [decide_eq_true_eq, List.filter_eq_self]
  refine forall_congr' fun q => imp_congr Iff.rfl ?_
  simp
theorem mem_rOf {c : List Int} {q : Int} : q ∈ rOf held rts c ↔ q ∈ rts ∧ ∀ f ∈ c, q ∉ heldAt held f := by
  unfold rOf
  rw [List.mem_filter, List.all_eq_true]
  refine and_congr Iff.rfl (forall_congr' fun f => imp_congr Iff.rfl ?_)
  simp
theorem rOf_nil {c : List Int} : rOf held rts c = [] ↔ Cov held rts c := by
  rw [List.eq_nil_iff_forall_not_mem]
  constructor
  · intro h q hq
    refine Classical.byContradiction fun hn => h q (mem_rOf.mpr ⟨hq, fun f hf hm => hn ⟨f, hf, hm⟩⟩)
  · intro h q hq
    obtain ⟨a, b⟩ := mem_rOf.mp hq
    obtain ⟨f, c, d⟩ := h q a
    exact b f c d
theorem place_in {c : List Int} (h : rOf held rts c ≠ []) : (leastI ((rOf held rts c).map (askI held (fOf held al c)))).2 ∈ rOf held rts c := by
  obtain ⟨a, _⟩ := leastI_spec (l := (rOf held rts c).map (askI held (fOf held al c))) (by simpa using h)
  obtain ⟨q, hq, e⟩ := List.mem_map.mp a
  rw [← e]; exact hq
theorem Good.snoc {c : List Int} {f q : Int} (G : Good held al c) (hf : f ∈ fOf held al c) (hq : q ∈ heldAt held f) : Good held al (c ++ [f]) := by
  obtain ⟨a, b⟩ := mem_fOf.mp hf
  refine ⟨?_, fun g hg => ?_, fun g hg => ?_, fun g hg g' hg' q' h h' => ?_⟩
  · rw [List.nodup_append]
    refine ⟨G.nd, by simp, fun x hx y hy => ?_⟩
    rw [List.mem_singleton.mp hy]
    rintro rfl
    exact b _ hx q hq hq
  · rcases List.mem_append.mp hg with hg | hg
    · exact G.mem g hg
    · rw [List.mem_singleton.mp hg]; exact a
  · rcases List.mem_append.mp hg with hg | hg
    · exact G.ne g hg
    · rw [List.mem_singleton.mp hg]; exact List.ne_nil_of_mem hq
  · rcases List.mem_append.mp hg with hg | hg <;> rcases List.mem_append.mp hg' with hg' | hg'
    · exact G.dj g hg g' hg' q' h h'
    · rw [List.mem_singleton.mp hg'] at h'; exact absurd h (b _ hg q' h')
    · rw [List.mem_singleton.mp hg] at h; exact absurd h' (b _ hg' q' h)
    · rw [List.mem_singleton.mp hg, List.mem_singleton.mp hg']
theorem lv_sound : ∀ (n : Nat) {c L : List Int}, Good held al c → L ∈ lv held al rts n c → Good held al L ∧ Cov held rts L ∧ ∀ f ∈ c, f ∈ L
  | 0, c, L, _, h => by cases h
  | n + 1, c, L, G, h => by
    rw [lv] at h
    split at h
    next e =>
      rw [List.mem_singleton.mp h]
      exact ⟨G, rOf_nil.mp e, fun f m => m⟩
    next e =>
      obtain ⟨f, hf, h⟩ := List.mem_flatMap.mp h
      split at h
      next hc =>
        obtain ⟨a, b, d⟩ := lv_sound n (G.snoc hf (List.contains_iff_mem.mp hc)) h
        exact ⟨a, b, fun g hg => d g (List.mem_append_left _ hg)⟩
      next => cases h
theorem lv_has : ∀ (n : Nat) {c L : List Int} {f : Int}, Good held al (c ++ [f]) → L ∈ lv held al rts n (c ++ [f]) → f ∈ L := fun n c L f G h => (lv_sound n G h).2.2 f (by simp)
theorem lv_one (nda : al.Nodup) (hin : ∀ f ∈ al, ∀ q ∈ heldAt held f, q ∈ rts) : ∀ (n : Nat) {c L : List Int}, Good held al c → Good held al L → Cov held rts L → (∀ f ∈ c, f ∈ L) → (rOf held rts c).length < n →
    (lv held al rts n c).countP (fun d => decide (sortI d = sortI L)) = 1
  | 0, c, L, _, _, _, _, h => by omega
  | n + 1, c, L, G, GL, CL, hs, hn => by
    rw [lv]
    split
    next e =>
      have pm : c.Perm L := by
        refine (List.perm_ext_iff_of_nodup G.nd GL.nd).mpr fun f => ⟨hs f, fun hf => ?_⟩
        obtain ⟨q, hq⟩ := List.exists_mem_of_ne_nil _ (GL.ne f hf)
        obtain ⟨g, hg, hgq⟩ := rOf_nil.mp e q (hin f (GL.mem f hf) q hq)
        rw [GL.dj f hf g (hs g hg) q hq hgq]
        exact hg
      rw [List.countP_cons, List.countP_nil, if_pos (by simpa using sortI_iff.mpr pm)]
    next e =>
      have hp := place_in (held := held) (al := al) (rts := rts) (c := c) e
      generalize (leastI ((rOf held rts c).map (askI held (fOf held al c)))).2 = p at hp
      obtain ⟨hp1, hp2⟩ := mem_rOf.mp hp
      obtain ⟨f, hfL, hfp⟩ := CL p hp1
      have hff : f ∈ fOf held al c := mem_fOf.mpr ⟨GL.mem f hfL, fun g hg q hq hq' => hp2 g hg (by rw [← GL.dj f hfL g (hs g hg) q hq hq']; exact hfp)⟩
      rw [List.countP_flatMap]
      refine sum_one (f := f) (List.Sublist.nodup List.filter_sublist nda) hff ?_ fun g hg hne => ?_
      · show List.countP _ (if _ then _ else _) = 1
        rw [if_pos (List.contains_iff_mem.mpr hfp)]
        refine lv_one nda hin n (G.snoc hff hfp) GL CL (fun g hg => ?_) ?_
        · rcases List.mem_append.mp hg with hg | hg
          · exact hs g hg
          · rw [List.mem_singleton.mp hg]; exact hfL
        · rw [← rOf_step]
          have : (dropI (rOf held rts c) (heldAt held f)).length < (rOf held rts c).length := by
            refine List.length_filter_lt_length_iff_exists.mpr ⟨p, hp, ?_⟩
            rw [List.contains_iff_mem.mpr hfp]; decide
          omega
      · show List.countP _ (if _ then _ else _) = 0
        split
        next hc =>
          have hgp := List.contains_iff_mem.mp hc
          rw [List.countP_eq_zero]
          intro d hd hq
          have h1 : f ∈ d := (sortI_iff.mp (by simpa using hq)).mem_iff.mpr hfL
          have hgd := lv_has n (G.snoc hg hgp) hd
          have Gd := (lv_sound n (G.snoc hg hgp) hd).1
          exact hne (Gd.dj g hgd f h1 p hgp hfp)
        next => rfl
end
end
set_option Elab.async false
section
theorem add_or {a b : Nat} (h : a &&& b = 0) : a + b = a ||| b := by
  have lt : ∀ x y : Nat, x ≤ y → x < 2 ^ (y + 1) := fun x y h => Nat.lt_of_lt_of_le Nat.lt_two_pow_self (Nat.pow_le_pow_right (by omega) (by omega))
  have ha : a % 2 ^ (a + b + 1) = a := Nat.mod_eq_of_lt (lt _ _ (by omega))
  have hb : b % 2 ^ (a + b + 1) = b := Nat.mod_eq_of_lt (lt _ _ (by omega))
  have hab : (a + b) % 2 ^ (a + b + 1) = a + b := Nat.mod_eq_of_lt (lt _ _ (by omega))
  have := congrArg BitVec.toNat (BitVec.add_eq_or_of_and_eq_zero (BitVec.ofNat (a + b + 1) a) (BitVec.ofNat (a + b + 1) b) (by
    apply BitVec.eq_of_toNat_eq
    rw [BitVec.toNat_and, BitVec.toNat_ofNat, BitVec.toNat_ofNat, ha, hb, h]
    simp))
  rw [BitVec.toNat_add, BitVec.toNat_or, BitVec.toNat_ofNat, BitVec.toNat_ofNat, ha, hb, hab] at this
  exact this
theorem and_zero_iff {a b : Nat} : a &&& b = 0 ↔ ∀ i, ¬ (a.testBit i = true ∧ b.testBit i = true) := by
  constructor
  · intro h i hi
    have := congrArg (fun n => n.testBit i) h
    simp [hi.1, hi.2] at this
  · intro h
    refine Nat.eq_of_testBit_eq fun i => ?_
    rw [Nat.testBit_and, Nat.zero_testBit]
    cases ha : a.testBit i <;> cases hb : b.testBit i <;> first | rfl | exact absurd ⟨ha, hb⟩ (h i)
theorem high {x i : Nat} (h : x < 512) (hi : 9 ≤ i) : x.testBit i = false := Nat.testBit_lt_two_pow (Nat.lt_of_lt_of_le h (by
  show 2 ^ 9 ≤ 2 ^ i
  exact Nat.pow_le_pow_right (by omega) hi))
theorem comp_bit {y i : Nat} (h : y < 512) : (511 - y).testBit i = (decide (i < 9) && !y.testBit i) := by
  have := Nat.testBit_two_pow_sub_succ (n := 9) (x := y) h i
  rw [show 2 ^ 9 - (y + 1) = 511 - y by omega] at this
  exact this
theorem cut_nat {x y : Nat} (hx : x < 512) (hy : y < 512) : (x &&& y) + (x &&& (511 - y)) = x := by
  rw [add_or]
  · refine Nat.eq_of_testBit_eq fun i => ?_
    rw [Nat.testBit_or, Nat.testBit_and, Nat.testBit_and, comp_bit hy]
    by_cases hi : i < 9
    · cases x.testBit i <;> cases y.testBit i <;> simp [hi]
    · rw [high hx (by omega)]; simp
  · rw [and_zero_iff]
    rintro i ⟨h1, h2⟩
    rw [Nat.testBit_and, comp_bit hy] at h2
    rw [Nat.testBit_and] at h1
    cases hq : y.testBit i <;> simp [hq] at h1 h2
theorem band_in {x y : Int} (hx : In512 x) (hy : In512 y) : In512 (Builtin.bitAnd x y) := by
  unfold In512 at *
  rw [bitAnd_pp hx.1 hy.1]
  have : x.toNat &&& y.toNat ≤ y.toNat := Nat.and_le_right
  omega
theorem cut_int {x y : Int} (hx : In512 x) (hy : In512 y) : Builtin.bitAnd x y + Builtin.bitAnd x (511 - y) = x := by
  unfold In512 at *
  rw [bitAnd_pp hx.1 hy.1, bitAnd_pp hx.1 (by omega)]
  have := cut_nat (x := x.toNat) (y := y.toNat) (by omega) (by omega)
  rw [show (511 - y).toNat = 511 - y.toNat by omega]
  omega
/-- the places of a number -/
noncomputable def bitsI (x : Int) : List Int := ((List.range 9).map fun (i : Nat) => (1 + (i : Int))).filter fun q => x.toNat.testBit (9 - q.toNat)
theorem mem_bits {x q : Int} : q ∈ bitsI x ↔ (1 ≤ q ∧ q < 10) ∧ x.toNat.testBit (9 - q.toNat) = true := by
  unfold bitsI
  rw [List.mem_filter, List.mem_map]
  refine and_congr ?_ Iff.rfl
  constructor
  · rintro ⟨i, hi, rfl⟩
    have := List.mem_range.mp hi
    omega
  · intro h
    exact ⟨(q - 1).toNat, List.mem_range.mpr (by omega), by omega⟩
theorem bits_at {x : Int} {i : Nat} (hi : i < 9) : (9 - (i : Int)) ∈ bitsI x ↔ x.toNat.testBit i = true := by
  rw [mem_bits, show 9 - (9 - (i : Int)).toNat = i by omega]
  exact ⟨fun h => h.2, fun h => ⟨by omega, h⟩⟩
theorem band_zero {x y : Int} (hx : In512 x) (hy : In512 y) : Builtin.bitAnd x y = 0 ↔ ∀ q ∈ bitsI x, q ∉ bitsI y := by
  unfold In512 at *
  rw [bitAnd_pp hx.1 hy.1]
  rw [show (((x.toNat &&& y.toNat : Nat) : Int) = 0) ↔ (x.toNat &&& y.toNat) = 0 by omega, and_zero_iff]
  constructor
  · intro h q h1 h2
    exact h _ ⟨(mem_bits.mp h1).2, (mem_bits.mp h2).2⟩
  · rintro h i ⟨h1, h2⟩
    by_cases hi : i < 9
    · exact h _ ((bits_at hi).mpr h1) ((bits_at hi).mpr h2)
    · rw [high (by omega) (by omega)] at h1; cases h1
theorem bits_ne {x : Int} (hx : In512 x) : bitsI x ≠ [] ↔ x ≠ 0 := by
  unfold In512 at hx
  constructor
  · rintro h rfl
    obtain ⟨q, hq⟩ := List.exists_mem_of_ne_nil _ h
    have := (mem_bits.mp hq).2
    simp at this
  · intro h
    obtain ⟨i, hi⟩ := Nat.exists_testBit_of_ne_zero (x := x.toNat) (by omega)
    by_cases h9 : i < 9
    · exact List.ne_nil_of_mem ((bits_at h9).mpr hi)
    · rw [high (by omega) (by omega)] at hi; cases hi
theorem bits_add {x y : Int} (hx : In512 x) (hy : In512 y) (h : Builtin.bitAnd x y = 0) : In512 (x + y) ∧ ∀ q, q ∈ bitsI (x + y) ↔ q ∈ bitsI x ∨ q ∈ bitsI y := by
  unfold In512 at *
  rw [bitAnd_pp hx.1 hy.1] at h
  have e := add_or (a := x.toNat) (b := y.toNat) (by omega)
  have lt : x.toNat ||| y.toNat < 2 ^ 9 := Nat.or_lt_two_pow (by omega) (by omega)
  refine ⟨by omega, fun q => ?_⟩
  rw [mem_bits, mem_bits, mem_bits, show (x + y).toNat = x.toNat ||| y.toNat by omega, Nat.testBit_or, Bool.or_eq_true]
  exact and_or_left
theorem bits_full {x : Int} (hx : In512 x) : x = 511 ↔ ∀ q : Int, 1 ≤ q → q < 10 → q ∈ bitsI x := by
  unfold In512 at *
  constructor
  · rintro rfl q h1 h2
    refine mem_bits.mpr ⟨⟨h1, h2⟩, ?_⟩
    have : q = 1 ∨ q = 2 ∨ q = 3 ∨ q = 4 ∨ q = 5 ∨ q = 6 ∨ q = 7 ∨ q = 8 ∨ q = 9 := by omega
    rcases this with h | h | h | h | h | h | h | h | h <;> subst h <;> decide
  · intro h
    have : x.toNat = 511 := by
      refine Nat.eq_of_testBit_eq fun i => ?_
      by_cases h9 : i < 9
      · rw [(bits_at h9).mp (h _ (by omega) (by omega))]
        have e := comp_bit (y := 0) (i := i) (by omega)
        simp [h9] at e
        exact e.symm
      · rw [high (by omega) (by omega), high (by omega) (by omega)]
    omega
section
variable {p : List Int} {held : List (List Int)} {al : List Int}
noncomputable def P (p : List Int) (f : Int) : Int := p.getD f.toNat 0
noncomputable def gs (p : List Int) (T : List Int) : Int := (T.map (P p)).sum
theorem Good.sub {c d : List Int} (G : Good held al c) (h : d.Sublist c) : Good held al d :=
  ⟨h.nodup G.nd, fun f m => G.mem f (h.subset m), fun f m => G.ne f (h.subset m), fun f m g n => G.dj f (h.subset m) g (h.subset n)⟩
theorem gs_bits (hp : ∀ f, In512 (P p f)) (hh : ∀ f ∈ al, heldAt held f = bitsI (P p f)) : ∀ {T : List Int}, Good held al T → In512 (gs p T) ∧ ∀ q, q ∈ bitsI (gs p T) ↔ ∃ f ∈ T, q ∈ heldAt held f
  | [], _ => ⟨⟨by simp [gs], by simp [gs]⟩, fun q => ⟨fun h => by
      have := (mem_bits.mp h).2
      simp [gs] at this, fun ⟨f, m, _⟩ => by cases m⟩⟩
  | f :: T, G => by
    obtain ⟨a, b⟩ := gs_bits hp hh (G.sub (List.sublist_cons_self f T))
    have e : gs p (f :: T) = P p f + gs p T := by unfold gs; rw [List.map_cons, List.sum_cons]
    have ef := hh f (G.mem f List.mem_cons_self)
    have z : Builtin.bitAnd (P p f) (gs p T) = 0 := by
      rw [band_zero (hp f) a]
      intro q h1 h2
      obtain ⟨g, hg, hq⟩ := (b q).mp h2
      have := G.dj f List.mem_cons_self g (List.mem_cons_of_mem _ hg) q (ef ▸ h1) hq
      subst this
      exact (List.nodup_cons.mp G.nd).1 hg
    obtain ⟨a', b'⟩ := bits_add (hp f) a z
    rw [e]
    refine ⟨a', fun q => ?_⟩
    rw [b' q, b q, ← ef]
    simp
theorem band_comm (x y : Int) (hx : In512 x) (hy : In512 y) : Builtin.bitAnd x y = Builtin.bitAnd y x := by
  rw [bitAnd_pp hx.1 hy.1, bitAnd_pp hy.1 hx.1, Nat.and_comm]
theorem du_mem (hp : ∀ f, In512 (P p f)) (hh : ∀ f ∈ al, heldAt held f = bitsI (P p f)) : ∀ (k : Nat), (∀ i : Nat, i < k → (i : Int) ∈ al) → ∀ (T : List Int) (g : Int), (T, g) ∈ duAll p k ↔ T.Pairwise (· < ·) ∧ (∀ f ∈ T, 0 ≤ f ∧ f < k) ∧ Good held al T ∧ g = gs p T
  | 0, _, T, g => by
    rw [duAll, List.mem_singleton]
    constructor
    · intro h
      cases h
      exact ⟨List.Pairwise.nil, (fun f m => by cases m), ⟨List.nodup_nil, (fun f m => by cases m), (fun f m => by cases m), fun f m => by cases m⟩, rfl⟩
    · rintro ⟨_, h, _, rfl⟩
      cases T with
      | nil => rfl
      | cons f T => have := h f List.mem_cons_self; omega
  | k + 1, ha, T, g => by
    have ih := du_mem hp hh k (fun i hi => ha i (by omega))
    have hPk : p.getD k 0 = P p (k : Int) := by unfold P; rw [Int.toNat_natCast]
    have hk : heldAt held (k : Int) = bitsI (P p (k : Int)) := hh _ (ha k (by omega))
    rw [duAll, duStep, hPk]
    constructor
    · intro h
      have old : ∀ {T g}, (T, g) ∈ duAll p k → T.Pairwise (· < ·) ∧ (∀ f ∈ T, 0 ≤ f ∧ f < ((k + 1 : Nat) : Int)) ∧ Good held al T ∧ g = gs p T := fun {T g} h => by
        obtain ⟨a, b, c, d⟩ := (ih T g).mp h
        exact ⟨a, fun f m => by have := b f m; omega, c, d⟩
      split at h
      · exact old h
      · rename_i hne
        rcases List.mem_append.mp h with h | h
        · exact old h
        · obtain ⟨⟨T', g'⟩, hm, e⟩ := List.mem_map.mp h
          obtain ⟨hm, hz⟩ := List.mem_filter.mp hm
          cases e
          obtain ⟨a, b, c, rfl⟩ := (ih T' g').mp hm
          obtain ⟨i1, i2⟩ := gs_bits hp hh c
          have dz := (band_zero i1 (hp _)).mp (by simpa using hz)
          have dz' : ∀ f ∈ T', ∀ q, q ∈ heldAt held f → q ∉ bitsI (P p (k : Int)) := fun f hf q hq => dz q ((i2 q).mpr ⟨f, hf, hq⟩)
          have kn : (k : Int) ∉ T' := fun m => by have := b _ m; omega
          refine ⟨?_, ?_, ⟨?_, ?_, ?_, ?_⟩, ?_⟩
          · rw [List.pairwise_append]
            exact ⟨a, List.pairwise_singleton _ _, fun x hx y hy => by rw [List.mem_singleton.mp hy]; exact (b x hx).2⟩
          · intro f hf
            rcases List.mem_append.mp hf with hf | hf
            · have := b f hf; omega
            · rw [List.mem_singleton.mp hf]; omega
          · rw [List.nodup_append]
            exact ⟨c.nd, by simp, fun x hx y hy => by rw [List.mem_singleton.mp hy]; rintro rfl; exact kn hx⟩
          · intro f hf
            rcases List.mem_append.mp hf with hf | hf
            · exact c.mem f hf
            · rw [List.mem_singleton.mp hf]; exact ha k (by omega)
          · intro f hf
            rcases List.mem_append.mp hf with hf | hf
            · exact c.ne f hf
            · rw [List.mem_singleton.mp hf, hk]; exact (bits_ne (hp _)).mpr hne
          · intro f hf f' hf' q h h'
            rcases List.mem_append.mp hf with hf | hf <;> rcases List.mem_append.mp hf' with hf' | hf'
            · exact c.dj f hf f' hf' q h h'
            · rw [List.mem_singleton.mp hf', hk] at h'; exact absurd h' (dz' f hf q h)
            · rw [List.mem_singleton.mp hf, hk] at h; exact absurd h (dz' f' hf' q h')
            · rw [List.mem_singleton.mp hf, List.mem_singleton.mp hf']
          · show gs p T' + P p (k : Int) = gs p (T' ++ [(k : Int)])
            unfold gs; rw [List.map_append, List.sum_append]; simp
    · rintro ⟨a, b, c, rfl⟩
      by_cases hkT : (k : Int) ∈ T
      · rcases List.eq_nil_or_concat T with rfl | ⟨T', x, rfl⟩
        · cases hkT
        · rw [List.concat_eq_append] at *
          have hx := b x (by simp)
          obtain ⟨a1, _, a3⟩ := List.pairwise_append.mp a
          have hxk : x = (k : Int) := by
            rcases List.mem_append.mp hkT with h | h
            · have := a3 _ h x (by simp); omega
            · exact (List.mem_singleton.mp h).symm
          subst hxk
          have c' := c.sub (List.sublist_append_left T' [(k : Int)])
          have kn := c.ne (k : Int) (by simp)
          rw [hk] at kn
          rw [if_neg ((bits_ne (hp _)).mp kn)]
          refine List.mem_append_right _ (List.mem_map.mpr ⟨(T', gs p T'), List.mem_filter.mpr ⟨(ih T' _).mpr ⟨a1, fun f hf => ?_, c', rfl⟩, ?_⟩, ?_⟩)
          · have h1 := b f (List.mem_append_left _ hf)
            have h2 := a3 f hf (k : Int) (by simp)
            exact ⟨h1.1, h2⟩
          · obtain ⟨i1, i2⟩ := gs_bits hp hh c'
            simp only [decide_eq_true_eq]
            rw [band_zero i1 (hp _)]
            intro q h1 h2
            obtain ⟨f, hf, hq⟩ := (i2 q).mp h1
            have := c.dj f (List.mem_append_left _ hf) (k : Int) (by simp) q hq (hk ▸ h2)
            have h3 := a3 f hf (k : Int) (by simp)
            omega
          · unfold gs; rw [List.map_append, List.sum_append]; simp
      · have old := (ih T (gs p T)).mpr ⟨a, fun f hf => by
          have := b f hf
          have hn : f ≠ (k : Int) := by rintro rfl; exact hkT hf
          omega, c, rfl⟩
        split
        · exact old
        · exact List.mem_append_left _ old
theorem du_nd (hp : ∀ f, In512 (P p f)) (hh : ∀ f ∈ al, heldAt held f = bitsI (P p f)) : ∀ (k : Nat), (∀ i : Nat, i < k → (i : Int) ∈ al) → (duAll p k).Pairwise fun a b => a.1 ≠ b.1
  | 0, _ => by rw [duAll]; exact List.pairwise_singleton _ _
  | k + 1, ha => by
    have ih := du_nd hp hh k (fun i hi => ha i (by omega))
    rw [duAll, duStep]
    split
    · exact ih
    · rw [List.pairwise_append]
      refine ⟨ih, ?_, fun x hx y hy => ?_⟩
      · rw [List.pairwise_map]
        refine (ih.sublist List.filter_sublist).imp fun h e => h ?_
        exact List.append_cancel_right e
      · obtain ⟨z, hz, rfl⟩ := List.mem_map.mp hy
        intro e
        have := ((du_mem hp hh k (fun i hi => ha i (by omega)) x.1 x.2).mp hx).2.1 (k : Int) (by rw [e]; simp)
        omega
end
end
set_option Elab.async false
section
theorem four_count {α : Type} {p1 p2 p3 p4 : α → Bool} : ∀ (l : List α), (∀ x ∈ l, (p1 x).toNat + (p2 x).toNat + (p3 x).toNat + (p4 x).toNat ≤ 1) → l.countP p1 + l.countP p2 + l.countP p3 + l.countP p4 ≤ l.length
  | [], _ => by simp
  | x :: l, h => by
    have ih := four_count l fun y hy => h y (List.mem_cons_of_mem _ hy)
    have hx := h x List.mem_cons_self
    rw [List.countP_cons, List.countP_cons, List.countP_cons, List.countP_cons, List.length_cons]
    cases h1 : p1 x <;> cases h2 : p2 x <;> cases h3 : p3 x <;> cases h4 : p4 x <;> simp [h1, h2, h3, h4] at hx ⊢ <;> omega
theorem du_count {p : List Int} {q : List Int × Int → Bool} {q' : Int → Bool} (hq : ∀ c, q c = q' c.2) (A : List (List Int × Int)) (k : Nat) :
    (duStep p A k).countP q ≤ A.countP (fun c => q' c.2) + A.countP fun c => decide (p.getD k 0 ≠ 0) && q' (c.2 + p.getD k 0) := by
  have e : q = fun c => q' c.2 := by funext c; exact hq c
  subst e
  rw [duStep]
  split
  · omega
  · rename_i h
    rw [List.countP_append, List.countP_map, List.countP_filter]
    refine Nat.add_le_add_left (List.countP_mono_left fun c _ hc => ?_) _
    simp only [Function.comp_apply, Bool.and_eq_true, decide_eq_true_eq] at hc ⊢
    exact ⟨h, hc.1⟩
theorem dN (q : Prop) [Decidable q] : (decide q).toNat = if q then 1 else 0 := by
  by_cases h : q
  · rw [if_pos h, decide_eq_true h]; rfl
  · rw [if_neg h, decide_eq_false h]; rfl
theorem one_of {g u v : Int} (h1 : 0 ≤ g) (h2 : g < 512) (h3 : 0 ≤ u) (h4 : u < 512) (h7 : v = 511 - u) :
    (decide (g = 511)).toNat + (decide (u ≠ 0) && decide (g + u = 511)).toNat + (decide (v ≠ 0) && decide (g + v = 511)).toNat + (decide (u ≠ 0) && (decide (v ≠ 0) && decide (g + u + v = 511))).toNat ≤ 1 := by
  simp only [← Bool.decide_and, dN]
  repeat' split
  all_goals omega
theorem due_le {p : List Int} (h6 : In512 (p.getD 6 0)) (h7 : p.getD 7 0 = 511 - p.getD 6 0) (hA : ∀ c ∈ duAll p 6, In512 c.2) : (dueI p).length ≤ (duAll p 6).length := by
  unfold In512 at *
  rw [dueI, List.length_map, ← List.countP_eq_length_filter]
  have a := du_count (p := p) (q := fun c => decide (c.2 = 511)) (q' := fun g => decide (g = 511)) (fun _ => rfl) (duAll p 7) 7
  have b := du_count (p := p) (q := fun c => decide (c.2 = 511)) (q' := fun g => decide (g = 511)) (fun _ => rfl) (duAll p 6) 6
  have c := du_count (p := p) (q := fun c => decide (p.getD 7 0 ≠ 0) && decide (c.2 + p.getD 7 0 = 511)) (q' := fun g => decide (p.getD 7 0 ≠ 0) && decide (g + p.getD 7 0 = 511)) (fun _ => rfl) (duAll p 6) 6
  have d := four_count (p1 := fun c => decide (c.2 = 511)) (p2 := fun c : List Int × Int => decide (p.getD 6 0 ≠ 0) && decide (c.2 + p.getD 6 0 = 511)) (p3 := fun c => decide (p.getD 7 0 ≠ 0) && decide (c.2 + p.getD 7 0 = 511)) (p4 := fun c => decide (p.getD 6 0 ≠ 0) && (decide (p.getD 7 0 ≠ 0) && decide (c.2 + p.getD 6 0 + p.getD 7 0 = 511))) (duAll p 6) fun x hx => by
    exact one_of (hA x hx).1 (hA x hx).2 h6.1 h6.2 h7
  rw [duAll]
  rw [← show duAll p 7 = duStep p (duAll p 6) 6 from rfl] at b c
  omega
noncomputable def psum (p : List Int) : Nat → Int
  | 0 => 0
  | k + 1 => psum p k + p.getD k 0
theorem full_sum {p : List Int} : ∀ k, (duAll p k).length = 2 ^ k → ∃ T, (T, psum p k) ∈ duAll p k
  | 0, _ => ⟨[], by rw [duAll]; exact List.mem_cons_self⟩
  | k + 1, h => by
    have l := duAll_len p k
    rw [duAll, duStep] at h ⊢
    split at h
    · rw [Nat.pow_succ] at h
      have : 0 < 2 ^ k := Nat.pow_pos (by omega)
      omega
    · rename_i hne
      rw [if_neg hne]
      rw [List.length_append, List.length_map, Nat.pow_succ] at h
      have f := List.length_filter_le (fun c : List Int × Int => decide (Builtin.bitAnd c.2 (p.getD k 0) = 0)) (duAll p k)
      obtain ⟨T, hT⟩ := full_sum (p := p) k (by omega)
      have fe : (duAll p k).filter (fun c : List Int × Int => decide (Builtin.bitAnd c.2 (p.getD k 0) = 0)) = duAll p k := by
        rw [List.filter_eq_self, ← List.length_filter_eq_length_iff]; omega
      exact ⟨T ++ [(k : Int)], List.mem_append_right _ (List.mem_map.mpr ⟨(T, psum p k), by rw [fe]; exact hT, rfl⟩)⟩
theorem five_le {p : List Int} (hs : psum p 4 = 511) (h4 : In512 (p.getD 4 0)) : (duAll p 5).length ≤ 31 := by
  have l := duAll_len p 4
  rw [duAll, duStep]
  split
  · omega
  · rename_i hne
    rw [List.length_append, List.length_map]
    have f := List.length_filter_le (fun c : List Int × Int => decide (Builtin.bitAnd c.2 (p.getD 4 0) = 0)) (duAll p 4)
    by_cases h : (duAll p 4).length = 2 ^ 4
    · obtain ⟨T, hT⟩ := full_sum 4 h
      have : ((duAll p 4).filter fun c : List Int × Int => decide (Builtin.bitAnd c.2 (p.getD 4 0) = 0)).length < (duAll p 4).length := by
        refine List.length_filter_lt_length_iff_exists.mpr ⟨_, hT, ?_⟩
        rw [hs]
        simp only [decide_eq_true_eq]
        intro h0
        refine hne ?_
        refine Classical.byContradiction fun hn => ?_
        obtain ⟨q, hq⟩ := List.exists_mem_of_ne_nil _ ((bits_ne h4).mpr hn)
        have i511 : In512 511 := ⟨by decide, by decide⟩
        exact (band_zero i511 h4).mp h0 q ((bits_full i511).mp rfl q (mem_bits.mp hq).1.1 (mem_bits.mp hq).1.2) hq
      omega
    · omega
theorem pieces_ok {a b d e : Int} (ha : In512 a) (hb : In512 b) (hd : In512 d) (he : In512 e) : (∀ f, In512 (P (piecesOf a b d e) f)) ∧ psum (piecesOf a b d e) 4 = 511 ∧ (piecesOf a b d e).getD 7 0 = 511 - (piecesOf a b d e).getD 6 0 := by
  have comp : ∀ {x : Int}, In512 x → In512 (511 - x) := fun {x} h => by unfold In512 at *; omega
  have z0 : In512 0 := ⟨by decide, by decide⟩
  have hx : In512 (Builtin.bitXor a b) := by
    rw [bitXor_and]
    have := cut_int ha hb
    have := cut_int hb ha
    rw [band_comm b a hb ha] at this
    have i1 := band_in ha (comp hb)
    have i2 := band_in hb (comp ha)
    have i3 := band_in ha hb
    have k1 := cut_int (comp ha) hb
    have i4 := band_in (comp ha) (comp hb)
    rw [band_comm _ _ (comp ha) hb] at k1
    unfold In512 at *
    omega
  have hc : In512 (if e % 4 = 0 then a else if e % 4 = 1 then b else if e % 4 = 2 then Builtin.bitXor a b else e) := by
    split
    · exact ha
    · split
      · exact hb
      · split
        · exact hx
        · exact he
  refine ⟨fun f => ?_, ?_, rfl⟩
  · unfold P
    match f.toNat with
    | 0 => exact band_in ha hb
    | 1 => exact band_in ha (comp hb)
    | 2 => exact band_in hb (comp ha)
    | 3 => exact band_in (comp ha) (comp hb)
    | 4 => exact band_in ha hd
    | 5 => exact band_in ha (comp hd)
    | 6 => exact hc
    | 7 => exact comp hc
    | n + 8 => exact z0
  · show 0 + Builtin.bitAnd a b + Builtin.bitAnd a (511 - b) + Builtin.bitAnd b (511 - a) + Builtin.bitAnd (511 - a) (511 - b) = 511
    have k1 := cut_int ha hb
    have k2 := cut_int (comp ha) hb
    rw [band_comm _ _ (comp ha) hb] at k2
    omega
theorem ints_range {k : Nat} {i : Int} : i ∈ (List.range k).map (fun (j : Nat) => (0 + (j : Int))) ↔ 0 ≤ i ∧ i < k := by
  rw [List.mem_map]
  constructor
  · rintro ⟨j, hj, rfl⟩
    have := List.mem_range.mp hj
    omega
  · intro h
    exact ⟨i.toNat, List.mem_range.mpr (by omega), by omega⟩
/-- both lists name the same covers -/
theorem law_perm {p : List Int} {held : List (List Int)} (hp : ∀ f, In512 (P p f)) (hh : ∀ f : Int, 0 ≤ f → f < 8 → heldAt held f = bitsI (P p f)) :
    HeapFrom ltF (seekI held 10 ((List.range 8).map fun (j : Nat) => (0 + (j : Int))) ((List.range 9).map fun (i : Nat) => (1 + (i : Int))) [] []) 0 ∧
    (seekI held 10 ((List.range 8).map fun (j : Nat) => (0 + (j : Int))) ((List.range 9).map fun (i : Nat) => (1 + (i : Int))) [] []).Perm (dueI p) := by
  have nda : ((List.range 8).map fun (j : Nat) => (0 + (j : Int))).Nodup := by decide
  have lr : ((List.range 9).map fun (i : Nat) => (1 + (i : Int))).length = 9 := by simp
  have mr : ∀ q : Int, q ∈ (List.range 9).map (fun (i : Nat) => (1 + (i : Int))) ↔ 1 ≤ q ∧ q < 10 := fun q => by
    rw [List.mem_map]
    constructor
    · rintro ⟨j, hj, rfl⟩
      have := List.mem_range.mp hj
      omega
    · intro h
      exact ⟨(q - 1).toNat, List.mem_range.mpr (by omega), by omega⟩
  have ma : ∀ i : Int, i ∈ (List.range 8).map (fun (j : Nat) => (0 + (j : Int))) ↔ 0 ≤ i ∧ i < 8 := fun i => ints_range
  generalize (List.range 8).map (fun (j : Nat) => (0 + (j : Int))) = al at nda ma
  generalize (List.range 9).map (fun (i : Nat) => (1 + (i : Int))) = rts at mr lr
  have hh' : ∀ f ∈ al, heldAt held f = bitsI (P p f) := fun f hf => hh f ((ma f).mp hf).1 ((ma f).mp hf).2
  have hin : ∀ f ∈ al, ∀ q ∈ heldAt held f, q ∈ rts := fun f hf q hq => by
    rw [hh' f hf] at hq
    exact (mr q).mpr (mem_bits.mp hq).1
  have hk : ∀ i : Nat, i < 8 → (i : Int) ∈ al := fun i hi => (ma _).mpr (by omega)
  have ea : fOf held al [] = al := by unfold fOf; simp
  have er : rOf held rts [] = rts := by unfold rOf; simp
  obtain ⟨H, pm⟩ := seek_lv held al rts 10 [] [] HeapFrom.nil
  rw [ea, er, List.nil_append] at pm
  rw [ea, er] at H
  refine ⟨H, pm.trans ?_⟩
  have G0 : Good held al [] := ⟨List.nodup_nil, (fun f m => by cases m), (fun f m => by cases m), fun f m => by cases m⟩
  have covI : ∀ {T : List Int}, Good held al T → (gs p T = 511 ↔ Cov held rts T) := fun {T} G => by
    obtain ⟨i1, i2⟩ := gs_bits hp hh' G
    rw [bits_full i1]
    constructor
    · intro h q hq
      have := (mr q).mp hq
      exact (i2 q).mp (h q this.1 this.2)
    · intro h q h1 h2
      exact (i2 q).mpr (h q ((mr q).mpr ⟨h1, h2⟩))
  have one : ∀ {L : List Int}, Good held al L → Cov held rts L → (lv held al rts 10 []).countP (fun d => decide (sortI d = sortI L)) = 1 := fun {L} G C =>
    lv_one nda hin 10 G0 G C (fun f m => by cases m) (by rw [er, lr]; decide)
  have memD : ∀ n L, (n, L) ∈ dueI p ↔ L.Pairwise (· < ·) ∧ Good held al L ∧ Cov held rts L ∧ n = (L.length : Int) := fun n L => by
    unfold dueI
    rw [List.mem_map]
    constructor
    · rintro ⟨⟨T, g⟩, hm, e⟩
      obtain ⟨hm, h5⟩ := List.mem_filter.mp hm
      obtain ⟨a, b, c, rfl⟩ := (du_mem hp hh' 8 hk T g).mp hm
      cases e
      exact ⟨a, c, (covI c).mp (by simpa using h5), rfl⟩
    · rintro ⟨a, c, d, rfl⟩
      refine ⟨(L, gs p L), List.mem_filter.mpr ⟨(du_mem hp hh' 8 hk L _).mpr ⟨a, fun f hf => (ma f).mp (c.mem f hf), c, rfl⟩, by simpa using (covI c).mpr d⟩, rfl⟩
  have ndD : (dueI p).Nodup := by
    unfold dueI
    rw [List.nodup_iff_pairwise_ne, List.pairwise_map]
    exact ((du_nd hp hh' 8 hk).sublist List.filter_sublist).imp fun h e => h (by injection e)
  have srt : ∀ L : List Int, (sortI L).Pairwise (· ≤ ·) := fun L => by
    have := List.pairwise_mergeSort (le := fun a b : Int => decide (a ≤ b)) (fun a b c h1 h2 => by simp only [decide_eq_true_eq] at h1 h2 ⊢; omega) (fun a b => by simp only [Bool.or_eq_true, decide_eq_true_eq]; omega) L
    exact this.imp fun h => by simpa using h
  have sp : ∀ L : List Int, (sortI L).Perm L := fun L => List.mergeSort_perm L _
  have memL : ∀ n L, (n, L) ∈ (lv held al rts 10 []).map encL ↔ L.Pairwise (· < ·) ∧ Good held al L ∧ Cov held rts L ∧ n = (L.length : Int) := fun n L => by
    rw [List.mem_map]
    constructor
    · rintro ⟨c, hc, e⟩
      obtain ⟨g1, g2, _⟩ := lv_sound 10 G0 hc
      unfold encL at e
      injection e with e1 e2
      subst e2
      have pp := (sp c).symm
      have nd := (g1.perm pp).nd
      refine ⟨?_, g1.perm pp, g2.perm pp, by rw [← e1, pp.length_eq]⟩
      have := List.pairwise_and_iff.mpr ⟨srt c, List.nodup_iff_pairwise_ne.mp nd⟩
      exact this.imp fun h => by omega
    · rintro ⟨a, b, c, rfl⟩
      have h1 := one b c
      have hpos : 0 < (lv held al rts 10 []).countP fun d => decide (sortI d = sortI L) := by omega
      obtain ⟨d, hd, hs⟩ := List.countP_pos_iff.mp hpos
      have hs' : sortI d = sortI L := by simpa using hs
      have hL : sortI L = L := ksm_same (sp L) (srt L) (a.imp fun h => by omega)
      refine ⟨d, hd, ?_⟩
      unfold encL
      rw [hs', hL, (sortI_iff.mp hs').length_eq]
  have ndL : ((lv held al rts 10 []).map encL).Nodup := by
    rw [List.nodup_iff_count]
    rintro ⟨n, L⟩
    by_cases hm : (n, L) ∈ (lv held al rts 10 []).map encL
    · obtain ⟨a, b, c, rfl⟩ := (memL n L).mp hm
      have hL : sortI L = L := ksm_same (sp L) (srt L) (a.imp fun h => by omega)
      rw [List.count, List.countP_map, ← one b c]
      refine List.countP_mono_left fun d _ hd => ?_
      simp only [Function.comp_apply, beq_iff_eq] at hd
      unfold encL at hd
      injection hd with _ h2
      simp only [decide_eq_true_eq]
      rw [h2, hL]
    · rw [List.count_eq_zero.mpr hm]; omega
  refine (List.perm_ext_iff_of_nodup ndL ndD).mpr ?_
  rintro ⟨n, L⟩
  rw [memL, memD]
end
set_option Elab.async false
set_option maxRecDepth 100000
set_option maxHeartbeats 2000000
section
/-- does a row's pair hold -/
noncomputable def fmHit (i : Nat) (mode : Int) (p : Int × Str) : Bool := if i = 0 then decide (Builtin.bitAnd mode 61440 = p.1) else decide (Builtin.bitAnd mode p.1 = p.1)
noncomputable def fmChar (i : Nat) (mode : Int) (ps : List (Int × Str)) : Str := match ps.find? (fmHit i mode) with
  | some p => p.2
  | none => if i = 0 then ("?" : Str) else ("-" : Str)
noncomputable def fmChars (mode : Int) (tb : List (List (Int × Str))) : List Str := tb.mapIdx fun i ps => fmChar i mode ps
theorem fmChar_at {i : Nat} {mode : Int} {ps : List (Int × Str)} {j : Nat} (hj : j < ps.length) (hno : ∀ q ∈ ps.take j, fmHit i mode q = false) (h : fmHit i mode ps[j] = true) : fmChar i mode ps = ps[j].2 := by
  have e : ps = ps.take j ++ ps[j] :: ps.drop (j + 1) := by rw [List.getElem_cons_drop]; exact (List.take_append_drop j ps).symm
  have e2 : ps.find? (fmHit i mode) = (ps.take j ++ ps[j] :: ps.drop (j + 1)).find? (fmHit i mode) := congrArg _ e
  have : ps.find? (fmHit i mode) = some ps[j] := by
    rw [e2, List.find?_append, List.find?_eq_none.mpr (fun q hq => by rw [hno q hq]; simp), Option.none_or, List.find?_cons, h]
  rw [fmChar, this]
theorem fmChar_none {i : Nat} {mode : Int} {ps : List (Int × Str)} (hno : ∀ q ∈ ps, fmHit i mode q = false) : fmChar i mode ps = if i = 0 then ("?" : Str) else ("-" : Str) := by
  have : ps.find? (fmHit i mode) = none := List.find?_eq_none.mpr (fun q hq => by rw [hno q hq]; simp)
  rw [fmChar, this]
/-- a pair of a row stands in the base -/
noncomputable def PairAt (base : Heap) (v : Value) (p : Int × Str) : Prop := ∃ a t u k, v = .ref a ∧ base.get? a = some (tupOf #[.int p.1 t, .str p.2 u] k)
noncomputable def RowAt (base : Heap) (v : Value) (ps : List (Int × Str)) : Prop := ∃ a vs k, v = .ref a ∧ base.get? a = some (tupOf vs k) ∧ vs.size = ps.length ∧ ∀ (i : Nat) (x : Value) (p : Int × Str), vs[i]? = some x → ps[i]? = some p → PairAt base x p
structure TableAt (base : Heap) (v : Value) (tb : List (List (Int × Str))) : Prop where
  at_ : ∃ a vs k, v = .ref a ∧ base.get? a = some (tupOf vs k) ∧ vs.size = tb.length ∧ ∀ (i : Nat) (x : Value) (ps : List (Int × Str)), vs[i]? = some x → tb[i]? = some ps → RowAt base x ps
section
variable {prog : Program} {w : World} {A : Around} {base : Heap} {tab : List (Str × Option Value)} {news : List (Addr × Obj)}
theorem ifmt_con {f : Addr} {mode : Int} {t : Tok} (F : FnP base tab "S_IFMT" f) (G : GF base tab) (rm : Room A 1) :
    Con prog w base A (.ref f) [.int mode t] [] news (fun r news' => ∃ t, r = .int (Builtin.bitAnd mode 61440) t) := by
  have e : fnOfP "S_IFMT" = fnOfP "S_IFMT" := rfl
  conv at e => rhs; whnf
  unfold FnP at F
  rw [e] at F
  clear e
  dsimp only at F
  refine Con.ofFn (binds := [(Str.ofString "mode", .int mode t)]) F G rm (by rfl) (by rfl) (by rfl) (fun _ _ _ => by rfl) (by rfl) (by rfl) (by decide) (fun a m => nomatch m) ?_
  clear F
  intro z s A R Fs L Av cdv rm hfr mu S
  repeat' walk_at "m"
  rename St _ _ _ _ _ _ _ _ _ _ => S1
  exact ⟨_, _, S1, fun p hp _ => hp, _, rfl⟩

theorem filemode_con {f fi : Addr} {mode : Int} {t : Tok} {tv : Value} {tb : List (List (Int × Str))} (F : FnP base tab "filemode" f) (Fi : FnP base tab "S_IFMT" fi) (G : GF base tab) (te : TB tab "enumerate") (tt : tab.lookup (Str.ofString "_filemode_table") = some (some tv)) (T : TableAt base tv tb) (hz : tb.length ≤ 1000) (hok : JoinOk "" (fmChars mode tb) = true) (rm : Room A 3) :
    Con prog w base A (.ref f) [.int mode t] [] news (fun r news' => ∃ t, r = .str (Txt.join "" (fmChars mode tb)) t) := by
  have e : fnOfP "filemode" = fnOfP "filemode" := rfl
  conv at e => rhs; whnf
  unfold FnP at F
  rw [e] at F
  clear e
  dsimp only at F
  refine Con.ofFn (binds := [(Str.ofString "mode", .int mode t)]) F G rm (by rfl) (by rfl) (by rfl) (fun _ _ _ => by rfl) (by rfl) (by rfl) (by decide) (fun a m => nomatch m) ?_
  clear F
  intro z s A R Fs L Av cdv rm hfr mu S
  obtain ⟨ta, tvs, tk, rfl, hta, htl, hrow⟩ := T.at_
  repeat' walk_at "m"
  refine d_list (base := base) ?_
  repeat' walk_at "m"
  refine DispTo.mk S (by simp) ?_
  intro D s1 muD nD S1
  repeat' walk_at "m"
  rename St _ _ _ _ _ _ _ _ _ _ => S2
  refine e_gl S2 G tt ?_
  repeat' walk_at "m"
  have hlo : ta ∉ ownOf _ L ∧ ta ∉ frs Fs := ⟨(S2.keep _ _ (S2.baseR _ _ hta)).2, frs_base S2.ff hta⟩
  refine for_enumT (J := fun i ρ' news' => ∃ pvs k, ρ' "mode" = some (.int mode t) ∧ ρ' "perm" = some (.ref D) ∧ (D, listOf pvs.toArray k) ∈ news' ∧ DatAll [] pvs (((fmChars mode tb).take i).map .str) ∧ (∀ p ∈ news, p ∈ news')) S2 rm.hh (S2.bget hta) hlo
    ⟨[], 0, by walk_at "look", by walk_at "look", List.mem_cons_self, .nil, fun p hp => List.mem_cons_of_mem _ hp⟩ ?_ ?_
  · intro i ti v T ρ₁ news₁ R' Av' s₁ hv muT Q₁ hQ₁ hJ hT S₁
    obtain ⟨pvs, k, l1, l2, hD, hdat, sub⟩ := hJ
    have hit : i < tb.length := by
      rw [← htl]
      exact (Array.getElem?_eq_some_iff.mp hv).1
    have hps : tb[i]? = some tb[i] := List.getElem?_eq_getElem hit
    obtain ⟨ra, rvs, rk, rfl, hra, hrl, hpair⟩ := hrow i v _ hv hps
    have muD' : Mu R' D := muT D muD (S₁.led _ hD).2 fun q => muD _ (q ▸ S2.baseR _ _ hta)
    have hpl : pvs.length = i := by
      rw [hdat.length]; simp [fmChars]; omega
    have hstep : (fmChars mode tb).take (i + 1) = (fmChars mode tb).take i ++ [fmChar i mode tb[i]] := by
      have hl : i < (fmChars mode tb).length := by simp [fmChars]; exact hit
      rw [List.take_succ_eq_append_getElem hl]
      simp [fmChars]
    refine a_tup2 S₁ rm.hh hT (by rfl) (by rfl) ?_
    intro s3 S3
    repeat' walk_at "m"
    have hloR : ra ∉ ownOf _ L ∧ ra ∉ frs Fs := ⟨(S3.keep _ _ (S3.baseR _ _ hra)).2, frs_base S3.ff hra⟩
    refine for_tup (J := fun j ρ' news' => ρ' "mode" = some (.int mode t) ∧ ρ' "perm" = some (.ref D) ∧ ρ' "index" = some (.int i ti) ∧ (D, listOf pvs.toArray k) ∈ news' ∧ (∀ p ∈ news, p ∈ news') ∧ ∀ q ∈ tb[i].take j, fmHit i mode q = false) S3 rm.hh (S3.bget hra) hloR
      ⟨by walk_at "look", by walk_at "look", by walk_at "look", hD, sub, fun q hq => by simp at hq⟩ ?_ ?_
    · rintro j x ρ₂ news₂ R₂ Av₂ s4 hx TT Q₂ hQ₂ ⟨m1, m2, m3, hD₂, sub₂, hno⟩ S4
      have hjl : j < tb[i].length := by
        rw [← hrl]
        exact (Array.getElem?_eq_some_iff.mp hx).1
      obtain ⟨pa, pt, pu, pk, rfl, hpa⟩ := hpair j x _ hx (List.getElem?_eq_getElem hjl)
      have muD₂ : Mu R₂ D := TT.mu D muD' (S4.led _ hD₂).2 fun q => muD _ ((List.mem_singleton.mp q) ▸ S2.baseR _ _ hra)
      refine a_tup2 S4 rm.hh ⟨_, S4.bget hpa, rfl, pk, rfl⟩ (by rfl) (by rfl) ?_
      intro s5 S5
      repeat' walk_at "m"
      by_cases hi0 : i = 0
      · rw [if_pos (by simp [hi0])]
        repeat' walk_at "m"
        rename St _ _ _ _ _ _ _ _ _ _ => S9
        refine k_call S9 G Fi (List.cons_ne_nil _ _) ?_
        repeat' walk_at "m"
        refine CallTo.mk (X := []) S9 hfr (ifmt_con Fi G (rm.mono (by omega))) ((fun a m => by cases m)) (fun r s' news' S' sub' post => ?_)
        obtain ⟨rt, rfl⟩ := post
        have S10 := S'.sub fun p hp => sub' p hp (fun m => by cases m)
        clear S' S9
        repeat' walk_at "m"
        by_cases hh : Builtin.bitAnd mode 61440 = tb[i][j].1
        · rw [if_pos (by simpa using hh)]
          repeat' walk_at "m"
          have hfm : fmChar i mode tb[i] = tb[i][j].2 := fmChar_at hjl hno (by simp [fmHit, hh, hi0])
          refine k_meth PySem.F.plainAttrs_list PySem.F.slot_list_append PySem.F.type_list_append (List.cons_ne_nil _ _) ?_
          repeat' walk_at "m"
          rename St _ _ _ _ _ _ _ _ _ _ => S6
          refine ⟨D, _, _, rfl, S6.get hD₂, ?_⟩
          repeat' walk_at "m"
          rename St _ _ _ _ _ _ _ _ _ _ => S7
          refine l_append S7 hD₂ muD₂ (by omega) ?_
          intro n' s8 S8
          repeat' walk_at "m"
          refine ⟨_, _, S8.mono TT.up TT.av S3.av S3.baseR S3.cav S3.fav, ⟨pvs ++ [_], n', by walk_at "look", by walk_at "look", setN_self hD₂, ?_, fun p hp => setN_ne (sub₂ p hp) (nD p hp)⟩⟩
          rw [hstep, List.map_append, hfm]
          exact hdat.append (.one (.str _ _))
        · rw [if_neg (by simpa using hh)]
          repeat' walk_at "m"
          refine ⟨_, _, S10, by walk_at "look", by walk_at "look", by walk_at "look", hD₂, sub₂, fun q hq => ?_⟩
          rw [List.take_succ_eq_append_getElem hjl] at hq
          rcases List.mem_append.mp hq with hq | hq
          · exact hno q hq
          · rw [List.mem_singleton.mp hq, fmHit, if_pos hi0, decide_eq_false hh]
      · rw [if_neg (by simpa using hi0)]
        repeat' walk_at "m"
        rename St _ _ _ _ _ _ _ _ _ _ => S10
        by_cases hh : Builtin.bitAnd mode tb[i][j].1 = tb[i][j].1
        · rw [if_pos (by simpa using hh)]
          repeat' walk_at "m"
          have hfm : fmChar i mode tb[i] = tb[i][j].2 := fmChar_at hjl hno (by simp [fmHit, hh, hi0])
          refine k_meth PySem.F.plainAttrs_list PySem.F.slot_list_append PySem.F.type_list_append (List.cons_ne_nil _ _) ?_
          repeat' walk_at "m"
          rename St _ _ _ _ _ _ _ _ _ _ => S6
          refine ⟨D, _, _, rfl, S6.get hD₂, ?_⟩
          repeat' walk_at "m"
          rename St _ _ _ _ _ _ _ _ _ _ => S7
          refine l_append S7 hD₂ muD₂ (by omega) ?_
          intro n' s8 S8
          repeat' walk_at "m"
          refine ⟨_, _, S8.mono TT.up TT.av S3.av S3.baseR S3.cav S3.fav, ⟨pvs ++ [_], n', by walk_at "look", by walk_at "look", setN_self hD₂, ?_, fun p hp => setN_ne (sub₂ p hp) (nD p hp)⟩⟩
          rw [hstep, List.map_append, hfm]
          exact hdat.append (.one (.str _ _))
        · rw [if_neg (by simpa using hh)]
          repeat' walk_at "m"
          refine ⟨_, _, S10, by walk_at "look", by walk_at "look", by walk_at "look", hD₂, sub₂, fun q hq => ?_⟩
          rw [List.take_succ_eq_append_getElem hjl] at hq
          rcases List.mem_append.mp hq with hq | hq
          · exact hno q hq
          · rw [List.mem_singleton.mp hq]; simp [fmHit, hh, hi0]
    · rintro ρ₂ news₂ s4 ⟨m1, m2, m3, hD₂, sub₂, hno⟩ S4
      rw [hrl, List.take_length] at hno
      repeat' walk_at "m"
      by_cases hi0 : i = 0
      · rw [if_pos (by simp [hi0])]
        repeat' walk_at "m"
        have hfm : fmChar i mode tb[i] = "?" := (fmChar_none hno).trans (if_pos hi0)
        refine k_meth PySem.F.plainAttrs_list PySem.F.slot_list_append PySem.F.type_list_append (List.cons_ne_nil _ _) ?_
        repeat' walk_at "m"
        rename St _ _ _ _ _ _ _ _ _ _ => S6
        refine ⟨D, _, _, rfl, S6.get hD₂, ?_⟩
        repeat' walk_at "m"
        rename St _ _ _ _ _ _ _ _ _ _ => S7
        refine l_append S7 hD₂ muD' (by omega) ?_
        intro n' s8 S8
        repeat' walk_at "m"
        refine ⟨_, _, S8, ⟨pvs ++ [_], n', by walk_at "look", by walk_at "look", setN_self hD₂, ?_, fun p hp => setN_ne (sub₂ p hp) (nD p hp)⟩⟩
        rw [hstep, List.map_append, hfm]
        exact hdat.append (.one (.str _ _))
      · rw [if_neg (by simpa using hi0)]
        repeat' walk_at "m"
        have hfm : fmChar i mode tb[i] = "-" := (fmChar_none hno).trans (if_neg hi0)
        refine k_meth PySem.F.plainAttrs_list PySem.F.slot_list_append PySem.F.type_list_append (List.cons_ne_nil _ _) ?_
        repeat' walk_at "m"
        rename St _ _ _ _ _ _ _ _ _ _ => S6
        refine ⟨D, _, _, rfl, S6.get hD₂, ?_⟩
        repeat' walk_at "m"
        rename St _ _ _ _ _ _ _ _ _ _ => S7
        refine l_append S7 hD₂ muD' (by omega) ?_
        intro n' s8 S8
        repeat' walk_at "m"
        refine ⟨_, _, S8, ⟨pvs ++ [_], n', by walk_at "look", by walk_at "look", setN_self hD₂, ?_, fun p hp => setN_ne (sub₂ p hp) (nD p hp)⟩⟩
        rw [hstep, List.map_append, hfm]
        exact hdat.append (.one (.str _ _))
  · rintro ρ₁ news₁ s₁ ⟨pvs, k, l1, l2, hD, hdat, sub⟩ S₁
    have hfull : (fmChars mode tb).take tvs.size = fmChars mode tb := List.take_of_length_le (by simp [fmChars, htl])
    rw [hfull] at hdat
    repeat' walk_at "m"
    refine k_methS PySem.F.plainAttrs_str PySem.F.slot_str_join PySem.F.type_str_join (List.cons_ne_nil _ _) ?_
    repeat' walk_at "m"
    refine ⟨_, _, rfl, ?_⟩
    repeat' walk_at "m"
    rename St _ _ _ _ _ _ _ _ _ _ => S6
    refine d_join S6 hD (hdat.mono fun p hp => by cases hp) hok ?_
    intro t7 s7 S7
    repeat' walk_at "m"
    exact ⟨_, _, S7, fun p hp _ => sub p hp, t7, rfl⟩
end
end
set_option Elab.async false
set_option maxRecDepth 100000
section
/-- the table of filemode -/
noncomputable def fmTab : List (List (Int × Str)) := [[(40960, "l"), (49152, "s"), (32768, "-"), (24576, "b"), (16384, "d"), (8192, "c"), (4096, "p")], [(256, "r")], [(128, "w")], [(2112, "s"), (2048, "S"), (64, "x")], [(32, "r")], [(16, "w")], [(1032, "s"), (1024, "S"), (8, "x")], [(4, "r")], [(2, "w")], [(513, "t"), (512, "T"), (1, "x")]]
theorem and_iff (n m : Nat) : n &&& m = m ↔ ∀ i, m.testBit i = true → n.testBit i = true := by
  constructor
  · intro h i hi
    rw [← h, Nat.testBit_and] at hi
    exact (Bool.and_eq_true_iff.mp hi).1
  · intro h
    refine Nat.eq_of_testBit_eq fun i => ?_
    rw [Nat.testBit_and]
    cases hm : m.testBit i with
    | false => rw [Bool.and_false]
    | true => rw [h i hm]; rfl
theorem hit1 (n b : Nat) : decide (Builtin.bitAnd (n : Int) ((2 ^ b : Nat) : Int) = ((2 ^ b : Nat) : Int)) = n.testBit b := by
  rw [bitAnd_pp (Int.natCast_nonneg _) (Int.natCast_nonneg _)]
  simp only [Int.toNat_natCast, Int.natCast_inj]
  rw [Bool.eq_iff_iff, decide_eq_true_eq, and_iff]
  constructor
  · intro h; exact h b (by rw [Nat.testBit_two_pow]; simp)
  · intro h i hi; rw [Nat.testBit_two_pow] at hi; have := of_decide_eq_true hi; subst this; exact h
theorem hit2 (n a b : Nat) : decide (Builtin.bitAnd (n : Int) ((2 ^ a ||| 2 ^ b : Nat) : Int) = ((2 ^ a ||| 2 ^ b : Nat) : Int)) = (n.testBit a && n.testBit b) := by
  rw [bitAnd_pp (Int.natCast_nonneg _) (Int.natCast_nonneg _)]
  simp only [Int.toNat_natCast, Int.natCast_inj]
  rw [Bool.eq_iff_iff, decide_eq_true_eq, and_iff, Bool.and_eq_true]
  constructor
  · rintro h; exact ⟨h a (by simp [Nat.testBit_or]), h b (by simp [Nat.testBit_or])⟩
  · intro h i hi
    rw [Nat.testBit_or, Nat.testBit_two_pow, Nat.testBit_two_pow, Bool.or_eq_true] at hi
    rcases hi with hi | hi
    · have := of_decide_eq_true hi; subst this; exact h.1
    · have := of_decide_eq_true hi; subst this; exact h.2
theorem fmOne {i : Nat} (hi : i ≠ 0) (n b : Nat) (x : Str) : fmChar i (n : Int) [(((2 ^ b : Nat) : Int), x)] = if n.testBit b then x else "-" := by
  unfold fmChar
  rw [List.find?_cons, List.find?_nil]
  unfold fmHit
  rw [if_neg hi, hit1]
  cases n.testBit b <;> simp [hi]
theorem fmThree {i : Nat} (hi : i ≠ 0) (n a b : Nat) (x y z : Str) : fmChar i (n : Int) [(((2 ^ a ||| 2 ^ b : Nat) : Int), x), (((2 ^ b : Nat) : Int), y), (((2 ^ a : Nat) : Int), z)] = if n.testBit a then (if n.testBit b then x else z) else if n.testBit b then y else "-" := by
  unfold fmChar
  rw [List.find?_cons, List.find?_cons, List.find?_cons, List.find?_nil]
  unfold fmHit
  rw [if_neg hi, if_neg hi, if_neg hi, hit1, hit1, hit2]
  cases n.testBit a <;> cases n.testBit b <;> simp [hi]
/-- a run's sign -/
noncomputable def xC (s S x : Nat) (e m : Bool) : Nat := if e then (if m then s else x) else if m then S else 45
noncomputable def oC (x : Nat) (e : Bool) : Nat := if e then x else 45
/-- the kind's sign -/
noncomputable def kC (n : Nat) : Str := fmChar 0 (n : Int) [(40960, "l"), (49152, "s"), (32768, "-"), (24576, "b"), (16384, "d"), (8192, "c"), (4096, "p")]
theorem oS (x : Nat) (e : Bool) : (if e then (⟨#[x]⟩ : Str) else ("-" : Str)) = ⟨#[oC x e]⟩ := by cases e <;> rfl
theorem xS (s S x : Nat) (e m : Bool) : (if e then (if m then (⟨#[s]⟩ : Str) else ⟨#[x]⟩) else if m then ⟨#[S]⟩ else ("-" : Str)) = ⟨#[xC s S x e m]⟩ := by cases e <;> cases m <;> rfl
theorem fm_row (n : Nat) : fmChars (n : Int) fmTab = [kC n, ⟨#[oC 114 (n.testBit 8)]⟩, ⟨#[oC 119 (n.testBit 7)]⟩, ⟨#[xC 115 83 120 (n.testBit 6) (n.testBit 11)]⟩, ⟨#[oC 114 (n.testBit 5)]⟩, ⟨#[oC 119 (n.testBit 4)]⟩, ⟨#[xC 115 83 120 (n.testBit 3) (n.testBit 10)]⟩, ⟨#[oC 114 (n.testBit 2)]⟩, ⟨#[oC 119 (n.testBit 1)]⟩, ⟨#[xC 116 84 120 (n.testBit 0) (n.testBit 9)]⟩] := by
  have e : fmChars (n : Int) fmTab = [kC n, fmChar 1 (n : Int) [(((2 ^ 8 : Nat) : Int), ⟨#[114]⟩)], fmChar 2 (n : Int) [(((2 ^ 7 : Nat) : Int), ⟨#[119]⟩)], fmChar 3 (n : Int) [(((2 ^ 6 ||| 2 ^ 11 : Nat) : Int), ⟨#[115]⟩), (((2 ^ 11 : Nat) : Int), ⟨#[83]⟩), (((2 ^ 6 : Nat) : Int), ⟨#[120]⟩)],
      fmChar 4 (n : Int) [(((2 ^ 5 : Nat) : Int), ⟨#[114]⟩)], fmChar 5 (n : Int) [(((2 ^ 4 : Nat) : Int), ⟨#[119]⟩)], fmChar 6 (n : Int) [(((2 ^ 3 ||| 2 ^ 10 : Nat) : Int), ⟨#[115]⟩), (((2 ^ 10 : Nat) : Int), ⟨#[83]⟩), (((2 ^ 3 : Nat) : Int), ⟨#[120]⟩)],
      fmChar 7 (n : Int) [(((2 ^ 2 : Nat) : Int), ⟨#[114]⟩)], fmChar 8 (n : Int) [(((2 ^ 1 : Nat) : Int), ⟨#[119]⟩)], fmChar 9 (n : Int) [(((2 ^ 0 ||| 2 ^ 9 : Nat) : Int), ⟨#[116]⟩), (((2 ^ 9 : Nat) : Int), ⟨#[84]⟩), (((2 ^ 0 : Nat) : Int), ⟨#[120]⟩)]] := by rfl
  rw [e, fmOne (by decide), fmOne (by decide), fmThree (by decide), fmOne (by decide), fmOne (by decide), fmThree (by decide), fmOne (by decide), fmOne (by decide), fmThree (by decide)]
  rw [xS, xS, xS, oS, oS, oS, oS, oS, oS]
theorem ten_join (a b c d e f g h i j : Nat) : Txt.join "" [⟨#[a]⟩, ⟨#[b]⟩, ⟨#[c]⟩, ⟨#[d]⟩, ⟨#[e]⟩, ⟨#[f]⟩, ⟨#[g]⟩, ⟨#[h]⟩, ⟨#[i]⟩, ⟨#[j]⟩] = ⟨#[a, b, c, d, e, f, g, h, i, j]⟩ := by rfl
theorem one_all {i : Nat} {m : Int} {ps : List (Int × Str)} (h : ∀ q ∈ ps, ∃ x, q.2 = ⟨#[x]⟩) : ∃ x, fmChar i m ps = ⟨#[x]⟩ := by
  unfold fmChar
  cases hf : ps.find? (fmHit i m) with
  | some q => exact h q (List.mem_of_find?_eq_some hf)
  | none =>
    dsimp only
    split
    · exact ⟨63, rfl⟩
    · exact ⟨45, rfl⟩
theorem tab_one : ∀ ps ∈ fmTab, ∀ q ∈ ps, ∃ x, q.2 = (⟨#[x]⟩ : Str) := by
  intro ps hps q hq
  have h : fmTab.all (fun ps => ps.all fun q => decide (q.2 = ⟨#[q.2.cps.getD 0 0]⟩)) = true := by decide +kernel
  have := List.all_eq_true.mp (List.all_eq_true.mp h ps hps) q hq
  exact ⟨_, of_decide_eq_true this⟩
theorem fm_ten (m : Int) : ∃ a b c d e f g h i j, fmChars m fmTab = [⟨#[a]⟩, ⟨#[b]⟩, ⟨#[c]⟩, ⟨#[d]⟩, ⟨#[e]⟩, ⟨#[f]⟩, ⟨#[g]⟩, ⟨#[h]⟩, ⟨#[i]⟩, ⟨#[j]⟩] := by
  have k : ∀ i (hi : i < fmTab.length), ∃ x, fmChar i m fmTab[i] = ⟨#[x]⟩ := fun i hi => one_all (tab_one _ (List.getElem_mem hi))
  obtain ⟨a, ha⟩ := k 0 (by decide)
  obtain ⟨b, hb⟩ := k 1 (by decide)
  obtain ⟨c, hc⟩ := k 2 (by decide)
  obtain ⟨d, hd⟩ := k 3 (by decide)
  obtain ⟨e, he⟩ := k 4 (by decide)
  obtain ⟨f, hf⟩ := k 5 (by decide)
  obtain ⟨g, hg⟩ := k 6 (by decide)
  obtain ⟨h, hh⟩ := k 7 (by decide)
  obtain ⟨i, hi⟩ := k 8 (by decide)
  obtain ⟨j, hj⟩ := k 9 (by decide)
  refine ⟨a, b, c, d, e, f, g, h, i, j, ?_⟩
  rw [← ha, ← hb, ← hc, ← hd, ← he, ← hf, ← hg, ← hh, ← hi, ← hj]
  rfl
theorem fm_joinOk (m : Int) : JoinOk "" (fmChars m fmTab) = true := by
  obtain ⟨a, b, c, d, e, f, g, h, i, j, q⟩ := fm_ten m
  rw [q]; rfl
theorem fm_len (m : Int) : (Txt.join "" (fmChars m fmTab)).length = 10 := by
  obtain ⟨a, b, c, d, e, f, g, h, i, j, q⟩ := fm_ten m
  rw [q, ten_join]; rfl
theorem kC_one (n : Nat) : ∃ x, kC n = ⟨#[x]⟩ := one_all (tab_one _ (by exact List.mem_cons_self))
theorem fm_str (n : Nat) : ∃ k, kC n = ⟨#[k]⟩ ∧ Txt.join "" (fmChars (n : Int) fmTab) = ⟨#[k, oC 114 (n.testBit 8), oC 119 (n.testBit 7), xC 115 83 120 (n.testBit 6) (n.testBit 11), oC 114 (n.testBit 5), oC 119 (n.testBit 4), xC 115 83 120 (n.testBit 3) (n.testBit 10), oC 114 (n.testBit 2), oC 119 (n.testBit 1), xC 116 84 120 (n.testBit 0) (n.testBit 9)]⟩ := by
  obtain ⟨k, hk⟩ := kC_one n
  exact ⟨k, hk, by rw [fm_row, hk, ten_join]⟩
end
set_option Elab.async false
set_option maxRecDepth 100000
set_option maxHeartbeats 8000000
section
noncomputable def rowPl (tb : List (List (Int × Str))) (mode : Int) : List Int :=
  ((List.range 9).map fun (i : Nat) => (1 + (i : Int))).filter fun p => Txt.contains (Str.ofString "rwxst") (Txt.item (Txt.join "" (fmChars mode tb)) p)
noncomputable def modeOf (p : List Int) (above : Int) (k : Nat) : Int := p.getD k 0 + 512 * ((77 * (k : Int) + above) % 128)
noncomputable def heldOf (tb : List (List (Int × Str))) (p : List Int) (above : Int) (n : Nat) : List (List Int) := (List.range n).map fun k => rowPl tb (modeOf p above k)
noncomputable def eight : List Int := (List.range 8).map fun (i : Nat) => (0 + (i : Int))
noncomputable def nine : List Int := (List.range 9).map fun (i : Nat) => (1 + (i : Int))
/-- what the plain law is to show -/
structure Plain (tb : List (List (Int × Str))) (p : List Int) (above : Int) : Prop where
  heap : HeapFrom ltF (seekI (heldOf tb p above 8) 10 eight nine [] []) 0
  perm : (seekI (heldOf tb p above 8) 10 eight nine [] []).Perm (dueI p)
  few : (dueI p).length < 64
/-- the strings of the table -/
structure TabOk (tb : List (List (Int × Str))) : Prop where
  size : tb.length ≤ 1000
  join : ∀ m, JoinOk "" (fmChars m tb) = true
  ten : ∀ m, (Txt.join "" (fmChars m tb)).length = 10
theorem ltF_total {a b : Int × List Int} (h1 : ltF a b = false) (h2 : ltF b a = false) : a = b := by
  unfold ltF at h1 h2
  by_cases e : a.1 = b.1
  · rw [if_pos e] at h1; rw [if_pos e.symm] at h2
    exact Prod.ext e (lexI_total _ _ h1 h2)
  · rw [if_neg e] at h1; rw [if_neg (Ne.symm e)] at h2
    simp only [decide_eq_false_iff_not] at h1 h2
    exact absurd (by omega) e
inductive DrJ (prog : Program) (w : World) (news : List (Addr × Obj)) (pA fD tD : Addr) (pvs : List Value) (pk : Nat) (p : List Int) (k : Nat) (ρ' : Str → Option Value) (news' : List (Addr × Obj)) : Prop
  | mk (fl tl : List (Int × List Int)) (fvs : List Value) (fk : Nat) (tvs : List Value) (tk : Nat) (e : k = fl.length) (k1 : ρ' (Str.ofString "found") = some (.ref fD)) (k2 : ρ' (Str.ofString "told") = some (.ref tD)) (k3 : ρ' (Str.ofString "pieces") = some (.ref pA)) (hp : (pA, listOf pvs.toArray pk) ∈ news') (hf : (fD, listOf fvs.toArray fk) ∈ news') (hfr : Rels ((kinF.kind prog w).Rel news') fvs fl)
      (ht : (tD, listOf tvs.toArray tk) ∈ news') (htr : Rels ((kinF.kind prog w).Rel news') tvs tl) (H : HeapFrom ltF fl 0) (pm : (tl ++ fl).Perm (dueI p)) (pw : tl.Pairwise (fun a b => ltF b a = false)) (ab : ∀ x ∈ tl, ∀ y ∈ fl, ltF y x = false) (sub : ∀ q ∈ news, q ∈ news') : DrJ prog w news pA fD tD pvs pk p k ρ' news'
section
variable {prog : Program} {w : World} {A : Around} {base : Heap} {tab : List (Str × Option Value)} {K : Frag} {C pI pF fI fT fN fFil fPush fPop fHeap fUp fDown fSeek : Addr} {news : List (Addr × Obj)}
theorem i_strS {R : Addr → Obj → Prop} {Fs : List Env} {env : Env} {own : List Addr} {Av : Addr → Prop} {z : Shared} {ρ : Str → Option Value} {s : Shared} {E : Value → Shared → Prop} {value slice : Expr} {x : Str} {t u : Tok} {n : Nat} {i : Int} {Q : Value → Shared → Prop} (S : St base R Fs env own Av z ρ news s) (hk : x.length = n) (h0 : 0 ≤ i) (h1 : i < n) (hn : n ≤ 1000)
    (h : ∀ t s', St base R Fs env own Av z ρ news s' → Q (.str (Txt.item x i) t) s')
    (hs : subscripted slice false (.str x t) (.int i u) = operate [.str x t, .int i u] (getItem (.str x t) (.int i u)) := by with_unfolding_all rfl)
    (ht : ∀ r, letTemporaryGo value (.str x t) r = pure () := by intro _; with_unfolding_all rfl) : wpAny (model prog w) A (subscriptTail value slice (.str x t) (.int i u)) Q E s :=
  KXi.item hk (by omega) h1 (by omega) (fun _ => h _ _ (S.tok _)) hs ht
theorem law_con {f l fPie fMo fIf fDue : Addr} {vs : List Value} {n : Nat} {ns : List Int} {tv : Value} {tb : List (List (Int × Str))} (B : Fns base tab K C pI pF fI fT fN fFil fPush fPop fHeap fUp fDown fSeek)
    (F : FnP base tab "law" f) (Fp : FnP base tab "_law_pieces" fPie) (Fm : FnP base tab "filemode" fMo) (Fi : FnP base tab "S_IFMT" fIf) (Fd : FnP base tab "_law_due" fDue) (te : TB tab "enumerate") (ts : TB tab "sum") (tl : TB tab "list")
    (tt : tab.lookup (Str.ofString "_filemode_table") = some (some tv)) (T : TableAt base tv tb) (ok : TabOk tb) (rm : Room A 130)
    (hl : (l, listOf vs.toArray n) ∈ news) (hi : IntsAre vs ns) (hz : vs.length ≤ 1000)
    (plain : ∀ a b d e m, In512 a → In512 b → In512 d → In512 e → Plain tb (piecesOf a b d e) m) :
    Con prog w base A (.ref f) [.ref l] [] news (fun r _ => r = .bool true) := by
  have e : fnOfP "law" = fnOfP "law" := rfl
  conv at e => rhs; whnf
  unfold FnP at F
  rw [e] at F
  clear e
  dsimp only at F
  refine Con.ofFn (binds := [(Str.ofString "script", .ref l)]) F B.G rm (by rfl) (by rfl) (by rfl) (fun _ _ _ => by rfl) (by rfl) (by rfl) (by decide) (fun a m => by cases m) ?_
  clear F
  intro z s A R Fs L Av cdv rm hfr mu S
  have G := B.G
  have trange := B.trange
  have tlen := B.tlen
  have hun : ∀ {B : Around}, Room B 129 → B.units + 20 < cLine := fun {B} rm => by
    have := rm.units
    show B.units + 20 < 9900
    omega
  repeat' walk_at "m"
  refine k_call S G Fp (List.cons_ne_nil _ _) ?_
  repeat' walk_at "m"
  refine CallTo.mk (X := []) S hfr (pieces_con Fp G ts (rm.mono (by omega)) hl hi hz) ((fun a m => by cases m)) ?_
  rintro r s1 news1 S1 sub1 ⟨pA, pvs, pk, pa, pb, pd, pe, hr1, hpA, Dp, ia, ib, id, ie⟩
  subst hr1
  have P := plain pa pb pd pe (51 + ns.sum) ia ib id ie
  have hp8 : (piecesOf pa pb pd pe).length = 8 := by rfl
  generalize piecesOf pa pb pd pe = p at Dp P hp8
  have sb1 : ∀ q ∈ news, q ∈ news1 := fun q hq => sub1 q hq (by simp)
  repeat' walk_at "m"
  rename St _ _ _ _ _ _ _ _ _ _ => S2
  refine d_sum S2 rm.hh (sb1 _ hl) hi ?_
  intro t3 s3 S3
  repeat' walk_at "m"
  rename St _ _ _ _ _ _ _ _ _ _ => S4
  refine d_list (base := base) ?_
  repeat' walk_at "m"
  refine DispTo.mk S4 (by simp) ?_
  intro hA s5 muH nH S5
  have bA : base.get? hA = none := S5.none muH
  have nHa : ∀ q ∈ news1, q.1 ≠ hA := nH
  repeat' walk_at "m"
  rename St _ _ _ _ _ _ _ _ _ _ => S6
  refine r_range S6 ?_
  intro rg t5 u5 v5 s7 muR nR S7
  repeat' walk_at "m"
  refine for_range (n := 8) (J := fun i ρ' news' => (∀ q ∈ news1, q ∈ news') ∧ (∃ ta, ρ' (Str.ofString "above") = some (.int (51 + ns.sum) ta)) ∧ ρ' (Str.ofString "pieces") = some (.ref pA) ∧ ρ' (Str.ofString "held") = some (.ref hA) ∧ ∃ hvs hk, (hA, listOf hvs.toArray hk) ∈ news' ∧ DatAll (news'.filter fun q => decide (q.1 ≠ hA)) hvs ((heldOf tb p (51 + ns.sum) i).map dI))
    S7 rm.hh (S7.get (.head _)) (by decide) (by decide) ⟨fun q hq => by walk_at "mem", ⟨_, by walk_at "look"⟩, by walk_at "look", by walk_at "look", [], _, .tail _ (.head _), .nil⟩ ?_ ?_
  · rintro i t ρ₁ news₁ R' Av' s₁ hi8 T₁ Q₁ hQ₁ ⟨sb, ⟨ta, k1⟩, k2, k3, hvs, hk, hhA, Dh⟩ S₁
    obtain ⟨pv, hpv, dpv⟩ := datAll_to (f := Dat.int) Dp (i := i) (x := p.getD i 0) (by rw [List.getD_eq_getElem?_getD, List.getElem?_eq_getElem (by omega)]; rfl)
    obtain ⟨tp, rfl⟩ := datInt dpv
    have hpv' : pvs.toArray[((0 : Int) + (i : Int)).toNat]? = some (.int (p.getD i 0) tp) := by rw [List.getElem?_toArray]; rw [show ((0 : Int) + (i : Int)).toNat = i by omega]; exact hpv
    repeat' walk_at "m"
    rename St _ _ _ _ _ _ _ _ _ _ => S8
    refine k_call S8 G Fm (List.cons_ne_nil _ _) ?_
    repeat' walk_at "m"
    refine i_list S8 (sb _ hpA) (by omega) (by omega) hpv' ?_
    repeat' walk_at "m"
    rw [Int.zero_add]
    rename St _ _ _ _ _ _ _ _ _ _ => S8
    refine CallTo.mk (X := []) S8 hfr (filemode_con Fm Fi G te tt T ok.size (ok.join _) (rm.mono (by omega))) ((fun a m => by cases m)) ?_
    rintro r s9 news9 S9 sub9 ⟨tr, hr9⟩
    subst hr9
    have sb9 : ∀ q ∈ news₁, q ∈ news9 := fun q hq => sub9 q hq (by simp)
    have hten := ok.ten (p.getD i 0 + 512 * ((77 * (i : Int) + (51 + ns.sum)) % 128))
    generalize hrow : Txt.join "" (fmChars (p.getD i 0 + 512 * ((77 * (i : Int) + (51 + ns.sum)) % 128)) tb) = row at hten S9
    repeat' walk_at "m"
    refine stC S9 (by rfl) (by rfl) (.tail _ (.head _)) ?_
    intro s10 S10
    repeat' walk_at "m"
    refine k_meth PySem.F.plainAttrs_list PySem.F.slot_list_append PySem.F.type_list_append (List.cons_ne_nil _ _) ?_
    repeat' walk_at "m"
    refine ⟨hA, hvs.toArray, hk, rfl, S10.get (sb9 _ hhA), ?_⟩
    repeat' walk_at "m"
    refine comp_eval S10 (by rfl) (by decide) (by rfl) ?_
    repeat' walk_at "m"
    rename St _ _ _ _ _ _ _ _ _ _ => S11
    refine r_range2 S11 ?_
    intro rg2 t6 u6 v6 s12 muR2 nR2 S12
    repeat' walk_at "m"
    refine comp_range (n := 9) (J := fun j zs news' => (∀ q ∈ news9, q ∈ news') ∧ DatAll [] zs (((((List.range 9).map fun (i : Nat) => (1 + (i : Int))).take j).filter fun q => Txt.contains (Str.ofString "rwxst") (Txt.item row q)).map .int))
      S12 rm.hh (S12.get (.head _)) (by decide) (by decide) (by rfl) (by decide) (by rfl) (by rw [sizeLine_eq]; omega) ⟨fun q hq => .tail _ hq, .nil⟩ ?_ ?_ ?_
    · rintro j tj hj zs C2 R2 Av2 ρ₂ news₂ s13 K₁ hK₁ ⟨sb2, dz⟩ hfre2 hR2 hA2 S13
      have lk1 : ρ₂ (Str.ofString "row") = some (.str row tr) := (hfre2 _ (by decide)).trans (by walk_at "look")
      repeat' walk_at "m"
      refine ifs_one ?_
      repeat' walk_at "m"
      rename St _ _ _ _ _ _ _ _ _ _ => S14
      refine i_strS S14 hten (by omega) (by omega) (by decide) ?_
      intro t7 s15 S15
      repeat' walk_at "m"
      refine PySem.SB.contains ?_
      have ej : ((List.range 9).map fun (i : Nat) => (1 + (i : Int)))[j]? = some (1 + (j : Int)) := by
        rw [List.getElem?_map, List.getElem?_range (by omega)]; rfl
      repeat' walk_at "m"
      rename St _ _ _ _ _ _ _ _ _ _ => S16
      by_cases hc : Txt.contains (Str.ofString "rwxst") (Txt.item row (1 + (j : Int))) = true
      · rw [hc]
        repeat' walk_at "m"
        refine ⟨_, _, S16, fun x hx => ?_, sb2, ?_⟩
        · exact (up_ne (by rintro rfl; revert hx; decide)).trans (hfre2 x hx)
        · rw [take_ext ej, List.filter_append, List.map_append, List.filter_cons, if_pos hc]
          exact dz.append (.cons (.int _ _) .nil)
      · rw [Bool.eq_false_iff.mpr hc]
        repeat' walk_at "m"
        refine ⟨_, _, S16, fun x hx => ?_, sb2, ?_⟩
        · exact (up_ne (by rintro rfl; revert hx; decide)).trans (hfre2 x hx)
        · rw [take_ext ej, List.filter_append, List.filter_cons, if_neg hc, List.filter_nil, List.append_nil]
          exact dz
    · rintro j zs news' ⟨_, dz⟩
      rw [dz.length, List.length_map]
      exact Nat.le_trans (List.length_filter_le _ _) (by rw [List.length_take]; omega)
    · refine kdone_eval ?_
      rintro D4 zs news' s' ⟨sb2, dz⟩ S13 nD4 muD4
      repeat' walk_at "m"
      have lhv : hvs.length = i := by rw [Dh.length]; simp [heldOf]
      have nrg : hA ≠ rg := nR (hA, _) (.head _)
      refine l_append S13 (.tail _ (sb2 _ (sb9 _ hhA))) (T₁.mu hA muH (S13.led _ (.tail _ (sb2 _ (sb9 _ hhA)))).2 (by simpa using nrg)) (by omega) ?_
      intro n' s14 S14
      repeat' walk_at "m"
      refine ⟨_, _, S14, fun q hq => setN_ne (.tail _ (sb2 _ (sb9 _ (sb q hq)))) (nHa q hq), ⟨ta, by walk_at "look"⟩, by walk_at "look", by walk_at "look", hvs ++ [.ref D4], n', setN_self (.tail _ (sb2 _ (sb9 _ hhA))), ?_⟩
      have nD4A : D4 ≠ hA := Ne.symm (nD4 _ (sb2 _ (sb9 _ hhA)))
      have er : heldOf tb p (51 + ns.sum) (i + 1) = heldOf tb p (51 + ns.sum) i ++ [rowPl tb (modeOf p (51 + ns.sum) i)] := by
        unfold heldOf; rw [List.range_succ, List.map_append]; rfl
      rw [er, List.map_append]
      refine (Dh.mono fun q hq => ?_).append (.cons ?_ .nil)
      · obtain ⟨h1, h2⟩ := List.mem_filter.mp hq
        have h2' : q.1 ≠ hA := by simpa using h2
        exact List.mem_filter.mpr ⟨setN_ne (.tail _ (sb2 _ (sb9 _ h1))) h2', h2⟩
      · have h3 : (D4, listOf zs.toArray zs.length) ∈ (setN hA (listOf (hvs ++ [Value.ref D4]).toArray n') ((D4, listOf zs.toArray zs.length) :: news')).filter fun q => decide (q.1 ≠ hA) := List.mem_filter.mpr ⟨setN_ne (.head _) nD4A, by simpa using nD4A⟩
        refine .list h3 ?_
        rw [List.take_of_length_le (by simp)] at dz
        unfold rowPl modeOf
        rw [hrow]
        exact dz.mono fun q hq => by cases hq
  · rintro ρ₁ news₁ s₁ ⟨sb, ⟨ta, k1⟩, k2, k3, hvs, hk, hhA, Dh⟩ S₁
    repeat' walk_at "m"
    refine d_list (base := base) ?_
    repeat' walk_at "m"
    refine DispTo.mk S₁ (by simp) ?_
    intro fD s2 muF nF S2
    repeat' walk_at "m"
    rename St _ _ _ _ _ _ _ _ _ _ => S3
    refine k_call S3 G B.seek (List.cons_ne_nil _ _) ?_
    repeat' walk_at "m"
    rename St _ _ _ _ _ _ _ _ _ _ => S4
    refine r_range S4 ?_
    intro r1 t1 u1 v1 s5 mu1 n1 S5
    repeat' walk_at "m"
    refine d_listRange (n := 8) S5 rm.hh (.head _) (by rfl) (by omega) (by decide) (by decide) ?_
    intro D1 ws1 c1 s6 muD1 nD1 d1 S6
    repeat' walk_at "m"
    rename St _ _ _ _ _ _ _ _ _ _ => S7
    refine r_range2 S7 ?_
    intro r2 t2 u2 v2 s8 mu2 n2 S8
    repeat' walk_at "m"
    refine d_listRange (n := 9) S8 rm.hh (.head _) (by rfl) (by omega) (by decide) (by decide) ?_
    intro D2 ws2 c2 s9 muD2 nD2 d2 S9
    repeat' walk_at "m"
    refine d_list (base := base) ?_
    repeat' walk_at "m"
    refine DispTo.mk S9 (by simp) ?_
    intro D3 s10 muD3 nD3 S10
    repeat' walk_at "m"
    generalize hE : (D3, listOf [].toArray 0) :: (D2, listOf ws2.toArray c2) :: (r2, rangeObj 1 10 t2 u2 v2) :: (D1, listOf ws1.toArray c1) :: (r1, rangeObj 0 8 t1 u1 v1) :: (fD, listOf [].toArray 0) :: news₁ = newsE at S10
    have bF : base.get? fD = none := S2.none muF
    have mD1 : (D1, listOf ws1.toArray c1) ∈ newsE := by rw [← hE]; walk_at "mem"
    have mD2 : (D2, listOf ws2.toArray c2) ∈ newsE := by rw [← hE]; walk_at "mem"
    have mD3 : (D3, listOf [].toArray 0) ∈ newsE := by rw [← hE]; walk_at "mem"
    have mfD : (fD, listOf [].toArray 0) ∈ newsE := by rw [← hE]; walk_at "mem"
    have m1 : ∀ q ∈ news₁, q ∈ newsE := fun q hq => by rw [← hE]; walk_at "mem"
    have e1 : D1 ≠ fD := Ne.symm (nD1 (fD, _) (.tail _ (.head _)))
    have e2 : D2 ≠ fD := Ne.symm (nD2 (fD, _) (.tail _ (.tail _ (.tail _ (.head _)))))
    have e3 : D3 ≠ fD := Ne.symm (nD3 (fD, _) (.tail _ (.tail _ (.tail _ (.tail _ (.head _))))))
    have hN : ∀ q ∈ newsE, q.1 ≠ fD → q ∈ newsE.filter fun q => decide (q.1 ≠ fD) := fun q hq hn => List.mem_filter.mpr ⟨hq, by simpa using hn⟩
    have eh : eight.map Dat.int = (List.range 8).map fun (i : Nat) => .int (0 + (i : Int)) := by rfl
    have en : nine.map Dat.int = (List.range 9).map fun (i : Nat) => .int (1 + (i : Int)) := by rfl
    have lH : (heldOf tb p (51 + ns.sum) 8).length = 8 := by simp [heldOf]
    have Df : DatIn (newsE.filter fun q => decide (q.1 ≠ fD)) (.ref D1) (dI eight) := .list (hN _ mD1 e1) (by rw [eh]; exact d1.mono fun q hq => by cases hq)
    have Dr : DatIn (newsE.filter fun q => decide (q.1 ≠ fD)) (.ref D2) (dI nine) := .list (hN _ mD2 e2) (by rw [en]; exact d2.mono fun q hq => by cases hq)
    have Dc : DatIn (newsE.filter fun q => decide (q.1 ≠ fD)) (.ref D3) (dI []) := .list (hN _ mD3 e3) .nil
    have Dhh : DatIn (newsE.filter fun q => decide (q.1 ≠ fD)) (.ref hA) (.list ((heldOf tb p (51 + ns.sum) 8).map dI)) := .list (hN _ (m1 _ hhA) (nF _ hhA)) (Dh.mono fun q hq => by
      have := (List.mem_filter.mp hq).1
      exact hN _ (m1 _ this) (nF _ this))
    have hsz : (seekI (heldOf tb p (51 + ns.sum) 8) 10 eight nine [] []).length ≤ 900 := by
      rw [P.perm.length_eq]; have := P.few; omega
    have hfi : ∀ g ∈ eight, 0 ≤ g ∧ g < ((heldOf tb p (51 + ns.sum) 8).length : Int) := fun g hg => by
      rw [lH]
      unfold eight at hg
      obtain ⟨j, hj, rfl⟩ := List.mem_map.mp hg
      have := List.mem_range.mp hj
      omega
    have hhl : ∀ h ∈ heldOf tb p (51 + ns.sum) 8, h.length ≤ 100 := fun h hh => by
      unfold heldOf at hh
      obtain ⟨j, _, rfl⟩ := List.mem_map.mp hh
      unfold rowPl
      refine Nat.le_trans (List.length_filter_le _ _) ?_
      simp
    refine CallTo.mk (X := [fD]) S10 hfr (seek_con (news := newsE) (news₀ := newsE.filter fun q => decide (q.1 ≠ fD)) (acc := []) (vs := []) (k := 0) B (by rw [lH]; decide) 10 (rm.mono (by omega)) (by decide) (by decide) (by decide) hfi hhl Df Dhh Dr Dc (fun q hq => by have := List.mem_filter.mp hq; exact ⟨this.1, by simpa using this.2⟩) mfD bF Rels.nil hsz) (fun a m => by rw [List.mem_singleton.mp m]; exact ⟨⟨_, mfD⟩, muF⟩) ?_
    rintro r s11 news11 S11 sub11 ⟨fvs, fk, hfm, hfrel⟩
    repeat' walk_at "m"
    refine d_list (base := base) ?_
    repeat' walk_at "m"
    refine DispTo.mk S11 (by simp) ?_
    intro tD s12 muT nT S12
    repeat' walk_at "m"
    rename St _ _ _ _ _ _ _ _ _ _ => S13
    have hpA11 : (pA, listOf pvs.toArray pk) ∈ news11 := sub11 _ (m1 _ (sb _ hpA)) (by simpa using nF _ (sb _ hpA))
    have ntf : tD ≠ fD := Ne.symm (nT _ hfm)
    have Ph := P.heap
    have Pp := P.perm
    have Pf := P.few
    clear hsz hN Df Dr Dc Dhh hfi hhl lH eh en
    generalize seekI (heldOf tb p (51 + ns.sum) 8) 10 eight nine [] [] = L0 at hfrel Ph Pp
    refine while_ (J := DrJ prog w news pA fD tD pvs pk p) L0.length S13
      ⟨_, [], fvs, fk, [], 0, rfl, by walk_at "look", by walk_at "look", by walk_at "look", .tail _ hpA11, .tail _ hfm, hfrel.mono fun v d h => (kinF.kind prog w).mono h fun q hq _ => .tail _ hq, .head _, Rels.nil, Ph, by rw [List.nil_append]; exact Pp, List.Pairwise.nil, (fun x hx => by cases hx), fun q hq => .tail _ (sub11 _ (m1 _ (sb _ (sb1 _ hq))) (by simpa using nF _ (sb _ (sb1 _ hq))))⟩ ?_
    rintro k ρ' news' s' Q₁ hQ₁ ⟨fl, tl, fvs, fk, tvs, tk, rfl, k1, k2, k3, hpA', hf, hfrel, ht, htrel, H, pm, pw, ab, sbn⟩ S14
    have lfl : tl.length + fl.length < 64 := by have := pm.length_eq; rw [List.length_append] at this; have := P.few; omega
    have lfv : fvs.length = fl.length := hfrel.1
    have ltv : tvs.length = tl.length := htrel.1
    repeat' walk_at "m"
    refine d_list (base := base) ?_
    repeat' walk_at "m"
    refine DispTo.mk S14 (by simp) ?_
    intro D5 s15 mu5 n5 S15
    repeat' walk_at "m"
    have k5 : ∀ l : List (Int × List Int), kqdOk 6 (.list (l.map kinF.enc)) = true := fun l => by
      rw [kqdOk, List.all_map, List.all_eq_true]
      intro x _
      show kqdOk 5 (.tuple [.int x.1, .tuple (x.2.map .int)]) = true
      simp only [kqdOk, List.all_cons, List.all_nil, Bool.and_true, Bool.true_and]
      exact ints_ok 3 x.2
    refine d_ne (d₁ := .list (fl.map kinF.enc)) (d₂ := .list []) S15 (.list (.tail _ hf) (of_rels (hfrel.mono fun v d h => (kinF.kind prog w).mono h fun q hq _ => .tail _ hq))) (.list (.head _) .nil) (k5 _) (by rfl) (hun rm) ?_
    have deqF : deq (.list (fl.map kinF.enc)) (.list []) = decide (fl = []) := by
      have := deq_eq (n := 6) (d := .list (fl.map kinF.enc)) (e := .list []) (k5 _) (by rfl)
      by_cases h : fl = []
      · rw [this.mpr (by rw [h]; rfl)]; simp [h]
      · have h2 : ¬ deq (.list (fl.map kinF.enc)) (.list []) = true := fun q => h (by have := this.mp q; injection this with q2; simpa using q2)
        rw [Bool.eq_false_iff.mpr h2]; simp [h]
    rw [deqF]
    clear deqF
    have hcase : fl = [] ∨ ∃ fl' d, fl = fl' ++ [d] := by
      rcases List.eq_nil_or_concat fl with h | ⟨fl', d, h⟩
      · exact .inl h
      · exact .inr ⟨fl', d, by rw [h, List.concat_eq_append]⟩
    rcases hcase with rfl | ⟨fl', d, rfl⟩
    · rw [decide_eq_true rfl, Bool.not_true]
      repeat' walk_at "m"
      rename St _ _ _ _ _ _ _ _ _ _ => S16
      refine k_call S16 G Fd (List.cons_ne_nil _ _) ?_
      repeat' walk_at "m"
      refine CallTo.mk (X := []) S16 hfr (due_con (p := p) Fd G trange tlen B.tsorted (rm.mono (by omega)) (.tail _ hpA') Dp hp8 Pf) ((fun a m => by cases m)) ?_
      rintro r s18 news18 S18 sub18 ⟨dD, dws, dk, ds, hr18, hm18, D18, pm18, pw18⟩
      subst hr18
      repeat' walk_at "m"
      rw [List.append_nil] at pm
      have tds : tl = ds := (pm.trans pm18.symm).eq_of_pairwise (fun a b _ _ h1 h2 => ltF_total h2 h1) pw pw18
      subst tds
      refine d_eq (d₁ := .list (tl.map kinF.enc)) (d₂ := .list (tl.map kinF.enc)) S18 (.list (sub18 _ (.tail _ ht) (by simp)) (of_rels (htrel.mono fun v d h => (kinF.kind prog w).mono h fun q hq _ => sub18 _ (.tail _ hq) (by simp)))) (.list hm18 D18) (k5 _) (k5 _) (hun rm) ?_
      rw [(deq_eq (n := 6) (k5 _) (k5 _)).mpr rfl]
      repeat' walk_at "m"
      exact ⟨_, _, S18, fun q hq _ => sub18 _ (.tail _ (sbn q hq)) (by simp), rfl⟩
    · rw [decide_eq_false (by simp), Bool.not_false]
      rw [List.length_append, List.length_singleton] at lfl lfv
      repeat' walk_at "m"
      refine k_meth PySem.F.plainAttrs_list PySem.F.slot_list_append PySem.F.type_list_append (List.cons_ne_nil _ _) ?_
      repeat' walk_at "m"
      rename St _ _ _ _ _ _ _ _ _ _ => S16
      refine ⟨tD, tvs.toArray, tk, rfl, S16.get (.tail _ ht), ?_⟩
      repeat' walk_at "m"
      refine k_call S16 G B.pop (List.cons_ne_nil _ _) ?_
      repeat' walk_at "m"
      have nl := S16.notL (.tail _ hf)
      refine CallTo.mk (X := [fD]) S16 hfr (heappop_con (kinF.kind prog w) (ds := fl') (d := d) B.pop B.up B.down G tlen (rm.mono (by omega)) (.tail _ hf) bF (hfrel.mono fun v d h => (kinF.kind prog w).mono h fun q hq _ => .tail _ hq) (by omega)) (fun a m => by rw [List.mem_singleton.mp m]; exact ⟨⟨_, .tail _ hf⟩, muF⟩) ?_
      rintro r s17 news17 S17 sub17 ⟨fvs', fk', hf', hfrel', hr'⟩
      have klt : (kinF.kind prog w).lt = ltF := by funext a b; exact kinF_lt a b
      rw [klt] at hfrel' hr'
      have ht17 : (tD, listOf tvs.toArray tk) ∈ news17 := sub17 _ (.tail _ ht) (by simpa using ntf)
      have sb17 : ∀ q ∈ news', q.1 ≠ fD → q ∈ news17 := fun q hq hn => sub17 _ (.tail _ hq) (by simpa using hn)
      repeat' walk_at "m"
      refine l_append S17 ht17 muT (by omega) ?_
      intro n' s18 S18
      have tp := S17.tups ht17 (listOf (tvs ++ [r]).toArray n')
      repeat' walk_at "m"
      obtain ⟨H', pm', least⟩ := heappop_spec ordF H
      have npA : pA ≠ fD := nF (pA, _) (sb _ hpA)
      have npT : pA ≠ tD := nT (pA, _) hpA11
      refine ⟨_, _, _, S18, ⟨(heappop ltF fl' d).2, tl ++ [(heappop ltF fl' d).1], fvs', fk', tvs ++ [r], n', rfl, by walk_at "look", by walk_at "look", by walk_at "look", setN_ne (sb17 _ hpA' npA) npT, setN_ne hf' (Ne.symm ntf), hfrel'.mono fun v d h => (kinF.kind prog w).mono h tp, setN_self ht17, (htrel.mono fun v d h => (kinF.kind prog w).mono h fun q hq hc => tp q (sb17 q hq (nl q (.tail _ hq) hc)) hc).append (Rels.one ((kinF.kind prog w).mono hr' tp)), H', ?_, ?_, ?_, ?_⟩, ?_⟩
      · refine List.Perm.trans ?_ pm
        rw [List.append_assoc]
        exact List.Perm.append_left _ pm'
      · rw [List.pairwise_append]
        refine ⟨pw, List.pairwise_singleton _ _, fun x hx y hy => ?_⟩
        rw [List.mem_singleton.mp hy]
        exact ab x hx _ (pm'.mem_iff.mp List.mem_cons_self)
      · intro x hx y hy
        have hy' := pm'.mem_iff.mp (List.mem_cons_of_mem _ hy)
        rcases List.mem_append.mp hx with hx | hx
        · exact ab x hx y hy'
        · rw [List.mem_singleton.mp hx]; exact least y hy'
      · intro q hq
        have h11 := sub11 _ (m1 _ (sb _ (sb1 _ hq))) (by simpa using nF _ (sb _ (sb1 _ hq)))
        exact setN_ne (sb17 q (sbn q hq) (nF _ (sb _ (sb1 _ hq)))) (nT q h11)
      · have := pm'.length_eq
        rw [List.length_cons] at this
        omega
end
end
set_option Elab.async false
set_option maxRecDepth 100000
section
theorem hasO (x : Nat) (hx : x = 114 ∨ x = 119) (b : Bool) : Txt.contains (Str.ofString "rwxst") ⟨#[oC x b]⟩ = b := by
  rcases hx with rfl | rfl <;> cases b <;> decide +kernel
theorem hasX (s S : Nat) (hx : s = 115 ∧ S = 83 ∨ s = 116 ∧ S = 84) (e m : Bool) : Txt.contains (Str.ofString "rwxst") ⟨#[xC s S 120 e m]⟩ = e := by
  rcases hx with ⟨rfl, rfl⟩ | ⟨rfl, rfl⟩ <;> cases e <;> cases m <;> decide +kernel
theorem rowPl_bits {x m : Int} (hx : In512 x) (hm : 0 ≤ m) : rowPl fmTab (x + 512 * m) = bitsI x := by
  unfold In512 at hx
  have tb : ∀ i, i < 9 → (x.toNat + 512 * m.toNat).testBit i = x.toNat.testBit i := fun i hi => by
    have := Nat.testBit_two_pow_mul_add (i := 9) m.toNat (b := x.toNat) (by omega) i
    rw [if_pos hi, show 2 ^ 9 * m.toNat + x.toNat = x.toNat + 512 * m.toNat by omega] at this
    exact this
  rw [show x + 512 * m = ((x.toNat + 512 * m.toNat : Nat) : Int) by omega]
  generalize x.toNat + 512 * m.toNat = N at tb
  obtain ⟨k, _, hk⟩ := fm_str N
  unfold rowPl bitsI
  rw [hk]
  refine List.filter_congr fun q hq => ?_
  obtain ⟨i, hi, rfl⟩ := List.mem_map.mp hq
  have h9 : i < 9 := List.mem_range.mp hi
  match i, h9 with
  | 0, _ => exact (hasO 114 (.inl rfl) _).trans (tb 8 (by decide))
  | 1, _ => exact (hasO 119 (.inr rfl) _).trans (tb 7 (by decide))
  | 2, _ => exact (hasX 115 83 (.inl ⟨rfl, rfl⟩) _ _).trans (tb 6 (by decide))
  | 3, _ => exact (hasO 114 (.inl rfl) _).trans (tb 5 (by decide))
  | 4, _ => exact (hasO 119 (.inr rfl) _).trans (tb 4 (by decide))
  | 5, _ => exact (hasX 115 83 (.inl ⟨rfl, rfl⟩) _ _).trans (tb 3 (by decide))
  | 6, _ => exact (hasO 114 (.inl rfl) _).trans (tb 2 (by decide))
  | 7, _ => exact (hasO 119 (.inr rfl) _).trans (tb 1 (by decide))
  | 8, _ => exact (hasX 116 84 (.inr ⟨rfl, rfl⟩) _ _).trans (tb 0 (by decide))
theorem held_bits {p : List Int} {m : Int} (hp : ∀ f, In512 (P p f)) (f : Int) (h0 : 0 ≤ f) (h8 : f < 8) : heldAt (heldOf fmTab p m 8) f = bitsI (P p f) := by
  unfold heldAt heldOf
  have e : ((List.range 8).map fun k => rowPl fmTab (modeOf p m k)).getD f.toNat [] = rowPl fmTab (modeOf p m f.toNat) := by
    rw [getD_map (d := 0) (by simp; omega), gD_at (by simp; omega), List.getElem_range]
  rw [e]
  unfold modeOf
  exact rowPl_bits (hp f) (by omega)
theorem plain01 (a b d e m : Int) (ha : In512 a) (hb : In512 b) (hd : In512 d) (he : In512 e) : Plain fmTab (piecesOf a b d e) m := by
  obtain ⟨hp, hs, h7⟩ := pieces_ok ha hb hd he
  obtain ⟨h1, h2⟩ := law_perm hp (fun f h0 h8 => held_bits (m := m) hp f h0 h8)
  refine ⟨h1, h2, ?_⟩
  have al : ∀ i : Nat, i < 6 → (i : Int) ∈ (List.range 8).map fun (j : Nat) => (0 + (j : Int)) := fun i hi => ints_range.mpr (by omega)
  have hh : ∀ f ∈ (List.range 8).map (fun (j : Nat) => (0 + (j : Int))), heldAt (heldOf fmTab (piecesOf a b d e) m 8) f = bitsI (P (piecesOf a b d e) f) := fun f hf => by
    have := ints_range.mp hf
    exact held_bits hp f this.1 this.2
  have hA : ∀ c ∈ duAll (piecesOf a b d e) 6, In512 c.2 := fun c hc => by
    obtain ⟨_, _, G, e'⟩ := (du_mem hp hh 6 al c.1 c.2).mp hc
    rw [e']
    exact (gs_bits hp hh G).1
  have l1 := due_le (hp 6) h7 hA
  have l2 := five_le hs (hp 4)
  have l3 : (duAll (piecesOf a b d e) 6).length ≤ 62 := by
    rw [duAll, duStep]
    split
    · omega
    · rw [List.length_append, List.length_map]
      have := List.length_filter_le (fun c : List Int × Int => decide (Builtin.bitAnd c.2 ((piecesOf a b d e).getD 5 0) = 0)) (duAll (piecesOf a b d e) 5)
      omega
  omega
theorem tabOk : TabOk fmTab := ⟨by decide, fm_joinOk, fm_len⟩
end
set_option Elab.async false
set_option maxRecDepth 100000
set_option maxHeartbeats 8000000
section
theorem funAt {K : Frag} {h : Heap} (X : K.In h) {nm qn : Str} {f : Addr} {a : Arguments} {b : List Stmt} {sc : Scope} {oc : Value} {od : Option Addr} {osl : Array (Option Value)} {pm cdv : Value} (ho : K.lookup f = some ⟨oc, od, .func (fnOf nm qn a b sc .none .none .none pm none cdv .none), osl⟩) (hc : codeIn K cdv qn = true) : FunAt h nm qn f a b sc :=
  ⟨oc, od, osl, pm, cdv, .none, X _ _ ho, codeRec_of X hc⟩
theorem pairAt {K : Frag} {h : Heap} (X : K.In h) {a : Addr} {i : Int} {t u : Tok} {x : Str} {k : Nat} (ho : K.lookup a = some (tupOf #[.int i t, .str x u] k)) : PairAt h (.ref a) (i, x) := ⟨a, t, u, k, rfl, X _ _ ho⟩
theorem row1 {K : Frag} {h : Heap} (X : K.In h) {r a : Addr} {k : Nat} {p : Int × Str} (ho : K.lookup r = some (tupOf #[.ref a] k)) (h1 : PairAt h (.ref a) p) : RowAt h (.ref r) [p] :=
  ⟨r, _, k, rfl, X _ _ ho, rfl, fun i x q hx hq => by
    match i with
    | 0 => cases hx; cases hq; exact h1
    | n + 1 => cases hq⟩
theorem row3 {K : Frag} {h : Heap} (X : K.In h) {r a b c : Addr} {k : Nat} {p q s : Int × Str} (ho : K.lookup r = some (tupOf #[.ref a, .ref b, .ref c] k)) (h1 : PairAt h (.ref a) p) (h2 : PairAt h (.ref b) q) (h3 : PairAt h (.ref c) s) : RowAt h (.ref r) [p, q, s] :=
  ⟨r, _, k, rfl, X _ _ ho, rfl, fun i x y hx hy => by
    match i with
    | 0 => cases hx; cases hy; exact h1
    | 1 => cases hx; cases hy; exact h2
    | 2 => cases hx; cases hy; exact h3
    | n + 3 => cases hy⟩
noncomputable def tabP : List (Str × Option Value) := [("filterfalse", some (.ref 47)), ("_filter", some (.ref 58)), ("heappush", some (.ref 65)), ("heappop", some (.ref 72)), ("heapify", some (.ref 79)), ("_siftdown", some (.ref 86)), ("_siftup", some (.ref 93)), ("S_IFMT", some (.ref 100)), ("_filemode_table", some (.ref 133)), ("filemode", some (.ref 140)), ("_law_pieces", some (.ref 147)), ("_law_seek", some (.ref 152)), ("_law_due", some (.ref 157)), ("law", some (.ref 162)), ("iter", none), ("next", none), ("bool", none), ("list", none), ("len", none), ("reversed", none), ("range", none), ("tuple", none), ("sorted", none), ("min", none), ("sum", none), ("enumerate", none)]
section
variable {P : Params} {h : Heap}
theorem ffP : Ff (kObjs P) 47 49 48 29 36 43 := by
  constructor <;> rfl
theorem tableP (X : Frag.In (kObjs P) h) : TableAt h (.ref 133) fmTab := by
  refine ⟨133, _, 0, rfl, X _ _ (by rfl), rfl, fun i x ps hx hps => ?_⟩
  match i with
  | 0 =>
    cases hx; cases hps
    refine ⟨108, _, 0, rfl, X _ _ (by rfl), rfl, fun i x y hx hy => ?_⟩
    match i with
    | 0 => cases hx; cases hy; exact pairAt X (by rfl)
    | 1 => cases hx; cases hy; exact pairAt X (by rfl)
    | 2 => cases hx; cases hy; exact pairAt X (by rfl)
    | 3 => cases hx; cases hy; exact pairAt X (by rfl)
    | 4 => cases hx; cases hy; exact pairAt X (by rfl)
    | 5 => cases hx; cases hy; exact pairAt X (by rfl)
    | 6 => cases hx; cases hy; exact pairAt X (by rfl)
    | n + 7 => cases hy
  | 1 => cases hx; cases hps; exact row1 X (by rfl) (pairAt X (by rfl))
  | 2 => cases hx; cases hps; exact row1 X (by rfl) (pairAt X (by rfl))
  | 3 => cases hx; cases hps; exact row3 X (by rfl) (pairAt X (by rfl)) (pairAt X (by rfl)) (pairAt X (by rfl))
  | 4 => cases hx; cases hps; exact row1 X (by rfl) (pairAt X (by rfl))
  | 5 => cases hx; cases hps; exact row1 X (by rfl) (pairAt X (by rfl))
  | 6 => cases hx; cases hps; exact row3 X (by rfl) (pairAt X (by rfl)) (pairAt X (by rfl)) (pairAt X (by rfl))
  | 7 => cases hx; cases hps; exact row1 X (by rfl) (pairAt X (by rfl))
  | 8 => cases hx; cases hps; exact row1 X (by rfl) (pairAt X (by rfl))
  | 9 => cases hx; cases hps; exact row3 X (by rfl) (pairAt X (by rfl)) (pairAt X (by rfl)) (pairAt X (by rfl))
  | n + 10 => cases hps
noncomputable def esP (P : Params) : Array DictEntry := match (kObjs P).lookup 3 with
  | some ⟨_, _, .dict es _, _⟩ => es
  | _ => #[]
theorem tabP_all (P : Params) : ∀ q ∈ tabP, nsFind (esP P) q.1 = q.2 := by
  unfold tabP
  iterate 26 refine List.forall_mem_cons.mpr ⟨rfl, ?_⟩
  intro q h
  cases h
theorem esP_at {P : Params} {o : Obj} {es : Array DictEntry} {ep : Nat} (h1 : (kObjs P).lookup 3 = some o) (h2 : o.data = .dict es ep) : es = esP P := by
  unfold esP
  rw [h1]
  cases o
  cases h2
  rfl
theorem obj3 (P : Params) : ∃ o es ep, (kObjs P).lookup 3 = some o ∧ o.data = .dict es ep := ⟨_, _, _, rfl, rfl⟩
theorem mgP {mg : Str → Option Value} (X : Frag.In (kObjs P) h) (g : h.Ns mainGlobals mg) (x : Str) (r : Option Value) (hx : tabP.lookup x = some r) : mg x = r := by
  obtain ⟨o, es, ep, ho, hd, _, hf⟩ := g
  obtain ⟨o', es', ep', h1, h2⟩ := obj3 P
  have h3 := X 3 o' h1
  rw [show mainGlobals = 3 from rfl, h3] at ho
  cases ho
  rw [← hf, esP_at h1 hd]
  exact tabP_all P _ (mem_of_lookup hx)
theorem gfP {mg mb : Str → Option Value} (X : Frag.In (kObjs P) h) (g : h.Ns mainGlobals mg) (b : h.Ns builtinsNs mb) (hb : ∀ x : Str, x ≠ "__name__" → mb x = bootBuiltins x) (lim : h.NoLimit) : GF h tabP :=
  ⟨⟨mg, mb, g, b, hb, mgP X g⟩, lim⟩
theorem fnT {p : Program} {loose : List Str} {mean : ExcName → Option Value} {mg mb : Str → Option Value} (T : Top p loose mean mg mb h) (X : Frag.In (kObjs P) h) {x : Str} {f : Addr} {a : Arguments} {b : List Stmt} {sc : Scope} {pos : Pos} (hx : tabP.lookup x = some (some (.ref f)))
    (hd : (recsOf p).find? (fun d => d.name == x) = some ⟨x, a, b, sc, pos⟩) : FnAt h tabP x f a b sc := by
  obtain ⟨a', o, pm, code, doc, h1, h2, h3, h4⟩ := T.fn _ (List.mem_of_find?_eq_some hd)
  have h5 : mg x = some (.ref f) := mgP X T.g x _ hx
  have h6 : mg x = some (.ref a') := h1
  rw [h5] at h6
  injection h6 with h6
  injection h6 with h6
  subst h6
  obtain ⟨oc, od, dt, osl⟩ := o
  dsimp only at h3
  subst h3
  exact ⟨hx, oc, od, osl, pm, code, doc, h2, h4⟩
end
theorem ref_inj {a b : Addr} (h : some (Value.ref a) = some (Value.ref b)) : a = b := by
  injection h with h
  injection h
theorem well_list {P : Params} {h : Heap} {a : Addr} {xs : List WData} (w : Well P h (.ref a) (.list xs)) : ∃ vs : List Value, h.get? a = some (listOf vs.toArray 0) := by
  cases w with
  | list h1 _ => exact ⟨_, h1⟩
theorem good_of {c : ClaimW} {cl : Str → Option Addr} {mean : ExcName → Option Value} {args : List WData} {s₁ s' : Shared} (hr : ∀ cls, c.raises args cls = false) (hp : c.post args (.bool true) args = true) (hg : s₁.gens = #[]) (sr : SR s₁ s') (k : Kp [] [] s₁.heap s'.heap) : GoodWG c cl mean args s₁ (.ok (.ret (.bool true))) s' :=
  GoodW.toG ⟨.inl ⟨_, _, _, rfl, hr, .bool true, hp, fun _ => ⟨List.nodup_nil, fun a m => by cases m⟩⟩, fun b o e => (k b o e (by simp)).get (by simp), sr.os, sr.gens.trans hg⟩
end
end
end Mine
open PySem PySem.W PySem.Calls PyProof.Rows
set_option maxRecDepth 100000 in
set_option maxHeartbeats 8000000 in
theorem PySem.Challenge.cw_kt0014_01_holds : PySem.Challenge.rw_kt0014_01.Holds := by
  w_on
  refine holds_law Mine.saidP fun said => ?_
  refine holds_open (q := Mine.viewP) (loose := Mine.looseP) (Xt := fun s => xlAt Mine.viewP [] s && recOk (RowW.records PySem.Challenge.rw_kt0014_01.row.toRowW) s) (XP := XL Mine.viewP []) (Yf := Mine.hookP.obs) (Ya := Mine.hookP.val) (YP := Mine.hookP.says) (N := 2246) Mine.leftP Mine.hookP.of Mine.hookP.keeps
    (fun s e => xl_of s (Bool.and_eq_true_iff.mp e).1) XL.keeps (by rfl) (by rfl) (by rfl) (fun s e => recFacts_of (Bool.and_eq_true_iff.mp e).2) (by rfl) (by first | assumption | decide +kernel) (by decide +kernel) ⟨rfl, rfl, rfl, rfl, rfl, by decide +kernel⟩ ?hw ?hc
  case hw => w_witness2
  intro w s₀ s₁ mg mb G Y fa o pm cd doc dV kV ho hd hcd hD hmg hg args vals as hpre hlay hrd hwl hlo
  have KX := kIn_of Y
  have GG := Mine.gfP KX G.T.g G.T.b G.T.builtins G.T.nolimit
  have fn := fun {x : Str} {f : Addr} {a : Arguments} {b : List Stmt} {sc : Scope} {pos : Pos} => Mine.fnT (x := x) (f := f) (a := a) (b := b) (sc := sc) (pos := pos) G.T KX
  have fns : Mine.Fns s₁.heap Mine.tabP (Mine.kObjs w.params) 47 49 48 29 36 43 58 65 72 79 93 86 152 :=
    ⟨⟨KX, Mine.ffP, rfl, Mine.funAt KX (by rfl) (by rfl), Mine.funAt KX (by rfl) (by rfl), Mine.funAt KX (by rfl) (by rfl), fn rfl rfl, rfl, rfl, rfl, rfl⟩, GG, fn rfl rfl, fn rfl rfl, fn rfl rfl, fn rfl rfl, fn rfl rfl, fn rfl rfl, rfl, rfl, rfl, rfl, rfl, rfl⟩
  have f1 : Mine.FnP s₁.heap Mine.tabP "law" 162 := fn rfl rfl
  have f2 : Mine.FnP s₁.heap Mine.tabP "_law_pieces" 147 := fn rfl rfl
  have f3 : Mine.FnP s₁.heap Mine.tabP "filemode" 140 := fn rfl rfl
  have f4 : Mine.FnP s₁.heap Mine.tabP "S_IFMT" 100 := fn rfl rfl
  have f5 : Mine.FnP s₁.heap Mine.tabP "_law_due" 157 := fn rfl rfl
  have hfa : fa = 162 := by
    have e1 : mg (Str.ofString "law") = some (.ref fa) := hmg
    have e2 : mg (Str.ofString "law") = some (.ref 162) := Mine.mgP KX G.T.g (Str.ofString "law") (some (.ref 162)) rfl
    exact Mine.ref_inj (e1.symm.trans e2)
  subst hfa
  clear fn ho hd hcd hD hmg G Y
  wrow_args hpre hlay hrd hwl hlo
  rename_i ns _ _ _ _ _ _ _ l vs _ hL _ w1 _ hI _ hc _
  obtain ⟨vs', hl'⟩ := Mine.well_list (xs := ofPys (ns.map PyData.int)) w1
  obtain ⟨o, hl, hcl, n, hda⟩ := hL
  rw [hl'] at hl
  cases hl
  injection hda with e1 e2
  have e3 : vs' = vs := by simpa using congrArg Array.toList e1
  subst e3
  have con := Mine.law_con (prog := PySem.Challenge.rw_kt0014_01.row.prog) (w := w) (A := callerA) (news := [(l, PySem.W.listOf vs'.toArray 0)]) fns f1 f2 f3 f4 f5 rfl rfl rfl rfl (Mine.tableP KX) Mine.tabOk ⟨rfl, by decide, by decide⟩ (.head _) hI (by have := hI.length; omega) Mine.plain01
  refine wpAny_mono (con [] s₁ (fun _ => False) _ rfl trivial (fun a m => by cases m) (fun _ _ e => e) (fun p hp => by rw [List.mem_singleton.mp hp]; exact ⟨hl', fun x => x⟩) (fun a m => m.elim) (fun r s' news' sr k _ _ hr => ?_)) (fun _ _ x => x) (fun _ _ x => x.elim)
  subst hr
  exact Mine.good_of (fun cls => by rfl) (by wrow_post) hg sr k
