import PyProof.Rows.All
import Wide.All
import OpenK.AllK
import Wide.FinOn
import PySem.Challenge.RW_bs0014_01
set_option Elab.async false

/-! ## HdTop -/
section
open PySem PySem.W PyProof.Rows
namespace Mine
local macro_rules | `(tactic| o_head ($_f $k $a $e)) => `(tactic| o_head (kmHook $k $a $e [265]))
set_option maxRecDepth 100000 in
set_option maxHeartbeats 8000000 in
open_top hd for PySem.Challenge.rw_bs0014_01
end Mine
end

/-! ## J0 -/
section
set_option maxRecDepth 100000
open PySem PySem.W PyProof.Rows
namespace Mine

abbrev TAB : Addr := 265

/-! ### ghost heaps -/
def nilObj : Obj := { cls := .none, data := .freed }
def sieve (h : Heap) (p : Addr → Bool) : Heap := ⟨h.objs.mapIdx fun i o => if p i then o else nilObj, h.life⟩
theorem sieve_get (h : Heap) (p : Addr → Bool) (a : Addr) : (sieve h p).get? a = if p a = true then h.get? a else none := by
  unfold sieve Heap.get?
  simp only [Array.getElem?_mapIdx]
  cases e : h.objs[a]? with
  | none => simp
  | some o =>
    simp only [Option.map_some]
    by_cases q : p a = true
    · simp [q]
    · simp [q, nilObj]
theorem sieve_some {h : Heap} {p : Addr → Bool} {a : Addr} {o : Obj} (e : (sieve h p).get? a = some o) : p a = true ∧ h.get? a = some o := by
  rw [sieve_get] at e
  by_cases q : p a = true
  · rw [if_pos q] at e; exact ⟨q, e⟩
  · rw [if_neg q] at e; cases e

/-- what was known, and what is new since h -/
def ext (g h h' : Heap) : Heap := sieve h' fun a => (g.get? a).isSome || (h.get? a).isNone

/-- the known part grows by new places alone -/
structure Grow (base g g' : Heap) : Prop where
  sub : g.StaysIn g'
  new : ∀ a, base.get? a ≠ none → g.get? a = none → g'.get? a = none

theorem Grow.refl (base g : Heap) : Grow base g g := ⟨fun _ _ e => e, fun _ _ e => e⟩
theorem Grow.trans {base base' g g' g'' : Heap} (x : Grow base g g') (k : ∀ a, base.get? a ≠ none → base'.get? a ≠ none) (y : Grow base' g' g'') : Grow base g g'' :=
  ⟨fun b o e => y.sub b o (x.sub b o e), fun a ha e => y.new a (k a ha) (x.new a ha e)⟩

theorem ext_sub {g h h' : Heap} (hg : g.StaysIn h') : g.StaysIn (ext g h h') := fun b o e => by
  unfold ext
  rw [sieve_get]
  simp [e, hg b o e]
theorem ext_in (g h h' : Heap) : (ext g h h').StaysIn h' := fun _ _ e => (sieve_some e).2
theorem ext_new {g h h' : Heap} {a : Addr} {o : Obj} (e : h.get? a = none) (e' : h'.get? a = some o) : (ext g h h').get? a = some o := by
  unfold ext
  rw [sieve_get]
  simp [e, e']
theorem ext_off {g h h' : Heap} {a : Addr} (e : h.get? a ≠ none) (e' : g.get? a = none) : (ext g h h').get? a = none := by
  unfold ext
  rw [sieve_get]
  have : (h.get? a).isNone = false := by cases q : h.get? a with
    | none => exact absurd q e
    | some _ => rfl
  simp [e', this]
theorem ext_grow {g h h' : Heap} (hg : g.StaysIn h') : Grow h g (ext g h h') := ⟨ext_sub hg, fun _ ha e => ext_off ha e⟩

/-! ### the world's written part -/
structure WD (w : World) (p : Program) (loose : List Str) (mg mb : Str → Option Value) (h : Heap) : Prop where
  k : (hd.heap_39 w.params).In h
  t : TopRead p loose mg mb h
  nodig : ∃ mc, h.Ns cStatics mc ∧ mc "sys.int_max_str_digits" = none
theorem WD.keeps {w : World} {p : Program} {loose : List Str} {mg mb : Str → Option Value} {h h' : Heap} (W : WD w p loose mg mb h) (k : h.StaysIn h') : WD w p loose mg mb h' :=
  ⟨W.k.keeps k, W.t.keeps k, let ⟨mc, a, b⟩ := W.nodig; ⟨mc, a.keeps k, b⟩⟩

/-! ### a frame: its names, its own moving objects (vol), the known part g -/
structure Fm (base g₀ : Heap) (L : Addr) (m : Str → Option Value) (vol : List (Addr × Obj)) (T : Option Obj) (g h : Heap) : Prop where
  ns : h.Ns L m
  keep : ∀ b o, base.get? b = some o → b ≠ TAB → h.get? b = some o
  lo : base.objs.size ≤ L
  tlt : TAB < base.objs.size
  tab : h.get? TAB = T
  vv : ∀ p ∈ vol, h.get? p.1 = some p.2 ∧ base.objs.size ≤ p.1 ∧ p.1 ≠ L ∧ g.get? p.1 = none
  nd : (vol.map (·.1)).Nodup
  gh : g.StaysIn h
  gL : g.get? L = none
  gg : Grow base g₀ g
  gT : g.get? TAB = none

theorem none_of_ge {h : Heap} {a : Addr} (l : h.objs.size ≤ a) : h.get? a = none := by
  cases e : h.get? a with
  | none => rfl
  | some o => exact absurd (Heap.lt_size e) (Nat.not_lt.mpr l)

section
variable {base g₀ g h h' : Heap} {L : Addr} {m m' : Str → Option Value} {vol : List (Addr × Obj)} {T : Option Obj}

theorem Fm.hL (F : Fm base g₀ L m vol T g h) : ∃ o, h.get? L = some o := let ⟨o, _, _, e, _⟩ := F.ns; ⟨o, e⟩
theorem Fm.ltab (F : Fm base g₀ L m vol T g h) : TAB ≠ L := Nat.ne_of_lt (Nat.lt_of_lt_of_le F.tlt F.lo)

/-- the frame's own names change -/
theorem Fm.names (F : Fm base g₀ L m vol T g h) (hn : h'.Ns L m') (hs : Heap.SameBut L h h') : Fm base g₀ L m' vol T g h' where
  ns := hn
  keep := fun b o e hb => (hs.2 b (fun q => by subst q; exact absurd (Heap.lt_size e) (Nat.not_lt.mpr F.lo))).trans (F.keep b o e hb)
  lo := F.lo
  tlt := F.tlt
  tab := (hs.2 _ F.ltab).trans F.tab
  vv := fun p hp => let ⟨a, b, c, d⟩ := F.vv p hp; ⟨(hs.2 _ c).trans a, b, c, d⟩
  nd := F.nd
  gh := fun b o e => (hs.2 b (fun q => by subst q; rw [F.gL] at e; cases e)).trans (F.gh b o e)
  gL := F.gL
  gg := F.gg
  gT := F.gT

/-- something new that is not told: dropped -/
theorem Fm.more (F : Fm base g₀ L m vol T g h) (k : ∀ b o, h.get? b = some o → h'.get? b = some o) (kt : h'.get? TAB = h.get? TAB) : Fm base g₀ L m vol T g h' where
  ns := F.ns.keeps k
  keep := fun b o e hb => k _ _ (F.keep b o e hb)
  lo := F.lo
  tlt := F.tlt
  tab := kt.trans F.tab
  vv := fun p hp => let ⟨a, b, c, d⟩ := F.vv p hp; ⟨k _ _ a, b, c, d⟩
  nd := F.nd
  gh := fun b o e => k _ _ (F.gh b o e)
  gL := F.gL
  gg := F.gg
  gT := F.gT

theorem Fm.grow {g' : Heap} (F : Fm base g₀ L m vol T g h) (G : Grow h g g') (gh : g'.StaysIn h) (tT : h.get? TAB ≠ none) : Fm base g₀ L m vol T g' h where
  ns := F.ns
  keep := F.keep
  lo := F.lo
  tlt := F.tlt
  tab := F.tab
  vv := fun p hp => let ⟨a, b, c, d⟩ := F.vv p hp; ⟨a, b, c, G.new _ (by rw [a]; exact Option.some_ne_none _) d⟩
  nd := F.nd
  gh := gh
  gL := G.new _ (let ⟨o, e⟩ := F.hL; by rw [e]; exact Option.some_ne_none _) F.gL
  gg := ⟨fun b o e => G.sub b o (F.gg.sub b o e), fun a ha e => by
    by_cases hb : a = TAB
    · subst hb; exact G.new _ tT F.gT
    · cases q : base.get? a with
      | none => exact absurd q ha
      | some o => exact G.new a (by rw [F.keep a o q hb]; exact Option.some_ne_none _) (F.gg.new a ha e)⟩
  gT := G.new _ tT F.gT

/-- a call has come back: h' holds all of h, and more is known -/
theorem Fm.back {g' : Heap} (F : Fm base g₀ L m vol T g h) (k : ∀ b o, h.get? b = some o → h'.get? b = some o) (kt : h'.get? TAB = h.get? TAB) (tT : h.get? TAB ≠ none) (G : Grow h g g') (gh : g'.StaysIn h') : Fm base g₀ L m vol T g' h' where
  ns := F.ns.keeps k
  keep := fun b o e hb => k _ _ (F.keep b o e hb)
  lo := F.lo
  tlt := F.tlt
  tab := kt.trans F.tab
  vv := fun p hp => let ⟨a, b, c, d⟩ := F.vv p hp; ⟨k _ _ a, b, c, G.new _ (by rw [a]; exact Option.some_ne_none _) d⟩
  nd := F.nd
  gh := gh
  gL := G.new _ (let ⟨o, e⟩ := F.hL; by rw [e]; exact Option.some_ne_none _) F.gL
  gg := ⟨fun b o e => G.sub b o (F.gg.sub b o e), fun a ha e => by
    by_cases hb : a = TAB
    · subst hb; exact G.new _ tT F.gT
    · cases q : base.get? a with
      | none => exact absurd q ha
      | some o => exact G.new a (by rw [F.keep a o q hb]; exact Option.some_ne_none _) (F.gg.new a ha e)⟩
  gT := G.new _ tT F.gT

theorem push_tab (F : Fm base g₀ L m vol T g h) (o : Obj) : (h.push o).get? TAB = h.get? TAB := by
  have hlt : TAB < h.objs.size := by
    obtain ⟨o, e⟩ := F.hL
    exact Nat.lt_trans (Nat.lt_of_lt_of_le F.tlt F.lo) (Heap.lt_size e)
  unfold Heap.get? Heap.push
  rw [Array.getElem?_push_lt hlt, Array.getElem?_eq_getElem hlt]

/-- a new object, told -/
theorem Fm.push (F : Fm base g₀ L m vol T g h) (tT : T ≠ none) (o : Obj) (hf : o.isFreed = false := by rfl) :
    ∃ g', Fm base g₀ L m vol T g' (h.push o) ∧ g.StaysIn g' ∧ g'.get? h.objs.size = some o ∧ g.get? h.objs.size = none ∧ h.get? h.objs.size = none := by
  have k : ∀ b o', h.get? b = some o' → (h.push o).get? b = some o' := fun b o' e => Heap.get?_push_of_some _ e
  have gk : g.StaysIn (h.push o) := fun b o' e => k _ _ (F.gh b o' e)
  have n := none_of_ge (Nat.le_refl h.objs.size)
  refine ⟨ext g h (h.push o), F.back k (push_tab F o) (by rw [F.tab]; exact tT) (ext_grow gk) (ext_in _ _ _), ext_sub gk, ext_new n (Heap.get?_push_size _ hf), ?_, n⟩
  cases e : g.get? h.objs.size with
  | none => rfl
  | some o' => rw [F.gh _ _ e] at n; cases n

/-- a new object of the frame's own -/
theorem Fm.pushVol (F : Fm base g₀ L m vol T g h) (o : Obj) (hf : o.isFreed = false := by rfl) : Fm base g₀ L m ((h.objs.size, o) :: vol) T g (h.push o) := by
  have k : ∀ b o', h.get? b = some o' → (h.push o).get? b = some o' := fun b o' e => Heap.get?_push_of_some _ e
  have n := none_of_ge (Nat.le_refl h.objs.size)
  have F' := F.more k (push_tab F o)
  refine { F' with vv := fun p hp => ?_, nd := ?_ }
  · rcases List.mem_cons.mp hp with rfl | hp
    · refine ⟨Heap.get?_push_size _ hf, ?_, ?_, ?_⟩
      · obtain ⟨oL, e⟩ := F.hL
        exact Nat.le_trans F.lo (Nat.le_of_lt (Heap.lt_size e))
      · obtain ⟨oL, e⟩ := F.hL
        exact Nat.ne_of_gt (Heap.lt_size e)
      · cases e : g.get? h.objs.size with
        | none => rfl
        | some o' => rw [F.gh _ _ e] at n; cases n
    · exact F'.vv p hp
  · rw [List.map_cons, List.nodup_cons]
    refine ⟨fun hm => ?_, F.nd⟩
    obtain ⟨p, hp, e⟩ := List.mem_map.mp hm
    have := (F.vv p hp).1
    rw [e, n] at this
    cases this

/-- one of the frame's own objects turns (the first of them) -/
theorem Fm.turn {a : Addr} {o o' : Obj} (F : Fm base g₀ L m ((a, o) :: vol) T g h) (hs : Heap.SameBut a h h') (e : h'.get? a = some o') : Fm base g₀ L m ((a, o') :: vol) T g h' := by
  have ha := F.vv (a, o) (.head _)
  have nb : ∀ b o'', base.get? b = some o'' → b ≠ a := fun b o'' q z => by subst z; exact absurd (Heap.lt_size q) (Nat.not_lt.mpr ha.2.1)
  refine { ns := F.ns.sameBut hs (Ne.symm ha.2.2.1), keep := fun b o'' q hb => (hs.2 b (nb b o'' q)).trans (F.keep b o'' q hb), lo := F.lo, tlt := F.tlt, tab := (hs.2 _ (fun z => ?_)).trans F.tab, vv := fun p hp => ?_, nd := F.nd, gh := fun b o'' q => (hs.2 b (fun z => ?_)).trans (F.gh b o'' q), gL := F.gL, gg := F.gg, gT := F.gT }
  · have := ha.2.1; rw [← z] at this; exact absurd F.tlt (Nat.not_lt.mpr this)
  · rcases List.mem_cons.mp hp with rfl | hp
    · exact ⟨e, ha.2⟩
    · have := F.vv p (.tail _ hp)
      refine ⟨(hs.2 _ (fun z => ?_)).trans this.1, this.2⟩
      have nd := F.nd
      rw [List.map_cons, List.nodup_cons] at nd
      exact nd.1 (List.mem_map.mpr ⟨p, hp, z⟩)
  · rw [z] at q; rw [ha.2.2.2] at q; cases q

theorem Fm.perm {vol' : List (Addr × Obj)} (F : Fm base g₀ L m vol T g h) (q : vol.Perm vol') : Fm base g₀ L m vol' T g h :=
  { F with vv := fun p hp => F.vv p (q.mem_iff.mpr hp), nd := (q.map _).nodup_iff.mp F.nd }
theorem Fm.drop {a : Addr × Obj} (F : Fm base g₀ L m (a :: vol) T g h) : Fm base g₀ L m vol T g h :=
  { F with vv := fun p hp => F.vv p (.tail _ hp), nd := by have := F.nd; rw [List.map_cons, List.nodup_cons] at this; exact this.2 }

/-- one of the frame's own objects is told: it stays from here on -/
theorem Fm.tell {a : Addr} {o : Obj} (F : Fm base g₀ L m ((a, o) :: vol) T g h) : ∃ g', Fm base g₀ L m vol T g' h ∧ g.StaysIn g' ∧ g'.get? a = some o ∧ g.get? a = none ∧ base.objs.size ≤ a := by
  have ha := F.vv (a, o) (.head _)
  have nd := F.nd
  rw [List.map_cons, List.nodup_cons] at nd
  refine ⟨sieve h fun b => (g.get? b).isSome || Nat.beq b a, ?_, ?_, ?_, ha.2.2.2, ha.2.1⟩
  · have off : ∀ b, g.get? b = none → b ≠ a → (sieve h fun b => (g.get? b).isSome || Nat.beq b a).get? b = none := fun b e hb => by
      rw [sieve_get]
      have : Nat.beq b a = false := by cases q : Nat.beq b a with
        | false => rfl
        | true => exact absurd (Nat.eq_of_beq_eq_true q) hb
      simp [e, this]
    have aT : TAB ≠ a := fun z => by have := ha.2.1; rw [← z] at this; exact absurd F.tlt (Nat.not_lt.mpr this)
    have sub : Grow base g₀ (sieve h fun b => (g.get? b).isSome || Nat.beq b a) := ⟨fun b o' e => by
        have q := F.gg.sub b o' e
        rw [sieve_get]
        simp [q, F.gh _ _ q], fun b hb e => off b (F.gg.new b hb e) (fun z => by subst z; exact hb (none_of_ge ha.2.1))⟩
    exact { F.drop with
      gh := fun b o' e => (sieve_some e).2
      gL := off _ F.gL (Ne.symm ha.2.2.1)
      gT := off _ F.gT aT
      gg := sub
      vv := fun p hp => by
        have := F.vv p (.tail _ hp)
        exact ⟨this.1, this.2.1, this.2.2.1, off _ this.2.2.2 fun z => nd.1 (List.mem_map.mpr ⟨p, hp, z⟩)⟩ }
  · intro b o' e
    rw [sieve_get]
    simp [e, F.gh _ _ e]
  · rw [sieve_get]
    simp [ha.1]
end
end Mine
end

/-! ## J1 -/
section
set_option maxRecDepth 100000
open PySem PySem.W PyProof.Rows PySem.Calls
namespace Mine

/-! ### what a call does -/
structure St (g : Heap) (s : Shared) : Prop where
  sub : g.StaysIn s.heap
  gT : g.get? TAB = none
  tT : s.heap.get? TAB ≠ none
structure Room (A : Around) (dn un : Nat) : Prop where
  d : A.depth + dn < recursionLimit
  u : A.units + un < cLine
  h : A.handled = none
theorem Room.deeper {A : Around} {dn un : Nat} (R : Room A (dn + 1) (un + 3)) (env : Env) : Room (A.deeper env) dn un := ⟨by have := R.d; show A.depth + 1 + dn < _; omega, by have := R.u; show A.units + 3 + un < _; omega, R.h⟩
theorem Room.le {A : Around} {dn un dn' un' : Nat} (R : Room A dn un) (h1 : dn' ≤ dn) (h2 : un' ≤ un) : Room A dn' un' := ⟨by have := R.d; omega, by have := R.u; omega, R.h⟩
structure After (g : Heap) (s : Shared) (g' h' : Heap) : Prop where
  stay : ∀ b o, s.heap.get? b = some o → b ≠ TAB → h'.get? b = some o
  tab : h'.get? TAB = s.heap.get? TAB
  grow : Grow s.heap g g'
  sub : g'.StaysIn h'
theorem After.all {g : Heap} {s : Shared} {g' h' : Heap} (x : After g s g' h') : ∀ b o, s.heap.get? b = some o → h'.get? b = some o := fun b o e => by
  by_cases q : b = TAB
  · subst q; rw [x.tab]; exact e
  · exact x.stay b o e q

def Does (prog : Program) (w : World) (f : Value) (args : List Value) (dn un : Nat) (g : Heap) (Post : Heap → Value → Prop) : Prop :=
  ∀ (A : Around) (s : Shared) (Q : Value → Shared → Prop) (E : Value → Shared → Prop), St g s → Room A dn un →
    (∀ r g' h' tk, After g s g' h' → Post g' r → Q r { s with heap := h', toks := tk }) → wpAny (model prog w) A (call f args) Q E s

section
variable {prog : Program} {w : World} {p : Program} {loose : List Str} {mg mb : Str → Option Value} {A : Around} {E : Value → Shared → Prop} {s : Shared}
  {base g₀ g h h' : Heap} {L : Addr} {m m' : Str → Option Value} {vol : List (Addr × Obj)} {T : Option Obj}

theorem Fm.st (F : Fm base g₀ L m vol T g s.heap) (tT : T ≠ none) : St g s := ⟨F.gh, F.gT, by rw [F.tab]; exact tT⟩
theorem Fm.after (F : Fm s.heap g₀ L m vol (s.heap.get? TAB) g h) : After g₀ s g h := ⟨F.keep, F.tab, F.gg, F.gh⟩
theorem Fm.called {g' : Heap} (F : Fm base g₀ L m vol T g s.heap) (tT : T ≠ none) (x : After g s g' h') : Fm base g₀ L m vol T g' h' :=
  F.back x.all x.tab (by rw [F.tab]; exact tT) x.grow x.sub

/-- a call by its contract, within a frame -/
theorem Does.use {f : Value} {args : List Value} {dn un : Nat} {Post : Heap → Value → Prop} {Q : Value → Shared → Prop} (D : Does prog w f args dn un g Post)
    (F : Fm base g₀ L m vol T g s.heap) (tT : T ≠ none) (R : Room A dn un)
    (h : ∀ r g' h' tk, Fm base g₀ L m vol T g' h' → g.StaysIn g' → Post g' r → Q r { s with heap := h', toks := tk }) : wpAny (model prog w) A (call f args) Q E s :=
  D A s Q E (F.st tT) R fun r g' h' tk x post => h r g' h' tk (F.called tT x) x.grow.sub post

/-! ### entering a def of the text -/
theorem enter {R : Result → Shared → Prop} {name qual : Str} {params : Arguments} {body : List Stmt} {scope : Scope} {dV kV doc pm cdv ct oc : Value} {an od : Option Addr} {osl : Array (Option Value)} {f : Addr} {args : Args} {binds : List (Str × Value)}
    (W : WD w p loose mg mb g) (S : St g s) (ho : (hd.heap_39 w.params).lookup f = some ⟨oc, od, .func (fnOf name qual params body scope dV kV doc pm an cdv ct), osl⟩) (hcd : codeIn (hd.heap_39 w.params) cdv qual = true) (hroom : A.depth < recursionLimit)
    (hbind : BindsTo s (fnOf name qual params body scope dV kV doc pm an cdv ct) args binds) (hloc : (binds.all fun x => decide (scope.names.lookup x.1 = some .local)) = true)
    (h : ∀ L h₁ tk, Fm s.heap g L (fun y => binds.reverse.lookup y) [] (s.heap.get? TAB) g h₁ →
      wpAny (model prog w) (A.deeper (envX qual scope L f cdv [])) (execs body (envX qual scope L f cdv []))
        (fun fl s' => R (.ok (.ret (match fl with | .ret v => v | _ => .none))) s')
        (fun e s' => wpAny (model prog w) (A.deeper (envX qual scope L f cdv [])) (leaving (envX qual scope L f cdv []) e) (fun _ s'' => R (.error e) s'') (fun e' s'' => R (.error e') s'') s')
        { s with heap := h₁, toks := tk })
    (hcell : (scope.names.all fun x => decide (x.2 ≠ .cell)) = true) (hco : scope.isCoroutine = false) (hgen : scope.isGenerator = false) (hk : scope.kind = .function) :
    codeAny (model prog w) A (.call (.ref f) args) R s := by
  have Ws := W.keeps S.sub
  have hlt : TAB < s.heap.objs.size := by
    cases q : s.heap.get? TAB with
    | none => exact absurd q S.tT
    | some o => exact Heap.lt_size q
  refine codeAny_call_def (fd := fnOf name qual params body scope dV kV doc pm an cdv ct) (body := body) (binds := binds) hroom (Ws.k _ _ ho) rfl Ws.t.nolimit (codeRec_of Ws.k hcd) rfl hbind
    (fun x hx => of_decide_eq_true (List.all_eq_true.mp hcell x hx)) (locs hloc) (fun h₁ hns k => ?_) hco hgen hk
  refine h _ h₁ _ ⟨hns, fun b o e _ => k b o e, Nat.le_refl _, hlt, ?_, fun _ hp => (nomatch hp), List.nodup_nil, fun b o e => k _ _ (S.sub b o e), ?_, .refl _ _, S.gT⟩
  · cases q : s.heap.get? TAB with
    | none => exact absurd q S.tT
    | some o => exact k _ _ q
  · cases q : g.get? s.heap.objs.size with
    | none => rfl
    | some o => exact absurd (Heap.lt_size (S.sub _ _ q)) (Nat.lt_irrefl _)

/-! ### names -/
variable {env : Env} {x : Str} {pos : Pos} {v : Value} {Q : Value → Shared → Prop}
theorem n_loc (F : Fm base g₀ L m vol T g s.heap) (hv : m x = some v) (h : Q v s) (hL : env.locals = L := by rfl)
    (hk : env.scope.kind = .function := by rfl) (hx : env.kindOf x = some .local := by rfl) (hd : (x == ("__debug__" : Str)) = false := by decide) :
    wpAny (model prog w) A (eval (.Name x pos) env) Q E s := wpAny_Name (wpAny_loadName_local hk hx (hL ▸ F.ns) hv h) hd
theorem n_cell {c : Addr} (F : Fm base g₀ L m vol T g s.heap) (hc : env.cells.lookup x = some c) (hm : (c, ({ cls := .type "cell", data := .cell (some v) } : Obj)) ∈ vol) (h : Q v s)
    (hk : env.scope.kind = .function := by rfl) (hx : env.kindOf x = some .cell := by rfl) (hd : (x == ("__debug__" : Str)) = false := by decide) :
    wpAny (model prog w) A (eval (.Name x pos) env) Q E s := wpAny_Name (wpAny_loadName_cell hk hx hc ⟨_, (F.vv _ hm).1, rfl⟩ h) hd
theorem n_glob (W : WD w p loose mg mb g) (gh : g.StaysIn s.heap) (e : nsIn (hd.heap_39 w.params) mainGlobals x = some (some v)) (h : Q v s) (hg : env.globals = mainGlobals := by rfl)
    (hk : env.scope.kind = .function := by rfl) (hx : env.kindOf x = some .globalImplicit := by rfl) (hd : (x == ("__debug__" : Str)) = false := by decide) :
    wpAny (model prog w) A (eval (.Name x pos) env) Q E s := Name_function_global hk hx (loadGlobal_global (hg ▸ W.t.g.keeps gh) (mg_of W.k W.t.g e) h) hd
theorem n_bi (W : WD w p loose mg mb g) (gh : g.StaysIn s.heap) (e : nsIn (hd.heap_39 w.params) mainGlobals x = some none) (hv : bootBuiltins x = some v) (h : Q v s) (hg : env.globals = mainGlobals := by rfl) (hb : env.builtins = builtinsNs := by rfl)
    (hk : env.scope.kind = .function := by rfl) (hx : env.kindOf x = some .globalImplicit := by rfl) (hd : (x == ("__debug__" : Str)) = false := by decide) (hn : x ≠ "__name__" := by decide) :
    wpAny (model prog w) A (eval (.Name x pos) env) Q E s :=
  Name_function_global hk hx (loadGlobal_builtin (hg ▸ W.t.g.keeps gh) (mg_none_of W.k W.t.g e) (hb ▸ W.t.b.keeps gh) ((W.t.builtins x hn).trans hv) h) hd

theorem s_loc {Q : Unit → Shared → Prop} (F : Fm base g₀ L m vol T g s.heap)
    (h : ∀ h', Fm base g₀ L (fun y => if y = x then some v else m y) vol T g h' → Q () { s with heap := h', toks := s.toks + 1 }) (hL : env.locals = L := by rfl)
    (hk : env.scope.kind = .function := by rfl) (hx : env.kindOf x = some .local := by rfl) : wpAny (model prog w) A (storeName env x v) Q E s :=
  wpAny_storeName_local hx (hL ▸ F.ns) (fun h' hn hs => h h' (F.names (hL ▸ hn) (hL ▸ hs))) (by rw [hk]; rfl)

theorem ev_call {f : Value} {np : Pos} {e : Expr} {rest : List Expr} (hk : keepIn (hd.heap_39 w.params) f = true)
    (W : WD w p loose mg mb g)
    (h : wpAny (model prog w) A (eval (.Name x np) env) (fun f' s₁ => f' = f ∧ wpAny (model prog w) A (spliced (backTo pos (starEach (e :: rest) env))) (fun vs s₂ => (hd.heap_39 w.params).In s₂.heap ∧ wpAny (model prog w) A (call f vs) Q E s₂) E s₁) E s)
    (he : starEach (e :: rest) env = (false, eval e env) :: starEach rest env := by rfl) (hplain : (backTo pos (starEach rest env)).any (·.1) = false := by rfl) :
    wpAny (model prog w) A (eval (.Call (.Name x np) (e :: rest) [] pos) env) Q E s := by
  refine wpAny_Call_ofName (wpAny_mono h (fun f' s₁ h₁ => ?_) fun _ _ x => x)
  obtain ⟨rfl, h₁⟩ := h₁
  exact callWith_K W.k hk h₁ he hplain
end
end Mine
end

/-! ## J2 -/
section
set_option maxRecDepth 100000
open PySem PySem.W PyProof.Rows PySem.Calls
namespace Mine

section
variable {prog : Program} {w : World} {A : Around} {E : Value → Shared → Prop} {s : Shared}
  {base g₀ g h h' : Heap} {L : Addr} {m m' : Str → Option Value} {vol : List (Addr × Obj)} {T : Option Obj} {env : Env}

theorem Fm.isList {l : Addr} {vs : Array Value} (F : Fm base g₀ L m vol T g h) (x : g.IsList l vs) : h.IsList l vs := let ⟨o, a, r⟩ := x; ⟨o, F.gh _ _ a, r⟩

theorem Fm.gone {a : Addr} {o : Obj} (F : Fm base g₀ L m ((a, o) :: vol) T g h) (tT : T ≠ none) (hx : Heap.ExtBut a h h') : Fm base g₀ L m vol T g h' := by
  have ha := F.vv (a, o) (.head _)
  have nd := F.nd
  rw [List.map_cons, List.nodup_cons] at nd
  have aT : TAB ≠ a := fun z => by have := ha.2.1; rw [← z] at this; exact absurd F.tlt (Nat.not_lt.mpr this)
  refine { F.drop with ns := F.ns.extBut hx (Ne.symm ha.2.2.1), keep := fun b o'' q hb => hx b o'' (fun z => ?_) (F.keep b o'' q hb), tab := ?_, vv := fun p hp => ?_, gh := fun b o'' q => hx b o'' (fun z => ?_) (F.gh b o'' q) }
  · subst z; exact absurd (Heap.lt_size q) (Nat.not_lt.mpr ha.2.1)
  · cases q : h.get? TAB with
    | none => exact absurd (F.tab.symm.trans q) tT
    | some t => rw [hx _ t aT q, ← F.tab, q]
  · have := F.vv p (.tail _ hp)
    exact ⟨hx _ _ (fun z => nd.1 (List.mem_map.mpr ⟨p, hp, z⟩)) this.1, this.2⟩
  · rw [z, ha.2.2.2] at q; cases q

/-- for x in a known list: by what holds of the names and of what is known -/
theorem loop_list {l : Addr} {vs : Array Value} {x : Str} {px : Pos} {body : List Stmt} {R : Result → Shared → Prop} (F : Fm base g₀ L m vol T g s.heap) (tT : T ≠ none) (hh : A.handled = none) (hl : g.IsList l vs)
    (J : Nat → (Str → Option Value) → Heap → Prop) (h0 : J 0 m g)
    (turn : ∀ (i : Nat) (v : Value) (m₁ : Str → Option Value) (g₁ h₁ : Heap) (tk : Nat) (io : Addr × Obj) (E' : Value → Shared → Prop), vs[i]? = some v → J i m₁ g₁ → g.StaysIn g₁ →
      Fm base g₀ L (fun y => if y = x then some v else m₁ y) (io :: vol) T g₁ h₁ →
      wpAny (model prog w) A (execs body env) (fun f s₂ => match f with
        | .next | .cont => ∃ m₂ g₂ h₂ tk₂, s₂ = { s with heap := h₂, toks := tk₂ } ∧ Fm base g₀ L m₂ (io :: vol) T g₂ h₂ ∧ g₁.StaysIn g₂ ∧ J (i + 1) m₂ g₂
        | .brk => False
        | .ret v => R (.ok (.ret v)) s₂) E' { s with heap := h₁, toks := tk })
    (done : ∀ m₁ g₁ h₁ tk, J vs.size m₁ g₁ → g.StaysIn g₁ → Fm base g₀ L m₁ vol T g₁ h₁ → R (.ok .next) { s with heap := h₁, toks := tk })
    (hL : env.locals = L := by rfl) (hk : env.scope.kind = .function := by rfl) (hx : env.kindOf x = some .local := by rfl) :
    wpAny (model prog w) A (pyIter (.ref l)) (fun it s₂ => codeAny (model prog w) A (.forLoop (.Name x px) it body [] env) R s₂) E s := by
  refine wpAny_pyIter_list (F.isList hl) ?_
  have F1 := F.pushVol { cls := .type "list_iterator", data := .fields #[.ref l, .int 0 0] }
  refine codeAny_forLoop (fun n s' => ∃ i m₁ g₁ h₁ tk oI, s' = { s with heap := h₁, toks := tk } ∧ Fm base g₀ L m₁ ((s.heap.objs.size, oI) :: vol) T g₁ h₁ ∧ oI.cls = .type "list_iterator" ∧ oI.data = .fields #[.ref l, .int (i : Nat) 0] ∧
    g.StaysIn g₁ ∧ J i m₁ g₁ ∧ i ≤ vs.size ∧ n = vs.size - i) ?_ vs.size ⟨0, m, g, _, s.toks, _, rfl, F1, rfl, rfl, fun _ _ e => e, h0, Nat.zero_le _, rfl⟩
  rintro n s' ⟨i, m₁, g₁, h₁, tk, oI, rfl, F₁, hc, hd, gg, hJ, hi, rfl⟩
  have hit : h₁.IsListIter s.heap.objs.size l i := ⟨oI, (F₁.vv _ (.head _)).1, hc, hd⟩
  have hl₁ : h₁.IsList l vs := F₁.isList (let ⟨o, a, r⟩ := hl; ⟨o, gg _ _ a, r⟩)
  by_cases hlt : i < vs.size
  · refine wpAny_pyNext_list_item hit hl₁ (Array.getElem?_eq_getElem hlt) fun h' hit' hs => ?_
    obtain ⟨o', ho', hc', hd'⟩ := hit'
    have F₂ := F₁.turn hs ho'
    dsimp only
    refine wpAny_assign_Name (s_loc F₂ (fun h'' F₃ => ?_) hL hk hx)
    refine wpAny_mono (turn i _ m₁ g₁ h'' _ _ _ (Array.getElem?_eq_getElem hlt) hJ gg F₃) (fun f s₂ q => ?_) fun _ _ x => x
    cases f with
    | next =>
      obtain ⟨m₂, g₂, h₂, tk₂, rfl, F₄, g4, J4⟩ := q
      exact ⟨_, by omega, i + 1, m₂, g₂, h₂, tk₂, o', rfl, F₄, hc', hd', fun b o e => g4 b o (gg b o e), J4, hlt, rfl⟩
    | cont =>
      obtain ⟨m₂, g₂, h₂, tk₂, rfl, F₄, g4, J4⟩ := q
      exact ⟨_, by omega, i + 1, m₂, g₂, h₂, tk₂, o', rfl, F₄, hc', hd', fun b o e => g4 b o (gg b o e), J4, hlt, rfl⟩
    | brk => exact q.elim
    | ret v => exact q
  · have hi' : i = vs.size := Nat.le_antisymm hi (Nat.not_lt.mp hlt)
    subst hi'
    refine wpAny_pyNext_list_end hh hit hl₁ (Array.getElem?_eq_none (Nat.le_refl _)) fun h' hx' => ?_
    dsimp only
    exact wpAny_execs_nil (done m₁ g₁ h' tk hJ gg (F₁.gone tT hx'))
end
end Mine
end

/-! ## J3 -/
section
set_option maxRecDepth 100000
open PySem PySem.W PyProof.Rows PySem.Calls
namespace Mine

/-! ### documents in the heap -/
mutual
inductive JR (prog : Program) (w : World) (h : Heap) : Value → PyData → List Addr → Prop
  | none : JR prog w h .none .none []
  | bool (b) : JR prog w h (.bool b) (.bool b) []
  | int (i t) : JR prog w h (.int i t) (.int i) []
  | str (x t) : JR prog w h (.str x t) (.str x) []
  | list {a vs xs as} : h.IsList a vs → JRs prog w h vs.toList xs as → JR prog w h (.ref a) (.list xs) (a :: as)
  | dict {a kvs ep ds bs} : (a == sysModules) = false → h.DictAt (PySem.strKind prog w) a kvs ep → ds.map (·.1) = kvs.map (fun q => PyData.str q.1) → JRs prog w h (kvs.map (·.2)) (ds.map (·.2)) bs → JR prog w h (.ref a) (.dict ds) (a :: bs)
inductive JRs (prog : Program) (w : World) (h : Heap) : List Value → List PyData → List Addr → Prop
  | nil : JRs prog w h [] [] []
  | cons {v vs d ds as bs} : JR prog w h v d as → JRs prog w h vs ds bs → JRs prog w h (v :: vs) (d :: ds) (as ++ bs)
end

section
variable {prog : Program} {w : World} {h h' : Heap}
theorem dictAt_keeps {a : Addr} {kvs : List (Str × Value)} {ep : Nat} (k : h.StaysIn h') (x : h.DictAt (PySem.strKind prog w) a kvs ep) : h'.DictAt (PySem.strKind prog w) a kvs ep :=
  let ⟨o, es, e, r⟩ := x; ⟨o, es, k _ _ e, r⟩
theorem isList_keeps {a : Addr} {vs : Array Value} (k : h.StaysIn h') (x : h.IsList a vs) : h'.IsList a vs := let ⟨o, e, r⟩ := x; ⟨o, k _ _ e, r⟩
mutual
theorem JR.keeps {v : Value} {d : PyData} {as : List Addr} (k : h.StaysIn h') : JR prog w h v d as → JR prog w h' v d as
  | .none => .none
  | .bool b => .bool b
  | .int i t => .int i t
  | .str x t => .str x t
  | .list x y => .list (isList_keeps k x) (JRs.keeps k y)
  | .dict n x e y => .dict n (dictAt_keeps k x) e (JRs.keeps k y)
theorem JRs.keeps {vs : List Value} {ds : List PyData} {as : List Addr} (k : h.StaysIn h') : JRs prog w h vs ds as → JRs prog w h' vs ds as
  | .nil => .nil
  | .cons x y => .cons (JR.keeps k x) (JRs.keeps k y)
end
theorem JRs.length : ∀ {vs : List Value} {ds : List PyData} {as : List Addr}, JRs prog w h vs ds as → vs.length = ds.length
  | _, _, _, .nil => rfl
  | _, _, _, .cons _ y => congrArg Nat.succ y.length
theorem JRs.at : ∀ {vs : List Value} {ds : List PyData} {as : List Addr} (_ : JRs prog w h vs ds as) {i : Nat} {v : Value}, vs[i]? = some v → ∃ d as', ds[i]? = some d ∧ JR prog w h v d as' ∧ ∀ a ∈ as', a ∈ as
  | _, _, _, .nil, i, v, e => by simp at e
  | _, _, _, .cons x y, 0, v, e => by
    simp only [List.getElem?_cons_zero, Option.some.injEq] at e
    subst e
    exact ⟨_, _, rfl, x, fun a ha => List.mem_append_left _ ha⟩
  | _, _, _, .cons x y, i + 1, v, e => by
    simp only [List.getElem?_cons_succ] at e
    obtain ⟨d, as', e', r, hs⟩ := y.at e
    exact ⟨d, as', by simpa using e', r, fun a ha => List.mem_append_right _ (hs a ha)⟩
end

/-! ### the written part, laid for k_is -/
theorem laid (w : World) (h : Heap) (X : (hd.heap_39 w.params).In h) : (hd.heap_39 w.params).In h ∧ PySem.Challenge.rw_bs0014_01 = PySem.Challenge.rw_bs0014_01 := by
  k_fill
  exact ⟨X, rfl⟩

/-- the value that stands at a way -/
def findK (kvs : List (PyData × PyData)) (k : Str) : Option PyData := (kvs.find? (fun q => match q.1 with | .str x => decide (x = k) | _ => false)).map (·.2)
def at1 : PyData → PyData → Option PyData
  | .list xs, .int i => if 0 ≤ i ∧ i < 64 then xs[i.toNat]? else none
  | .dict kvs, .str k => findK kvs k
  | _, _ => none
def atD : PyData → List PyData → Option PyData
  | d, [] => some d
  | d, t :: r => (at1 d t).bind fun d' => atD d' r

section
variable {prog : Program} {w : World} {p : Program} {loose : List Str} {mg mb : Str → Option Value} {g : Heap} {A : Around} {E : Value → Shared → Prop} {s : Shared}

theorem findK_at : ∀ {kvs : List (Str × Value)} {ds : List (PyData × PyData)} {as : List Addr}, ds.map (·.1) = kvs.map (fun q => PyData.str q.1) → JRs prog w g (kvs.map (·.2)) (ds.map (·.2)) as → ∀ {k : Str} {d : PyData}, findK ds k = some d →
    ∃ v as', valueAt kvs k = some v ∧ JR prog w g v d as' ∧ ∀ a ∈ as', a ∈ as
  | [], [], _, _, _, _, _, e => by cases e
  | [], _ :: _, _, e, _, _, _, _ => by cases e
  | _ :: _, [], _, e, _, _, _, _ => by cases e
  | (k₁, v₁) :: kvs, (q₁, d₁) :: ds, _, e, hr, k, d, hf => by
    simp only [List.map_cons, List.cons.injEq] at e
    obtain ⟨rfl, e⟩ := e
    cases hr with
    | cons x y =>
      unfold findK at hf
      unfold valueAt
      rw [List.find?_cons] at hf ⊢
      by_cases hk : k₁ = k
      · simp only [hk, decide_true, Option.map_some, Option.some.injEq] at hf
        subst hf
        exact ⟨v₁, _, by simp [hk], x, fun a ha => List.mem_append_left _ ha⟩
      · simp only [hk, decide_false] at hf
        obtain ⟨v, as', e1, e2, e3⟩ := findK_at e y hf
        exact ⟨v, as', by unfold valueAt at e1; simpa only [hk, decide_false] using e1, e2, fun a ha => List.mem_append_right _ (e3 a ha)⟩

theorem getItem_J {v t : Value} {d tk d' : PyData} {as bs : List Addr} {value slice : PySem.Expr} {Q : Value → Shared → Prop} (hv : JR prog w g v d as) (gh : g.StaysIn s.heap) (ht : JR prog w g t tk bs) (e : at1 d tk = some d')
    (h : ∀ v' as' n, JR prog w g v' d' as' → (∀ a ∈ as', a ∈ as) → Q v' { s with toks := n })
    (hs : ∀ o i, subscripted slice false o i = operate [o, i] (getItem o i) := by intro _ _; rfl) : wpAny (model prog w) A (subscriptTail value slice v t) Q E s := by
  cases hv with
  | none => simp [at1] at e
  | bool => simp [at1] at e
  | int => simp [at1] at e
  | str => simp [at1] at e
  | @list a vs xs as x y =>
    cases ht with
    | int i n =>
      simp only [at1] at e
      by_cases hi : 0 ≤ i ∧ i < 64
      · rw [if_pos hi] at e
        have hl := isList_keeps gh x
        have hlen := y.length
        have hlt : i.toNat < vs.size := by
          rw [← Array.length_toList, hlen]; exact (List.getElem?_eq_some_iff.mp e).1
        obtain ⟨d₂, as', e2, r, hsub⟩ := y.at (i := i.toNat) (v := vs[i.toNat]) (by simp [hlt])
        rw [e] at e2
        cases e2
        refine tail_any hl.typeIs slot_list_getitem.lookup (wpAny_getItem_list hl hi.1 (by omega) (Array.getElem?_eq_getElem hlt) (h _ _ s.toks r fun a ha => List.mem_cons_of_mem _ (hsub a ha))) (hs _ _)
      · rw [if_neg hi] at e; cases e
    | _ => simp [at1] at e
  | @dict a kvs ep ds bs n x ek y =>
    cases ht with
    | str k n =>
      simp only [at1] at e
      obtain ⟨v', as', e1, r, hsub⟩ := findK_at ek y e
      have hm := (dictAt_keeps gh x).dictOf.mapOf
      refine tail_any hm.typeIs slot_dict_getitem.lookup (wpAny_getItem_of (k := k) (by show Value.isStrOf k (Value.str k n) = true; simp [Value.isStrOf]) hm e1 (h _ _ _ r fun a ha => List.mem_cons_of_mem _ (hsub a ha))) (hs _ _)
    | _ => simp [at1] at e

theorem does_at {v way : Value} {d d' : PyData} {toks : List PyData} {as bs : List Addr} (W : WD w p loose mg mb g) (hv : JR prog w g v d as) (hw : JR prog w g way (.list toks) bs) (hd : atD d toks = some d') :
    Does prog w (.ref 328) [v, way] 1 8 g fun g' r => ∃ as', JR prog w g' r d' as' := by
  intro A s Q E S Rm ret
  refine wpAny_call ?_
  (refine' enter W S ?ho ?hcd ?hroom ?hb ?hl ?_ ?h1 ?h2 ?h3 ?h4; (case ho => k_is); (case hcd => k_is); (case hroom => (have := Rm.d; omega)); (case hb => exact BindsTo.of_eq rfl); (case h1 => decide); (case h2 => exact rfl); (case h3 => exact rfl); (case h4 => exact rfl); (case hl => exact rfl))
  intro L h₁ tk F
  dsimp only
  cases hw with
  | @list wa vs _ as' hl hs =>
  refine wpAny_execs_cons (wpAny_For (n_loc F rfl ?_))
  refine loop_list F S.tT Rm.h hl (fun i m₁ g₁ => ∃ v₁ d₁ as₁, m₁ (Str.ofString "value") = some v₁ ∧ JR prog w g₁ v₁ d₁ as₁ ∧ atD d₁ (toks.drop i) = some d') ⟨v, d, as, rfl, hv, hd⟩ ?_ ?_
  · rintro i t m₁ g₁ h₁ tk io E' hi ⟨v₁, d₁, as₁, hm, r₁, e₁⟩ gg F₁
    obtain ⟨tk₁, as₂, et, rt, -⟩ := hs.at (i := i) (by simpa using hi)
    have hit : i < toks.length := (List.getElem?_eq_some_iff.mp et).1
    rw [List.drop_eq_getElem_cons hit, show toks[i] = tk₁ from (List.getElem?_eq_some_iff.mp et).2] at e₁
    simp only [atD] at e₁
    cases e2 : at1 d₁ tk₁ with
    | none => rw [e2] at e₁; cases e₁
    | some d₂ =>
    rw [e2] at e₁
    refine wpAny_execs_cons (wpAny_Assign_Name (Subscript_ (n_loc F₁ (v := v₁) (by rw [if_neg (by decide)]; exact hm) (n_loc F₁ (v := t) (if_pos rfl) (getItem_J r₁ F₁.gh (rt.keeps gg) e2 fun v' as₃ n r₃ _ => ?_)))))
    refine s_loc F₁ fun h' F₂ => ?_
    dsimp only
    refine wpAny_execs_nil ⟨_, _, _, _, rfl, F₂, fun _ _ e => e, v', d₂, as₃, if_pos rfl, r₃, e₁⟩
  · rintro m₁ g₁ h₁ tk ⟨v₁, d₁, as₁, hm, r₁, e₁⟩ gg F₁
    dsimp only
    refine wpAny_execs_cons (wpAny_Return_some (n_loc F₁ hm ?_))
    refine ret _ _ _ _ F₁.after ⟨as₁, ?_⟩
    have hlen : vs.size = toks.length := by rw [← Array.length_toList, hs.length]
    rw [hlen, List.drop_length] at e₁
    cases e₁
    exact r₁
end
end Mine
end

/-! ## J4 -/
section
set_option maxRecDepth 100000
open PySem PySem.W PyProof.Rows PySem.Calls
namespace Mine

def upd (x : Str) (v : Value) (m : Str → Option Value) : Str → Option Value := fun y => if y = x then some v else m y
theorem upd_same {x : Str} {v : Value} {m : Str → Option Value} : upd x v m x = some v := if_pos rfl
theorem upd_ne {x y : Str} {v : Value} {m : Str → Option Value} (h : y ≠ x) : upd x v m y = m y := if_neg h

/-- an iterator under a target: what a turn stores, and how it stops -/
structure Drive (prog : Program) (w : World) (A : Around) (env : Env) (target : PySem.Expr) (I : Addr) (n : Nat) (gh0 : Heap) (Ob : Nat → List (Addr × Obj) → Prop)
    (Asg : Nat → (Str → Option Value) → (Str → Option Value) → Heap → Prop) : Prop where
  item : ∀ {base g₀ g₁ : Heap} {L : Addr} {m : Str → Option Value} {vol own : List (Addr × Obj)} {T : Option Obj} {i : Nat} {s : Shared} {Q : Shared → Prop} {E : Value → Shared → Prop},
    i < n → Ob i own → gh0.StaysIn g₁ → T ≠ none → env.locals = L → Fm base g₀ L m (own ++ vol) T g₁ s.heap →
    (∀ m' own' g₂ h' tk', Ob (i + 1) own' → Asg i m m' g₂ → g₁.StaysIn g₂ → Fm base g₀ L m' (own' ++ vol) T g₂ h' → Q { s with heap := h', toks := tk' }) →
    wpAny (model prog w) A (pyNext (.ref I)) (fun r s₁ => match r with
      | none => False
      | some v => wpAny (model prog w) A (letOwnedTupleGo target (.ref I) v) (fun _ s₁' => wpAny (model prog w) A (assign target env v) (fun _ s₂ => Q s₂) E s₁') E s₁) E s
  stop : ∀ {base g₀ g₁ : Heap} {L : Addr} {m : Str → Option Value} {vol own : List (Addr × Obj)} {T : Option Obj} {s : Shared} {Q : Shared → Prop} {E : Value → Shared → Prop},
    Ob n own → gh0.StaysIn g₁ → T ≠ none → Fm base g₀ L m (own ++ vol) T g₁ s.heap → (∀ h', Fm base g₀ L m vol T g₁ h' → Q { s with heap := h' }) →
    wpAny (model prog w) A (pyNext (.ref I)) (fun r s₁ => match r with
      | none => Q s₁
      | some _ => False) E s
  self : ∀ {base g₀ g₁ : Heap} {L : Addr} {m : Str → Option Value} {vol own : List (Addr × Obj)} {T : Option Obj} {s : Shared} {Q : Value → Shared → Prop} {E : Value → Shared → Prop},
    Ob 0 own → Fm base g₀ L m (own ++ vol) T g₁ s.heap → Q (.ref I) s → wpAny (model prog w) A (pyIter (.ref I)) Q E s

section
variable {prog : Program} {w : World} {A : Around} {E : Value → Shared → Prop} {s : Shared}
  {base g₀ g h h' gh0 : Heap} {L : Addr} {m m' : Str → Option Value} {vol : List (Addr × Obj)} {T : Option Obj} {env : Env}

def ObList (I l : Addr) (i : Nat) (own : List (Addr × Obj)) : Prop := ∃ o : Obj, own = [(I, o)] ∧ o.cls = .type "list_iterator" ∧ o.data = .fields #[.ref l, .int (i : Nat) 0]
theorem drive_list {I l : Addr} {vs : Array Value} {x : Str} {px : Pos} (hh : A.handled = none) (hl : gh0.IsList l vs)
    (hk : env.scope.kind = .function) (hx : env.kindOf x = some .local) :
    Drive prog w A env (.Name x px) I vs.size gh0 (ObList I l) fun i m m' _ => ∃ v, vs[i]? = some v ∧ m' = upd x v m where
  item := by
    rintro base g₀ g₁ L m vol own T i s Q E hlt ⟨o, rfl, hc, hd⟩ gg tT hL F q
    have hit : s.heap.IsListIter I l i := ⟨o, (F.vv _ (.head _)).1, hc, hd⟩
    have hl₁ : s.heap.IsList l vs := isList_keeps F.gh (isList_keeps gg hl)
    refine wpAny_pyNext_list_item hit hl₁ (Array.getElem?_eq_getElem hlt) fun h' hit' hs => ?_
    obtain ⟨o', ho', hc', hd'⟩ := hit'
    have F₂ := F.turn hs ho'
    dsimp only
    refine wpAny_of_eq (a := ()) rfl (wpAny_assign_Name (s_loc F₂ (fun h'' F₃ => ?_) hL hk hx))
    exact q _ [(I, o')] _ _ _ ⟨o', rfl, hc', hd'⟩ ⟨_, Array.getElem?_eq_getElem hlt, rfl⟩ (fun _ _ e => e) F₃
  stop := by
    rintro base g₀ g₁ L m vol own T s Q E ⟨o, rfl, hc, hd⟩ gg tT F q
    have hit : s.heap.IsListIter I l vs.size := ⟨o, (F.vv _ (.head _)).1, hc, hd⟩
    exact wpAny_pyNext_list_end hh hit (isList_keeps F.gh (isList_keeps gg hl)) (Array.getElem?_eq_none (Nat.le_refl _)) fun h' hx' => q h' (F.gone tT hx')
  self := by
    rintro base g₀ g₁ L m vol own T s Q E ⟨o, rfl, hc, hd⟩ F q
    exact wpAny_pyIter_listiter (l := l) (i := 0) ⟨o, (F.vv _ (.head _)).1, hc, hd⟩ q

def ObKeys (I d n ep : Addr) (i : Nat) (own : List (Addr × Obj)) : Prop := ∃ o : Obj, own = [(I, o)] ∧ o.cls = .type "dict_keyiterator" ∧ o.data = .fields #[.ref d, .int (i : Nat) 0, .int (n : Nat) 0, .int (ep : Nat) 0]
theorem drive_keys {I d ep : Addr} {kvs : List (Str × Value)} {x : Str} {px : Pos} (hh : A.handled = none) (hd0 : gh0.DictAt (PySem.strKind prog w) d kvs ep)
    (hk : env.scope.kind = .function) (hx : env.kindOf x = some .local) :
    Drive prog w A env (.Name x px) I kvs.length gh0 (ObKeys I d kvs.length ep) fun i m m' _ => ∃ kv t, kvs[i]? = some kv ∧ m' = upd x (.str kv.1 t) m where
  item := by
    rintro base g₀ g₁ L m vol own T i s Q E hlt ⟨o, rfl, hc, hd⟩ gg tT hL F q
    have hit : s.heap.IsKeyIter I d i kvs.length ep := ⟨o, (F.vv _ (.head _)).1, hc, hd⟩
    have hl₁ := dictAt_keeps F.gh (dictAt_keeps gg hd0)
    refine wpAny_pyNext_dict_item hit hl₁ (List.getElem?_eq_getElem hlt) fun key h' hkey hit' hs => ?_
    obtain ⟨o', ho', hc', hd'⟩ := hit'
    obtain ⟨t, rfl⟩ := Value.isStrOf_shape hkey
    have F₂ := F.turn hs ho'
    dsimp only
    refine wpAny_of_eq (a := ()) rfl (wpAny_assign_Name (s_loc F₂ (fun h'' F₃ => ?_) hL hk hx))
    exact q _ [(I, o')] _ _ _ ⟨o', rfl, hc', hd'⟩ ⟨_, t, List.getElem?_eq_getElem hlt, rfl⟩ (fun _ _ e => e) F₃
  stop := by
    rintro base g₀ g₁ L m vol own T s Q E ⟨o, rfl, hc, hd⟩ gg tT F q
    have hit : s.heap.IsKeyIter I d kvs.length kvs.length ep := ⟨o, (F.vv _ (.head _)).1, hc, hd⟩
    exact wpAny_pyNext_dict_end hh hit (dictAt_keeps F.gh (dictAt_keeps gg hd0)) (List.getElem?_eq_none (Nat.le_refl _)) fun h' hx' => q h' (F.gone tT hx')
  self := by
    rintro base g₀ g₁ L m vol own T s Q E ⟨o, rfl, hc, hd⟩ F q
    exact wpAny_pyIter_keyiter (d := d) (i := 0) (n := kvs.length) (ep := ep) ⟨o, (F.vv _ (.head _)).1, hc, hd⟩ q

def ObRange (I : Addr) (a : Int) (n i : Nat) (own : List (Addr × Obj)) : Prop := own = [(I, { cls := .type "range_iterator", data := .fields #[rawInt (a + i), rawInt ((n : Int) - i), rawInt 1] })]
theorem drive_range {I : Addr} {a : Int} {n : Nat} {x : Str} {px : Pos} (hh : A.handled = none)
    (hk : env.scope.kind = .function) (hx : env.kindOf x = some .local) :
    Drive prog w A env (.Name x px) I n gh0 (ObRange I a n) fun i m m' _ => ∃ t, m' = upd x (.int (a + i) t) m where
  item := by
    rintro base g₀ g₁ L m vol own T i s Q E hlt rfl gg tT hL F q
    have hit : IsRangeIter s.heap I (a + i) ((n : Int) - i) 1 := (F.vv _ (.head _)).1
    refine wpAny_pyNext_range_item hit (by omega) fun h' hit' hs => ?_
    have F₂ := F.turn hs hit'
    dsimp only
    refine wpAny_of_eq (a := ()) rfl (wpAny_assign_Name (s_loc F₂ (fun h'' F₃ => ?_) hL hk hx))
    refine q _ [(I, _)] _ _ _ ?_ ⟨s.toks, rfl⟩ (fun _ _ e => e) F₃
    show _ = [(I, ({ cls := .type "range_iterator", data := .fields #[rawInt (a + ((i + 1 : Nat) : Int)), rawInt ((n : Int) - ((i + 1 : Nat) : Int)), rawInt 1] } : Obj))]
    rw [show a + ((i + 1 : Nat) : Int) = a + i + 1 by omega, show (n : Int) - ((i + 1 : Nat) : Int) = n - i - 1 by omega]
  stop := by
    rintro base g₀ g₁ L m vol own T s Q E rfl gg tT F q
    have hit : IsRangeIter s.heap I (a + n) ((n : Int) - n) 1 := (F.vv _ (.head _)).1
    exact wpAny_pyNext_range_end hh hit (by omega) fun h' hx' => q h' (F.gone tT hx')
  self := by
    rintro base g₀ g₁ L m vol own T s Q E rfl F q
    exact wpAny_pyIter_rangeiter (F.vv _ (.head _)).1 q

/-- two of the frame's own objects and the ledger beside turn, a tuple is made: what enumerate's turn does -/
theorem Fm.turn2 {a b : Addr} {oa ob oa' ob' : Obj} (F : Fm base g₀ L m ((a, oa) :: (b, ob) :: vol) T g h) (tT : T ≠ none) (hx : ∀ c o, c ≠ a → c ≠ b → h.get? c = some o → h'.get? c = some o)
    (ea : h'.get? a = some oa') (eb : h'.get? b = some ob') {c : Addr} {oc : Obj} (ec : h.get? c = none) (ec' : h'.get? c = some oc) :
    ∃ g', Fm base g₀ L m ((a, oa') :: (b, ob') :: vol) T g' h' ∧ g.StaysIn g' ∧ g'.get? c = some oc := by
  have ha := F.vv (a, oa) (.head _)
  have hb := F.vv (b, ob) (.tail _ (.head _))
  have nd := F.nd
  rw [List.map_cons, List.map_cons, List.nodup_cons, List.nodup_cons] at nd
  have nab : a ≠ b := fun z => nd.1 (z ▸ .head _)
  have nb : ∀ x o, base.get? x = some o → x ≠ a ∧ x ≠ b := fun x o q => ⟨fun z => by subst z; exact absurd (Heap.lt_size q) (Nat.not_lt.mpr ha.2.1), fun z => by subst z; exact absurd (Heap.lt_size q) (Nat.not_lt.mpr hb.2.1)⟩
  have gk : g.StaysIn h' := fun x o q => hx x o (fun z => by rw [z, ha.2.2.2] at q; cases q) (fun z => by rw [z, hb.2.2.2] at q; cases q) (F.gh x o q)
  have aT : TAB ≠ a := fun z => by have := ha.2.1; rw [← z] at this; exact absurd F.tlt (Nat.not_lt.mpr this)
  have bT : TAB ≠ b := fun z => by have := hb.2.1; rw [← z] at this; exact absurd F.tlt (Nat.not_lt.mpr this)
  have tab : h'.get? TAB = T := by
    cases q : h.get? TAB with
    | none => exact absurd (F.tab.symm.trans q) tT
    | some t => rw [hx _ t aT bT q, ← F.tab, q]
  have off : ∀ x, h.get? x ≠ none → g.get? x = none → (ext g h h').get? x = none := fun x e e' => ext_off e e'
  have some_ne : ∀ {x : Addr} {o : Obj}, h.get? x = some o → h.get? x ≠ none := fun e => by rw [e]; exact Option.some_ne_none _
  refine ⟨ext g h h', ⟨?_, fun x o q hT => hx x o (nb x o q).1 (nb x o q).2 (F.keep x o q hT), F.lo, F.tlt, tab, fun p hp => ?_, F.nd, ext_in _ _ _, ?_, ⟨fun x o q => ext_sub gk x o (F.gg.sub x o q), fun x e e' => ?_⟩, ?_⟩, ext_sub gk, ext_new ec ec'⟩
  · obtain ⟨oL, es, ep, hLo, r⟩ := F.ns
    exact ⟨oL, es, ep, hx _ _ (Ne.symm ha.2.2.1) (Ne.symm hb.2.2.1) hLo, r⟩
  · rcases List.mem_cons.mp hp with rfl | hp
    · exact ⟨ea, ha.2.1, ha.2.2.1, off _ (some_ne ha.1) ha.2.2.2⟩
    · rcases List.mem_cons.mp hp with rfl | hp
      · exact ⟨eb, hb.2.1, hb.2.2.1, off _ (some_ne hb.1) hb.2.2.2⟩
      · have := F.vv p (.tail _ (.tail _ hp))
        exact ⟨hx _ _ (fun z => nd.1 (.tail _ (List.mem_map.mpr ⟨p, hp, z⟩))) (fun z => nd.2.1 (List.mem_map.mpr ⟨p, hp, z⟩)) this.1, this.2.1, this.2.2.1, off _ (some_ne this.1) this.2.2.2⟩
  · obtain ⟨o, e⟩ := F.hL
    exact off _ (some_ne e) F.gL
  · by_cases hT : x = TAB
    · subst hT
      exact off _ (by rw [F.tab]; exact tT) F.gT
    · cases q : base.get? x with
      | none => exact absurd q e
      | some o => exact off _ (some_ne (F.keep x o q hT)) (F.gg.new x e e')
  · exact off _ (by rw [F.tab]; exact tT) F.gT

def ObEnum (e it l i : Nat) (own : List (Addr × Obj)) : Prop := ∃ (o : Obj) (old : Value), own = [(e, ({ cls := .type "enumerate", dict := none, data := .fields #[.none, .bool false, .ref it, rawInt i, .none, old], slots := #[] } : Obj)), (it, o)] ∧ o.cls = .type "list_iterator" ∧ o.data = .fields #[.ref l, .int (i : Nat) 0]
theorem drive_enum {e it l : Addr} {vs : Array Value} {xk xv : Str} {pk pv pt : Pos} {x1 : Nat} (hh : A.handled = none) (hl : gh0.IsList l vs)
    (hk : env.scope.kind = .function) (hxk : env.kindOf xk = some .local) (hxv : env.kindOf xv = some .local) :
    Drive prog w A env (.Tuple [.Name xk pk, .Name xv pv] x1 pt) e vs.size gh0 (ObEnum e it l) fun i m m' _ => ∃ v t, vs[i]? = some v ∧ m' = upd xv v (upd xk (.int i t) m) where
  item := by
    rintro base g₀ g₁ L m vol own T i s Q E hlt ⟨o, old, rfl, hc, hd⟩ gg tT hL F q
    have hit : s.heap.IsListIter it l i := ⟨o, (F.vv _ (.tail _ (.head _))).1, hc, hd⟩
    have he : IsEnum s.heap e it i old := (F.vv _ (.head _)).1
    have hl₁ : s.heap.IsList l vs := isList_keeps F.gh (isList_keeps gg hl)
    have nd := F.nd
    rw [List.map_append, List.map_cons, List.map_cons, List.cons_append, List.nodup_cons] at nd
    have nei : e ≠ it := fun z => nd.1 (z ▸ .head _)
    refine wpAny_pyNext_enum_item he hit hl₁ (Array.getElem?_eq_getElem hlt) nei fun h' ho hit' htup hsz hkp => ?_
    obtain ⟨o', ho', hc', hd'⟩ := hit'
    have nz := none_of_ge (Nat.le_refl s.heap.objs.size)
    obtain ⟨g', F₂, gg2, htg⟩ := F.turn2 tT hkp ho ho' nz htup
    dsimp only
    refine wpAny_letOwnedTupleGo_enum ho fun h'' he'' hs'' => ?_
    have F₃ := F₂.turn hs'' he''
    refine wpAny_assign_Tuple hh ⟨_, F₃.gh _ _ htg, rfl, 0, rfl⟩ rfl rfl fun h₃ hx₃ => ?_
    have sL : ∀ {x : Addr} {o : Obj}, h''.get? x = some o → h₃.get? x = some o := fun {x o} e => hx₃ x o (fun z => by subst z; exact absurd (Heap.lt_size e) (Nat.lt_irrefl _)) e
    have F₄ := F₃.more (fun x o e => sL e) (by rw [F₃.tab]; cases q : T with
      | none => exact absurd q tT
      | some t => exact sL (by rw [F₃.tab, q]))
    show wpAny _ _ (assignInOrder [assign (.Name xk pk) env, assign (.Name xv pv) env] [.int i s.toks, vs[i]]) _ _ _
    refine wpAny_assignInOrder_more (wpAny_assign_Name (s_loc F₄ (fun h₅ F₅ => ?_) hL hk hxk))
    refine wpAny_assignInOrder_more (wpAny_assign_Name (s_loc F₅ (fun h₆ F₆ => ?_) hL hk hxv))
    refine wpAny_assignInOrder_none ?_
    refine q _ [(e, _), (it, o')] g' _ _ ⟨o', vs[i], ?_, hc', hd'⟩ ⟨_, s.toks, Array.getElem?_eq_getElem hlt, rfl⟩ gg2 F₆
    rw [show ((i + 1 : Nat) : Int) = (i : Int) + 1 by omega]
  stop := by
    rintro base g₀ g₁ L m vol own T s Q E ⟨o, old, rfl, hc, hd⟩ gg tT F q
    have hit : s.heap.IsListIter it l vs.size := ⟨o, (F.vv _ (.tail _ (.head _))).1, hc, hd⟩
    have he : IsEnum s.heap e it (vs.size : Nat) old := (F.vv _ (.head _)).1
    exact wpAny_pyNext_enum_end hh he hit (isList_keeps F.gh (isList_keeps gg hl)) (Array.getElem?_eq_none (Nat.le_refl _)) fun h' hx' => q h' ((F.perm (List.Perm.swap _ _ _)).gone tT hx').drop
  self := by
    rintro base g₀ g₁ L m vol own T s Q E ⟨o, old, rfl, hc, hd⟩ F q
    exact wpAny_pyIter_enum (F.vv _ (.head _)).1 q

/-- a for over an iterator -/
theorem loop_for {target : PySem.Expr} {I : Addr} {n : Nat} {Ob : Nat → List (Addr × Obj) → Prop} {Asg : Nat → (Str → Option Value) → (Str → Option Value) → Heap → Prop} {body : List Stmt} {R : Result → Shared → Prop}
    (D : Drive prog w A env target I n g Ob Asg) {own : List (Addr × Obj)} (F : Fm base g₀ L m (own ++ vol) T g s.heap) (ho : Ob 0 own) (tT : T ≠ none)
    (J : Nat → (Str → Option Value) → Heap → Prop) (h0 : J 0 m g)
    (turn : ∀ (i : Nat) (m₁ m₁' : Str → Option Value) (g₁ g₁' h₁ : Heap) (tk : Nat) (own' : List (Addr × Obj)) (E' : Value → Shared → Prop), i < n → J i m₁ g₁ → g.StaysIn g₁ → g₁.StaysIn g₁' → Asg i m₁ m₁' g₁' →
      Fm base g₀ L m₁' (own' ++ vol) T g₁' h₁ →
      wpAny (model prog w) A (execs body env) (fun f s₂ => match f with
        | .next | .cont => ∃ m₂ g₂ h₂ tk₂, s₂ = { s with heap := h₂, toks := tk₂ } ∧ Fm base g₀ L m₂ (own' ++ vol) T g₂ h₂ ∧ g₁'.StaysIn g₂ ∧ J (i + 1) m₂ g₂
        | .brk => False
        | .ret v => R (.ok (.ret v)) s₂) E' { s with heap := h₁, toks := tk })
    (done : ∀ m₁ g₁ h₁ tk, J n m₁ g₁ → g.StaysIn g₁ → Fm base g₀ L m₁ vol T g₁ h₁ → R (.ok .next) { s with heap := h₁, toks := tk })
    (hL : env.locals = L := by rfl) : codeAny (model prog w) A (.forLoop target (.ref I) body [] env) R s := by
  refine codeAny_forLoop_any (fun k s' => ∃ i m₁ g₁ h₁ tk own₁, s' = { s with heap := h₁, toks := tk } ∧ Fm base g₀ L m₁ (own₁ ++ vol) T g₁ h₁ ∧ Ob i own₁ ∧
    g.StaysIn g₁ ∧ J i m₁ g₁ ∧ i ≤ n ∧ k = n - i) ?_ n ⟨0, m, g, s.heap, s.toks, own, rfl, F, ho, fun _ _ e => e, h0, Nat.zero_le _, rfl⟩
  rintro k s' ⟨i, m₁, g₁, h₁, tk, own₁, rfl, F₁, ho₁, gg, hJ, hi, rfl⟩
  by_cases hlt : i < n
  · refine wpAny_mono (D.item (Q := fun s₂ => wpAny (model prog w) A (execs body env) (fun f s₃ => match f with
          | .next | .cont => ∃ m, m < n - i ∧ ∃ i m₁ g₁ h₁ tk own₁, s₃ = { s with heap := h₁, toks := tk } ∧ Fm base g₀ L m₁ (own₁ ++ vol) T g₁ h₁ ∧ Ob i own₁ ∧ g.StaysIn g₁ ∧ J i m₁ g₁ ∧ i ≤ n ∧ m = n - i
          | .brk => R (.ok .next) s₃
          | .ret v => R (.ok (.ret v)) s₃) (notedBy (model prog w) A env fun e s' => R (.error e) s') s₂) hlt ho₁ gg tT hL F₁ fun m' own' g₂ h' tk' ho' as g12 F₂ => ?_) (fun r s₁ q => ?_) fun _ _ x => x
    · refine wpAny_mono (turn i m₁ m' g₁ g₂ h' tk' own' _ hlt hJ gg g12 as F₂) (fun f s₂ q => ?_) fun _ _ x => x
      cases f with
      | next =>
        obtain ⟨m₂, g₃, h₂, tk₂, rfl, F₃, g23, J3⟩ := q
        exact ⟨n - (i + 1), by omega, i + 1, m₂, g₃, h₂, tk₂, own', rfl, F₃, ho', fun b o e => g23 b o (g12 b o (gg b o e)), J3, hlt, rfl⟩
      | cont =>
        obtain ⟨m₂, g₃, h₂, tk₂, rfl, F₃, g23, J3⟩ := q
        exact ⟨n - (i + 1), by omega, i + 1, m₂, g₃, h₂, tk₂, own', rfl, F₃, ho', fun b o e => g23 b o (g12 b o (gg b o e)), J3, hlt, rfl⟩
      | brk => exact q.elim
      | ret v => exact q
    · cases r with
      | none => exact q.elim
      | some v => exact q
  · have hi' : i = n := Nat.le_antisymm hi (Nat.not_lt.mp hlt)
    subst hi'
    refine wpAny_mono (D.stop (Q := fun s₁ => R (.ok .next) s₁) ho₁ gg tT F₁ fun h' F₂ => done m₁ g₁ h' tk hJ gg F₂) (fun r s₁ q => ?_) fun _ _ x => x
    cases r with
    | none => exact wpAny_execs_nil q
    | some v => exact q.elim
end
end Mine
end

/-! ## J5 -/
section
set_option maxRecDepth 100000
open PySem PySem.W PyProof.Rows PySem.Calls
namespace Mine

section
variable {prog : Program} {w : World} {A : Around} {E : Value → Shared → Prop} {s : Shared} {R : Result → Shared → Prop}
  {base g₀ g h h' gh0 : Heap} {L : Addr} {m m' : Str → Option Value} {vol : List (Addr × Obj)} {T : Option Obj} {env : Env}

theorem codeAny_compLoop_listA {elt target iter : PySem.Expr} {scope : Scope} {pos : Pos} {it acc : Value} {env : Env} (I : Nat → Shared → Prop)
    (turn : ∀ n s, I n s → ∀ E', wpAny (model prog w) A (pyNext it) (fun r s₁ => match r with
      | none => R (.ok .next) s₁
      | some v => wpAny (model prog w) A (letOwnedTupleGo target it v) (fun _ s₁' => wpAny (model prog w) A (assign target env v) (fun _ s₂ => wpAny (model prog w) A (eval elt env) (fun x s₃ =>
          wpAny (model prog w) A (call (.builtin "list.append") [acc, x]) (fun _ s₄ => ∃ m, m < n ∧ I m s₄) E' s₃) E' s₂) E' s₁') E' s₁) E' s)
    (n : Nat) (h : I n s) :
    codeAny (model prog w) A (.compLoop (.ListComp elt [⟨target, iter, [], 0⟩] scope pos) 0 it acc env) R s := by
  refine codeAny_loop rfl I (fun n s hI => ?_) n h
  show wpAny _ _ ((compTurn (.ListComp elt [⟨target, iter, [], 0⟩] scope pos) 0 it acc env).onRaise (fun x => do noteFrame x env; theTreesLotGoes x)) _ _ s
  refine wpAny_noted ?_
  rw [compTurn_list1]
  refine wpAny_bind (wpAny_standAt (wpAny_bind (wpAny_mono (turn n s hI _) (fun r s₁ h₁ => ?_) fun _ _ h' => h')))
  cases r with
  | none => exact wpAny_pure h₁
  | some v =>
    refine wpAny_bind (wpAny_mono h₁ (fun _ s₁' h₁' => ?_) fun _ _ h' => h')
    exact wpAny_bind (wpAny_mono h₁' (fun _ s₂ h₂ => wpAny_bind (wpAny_bind (wpAny_mono h₂ (fun x s₃ h₃ => wpAny_bind (wpAny_mono h₃
      (fun _ s₄ h₄ => wpAny_pure (wpAny_pure ⟨rfl, h₄⟩)) fun _ _ h' => h')) fun _ _ h' => h'))) fun _ _ h' => h')

theorem codeAny_compLoop_dictA {kx vx target iter : PySem.Expr} {scope : Scope} {pos : Pos} {it : Value} {D : Addr} {env : Env} (I : Nat → Shared → Prop)
    (turn : ∀ n s, I n s → ∀ E', wpAny (model prog w) A (pyNext it) (fun r s₁ => match r with
      | none => R (.ok .next) s₁
      | some v => wpAny (model prog w) A (letOwnedTupleGo target it v) (fun _ s₁' => wpAny (model prog w) A (assign target env v) (fun _ s₂ =>
          wpAny (model prog w) A (eval kx env) (fun kv s₄ => wpAny (model prog w) A (eval vx env) (fun vv s₅ =>
              wpAny (model prog w) A (dictSet D kv vv) (fun _ s₆ => ∃ m, m < n ∧ I m s₆) E' s₅) E' s₄) E' s₂) E' s₁') E' s₁) E' s)
    (n : Nat) (h : I n s) :
    codeAny (model prog w) A (.compLoop (.DictComp kx vx [⟨target, iter, [], 0⟩] scope pos) 0 it (.ref D) env) R s := by
  refine codeAny_loop rfl I (fun n s hI => ?_) n h
  show wpAny _ A ((compTurn (.DictComp kx vx [⟨target, iter, [], 0⟩] scope pos) 0 it (.ref D) env).onRaise (fun x => do noteFrame x env; theTreesLotGoes x)) _ _ s
  refine wpAny_noted ?_
  rw [compTurn_dict]
  refine wpAny_bind (wpAny_standAt (wpAny_bind (wpAny_mono (turn n s hI _) (fun r s₁ h₁ => ?_) fun _ _ h' => h')))
  cases r with
  | none => exact wpAny_pure h₁
  | some v =>
    refine wpAny_bind (wpAny_mono h₁ (fun _ s₁' h₁' => ?_) fun _ _ h' => h')
    refine wpAny_bind (wpAny_mono h₁' (fun _ s₂ h₂ => ?_) fun _ _ h' => h')
    refine wpAny_bind (wpAny_pure ?_)
    exact wpAny_bind (wpAny_bind (wpAny_mono h₂ (fun kv s₄ h₄ => wpAny_bind (wpAny_holding (wpAny_mono h₄ (fun vv s₅ h₅ => wpAny_bind (wpAny_standAt (wpAny_holding (wpAny_mono h₅ (fun _ s₆ h₆ => wpAny_pure ⟨rfl, h₆⟩) fun _ _ h' => h')))) fun _ _ h' => h'))) fun _ _ h' => h'))

/-- a comprehension's own names: the frame's are laid aside -/
theorem Fm.enterComp {oL oC : Obj} {mc : Str → Option Value} (F : Fm base g₀ L m vol T g h) (tT : T ≠ none) (hL : h.get? L = some oL) (hn : h'.Ns h.objs.size mc) (hs : Heap.SameBut h.objs.size (h.push oC) h') :
    Fm base g₀ h.objs.size mc ((L, oL) :: vol) T g h' := by
  have nz := none_of_ge (Nat.le_refl h.objs.size)
  have k : ∀ b o, h.get? b = some o → h'.get? b = some o := fun b o e => (hs.2 b (fun z => by rw [z, nz] at e; cases e)).trans (Heap.get?_push_of_some _ e)
  refine ⟨hn, fun b o e hb => k _ _ (F.keep b o e hb), Nat.le_trans F.lo (Nat.le_of_lt (Heap.lt_size hL)), F.tlt, ?_, fun p hp => ?_, ?_, fun b o e => k _ _ (F.gh b o e), ?_, F.gg, F.gT⟩
  · cases q : T with
    | none => exact absurd q tT
    | some t => exact k _ _ (by rw [F.tab, q])
  · rcases List.mem_cons.mp hp with rfl | hp
    · exact ⟨k _ _ hL, F.lo, Nat.ne_of_lt (Heap.lt_size hL), F.gL⟩
    · obtain ⟨a, b, c, d⟩ := F.vv p hp
      exact ⟨k _ _ a, b, Nat.ne_of_lt (Heap.lt_size a), d⟩
  · rw [List.map_cons, List.nodup_cons]
    refine ⟨fun hm => ?_, F.nd⟩
    obtain ⟨p, hp, e⟩ := List.mem_map.mp hm
    exact (F.vv p hp).2.2.1 e
  · cases e : g.get? h.objs.size with
    | none => rfl
    | some o => rw [F.gh _ _ e] at nz; cases nz

theorem Fm.exitComp {C : Addr} {oL : Obj} {mc : Str → Option Value} (F : Fm base g₀ C mc ((L, oL) :: vol) T g h) (hL : ∃ es ep, oL.data = .dict es ep ∧ StrKeys es ∧ ∀ name, nsFind es name = m name) (hs : Heap.SameBut C h h') :
    Fm base g₀ L m vol T g h' := by
  have ha := F.vv (L, oL) (.head _)
  have nd := F.nd
  rw [List.map_cons, List.nodup_cons] at nd
  have F' := F.names (h' := h') (m' := mc)
  obtain ⟨es, ep, hr⟩ := hL
  refine ⟨⟨oL, es, ep, (hs.2 _ ha.2.2.1).trans ha.1, hr⟩, fun b o e hb => (hs.2 b (fun z => ?_)).trans (F.keep b o e hb), ha.2.1, F.tlt, (hs.2 _ F.ltab).trans F.tab, fun p hp => ?_, nd.2, fun b o e => (hs.2 b (fun z => ?_)).trans (F.gh b o e), ha.2.2.2, F.gg, F.gT⟩
  · subst z; exact absurd (Heap.lt_size e) (Nat.not_lt.mpr F.lo)
  · obtain ⟨a, b, c, d⟩ := F.vv p (.tail _ hp)
    exact ⟨(hs.2 _ c).trans a, b, fun z => nd.1 (List.mem_map.mpr ⟨p, hp, z⟩), d⟩
  · subst z; rw [F.gL] at e; cases e

theorem Fm.nsOf (F : Fm base g₀ L m vol T g h) : ∃ oL, h.get? L = some oL ∧ ∃ es ep, oL.data = .dict es ep ∧ StrKeys es ∧ ∀ name, nsFind es name = m name :=
  let ⟨o, es, ep, e, r⟩ := F.ns; ⟨o, e, es, ep, r⟩

/-- a list comprehension, from where its iterator stands -/
theorem lc_core' {elt target iter : PySem.Expr} {scope : Scope} {pos : Pos} {cl : List (Str × Addr)} {I : Addr} {n : Nat} {Ob : Nat → List (Addr × Obj) → Prop} {Asg : Nat → (Str → Option Value) → (Str → Option Value) → Heap → Prop} {R₀ : Value → Addr → Result → Shared → Prop}
    (D : ∀ C, Drive prog w A (compEnvC scope cl C env) target I n g Ob Asg) {own : List (Addr × Obj)} (F : Fm base g₀ L m (own ++ vol) T g s.heap) (ho : Ob 0 own) (tT : T ≠ none) (hsz : n ≤ sizeLine)
    (J : Nat → List Value → Heap → Prop) (h0 : J 0 [] g)
    (turn : ∀ (i : Nat) (items : List Value) (C : Addr) (mc mc' : Str → Option Value) (g₁ g₁' h₁ : Heap) (tk : Nat) (vol' : List (Addr × Obj)) (E' : Value → Shared → Prop), i < n → J i items g₁ → g.StaysIn g₁ → g₁.StaysIn g₁' → Asg i mc mc' g₁' →
      (∀ p ∈ vol, p ∈ vol') → Fm base g₀ C mc' vol' T g₁' h₁ →
      wpAny (model prog w) A (eval elt (compEnvC scope cl C env)) (fun y s₂ => ∃ m₂ g₂ h₂ tk₂, s₂ = { s with heap := h₂, toks := tk₂ } ∧ Fm base g₀ C m₂ vol' T g₂ h₂ ∧ g₁'.StaysIn g₂ ∧ J (i + 1) (items ++ [y]) g₂) E' { s with heap := h₁, toks := tk })
    (fin : ∀ (C a : Addr) (mc : Str → Option Value) (items : List Value) (oD oL : Obj) (ne : Nat) (g₁ h₁ : Heap) (tk : Nat), J n items g₁ → g.StaysIn g₁ → Fm base g₀ C mc ((a, oD) :: (L, oL) :: vol) T g₁ h₁ → oD.cls = .type "list" → oD.data = .seq items.toArray ne →
      (∃ es ep, oL.data = .dict es ep ∧ StrKeys es ∧ ∀ name, nsFind es name = m name) → s.heap.get? a = none → items.length = n → R₀ (.ref a) C (.ok .next) { s with heap := h₁, toks := tk })
    (hcell : ∀ y ∈ scope.names, y.2 ≠ .cell) (hkind : scope.kind = .function) :
    wpAny (model prog w) A (newList []) (fun acc s₃ => wpAny (model prog w) A (newFunctionEnv scope env.globals cl [] env.qual none .none (some env)) (fun cenv s₄ =>
      codeAny (model prog w) A (.compStart (.ListComp elt [⟨target, iter, [], 0⟩] scope pos) 0 (.ref I) acc { cenv with scope := relabel scope env }) (R₀ acc cenv.locals) s₄) E s₃) E s := by
  refine wpAny_newObj_type (wpAny_newFunctionEnv hcell (by intro y hy; simp at hy) (fun h₁ hns₁ hsb₁ => ?_) hkind)
  dsimp only at hns₁ hsb₁ ⊢
  have nz := none_of_ge (Nat.le_refl s.heap.objs.size)
  have F1 := F.pushVol ({ cls := .type "list", data := .seq ([] : List Value).toArray } : Obj)
  obtain ⟨oL, eL, nsL⟩ := F1.nsOf
  have F2 := F1.enterComp tT eL hns₁ hsb₁
  have F3 := F2.perm (vol' := own ++ (s.heap.objs.size, ({ cls := .type "list", data := .seq ([] : List Value).toArray } : Obj)) :: (L, oL) :: vol) (by
    refine List.Perm.trans ?_ List.perm_middle.symm
    refine (List.Perm.swap _ _ _).trans (List.Perm.cons _ ?_)
    exact List.perm_middle.symm)
  generalize hC : (s.heap.push ({ cls := .type "list", dict := none, data := .seq ([] : List Value).toArray } : Obj)).objs.size = C at *
  have loop : ∀ s₃ : Shared, s₃ = { s with heap := h₁, toks := s.toks + ([] : List (Str × Value)).length } →
      codeAny (model prog w) A (.compLoop (.ListComp elt [⟨target, iter, [], 0⟩] scope pos) 0 (.ref I) (.ref s.heap.objs.size) (compEnvC scope cl C env)) (R₀ (.ref s.heap.objs.size) C) s₃ := by
    rintro s₃ rfl
    refine codeAny_compLoop_listA (fun k s' => ∃ i mc g₁ h₂ tk own₁ items oD ne, s' = { s with heap := h₂, toks := tk } ∧ Fm base g₀ C mc (own₁ ++ (s.heap.objs.size, oD) :: (L, oL) :: vol) T g₁ h₂ ∧ Ob i own₁ ∧
      oD.cls = .type "list" ∧ oD.data = .seq (items : List Value).toArray ne ∧ items.length = i ∧ g.StaysIn g₁ ∧ J i items g₁ ∧ i ≤ n ∧ k = n - i) ?_ n ⟨0, _, g, h₁, _, own, [], _, 0, rfl, F3, ho, rfl, rfl, rfl, fun _ _ e => e, h0, Nat.zero_le _, rfl⟩
    rintro k s' ⟨i, mc, g₁, h₂, tk, own₁, items, oD, ne, rfl, F₁, ho₁, hc, hd, hlen, gg, hJ, hi, rfl⟩ E'
    by_cases hlt : i < n
    · refine wpAny_mono ((D C).item (Q := fun s₂ => wpAny (model prog w) A (eval elt (compEnvC scope cl C env)) (fun x s₃ =>
          wpAny (model prog w) A (call (.builtin "list.append") [.ref s.heap.objs.size, x]) (fun _ s₄ => ∃ m, m < n - i ∧ ∃ i mc g₁ h₂ tk own₁ items oD ne, s₄ = { s with heap := h₂, toks := tk } ∧ Fm base g₀ C mc (own₁ ++ (s.heap.objs.size, oD) :: (L, oL) :: vol) T g₁ h₂ ∧ Ob i own₁ ∧
            oD.cls = .type "list" ∧ oD.data = .seq (items : List Value).toArray ne ∧ items.length = i ∧ g.StaysIn g₁ ∧ J i items g₁ ∧ i ≤ n ∧ m = n - i) E' s₃) E' s₂) hlt ho₁ gg tT rfl F₁ fun m' own' g₂ h' tk' ho' as g12 F₂ => ?_) (fun r s₁ q => ?_) fun _ _ x => x
      · refine wpAny_mono (turn i items C mc m' g₁ g₂ h' tk' _ E' hlt hJ gg g12 as (fun p hp => List.mem_append_right _ (.tail _ (.tail _ hp))) F₂) (fun y s₂ q => ?_) fun _ _ x => x
        obtain ⟨m₂, g₃, h₃, tk₃, rfl, F₃, g23, J3⟩ := q
        have F₄ := F₃.perm List.perm_middle
        have hl : h₃.IsList s.heap.objs.size items.toArray := ⟨oD, (F₄.vv _ (.head _)).1, hc, ne, hd⟩
        refine wpAny_list_append hl (fun h₄ hl₄ hs₄ => ?_) (by rw [List.size_toArray]; omega)
        obtain ⟨oD', eD, hcD, ne', hdD⟩ := hl₄
        have F₅ := (F₄.turn hs₄ eD).perm List.perm_middle.symm
        refine ⟨n - (i + 1), by omega, i + 1, m₂, g₃, h₄, _, own', items ++ [y], oD', ne', rfl, F₅, ho', hcD, ?_, by simp [hlen], fun b o e => g23 b o (g12 b o (gg b o e)), J3, hlt, rfl⟩
        rw [hdD]; simp
      · cases r with
        | none => exact q.elim
        | some v => exact q
    · have hi' : i = n := Nat.le_antisymm hi (Nat.not_lt.mp hlt)
      subst hi'
      refine wpAny_mono ((D C).stop (Q := fun s₁ => R₀ (.ref s.heap.objs.size) C (.ok .next) s₁) ho₁ gg tT F₁ fun h' F₂ => ?_) (fun r s₁ q => ?_) fun _ _ x => x
      · exact fin C _ mc items oD oL ne g₁ h' _ hJ gg F₂ hc hd nsL nz hlen
      · cases r with
        | none => exact q
        | some v => exact q.elim
  exact codeAny_compStart_list (loop _ rfl) ((D C).self ho F3 (loop _ rfl))

/-- a list comprehension, from where its iterator stands -/
theorem lc_core {elt target iter : PySem.Expr} {scope : Scope} {pos : Pos} {cl : List (Str × Addr)} {I : Addr} {n : Nat} {Ob : Nat → List (Addr × Obj) → Prop} {Asg : Nat → (Str → Option Value) → (Str → Option Value) → Heap → Prop} {Q : Value → Shared → Prop}
    (D : ∀ C, Drive prog w A (compEnvC scope cl C env) target I n g Ob Asg) {own : List (Addr × Obj)} (F : Fm base g₀ L m (own ++ vol) T g s.heap) (ho : Ob 0 own) (tT : T ≠ none) (hsz : n ≤ sizeLine)
    (J : Nat → List Value → Heap → Prop) (h0 : J 0 [] g)
    (turn : ∀ (i : Nat) (items : List Value) (C : Addr) (mc mc' : Str → Option Value) (g₁ g₁' h₁ : Heap) (tk : Nat) (vol' : List (Addr × Obj)) (E' : Value → Shared → Prop), i < n → J i items g₁ → g.StaysIn g₁ → g₁.StaysIn g₁' → Asg i mc mc' g₁' →
      (∀ p ∈ vol, p ∈ vol') → Fm base g₀ C mc' vol' T g₁' h₁ →
      wpAny (model prog w) A (eval elt (compEnvC scope cl C env)) (fun y s₂ => ∃ m₂ g₂ h₂ tk₂, s₂ = { s with heap := h₂, toks := tk₂ } ∧ Fm base g₀ C m₂ vol' T g₂ h₂ ∧ g₁'.StaysIn g₂ ∧ J (i + 1) (items ++ [y]) g₂) E' { s with heap := h₁, toks := tk })
    (done : ∀ a items g₁ g₂ h₁ tk, J n items g₁ → g.StaysIn g₁ → g₁.StaysIn g₂ → Fm base g₀ L m vol T g₂ h₁ → g₂.IsList a items.toArray → g₁.get? a = none → s.heap.get? a = none → items.length = n → Q (.ref a) { s with heap := h₁, toks := tk })
    (hcell : ∀ y ∈ scope.names, y.2 ≠ .cell) (hkind : scope.kind = .function) :
    wpAny (model prog w) A (newList []) (fun acc s₃ => wpAny (model prog w) A (newFunctionEnv scope env.globals cl [] env.qual none .none (some env)) (fun cenv s₄ =>
      codeAny (model prog w) A (.compStart (.ListComp elt [⟨target, iter, [], 0⟩] scope pos) 0 (.ref I) acc { cenv with scope := relabel scope env }) (compPost (model prog w) A E none Q acc cenv.locals) s₄) E s₃) E s := by
  refine lc_core' D F ho tT hsz J h0 turn ?_ hcell hkind
  intro C a mc items oD oL ne g₁ h₁ tk hJ gg F₂ hc hd nsL nz hlen
  refine ⟨mc, F₂.ns, fun h'' hs'' => ?_⟩
  obtain ⟨g₃, F₃, g13, eD, nD, -⟩ := F₂.tell
  exact done _ items g₁ g₃ h'' _ hJ gg g13 (F₃.exitComp nsL hs'') ⟨oD, eD, hc, ne, hd⟩ nD nz hlen

/-- the same, its list stored to a name at once -/
theorem lc_coreU {elt target iter : PySem.Expr} {scope : Scope} {pos py : Pos} {y : Str} {cl : List (Str × Addr)} {I : Addr} {n : Nat} {Ob : Nat → List (Addr × Obj) → Prop} {Asg : Nat → (Str → Option Value) → (Str → Option Value) → Heap → Prop} {Q : Value → Shared → Prop}
    (D : ∀ C, Drive prog w A (compEnvC scope cl C env) target I n g Ob Asg) {own : List (Addr × Obj)} (F : Fm base g₀ L m (own ++ vol) T g s.heap) (ho : Ob 0 own) (tT : T ≠ none) (hsz : n ≤ sizeLine)
    (J : Nat → List Value → Heap → Prop) (h0 : J 0 [] g)
    (turn : ∀ (i : Nat) (items : List Value) (C : Addr) (mc mc' : Str → Option Value) (g₁ g₁' h₁ : Heap) (tk : Nat) (vol' : List (Addr × Obj)) (E' : Value → Shared → Prop), i < n → J i items g₁ → g.StaysIn g₁ → g₁.StaysIn g₁' → Asg i mc mc' g₁' →
      (∀ p ∈ vol, p ∈ vol') → Fm base g₀ C mc' vol' T g₁' h₁ →
      wpAny (model prog w) A (eval elt (compEnvC scope cl C env)) (fun y s₂ => ∃ m₂ g₂ h₂ tk₂, s₂ = { s with heap := h₂, toks := tk₂ } ∧ Fm base g₀ C m₂ vol' T g₂ h₂ ∧ g₁'.StaysIn g₂ ∧ J (i + 1) (items ++ [y]) g₂) E' { s with heap := h₁, toks := tk })
    (done : ∀ a items g₁ g₂ h₁ tk, J n items g₁ → g.StaysIn g₁ → g₁.StaysIn g₂ → Fm base g₀ L (upd y (.ref a) m) vol T g₂ h₁ → g₂.IsList a items.toArray → g₁.get? a = none → s.heap.get? a = none → items.length = n → Q .none { s with heap := h₁, toks := tk })
    (hcell : ∀ y ∈ scope.names, y.2 ≠ .cell) (hkind : scope.kind = .function) (hL : env.locals = L) (hk : env.scope.kind = .function) (hy : env.kindOf y = some .local) :
    wpAny (model prog w) A (newList []) (fun acc s₃ => wpAny (model prog w) A (newFunctionEnv scope env.globals cl [] env.qual none .none (some env)) (fun cenv s₄ =>
      codeAny (model prog w) A (.compStart (.ListComp elt [⟨target, iter, [], 0⟩] scope pos) 0 (.ref I) acc { cenv with scope := relabel scope env }) (compPost (model prog w) A E (some (assign (.Name y py) env)) Q acc cenv.locals) s₄) E s₃) E s := by
  refine lc_core' D F ho tT hsz J h0 turn ?_ hcell hkind
  intro C a mc items oD oL ne g₁ h₁ tk hJ gg F₂ hc hd nsL nz hlen
  obtain ⟨g₃, F₃, g13, eD, nD, -⟩ := F₂.tell
  have hvL := F₃.vv _ (.head _)
  obtain ⟨es, ep, q1, q2, q3⟩ := nsL
  refine wpAny_assign_Name (wpAny_storeName_local hy (m := m) (hL ▸ ⟨oL, es, ep, hvL.1, q1, q2, q3⟩) (fun h₄ hn hs => ?_) (by rw [hk]; rfl))
  rw [hL] at hn hs
  obtain ⟨oL', es', ep', r0, r1⟩ := hn
  have F₄ := F₃.turn hs r0
  refine ⟨mc, F₄.ns, fun h'' hs'' => ?_⟩
  exact done _ items g₁ g₃ h'' _ hJ gg g13 (F₄.exitComp ⟨es', ep', r1⟩ hs'') ⟨oD, F₃.gh _ _ eD |> fun _ => eD, hc, ne, hd⟩ nD nz hlen

/-- a dict comprehension, from where its iterator stands -/
theorem dc_core {kx vx target iter : PySem.Expr} {scope : Scope} {pos : Pos} {cl : List (Str × Addr)} {I : Addr} {n : Nat} {Ob : Nat → List (Addr × Obj) → Prop} {Asg : Nat → (Str → Option Value) → (Str → Option Value) → Heap → Prop} {Q : Value → Shared → Prop}
    (D : ∀ C, Drive prog w A (compEnvC scope cl C env) target I n g Ob Asg) {own : List (Addr × Obj)} (F : Fm base g₀ L m (own ++ vol) T g s.heap) (ho : Ob 0 own) (tT : T ≠ none) (hsz : n ≤ sizeLine)
    (J : Nat → List (Str × Value) → Heap → Prop) (h0 : J 0 [] g)
    (turn : ∀ (i : Nat) (kvs : List (Str × Value)) (C : Addr) (mc mc' : Str → Option Value) (g₁ g₁' h₁ : Heap) (tk : Nat) (vol' : List (Addr × Obj)) (E' : Value → Shared → Prop), i < n → J i kvs g₁ → g.StaysIn g₁ → g₁.StaysIn g₁' → Asg i mc mc' g₁' →
      (∀ p ∈ vol, p ∈ vol') → Fm base g₀ C mc' vol' T g₁' h₁ →
      wpAny (model prog w) A (eval kx (compEnvC scope cl C env)) (fun kv s₂ => wpAny (model prog w) A (eval vx (compEnvC scope cl C env)) (fun y s₃ => ∃ k t m₂ g₂ h₂ tk₂, kv = .str k t ∧ s₃ = { s with heap := h₂, toks := tk₂ } ∧ Fm base g₀ C m₂ vol' T g₂ h₂ ∧ g₁'.StaysIn g₂ ∧ J (i + 1) (stored kvs k y) g₂ ∧ kvs.length ≤ i) E' s₂) E' { s with heap := h₁, toks := tk })
    (done : ∀ a kvs ep g₁ g₂ h₁ tk, J n kvs g₁ → g.StaysIn g₁ → g₁.StaysIn g₂ → Fm base g₀ L m vol T g₂ h₁ → g₂.DictAt (PySem.strKind prog w) a kvs ep → (a == sysModules) = false → g₁.get? a = none → s.heap.get? a = none → Q (.ref a) { s with heap := h₁, toks := tk })
    (hcell : ∀ y ∈ scope.names, y.2 ≠ .cell) (hkind : scope.kind = .function) :
    wpAny (model prog w) A newDict (fun acc s₃ => wpAny (model prog w) A (newFunctionEnv scope env.globals cl [] env.qual none .none (some env)) (fun cenv s₄ =>
      codeAny (model prog w) A (.compStart (.DictComp kx vx [⟨target, iter, [], 0⟩] scope pos) 0 (.ref I) acc { cenv with scope := relabel scope env }) (compPost (model prog w) A E none Q acc cenv.locals) s₄) E s₃) E s := by
  refine wpAny_newObj_type (wpAny_newFunctionEnv hcell (by intro y hy; simp at hy) (fun h₁ hns₁ hsb₁ => ?_) hkind)
  dsimp only at hns₁ hsb₁ ⊢
  have nz := none_of_ge (Nat.le_refl s.heap.objs.size)
  have F1 := F.pushVol ({ cls := .type "dict", data := .dict #[] } : Obj)
  obtain ⟨oL, eL, nsL⟩ := F1.nsOf
  have F2 := F1.enterComp tT eL hns₁ hsb₁
  have F3 := F2.perm (vol' := own ++ (s.heap.objs.size, ({ cls := .type "dict", data := .dict #[] } : Obj)) :: (L, oL) :: vol) (by
    refine List.Perm.trans ?_ List.perm_middle.symm
    refine (List.Perm.swap _ _ _).trans (List.Perm.cons _ ?_)
    exact List.perm_middle.symm)
  have na : (s.heap.objs.size == sysModules) = false := by
    have h1 := (F1.vv _ (.head _)).2.1
    have h2 := F1.tlt
    have : s.heap.objs.size ≠ 1 := by intro z; rw [z] at h1; have : (265 : Nat) < 1 := Nat.lt_of_lt_of_le h2 h1; omega
    exact beq_false_of_ne this
  have hnew : (s.heap.push { cls := .type "dict", dict := none, data := .dict #[] }).DictOf (PySem.strKind prog w) s.heap.objs.size [] :=
    ⟨_, #[], 0, Heap.get?_push_size _ rfl, ⟨rfl, rfl, rfl⟩, rfl, by intro e he; simp at he, .nil, by simp⟩
  generalize hC : (s.heap.push ({ cls := .type "dict", dict := none, data := .dict #[] } : Obj)).objs.size = C at *
  have loop : ∀ s₃ : Shared, s₃ = { s with heap := h₁, toks := s.toks + ([] : List (Str × Value)).length } →
      codeAny (model prog w) A (.compLoop (.DictComp kx vx [⟨target, iter, [], 0⟩] scope pos) 0 (.ref I) (.ref s.heap.objs.size) (compEnvC scope cl C env)) (compPost (model prog w) A E none Q (.ref s.heap.objs.size) C) s₃ := by
    rintro s₃ rfl
    refine codeAny_compLoop_dictA (fun k s' => ∃ i mc g₁ h₂ tk own₁ kvs oD, s' = { s with heap := h₂, toks := tk } ∧ Fm base g₀ C mc (own₁ ++ (s.heap.objs.size, oD) :: (L, oL) :: vol) T g₁ h₂ ∧ Ob i own₁ ∧
      h₂.DictOf (PySem.strKind prog w) s.heap.objs.size kvs ∧ g.StaysIn g₁ ∧ J i kvs g₁ ∧ i ≤ n ∧ k = n - i) ?_ n ⟨0, _, g, h₁, _, own, [], _, rfl, F3, ho, ?_, fun _ _ e => e, h0, Nat.zero_le _, rfl⟩
    · rintro k s' ⟨i, mc, g₁, h₂, tk, own₁, kvs, oD, rfl, F₁, ho₁, hdo, gg, hJ, hi, rfl⟩ E'
      by_cases hlt : i < n
      · refine wpAny_mono ((D C).item (Q := fun s₂ => wpAny (model prog w) A (eval kx (compEnvC scope cl C env)) (fun kv s₄ => wpAny (model prog w) A (eval vx (compEnvC scope cl C env)) (fun vv s₅ =>
              wpAny (model prog w) A (dictSet s.heap.objs.size kv vv) (fun _ s₆ => ∃ m, m < n - i ∧ ∃ i mc g₁ h₂ tk own₁ kvs oD, s₆ = { s with heap := h₂, toks := tk } ∧ Fm base g₀ C mc (own₁ ++ (s.heap.objs.size, oD) :: (L, oL) :: vol) T g₁ h₂ ∧ Ob i own₁ ∧
                h₂.DictOf (PySem.strKind prog w) s.heap.objs.size kvs ∧ g.StaysIn g₁ ∧ J i kvs g₁ ∧ i ≤ n ∧ m = n - i) E' s₅) E' s₄) E' s₂) hlt ho₁ gg tT rfl F₁ fun m' own' g₂ h' tk' ho' as g12 F₂ => ?_) (fun r s₁ q => ?_) fun _ _ x => x
        · have gkeep : ∀ {x : Heap}, (∃ o, h₂.get? s.heap.objs.size = some o) → True := fun _ => trivial
          refine wpAny_mono (turn i kvs C mc m' g₁ g₂ h' tk' _ E' hlt hJ gg g12 as (fun p hp => List.mem_append_right _ (.tail _ (.tail _ hp))) F₂) (fun kv s₂ q => wpAny_mono q (fun y s₃ q => ?_) fun _ _ x => x) fun _ _ x => x
          obtain ⟨k, t, m₂, g₃, h₃, tk₃, rfl, rfl, F₃, g23, J3, hlen⟩ := q
          have F₄ := F₃.perm List.perm_middle
          have hd₃ : h₃.DictOf (PySem.strKind prog w) s.heap.objs.size kvs := hdo.at fun o e => by
            have e1 := (F₄.vv _ (.head _)).1
            have e2 := ((F₁.perm List.perm_middle).vv _ (.head _)).1
            rw [e2] at e; cases e; exact e1
          refine wpAny_dictSet_pairs (k := k) (by show Value.isStrOf k (Value.str k t) = true; simp [Value.isStrOf]) hd₃ (fun h₄ hd₄ hs₄ => ?_) (by omega)
          have hd₄' := hd₄
          obtain ⟨oD', es', ep', eD, r'⟩ := hd₄'
          have F₅ := (F₄.turn hs₄ eD).perm List.perm_middle.symm
          exact ⟨n - (i + 1), by omega, i + 1, m₂, g₃, h₄, _, own', stored kvs k y, oD', rfl, F₅, ho', hd₄, fun b o e => g23 b o (g12 b o (gg b o e)), J3, hlt, rfl⟩
        · cases r with
          | none => exact q.elim
          | some v => exact q
      · have hi' : i = n := Nat.le_antisymm hi (Nat.not_lt.mp hlt)
        subst hi'
        refine wpAny_mono ((D C).stop (Q := fun s₁ => compPost (model prog w) A E none Q (.ref s.heap.objs.size) C (.ok .next) s₁) ho₁ gg tT F₁ fun h' F₂ => ?_) (fun r s₁ q => ?_) fun _ _ x => x
        · refine ⟨mc, F₂.ns, fun h'' hs'' => ?_⟩
          obtain ⟨g₃, F₃, g13, eD, nD, -⟩ := F₂.tell
          obtain ⟨o₁, es, ep, e₁, r₁⟩ := hdo
          have e2 := ((F₁.perm List.perm_middle).vv _ (.head _)).1
          rw [e2] at e₁; cases e₁
          exact done _ kvs ep g₁ g₃ h'' _ hJ gg g13 (F₃.exitComp nsL hs'') ⟨oD, es, eD, r₁⟩ na nD nz
        · cases r with
          | none => exact q
          | some v => exact q.elim
    · refine hnew.at fun o e => ?_
      have e1 := ((F3.perm List.perm_middle).vv _ (.head _)).1
      have e2 : (s.heap.push { cls := .type "dict", dict := none, data := .dict #[] }).get? s.heap.objs.size = some { cls := .type "dict", dict := none, data := .dict #[] } := Heap.get?_push_size _ rfl
      rw [e2] at e; cases e; exact e1
  exact codeAny_compStart_dict (loop _ rfl) ((D C).self ho F3 (loop _ rfl))
end
end Mine
end

/-! ## J6 -/
section
set_option maxRecDepth 100000
open PySem PySem.W PyProof.Rows PySem.Calls
namespace Mine

section
variable {prog : Program} {w : World} {p : Program} {loose : List Str} {mg mb : Str → Option Value} {A : Around} {E : Value → Shared → Prop} {s : Shared} {R : Result → Shared → Prop}
  {base g₀ g h h' gh0 : Heap} {L : Addr} {m m' : Str → Option Value} {vol : List (Addr × Obj)} {T : Option Obj} {env : Env}

theorem cells_nodup {cm : Str → Option Value} : ∀ {cs : List (Str × Addr)} {cells : List (Addr × Obj)}, CellsAre cm cs cells → cells.map (·.1) = cs.map (·.2) := by
  intro cs cells x
  induction x with
  | nil => rfl
  | cons _ _ ih => simp [ih]

/-- entering a def some of whose names are cells -/
theorem enterC {name qual : Str} {params : Arguments} {body : List Stmt} {scope : Scope} {dV kV doc pm cdv ct oc : Value} {an od : Option Addr} {osl : Array (Option Value)} {f : Addr} {args : Args} {binds : List (Str × Value)}
    (W : WD w p loose mg mb g) (S : St g s) (ho : (hd.heap_39 w.params).lookup f = some ⟨oc, od, .func (fnOf name qual params body scope dV kV doc pm an cdv ct), osl⟩) (hcd : codeIn (hd.heap_39 w.params) cdv qual = true) (hroom : A.depth < recursionLimit)
    (hbind : BindsTo s (fnOf name qual params body scope dV kV doc pm an cdv ct) args binds) (hkind : (binds.all fun y => scope.names.lookup y.1 == some .local || scope.names.lookup y.1 == some .cell) = true)
    (hnd : ((cellsFrom 0 scope.names []).map (·.1)).Nodup)
    (h : ∀ L h₁ tk cells, CellsAre (bindC (envOfC qual scope L f cdv).kindOf binds fun _ => none) (cellsFrom (L + 1) scope.names []) cells → Fm s.heap g L (bindL (envOfC qual scope L f cdv).kindOf binds fun _ => none) cells (s.heap.get? TAB) g h₁ →
      wpAny (model prog w) (A.deeper (envOfC qual scope L f cdv)) (execs body (envOfC qual scope L f cdv))
        (fun fl s' => R (.ok (.ret (match fl with | .ret v => v | _ => .none))) s')
        (fun e s' => wpAny (model prog w) (A.deeper (envOfC qual scope L f cdv)) (leaving (envOfC qual scope L f cdv) e) (fun _ s'' => R (.error e) s'') (fun e' s'' => R (.error e') s'') s')
        { s with heap := h₁, toks := tk })
    (hco : scope.isCoroutine = false) (hgen : scope.isGenerator = false) (hk : scope.kind = .function) :
    codeAny (model prog w) A (.call (.ref f) args) R s := by
  have Ws := W.keeps S.sub
  have hlt : TAB < s.heap.objs.size := by
    cases q : s.heap.get? TAB with
    | none => exact absurd q S.tT
    | some o => exact Heap.lt_size q
  refine codeAny_call_function hroom (Ws.k _ _ ho) rfl hco hgen rfl (codeRec_of Ws.k hcd) (hbind _ _ _ _ ?_)
  refine wpAny_newFunctionEnv_cells hk (kindsX hkind _) fun env' he s' x => ?_
  subst he
  refine ⟨Ws.t.nolimit.keeps x.toInCall.keep, codeAny_func ?_⟩
  obtain ⟨h₁, tk, rfl, _⟩ := x.done
  have hk₁ := x.toInCall.keep
  obtain ⟨cells, NC, Y⟩ := Cl.news (h₀ := s.heap) (Nat.le_refl _) fun n c hm => ⟨x.cell n c (lookup_of_mem_nodup (cellsFrom_names scope.names 0 (s.heap.objs.size + 1) [] [] rfl ▸ hnd) hm), x.above n c hm⟩
  have Y' : CellsAre _ (cellsFrom (s.heap.objs.size + 1) scope.names []) cells := Y
  have xab : ∀ n c, (n, c) ∈ cellsFrom (s.heap.objs.size + 1) scope.names [] → s.heap.objs.size < c := x.above
  have xap : (cellsFrom (s.heap.objs.size + 1) scope.names []).Pairwise fun x y => x.2 ≠ y.2 := x.apart
  have gz : ∀ a, s.heap.objs.size ≤ a → g.get? a = none := fun a ha => by
    cases q : g.get? a with
    | none => rfl
    | some o => exact absurd (Heap.lt_size (S.sub _ _ q)) (Nat.not_lt.mpr ha)
  refine h _ h₁ tk cells Y ⟨x.toInCall.ns, fun b o e _ => hk₁ b o e, Nat.le_refl _, hlt, ?_, fun p hp => ?_, ?_, fun b o e => hk₁ _ _ (S.sub b o e), gz _ (Nat.le_refl _), .refl _ _, S.gT⟩
  · cases q : s.heap.get? TAB with
    | none => exact absurd q S.tT
    | some o => exact hk₁ _ _ q
  · have q := NC p hp
    have hge : s.heap.objs.size ≤ p.1 := by
      have hm : p.1 ∈ (cellsFrom (s.heap.objs.size + 1) scope.names []).map (·.2) := by rw [← cells_nodup Y']; exact List.mem_map_of_mem hp
      obtain ⟨nc, hnc, e⟩ := List.mem_map.mp hm
      have := xab nc.1 nc.2 hnc
      rw [← e]; exact Nat.le_of_lt this
    exact ⟨q.1, hge, q.2.1, gz _ hge⟩
  · rw [cells_nodup Y', List.nodup_iff_pairwise_ne, List.pairwise_map]
    exact xap

theorem n_cell' {x : Str} {pos : Pos} {v : Value} {c : Addr} {o : Obj} {Q : Value → Shared → Prop} (F : Fm base g₀ L m vol T g s.heap) (hm : (c, o) ∈ vol) (ho : o.data = .cell (some v)) (hc : env.cells.lookup x = some c) (h : Q v s)
    (hk : env.scope.kind = .function := by rfl) (hx : env.kindOf x = some .cell := by rfl) (hd : (x == ("__debug__" : Str)) = false := by decide) :
    wpAny (model prog w) A (eval (.Name x pos) env) Q E s := wpAny_Name (wpAny_loadName_cell hk hx hc ⟨_, (F.vv _ hm).1, ho⟩ h) hd

theorem lc_open {elt target iter : PySem.Expr} {scope : Scope} {pos : Pos} {cl : List (Str × Addr)} {Q : Value → Shared → Prop}
    (h : wpAny (model prog w) A (eval iter env) (fun xv s₁ => wpAny (model prog w) A (pyIter xv) (fun it s₂ => wpAny (model prog w) A (newList []) (fun acc s₃ => wpAny (model prog w) A (newFunctionEnv scope env.globals cl [] env.qual none .none (some env)) (fun cenv s₄ =>
      codeAny (model prog w) A (.compStart (.ListComp elt [⟨target, iter, [], 0⟩] scope pos) 0 it acc { cenv with scope := relabel scope env }) (compPost (model prog w) A E none Q acc cenv.locals) s₄) E s₃) E s₂) E s₁) E s)
    (hclos : closureFor scope env = pure cl) (hs : ∀ x, foldedSetIterable iter env x = pure x)
    (hkind : scope.kind = .function) (hnames : (scope.names.all fun x => x.2 != .local || scope.names.lookup x.1 == some .local) = true) :
    wpAny (model prog w) A (eval (.ListComp elt [⟨target, iter, [], 0⟩] scope pos) env) Q E s := by
  rw [eval_ListComp]
  refine wpAny_comprehension_free rfl hs hclos hkind (fun x hx hl => ?_) h
  have := List.all_eq_true.mp hnames x hx
  rw [hl] at this
  simpa using this
theorem dc_open {kx vx target iter : PySem.Expr} {scope : Scope} {pos : Pos} {cl : List (Str × Addr)} {Q : Value → Shared → Prop}
    (h : wpAny (model prog w) A (eval iter env) (fun xv s₁ => wpAny (model prog w) A (pyIter xv) (fun it s₂ => wpAny (model prog w) A newDict (fun acc s₃ => wpAny (model prog w) A (newFunctionEnv scope env.globals cl [] env.qual none .none (some env)) (fun cenv s₄ =>
      codeAny (model prog w) A (.compStart (.DictComp kx vx [⟨target, iter, [], 0⟩] scope pos) 0 it acc { cenv with scope := relabel scope env }) (compPost (model prog w) A E none Q acc cenv.locals) s₄) E s₃) E s₂) E s₁) E s)
    (hclos : closureFor scope env = pure cl) (hs : ∀ x, foldedSetIterable iter env x = pure x)
    (hkind : scope.kind = .function) (hnames : (scope.names.all fun x => x.2 != .local || scope.names.lookup x.1 == some .local) = true) :
    wpAny (model prog w) A (eval (.DictComp kx vx [⟨target, iter, [], 0⟩] scope pos) env) Q E s := by
  show wpAny _ _ (comprehension _ _ _ _ _ _ _) _ _ _
  refine wpAny_comprehension_free rfl hs hclos hkind (fun x hx hl => ?_) h
  have := List.all_eq_true.mp hnames x hx
  rw [hl] at this
  simpa using this

/-! ### isinstance over documents -/
def isList : PyData → Bool | .list _ => true | _ => false
def isDict : PyData → Bool | .dict _ => true | _ => false
def isBool : PyData → Bool | .bool _ => true | _ => false
def isStr : PyData → Bool | .str _ => true | _ => false

theorem isi_list {v : Value} {d : PyData} {as : List Addr} {Q : Value → Shared → Prop} (hv : JR prog w g v d as) (gh : g.StaysIn s.heap) (h : ∀ n, Q (.bool (isList d)) { s with toks := n }) :
    wpAny (model prog w) A (call (.builtin "isinstance") [v, .type "list"]) Q E s := by
  cases hv with
  | none => exact IsiPair.NoneType_list (h _)
  | bool => exact IsiPair.bool_list (h _)
  | int => exact IsiPair.int_list (h _)
  | str => exact IsiPair.str_list (h _)
  | list x y => obtain ⟨o, e, c, r⟩ := x; exact IsiPair.list_list (gh _ _ e) c (h _)
  | dict n x e y => obtain ⟨o, es, e, c, r⟩ := x; exact IsiPair.dict_list (gh _ _ e) c.1 (h _)
theorem isi_dict {v : Value} {d : PyData} {as : List Addr} {Q : Value → Shared → Prop} (hv : JR prog w g v d as) (gh : g.StaysIn s.heap) (h : ∀ n, Q (.bool (isDict d)) { s with toks := n }) :
    wpAny (model prog w) A (call (.builtin "isinstance") [v, .type "dict"]) Q E s := by
  cases hv with
  | none => exact IsiPair.NoneType_dict (h _)
  | bool => exact IsiPair.bool_dict (h _)
  | int => exact IsiPair.int_dict (h _)
  | str => exact IsiPair.str_dict (h _)
  | list x y => obtain ⟨o, e, c, r⟩ := x; exact IsiPair.list_dict (gh _ _ e) c (h _)
  | dict n x e y => obtain ⟨o, es, e, c, r⟩ := x; exact IsiPair.dict_dict (gh _ _ e) c.1 (h _)
theorem isi_bool {v : Value} {d : PyData} {as : List Addr} {Q : Value → Shared → Prop} (hv : JR prog w g v d as) (gh : g.StaysIn s.heap) (h : ∀ n, Q (.bool (isBool d)) { s with toks := n }) :
    wpAny (model prog w) A (call (.builtin "isinstance") [v, .type "bool"]) Q E s := by
  cases hv with
  | none => exact IsiPair.NoneType_bool (h _)
  | bool => exact IsiPair.bool_bool (h _)
  | int => exact IsiPair.int_bool (h _)
  | str => exact IsiPair.str_bool (h _)
  | list x y => obtain ⟨o, e, c, r⟩ := x; exact IsiPair.list_bool (gh _ _ e) c (h _)
  | dict n x e y => obtain ⟨o, es, e, c, r⟩ := x; exact IsiPair.dict_bool (gh _ _ e) c.1 (h _)
theorem isi_str {v : Value} {d : PyData} {as : List Addr} {Q : Value → Shared → Prop} (hv : JR prog w g v d as) (gh : g.StaysIn s.heap) (h : ∀ n, Q (.bool (isStr d)) { s with toks := n }) :
    wpAny (model prog w) A (call (.builtin "isinstance") [v, .type "str"]) Q E s := by
  cases hv with
  | none => exact IsiPair.NoneType_str (h _)
  | bool => exact IsiPair.bool_str (h _)
  | int => exact IsiPair.int_str (h _)
  | str => exact IsiPair.str_str (h _)
  | list x y => obtain ⟨o, e, c, r⟩ := x; exact IsiPair.list_str (gh _ _ e) c (h _)
  | dict n x e y => obtain ⟨o, es, e, c, r⟩ := x; exact IsiPair.dict_str (gh _ _ e) c.1 (h _)
end
end Mine
end

/-! ## J7 -/
section
set_option maxRecDepth 100000
open PySem PySem.W PyProof.Rows PySem.Calls
namespace Mine

example (w : World) (h : Heap) (X : (hd.heap_39 w.params).In h) : (hd.heap_39 w.params).In h ∧ PySem.Challenge.rw_bs0014_01 = PySem.Challenge.rw_bs0014_01 := by
  k_fill
  exact ⟨X, rfl⟩

section
variable {prog : Program} {w : World} {p : Program} {loose : List Str} {mg mb : Str → Option Value} {A : Around} {E : Value → Shared → Prop} {s : Shared} {R : Result → Shared → Prop}
  {base g₀ g h h' gh0 : Heap} {L : Addr} {m m' : Str → Option Value} {vol : List (Addr × Obj)} {T : Option Obj} {env : Env}

/-- an expression that only reads, and its value here -/
def Gives (prog : Program) (w : World) (A : Around) (env : Env) (e : PySem.Expr) (v : Value) (s : Shared) : Prop :=
  ∀ (E : Value → Shared → Prop) (Q : Value → Shared → Prop), Q v s → wpAny (model prog w) A (eval e env) Q E s

theorem gv_loc {x : Str} {pos : Pos} {v : Value} (F : Fm base g₀ L m vol T g s.heap) (hv : m x = some v) (hL : env.locals = L := by rfl)
    (hk : env.scope.kind = .function := by rfl) (hx : env.kindOf x = some .local := by rfl) (hd : (x == ("__debug__" : Str)) = false := by decide) : Gives prog w A env (.Name x pos) v s := fun _ _ h => n_loc F hv h hL hk hx hd
theorem gv_cell {x : Str} {pos : Pos} {v : Value} {c : Addr} {o : Obj} (F : Fm base g₀ L m vol T g s.heap) (hm : (c, o) ∈ vol) (ho : o.data = .cell (some v)) (hc : env.cells.lookup x = some c)
    (hk : env.scope.kind = .function := by rfl) (hx : env.kindOf x = some .cell := by rfl) (hd : (x == ("__debug__" : Str)) = false := by decide) : Gives prog w A env (.Name x pos) v s := fun _ _ h => n_cell' F hm ho hc h hk hx hd


theorem t_isi_list {np lp pos : Pos} {e : PySem.Expr} {v : Value} {d : PyData} {as : List Addr} {Q : Bool → Shared → Prop} (W : WD w p loose mg mb g) (gh : g.StaysIn s.heap) (he : Gives prog w A env e v s) (hv : JR prog w g v d as) (h : ∀ n, Q (isList d) { s with toks := n })
    (hk : env.scope.kind = .function := by rfl) (hx : env.kindOf (Str.ofString "isinstance") = some .globalImplicit := by rfl) (hx' : env.kindOf (Str.ofString "list") = some .globalImplicit := by rfl) (hg : env.globals = mainGlobals := by rfl) (hb : env.builtins = builtinsNs := by rfl)
    (hs : starEach (e :: [PySem.Expr.Name (Str.ofString "list") lp]) env = (false, eval e env) :: starEach [PySem.Expr.Name (Str.ofString "list") lp] env := by rfl) :
    wpAny (model prog w) A (isTrue (.Call (.Name (Str.ofString "isinstance") np) [e, .Name (Str.ofString "list") lp] [] pos) env (eval (.Call (.Name (Str.ofString "isinstance") np) [e, .Name (Str.ofString "list") lp] [] pos) env)) Q E s :=
  isTrue_plain (wpAny_Call_ofName (n_bi W gh (by k_is) rfl (callWith_builtin1 (spliced_more (he _ _ (spliced_more (n_bi W gh (by k_is) rfl (spliced_none (isi_list hv gh fun n => wpAny_truthy_bool (h n))) hg hb hk hx') rfl)) hs) hs) hg hb hk hx))
theorem t_isi_dict {np lp pos : Pos} {e : PySem.Expr} {v : Value} {d : PyData} {as : List Addr} {Q : Bool → Shared → Prop} (W : WD w p loose mg mb g) (gh : g.StaysIn s.heap) (he : Gives prog w A env e v s) (hv : JR prog w g v d as) (h : ∀ n, Q (isDict d) { s with toks := n })
    (hk : env.scope.kind = .function := by rfl) (hx : env.kindOf (Str.ofString "isinstance") = some .globalImplicit := by rfl) (hx' : env.kindOf (Str.ofString "dict") = some .globalImplicit := by rfl) (hg : env.globals = mainGlobals := by rfl) (hb : env.builtins = builtinsNs := by rfl)
    (hs : starEach (e :: [PySem.Expr.Name (Str.ofString "dict") lp]) env = (false, eval e env) :: starEach [PySem.Expr.Name (Str.ofString "dict") lp] env := by rfl) :
    wpAny (model prog w) A (isTrue (.Call (.Name (Str.ofString "isinstance") np) [e, .Name (Str.ofString "dict") lp] [] pos) env (eval (.Call (.Name (Str.ofString "isinstance") np) [e, .Name (Str.ofString "dict") lp] [] pos) env)) Q E s :=
  isTrue_plain (wpAny_Call_ofName (n_bi W gh (by k_is) rfl (callWith_builtin1 (spliced_more (he _ _ (spliced_more (n_bi W gh (by k_is) rfl (spliced_none (isi_dict hv gh fun n => wpAny_truthy_bool (h n))) hg hb hk hx') rfl)) hs) hs) hg hb hk hx))
theorem t_isi_bool {np lp pos : Pos} {e : PySem.Expr} {v : Value} {d : PyData} {as : List Addr} {Q : Bool → Shared → Prop} (W : WD w p loose mg mb g) (gh : g.StaysIn s.heap) (he : Gives prog w A env e v s) (hv : JR prog w g v d as) (h : ∀ n, Q (isBool d) { s with toks := n })
    (hk : env.scope.kind = .function := by rfl) (hx : env.kindOf (Str.ofString "isinstance") = some .globalImplicit := by rfl) (hx' : env.kindOf (Str.ofString "bool") = some .globalImplicit := by rfl) (hg : env.globals = mainGlobals := by rfl) (hb : env.builtins = builtinsNs := by rfl)
    (hs : starEach (e :: [PySem.Expr.Name (Str.ofString "bool") lp]) env = (false, eval e env) :: starEach [PySem.Expr.Name (Str.ofString "bool") lp] env := by rfl) :
    wpAny (model prog w) A (isTrue (.Call (.Name (Str.ofString "isinstance") np) [e, .Name (Str.ofString "bool") lp] [] pos) env (eval (.Call (.Name (Str.ofString "isinstance") np) [e, .Name (Str.ofString "bool") lp] [] pos) env)) Q E s :=
  isTrue_plain (wpAny_Call_ofName (n_bi W gh (by k_is) rfl (callWith_builtin1 (spliced_more (he _ _ (spliced_more (n_bi W gh (by k_is) rfl (spliced_none (isi_bool hv gh fun n => wpAny_truthy_bool (h n))) hg hb hk hx') rfl)) hs) hs) hg hb hk hx))

/-! ### comprehensions and loops over known lists and keys -/
theorem lc_list {elt iter : PySem.Expr} {x : Str} {px : Pos} {scope : Scope} {pos : Pos} {cl : List (Str × Addr)} {l : Addr} {vs : Array Value} {Q : Value → Shared → Prop}
    (F : Fm base g₀ L m vol T g s.heap) (tT : T ≠ none) (hh : A.handled = none) (hl : g.IsList l vs) (hsz : vs.size ≤ sizeLine) (J : Nat → List Value → Heap → Prop) (Jm : ∀ i items g₁ g₂, J i items g₁ → g₁.StaysIn g₂ → J i items g₂) (h0 : J 0 [] g)
    (turn : ∀ (i : Nat) (v : Value) (items : List Value) (C : Addr) (mc : Str → Option Value) (g₁ h₁ : Heap) (tk : Nat) (vol' : List (Addr × Obj)) (E' : Value → Shared → Prop), vs[i]? = some v → J i items g₁ → g.StaysIn g₁ →
      (∀ p ∈ vol, p ∈ vol') → Fm base g₀ C (upd x v mc) vol' T g₁ h₁ →
      wpAny (model prog w) A (eval elt (compEnvC scope cl C env)) (fun y s₂ => ∃ m₂ g₂ h₂ tk₂, s₂ = { s with heap := h₂, toks := tk₂ } ∧ Fm base g₀ C m₂ vol' T g₂ h₂ ∧ g₁.StaysIn g₂ ∧ J (i + 1) (items ++ [y]) g₂) E' { s with heap := h₁, toks := tk })
    (done : ∀ a items g₁ g₂ h₁ tk, J vs.size items g₁ → g.StaysIn g₁ → g₁.StaysIn g₂ → Fm base g₀ L m vol T g₂ h₁ → g₂.IsList a items.toArray → g₁.get? a = none → items.length = vs.size → Q (.ref a) { s with heap := h₁, toks := tk })
    (hcell : ∀ y ∈ scope.names, y.2 ≠ .cell) (hkind : scope.kind = .function) (hx : scope.names.lookup x = some .local) :
    wpAny (model prog w) A (pyIter (.ref l)) (fun it s₂ => wpAny (model prog w) A (newList []) (fun acc s₃ => wpAny (model prog w) A (newFunctionEnv scope env.globals cl [] env.qual none .none (some env)) (fun cenv s₄ =>
      codeAny (model prog w) A (.compStart (.ListComp elt [⟨.Name x px, iter, [], 0⟩] scope pos) 0 it acc { cenv with scope := relabel scope env }) (compPost (model prog w) A E none Q acc cenv.locals) s₄) E s₃) E s₂) E s := by
  refine wpAny_pyIter_list (F.isList hl) ?_
  refine lc_core (own := [(s.heap.objs.size, _)]) (fun C => drive_list hh hl (by simpa [compEnvC, relabel] using hkind) (lookup_relabel_local hx)) (F.pushVol _) ⟨_, rfl, rfl, rfl⟩ tT hsz J h0 ?_ ?_ hcell hkind
  · rintro i items C mc mc' g₁ g₁' h₁ tk vol' E' hi hJ gg g11 ⟨v, hv, rfl⟩ hv' F'
    exact turn i v items C mc g₁' h₁ tk vol' E' hv (Jm _ _ _ _ hJ g11) (fun b o e => g11 b o (gg b o e)) hv' F'
  · intro a items g₁ g₂ h₁ tk hJ gg g12 F₁ hl₁ hn _ hlen
    exact done a items g₁ g₂ h₁ tk hJ gg g12 F₁ hl₁ hn hlen
theorem dc_keys {kx vx iter : PySem.Expr} {x : Str} {px : Pos} {scope : Scope} {pos : Pos} {cl : List (Str × Addr)} {d ep : Addr} {kvs : List (Str × Value)} {Q : Value → Shared → Prop}
    (F : Fm base g₀ L m vol T g s.heap) (tT : T ≠ none) (hh : A.handled = none) (hd0 : g.DictAt (PySem.strKind prog w) d kvs ep) (hdm : (d == sysModules) = false) (hsz : kvs.length ≤ sizeLine) (J : Nat → List (Str × Value) → Heap → Prop) (Jm : ∀ i items g₁ g₂, J i items g₁ → g₁.StaysIn g₂ → J i items g₂) (h0 : J 0 [] g)
    (turn : ∀ (i : Nat) (kv : Str × Value) (t : Tok) (items : List (Str × Value)) (C : Addr) (mc : Str → Option Value) (g₁ h₁ : Heap) (tk : Nat) (vol' : List (Addr × Obj)) (E' : Value → Shared → Prop), kvs[i]? = some kv → J i items g₁ → g.StaysIn g₁ →
      (∀ p ∈ vol, p ∈ vol') → Fm base g₀ C (upd x (.str kv.1 t) mc) vol' T g₁ h₁ →
      wpAny (model prog w) A (eval kx (compEnvC scope cl C env)) (fun ky s₂ => wpAny (model prog w) A (eval vx (compEnvC scope cl C env)) (fun y s₃ => ∃ k t m₂ g₂ h₂ tk₂, ky = .str k t ∧ s₃ = { s with heap := h₂, toks := tk₂ } ∧ Fm base g₀ C m₂ vol' T g₂ h₂ ∧ g₁.StaysIn g₂ ∧ J (i + 1) (stored items k y) g₂ ∧ items.length ≤ i) E' s₂) E' { s with heap := h₁, toks := tk })
    (done : ∀ a items ep g₁ g₂ h₁ tk, J kvs.length items g₁ → g.StaysIn g₁ → g₁.StaysIn g₂ → Fm base g₀ L m vol T g₂ h₁ → g₂.DictAt (PySem.strKind prog w) a items ep → (a == sysModules) = false → g₁.get? a = none → Q (.ref a) { s with heap := h₁, toks := tk })
    (hcell : ∀ y ∈ scope.names, y.2 ≠ .cell) (hkind : scope.kind = .function) (hx : scope.names.lookup x = some .local) :
    wpAny (model prog w) A (pyIter (.ref d)) (fun it s₂ => wpAny (model prog w) A newDict (fun acc s₃ => wpAny (model prog w) A (newFunctionEnv scope env.globals cl [] env.qual none .none (some env)) (fun cenv s₄ =>
      codeAny (model prog w) A (.compStart (.DictComp kx vx [⟨.Name x px, iter, [], 0⟩] scope pos) 0 it acc { cenv with scope := relabel scope env }) (compPost (model prog w) A E none Q acc cenv.locals) s₄) E s₃) E s₂) E s := by
  refine wpAny_pyIter_dict hdm (dictAt_keeps F.gh hd0) ?_
  refine dc_core (own := [(s.heap.objs.size, _)]) (fun C => drive_keys hh hd0 (by simpa [compEnvC, relabel] using hkind) (lookup_relabel_local hx)) (F.pushVol _) ⟨_, rfl, rfl, rfl⟩ tT hsz J h0 ?_ ?_ hcell hkind
  · rintro i items C mc mc' g₁ g₁' h₁ tk vol' E' hi hJ gg g11 ⟨kv, t, hv, rfl⟩ hv' F'
    exact turn i kv t items C mc g₁' h₁ tk vol' E' hv (Jm _ _ _ _ hJ g11) (fun b o e => g11 b o (gg b o e)) hv' F'
  · intro a items ep g₁ g₂ h₁ tk hJ gg g12 F₁ hl₁ hm hn _
    exact done a items ep g₁ g₂ h₁ tk hJ gg g12 F₁ hl₁ hm hn

theorem lc_keys {elt iter : PySem.Expr} {x : Str} {px : Pos} {scope : Scope} {pos : Pos} {cl : List (Str × Addr)} {d ep : Addr} {kvs : List (Str × Value)} {Q : Value → Shared → Prop}
    (F : Fm base g₀ L m vol T g s.heap) (tT : T ≠ none) (hh : A.handled = none) (hd0 : g.DictAt (PySem.strKind prog w) d kvs ep) (hdm : (d == sysModules) = false) (hsz : kvs.length ≤ sizeLine) (J : Nat → List Value → Heap → Prop) (Jm : ∀ i items g₁ g₂, J i items g₁ → g₁.StaysIn g₂ → J i items g₂) (h0 : J 0 [] g)
    (turn : ∀ (i : Nat) (kv : Str × Value) (t : Tok) (items : List Value) (C : Addr) (mc : Str → Option Value) (g₁ h₁ : Heap) (tk : Nat) (vol' : List (Addr × Obj)) (E' : Value → Shared → Prop), kvs[i]? = some kv → J i items g₁ → g.StaysIn g₁ →
      (∀ p ∈ vol, p ∈ vol') → Fm base g₀ C (upd x (.str kv.1 t) mc) vol' T g₁ h₁ →
      wpAny (model prog w) A (eval elt (compEnvC scope cl C env)) (fun y s₂ => ∃ m₂ g₂ h₂ tk₂, s₂ = { s with heap := h₂, toks := tk₂ } ∧ Fm base g₀ C m₂ vol' T g₂ h₂ ∧ g₁.StaysIn g₂ ∧ J (i + 1) (items ++ [y]) g₂) E' { s with heap := h₁, toks := tk })
    (done : ∀ a items g₁ g₂ h₁ tk, J kvs.length items g₁ → g.StaysIn g₁ → g₁.StaysIn g₂ → Fm base g₀ L m vol T g₂ h₁ → g₂.IsList a items.toArray → g₁.get? a = none → items.length = kvs.length → Q (.ref a) { s with heap := h₁, toks := tk })
    (hcell : ∀ y ∈ scope.names, y.2 ≠ .cell) (hkind : scope.kind = .function) (hx : scope.names.lookup x = some .local) :
    wpAny (model prog w) A (pyIter (.ref d)) (fun it s₂ => wpAny (model prog w) A (newList []) (fun acc s₃ => wpAny (model prog w) A (newFunctionEnv scope env.globals cl [] env.qual none .none (some env)) (fun cenv s₄ =>
      codeAny (model prog w) A (.compStart (.ListComp elt [⟨.Name x px, iter, [], 0⟩] scope pos) 0 it acc { cenv with scope := relabel scope env }) (compPost (model prog w) A E none Q acc cenv.locals) s₄) E s₃) E s₂) E s := by
  refine wpAny_pyIter_dict hdm (dictAt_keeps F.gh hd0) ?_
  refine lc_core (own := [(s.heap.objs.size, _)]) (fun C => drive_keys hh hd0 (by simpa [compEnvC, relabel] using hkind) (lookup_relabel_local hx)) (F.pushVol _) ⟨_, rfl, rfl, rfl⟩ tT hsz J h0 ?_ ?_ hcell hkind
  · rintro i items C mc mc' g₁ g₁' h₁ tk vol' E' hi hJ gg g11 ⟨kv, t, hv, rfl⟩ hv' F'
    exact turn i kv t items C mc g₁' h₁ tk vol' E' hv (Jm _ _ _ _ hJ g11) (fun b o e => g11 b o (gg b o e)) hv' F'
  · intro a items g₁ g₂ h₁ tk hJ gg g12 F₁ hl₁ hn _ hlen
    exact done a items g₁ g₂ h₁ tk hJ gg g12 F₁ hl₁ hn hlen
end
end Mine
end

/-! ## J8 -/
section
set_option maxRecDepth 100000
open PySem PySem.W PyProof.Rows PySem.Calls
namespace Mine

example (w : World) (h : Heap) (X : (hd.heap_39 w.params).In h) : (hd.heap_39 w.params).In h ∧ PySem.Challenge.rw_bs0014_01 = PySem.Challenge.rw_bs0014_01 := by
  k_fill
  exact ⟨X, rfl⟩
/-- a document of at most that depth -/
def okJ : Nat → PyData → Bool
  | 0, .list _ => false
  | 0, .dict _ => false
  | n + 1, .list xs => decide (xs.length ≤ 3) && xs.all (okJ n)
  | n + 1, .dict kvs => decide (kvs.length ≤ 3) && kvs.all fun q => okJ n q.2
  | _, .tuple _ => false
  | _, _ => true

section
variable {prog : Program} {w : World} {p : Program} {loose : List Str} {mg mb : Str → Option Value} {A : Around} {E : Value → Shared → Prop} {s : Shared} {R : Result → Shared → Prop}
  {base g₀ g h h' gh0 : Heap} {L : Addr} {m m' : Str → Option Value} {vol : List (Addr × Obj)} {T : Option Obj} {env : Env}

mutual
theorem JR.there {v : Value} {d : PyData} {as : List Addr} : JR prog w g v d as → ∀ a ∈ as, g.get? a ≠ none
  | .none => fun a ha => nomatch ha
  | .bool _ => fun a ha => nomatch ha
  | .int _ _ => fun a ha => nomatch ha
  | .str _ _ => fun a ha => nomatch ha
  | .list x y => fun a ha => by
    rcases List.mem_cons.mp ha with rfl | ha
    · obtain ⟨o, e, r⟩ := x; rw [e]; exact Option.some_ne_none _
    · exact JRs.there y a ha
  | .dict n x e y => fun a ha => by
    rcases List.mem_cons.mp ha with rfl | ha
    · obtain ⟨o, es, e, r⟩ := x; rw [e]; exact Option.some_ne_none _
    · exact JRs.there y a ha
theorem JRs.there {vs : List Value} {ds : List PyData} {as : List Addr} : JRs prog w g vs ds as → ∀ a ∈ as, g.get? a ≠ none
  | .nil => fun a ha => nomatch ha
  | .cons x y => fun a ha => by
    rcases List.mem_append.mp ha with ha | ha
    · exact JR.there x a ha
    · exact JRs.there y a ha
end
theorem JRs.snoc : ∀ {vs : List Value} {ds : List PyData} {as bs : List Addr} {v : Value} {d : PyData}, JRs prog w g vs ds as → JR prog w g v d bs → JRs prog w g (vs ++ [v]) (ds ++ [d]) (as ++ bs)
  | _, _, _, bs, _, _, .nil, x => by have := JRs.cons x .nil; simpa using this
  | _, _, _, _, _, _, .cons y ys, x => by have := JRs.cons y (ys.snoc x); simpa [List.append_assoc] using this

theorem JR.ok0 {v : Value} {d : PyData} {as : List Addr} (x : JR prog w g v d as) (h1 : isList d = false) (h2 : isDict d = false) : as = [] := by
  cases x <;> first | rfl | (simp [isList] at h1; done) | (simp [isDict] at h2; done)

theorem stored_new {kvs : List (Str × Value)} {k : Str} {v : Value} (h : ∀ q ∈ kvs, q.1 ≠ k) : stored kvs k v = kvs ++ [(k, v)] := by
  unfold stored
  rw [if_neg]
  simp only [List.any_eq_true, decide_eq_true_eq, not_exists, not_and]
  exact fun q hq => h q hq

/-- keys read off the entries of a document's object -/
theorem dict_keys {kvs : List (Str × Value)} {ds : List (PyData × PyData)} (ek : ds.map (·.1) = kvs.map (fun q => PyData.str q.1)) : kvs.length = ds.length := by
  have := congrArg List.length ek
  simpa using this.symm
theorem key_at {kvs : List (Str × Value)} {ds : List (PyData × PyData)} (ek : ds.map (·.1) = kvs.map (fun q => PyData.str q.1)) {i : Nat} {kv : Str × Value} (h : kvs[i]? = some kv) : ∃ q, ds[i]? = some q ∧ q.1 = .str kv.1 := by
  have hlt : i < kvs.length := (List.getElem?_eq_some_iff.mp h).1
  have hlt' : i < ds.length := by rw [← dict_keys ek]; exact hlt
  refine ⟨ds[i], List.getElem?_eq_getElem hlt', ?_⟩
  have := congrArg (fun l => l[i]?) ek
  simp only [List.getElem?_map, h, Option.map_some, List.getElem?_eq_getElem hlt'] at this
  simpa using this
theorem at1_key {kvs : List (Str × Value)} {ds : List (PyData × PyData)} (ek : ds.map (·.1) = kvs.map (fun q => PyData.str q.1)) (nd : (kvs.map (·.1)).Nodup) : ∀ {i : Nat} {q : PyData × PyData} {k : Str}, ds[i]? = some q → q.1 = .str k → findK ds k = some q.2 := by
  induction ds generalizing kvs with
  | nil => intro i q k h; simp at h
  | cons x ds ih =>
    intro i q k h hq
    cases kvs with
    | nil => simp at ek
    | cons y kvs =>
      simp only [List.map_cons, List.cons.injEq] at ek
      simp only [List.map_cons, List.nodup_cons] at nd
      unfold findK
      rw [List.find?_cons]
      cases i with
      | zero =>
        simp only [List.getElem?_cons_zero, Option.some.injEq] at h
        subst h
        rw [hq]; simp
      | succ i =>
        simp only [List.getElem?_cons_succ] at h
        have : y.1 ≠ k := by
          rintro rfl
          obtain ⟨hlt, he⟩ := List.getElem?_eq_some_iff.mp h
          have hm : PyData.str y.1 ∈ ds.map (·.1) := by rw [← hq, ← he]; exact List.mem_map_of_mem (List.getElem_mem hlt)
          rw [ek.2] at hm
          obtain ⟨z, hz, e⟩ := List.mem_map.mp hm
          exact nd.1 (List.mem_map.mpr ⟨z, hz, by injection e⟩)
        rw [ek.1]
        simp only [this, decide_false]
        exact ih ek.2 nd.2 h hq

theorem take_snoc {α : Type} {l : List α} {i : Nat} {x : α} (h : l[i]? = some x) : l.take (i + 1) = l.take i ++ [x] := by rw [List.take_add_one, h]; rfl

theorem does_copied : ∀ (n : Nat) {g : Heap} {v : Value} {d : PyData} {as : List Addr}, WD w p loose mg mb g → JR prog w g v d as → okJ n d = true →
    Does prog w (.ref 54) [v] (n + 2) (4 * n + 8) g fun g' r => ∃ as', JR prog w g' r d as' ∧ as'.Nodup ∧ ∀ a ∈ as', g.get? a = none := by
  intro n
  induction n with
  | zero =>
    intro g v d as W hv hok A s Q E S Rm ret
    refine wpAny_call ?_
    (refine' enterC W S ?ho ?hcd ?hroom ?hb ?hl ?hn ?_ ?h2 ?h3 ?h4; (case ho => k_is); (case hcd => k_is); (case hroom => (have := Rm.d; omega)); (case hb => exact BindsTo.of_eq rfl); (case hl => exact rfl); (case hn => decide); (case h2 => exact rfl); (case h3 => exact rfl); (case h4 => exact rfl))
    intro L h₁ tk cells Y F
    obtain ⟨oc, rfl, hoc⟩ := CellsAre.one Y
    have hoc : oc.data = .cell (some v) := hoc
    have h1 : isList d = false := by cases hv <;> first | rfl | (simp [okJ] at hok; done)
    have h2 : isDict d = false := by cases hv <;> first | rfl | (simp [okJ] at hok; done)
    refine wpAny_execs_cons (wpAny_If (t_isi_list W F.gh (gv_cell F (.head _) hoc rfl) hv fun tk => ?_))
    rw [h1]
    refine wpAny_execs_nil (wpAny_execs_cons (wpAny_If (t_isi_dict W F.gh (gv_cell F (.head _) hoc rfl) hv fun tk => ?_)))
    rw [h2]
    refine wpAny_execs_nil (wpAny_execs_cons (wpAny_Return_some (n_cell' F (.head _) hoc rfl ?_)))
    refine ret _ _ _ _ F.after ⟨as, hv, ?_, ?_⟩
    · rw [hv.ok0 h1 h2]; exact .nil
    · rw [hv.ok0 h1 h2]; exact fun _ h => nomatch h
  | succ n ih =>
    intro g v d as W hv hok A s Q E S Rm ret
    refine wpAny_call ?_
    (refine' enterC W S ?ho ?hcd ?hroom ?hb ?hl ?hn ?_ ?h2 ?h3 ?h4; (case ho => k_is); (case hcd => k_is); (case hroom => (have := Rm.d; omega)); (case hb => exact BindsTo.of_eq rfl); (case hl => exact rfl); (case hn => decide); (case h2 => exact rfl); (case h3 => exact rfl); (case h4 => exact rfl))
    intro L h₁ tk cells Y F
    obtain ⟨oc, rfl, hoc⟩ := CellsAre.one Y
    have hoc : oc.data = .cell (some v) := hoc
    have R1 : ∀ env, Room (A.deeper env) (n + 2) (4 * n + 8) := fun env => (Rm.le (dn' := n + 2 + 1) (un' := 4 * n + 8 + 3) (by omega) (by omega)).deeper env
    refine wpAny_execs_cons (wpAny_If (t_isi_list W F.gh (gv_cell F (.head _) hoc rfl) hv fun tk => ?_))
    cases hc : isList d with
    | true =>
      cases hv with
      | @list l vs xs as hl hs =>
        have hok' : xs.length ≤ 3 ∧ xs.all (okJ n) = true := by simpa [okJ] using hok
        have hlen := hs.length
        refine wpAny_execs_cons (wpAny_Return_some (lc_open (cl := []) (n_cell' F (.head _) hoc rfl (lc_list F S.tT Rm.h hl (by rw [← Array.length_toList, hlen]; have := sizeLine_eq; omega)
          (fun i items g₁ => ∃ bs, JRs prog w g₁ items (xs.take i) bs ∧ bs.Nodup ∧ ∀ a ∈ bs, g.get? a = none) (fun i items g₁ g₂ ⟨bs, a, b, c⟩ gg => ⟨bs, a.keeps gg, b, c⟩) ⟨[], .nil, .nil, fun _ h => nomatch h⟩ ?_ ?_ (by decide) rfl rfl)) rfl (fun _ => rfl) rfl rfl))
        · rintro i u items C mc g₁ h₁ tk vol' E' hi ⟨bs, hbs, hnd, hnew⟩ gg hvol F₁
          obtain ⟨du, as₂, edu, ru, -⟩ := hs.at (i := i) (by simpa using hi)
          have W₁ := W.keeps gg
          refine wpAny_Call_ofName (n_glob W₁ F₁.gh (by k_is) (callWith_K W₁.k (by k_is) (spliced_more (n_loc F₁ upd_same (spliced_none ⟨(W₁.keeps F₁.gh).k, ?_⟩)))))
          refine (ih W₁ (ru.keeps gg) (List.all_eq_true.mp hok'.2 du (List.mem_of_getElem? edu))).use F₁ S.tT (R1 _) fun r g₂ h₂ tk₂ F₂ g12 ⟨as', ra, rn, rf⟩ => ?_
          refine ⟨_, g₂, h₂, tk₂, rfl, F₂, g12, bs ++ as', ?_, ?_, ?_⟩
          · rw [take_snoc edu]; exact (hbs.keeps g12).snoc ra
          · rw [List.nodup_append]
            refine ⟨hnd, rn, fun a ha b hb e => ?_⟩
            subst e
            exact hbs.there a ha (rf a hb)
          · intro a ha
            rcases List.mem_append.mp ha with ha | ha
            · exact hnew a ha
            · have := rf a ha
              cases q : g.get? a with
              | none => rfl
              | some o => rw [gg _ _ q] at this; cases this
        · rintro a items g₁ g₂ h₁ tk ⟨bs, hbs, hnd, hnew⟩ gg g12 F₂ hla hna hlen'
          refine ret _ _ _ _ F₂.after ⟨a :: bs, .list hla ?_, ?_, ?_⟩
          · rw [← Array.length_toList, hlen, List.take_length] at hbs
            exact hbs.keeps g12
          · exact List.nodup_cons.mpr ⟨fun hm => hbs.there a hm hna, hnd⟩
          · intro b hb
            rcases List.mem_cons.mp hb with rfl | hb
            · cases q : g.get? b with
              | none => rfl
              | some o => rw [gg _ _ q] at hna; cases hna
            · exact hnew b hb
      | _ => simp [isList] at hc
    | false =>
    refine wpAny_execs_nil (wpAny_execs_cons (wpAny_If (t_isi_dict W F.gh (gv_cell F (.head _) hoc rfl) hv fun tk => ?_)))
    cases hc2 : isDict d with
    | true =>
      cases hv with
      | @dict l kvs ep ds as hm hd ek hs =>
        have hok' : ds.length ≤ 3 ∧ ds.all (fun q => okJ n q.2) = true := by simpa [okJ] using hok
        have hlen := dict_keys ek
        have hnd : (kvs.map (·.1)).Nodup := let ⟨_, _, _, _, _, _, _, x⟩ := hd; x
        refine wpAny_execs_cons (wpAny_Return_some (dc_open (cl := [(Str.ofString "value", L + 1)]) (n_cell' F (.head _) hoc rfl (dc_keys F S.tT Rm.h hd hm (by rw [hlen]; have := sizeLine_eq; omega)
          (fun (i : Nat) (items : List (Str × Value)) (g₁ : Heap) => items.map (fun q : Str × Value => q.1) = (kvs.take i).map (fun q : Str × Value => q.1) ∧ ∃ bs, JRs prog w g₁ (items.map (fun q : Str × Value => q.2)) ((ds.take i).map (fun q : PyData × PyData => q.2)) bs ∧ bs.Nodup ∧ ∀ a ∈ bs, g.get? a = none) (fun i items g₁ g₂ ⟨e, bs, a, b, c⟩ gg => ⟨e, bs, a.keeps gg, b, c⟩) ⟨rfl, [], .nil, .nil, fun _ h => nomatch h⟩ ?_ ?_ (by decide) rfl rfl)) rfl (fun _ => rfl) rfl rfl))
        · rintro i kv t items C mc g₁ h₁ tk vol' E' hi ⟨eit, bs, hbs, hnd', hnew⟩ gg hvol F₁
          have W₁ := W.keeps gg
          obtain ⟨q, hq, hqk⟩ := key_at ek hi
          have hi' : i < kvs.length := (List.getElem?_eq_some_iff.mp hi).1
          refine n_loc F₁ upd_same ?_
          refine wpAny_Call_ofName (n_glob W₁ F₁.gh (by k_is) (callWith_K W₁.k (by k_is) (spliced_more (Subscript_ (n_cell' F₁ (hvol _ (.head _)) hoc rfl (n_loc F₁ upd_same (getItem_J (JR.dict (hm) (dictAt_keeps gg hd) ek (hs.keeps gg)) F₁.gh (JR.str kv.1 t) (at1_key ek hnd hq hqk) fun u as₃ tk₃ ru hsub => spliced_none ⟨(W₁.keeps F₁.gh).k, ?_⟩)))))))
          refine (ih W₁ ru (List.all_eq_true.mp hok'.2 q (List.mem_of_getElem? hq))).use F₁ S.tT (R1 _) fun r g₂ h₂ tk₂ F₂ g12 ⟨as', ra, rn, rf⟩ => ?_
          have hnk : ∀ z ∈ items, z.1 ≠ kv.1 := by
            intro z hz e
            have hz' : kv.1 ∈ (kvs.take i).map (·.1) := by rw [← eit, ← e]; exact List.mem_map_of_mem hz
            have hnd2 := hnd
            rw [← List.take_append_drop i kvs, List.map_append, List.nodup_append] at hnd2
            refine hnd2.2.2 kv.1 hz' kv.1 ?_ rfl
            rw [List.drop_eq_getElem_cons hi', List.map_cons, show kvs[i] = kv from (List.getElem?_eq_some_iff.mp hi).2]
            exact .head _
          refine ⟨kv.1, t, _, g₂, h₂, tk₂, rfl, rfl, F₂, g12, ⟨?_, bs ++ as', ?_, ?_, ?_⟩, ?_⟩
          · rw [stored_new hnk, take_snoc hi, List.map_append, List.map_append, eit]; rfl
          · rw [stored_new hnk, take_snoc hq, List.map_append, List.map_append]; exact (hbs.keeps g12).snoc ra
          · rw [List.nodup_append]
            refine ⟨hnd', rn, fun a ha b hb e => ?_⟩
            subst e
            exact hbs.there a ha (rf a hb)
          · intro a ha
            rcases List.mem_append.mp ha with ha | ha
            · exact hnew a ha
            · have := rf a ha
              cases q : g.get? a with
              | none => rfl
              | some o => rw [gg _ _ q] at this; cases this
          · have := congrArg List.length eit
            simp only [List.length_map, List.length_take] at this
            omega
        · rintro a items ep' g₁ g₂ h₁ tk ⟨eit, bs, hbs, hnd', hnew⟩ gg g12 F₂ hla hma hna
          rw [List.take_length] at eit
          rw [hlen, List.take_length] at hbs
          refine ret _ _ _ _ F₂.after ⟨a :: bs, .dict hma hla ?_ (hbs.keeps g12), ?_, ?_⟩
          · rw [ek]
            have := congrArg (List.map PyData.str) eit
            simpa [List.map_map, Function.comp_def] using this.symm
          · exact List.nodup_cons.mpr ⟨fun hm => hbs.there a hm hna, hnd'⟩
          · intro b hb
            rcases List.mem_cons.mp hb with rfl | hb
            · cases q : g.get? b with
              | none => rfl
              | some o => rw [gg _ _ q] at hna; cases hna
            · exact hnew b hb
      | _ => simp [isDict] at hc2
    | false =>
    refine wpAny_execs_nil (wpAny_execs_cons (wpAny_Return_some (n_cell' F (.head _) hoc rfl ?_)))
    refine ret _ _ _ _ F.after ⟨as, hv, ?_, ?_⟩
    · rw [hv.ok0 hc hc2]; exact .nil
    · rw [hv.ok0 hc hc2]; exact fun _ h => nomatch h
end
end Mine
end

/-! ## J9 -/
section
set_option maxRecDepth 100000
open PySem PySem.W PyProof.Rows PySem.Calls
namespace Mine

example (w : World) (h : Heap) (X : (hd.heap_39 w.params).In h) : (hd.heap_39 w.params).In h ∧ PySem.Challenge.rw_bs0014_01 = PySem.Challenge.rw_bs0014_01 := by
  k_fill
  exact ⟨X, rfl⟩

section
variable {prog : Program} {w : World} {p : Program} {loose : List Str} {mg mb : Str → Option Value} {A : Around} {E : Value → Shared → Prop} {s : Shared} {R : Result → Shared → Prop}
  {base g₀ g h h' gh0 : Heap} {L : Addr} {m m' : Str → Option Value} {vol : List (Addr × Obj)} {T : Option Obj} {env : Env}

/-- the script -/
structure Scr (g : Heap) (l : Addr) (ns : List Int) : Prop where
  ex : ∃ vs : List Value, g.IsList l vs.toArray ∧ IntsAre vs ns
  le : ns.length ≤ 63
theorem Scr.keeps (S : Scr g l ns) (k : g.StaysIn h) : Scr h l ns := ⟨let ⟨vs, a, b⟩ := S.ex; ⟨vs, isList_keeps k a, b⟩, S.le⟩
def num (ns : List Int) (place : Int) : Int := (if ns = [] then 0 else ns.getD (place.fmod ns.length).toNat 0) + 7 * place

theorem ints_at {vs : List Value} {ns : List Int} (h : IntsAre vs ns) {i : Nat} {n : Int} (e : ns[i]? = some n) : ∃ t, vs[i]? = some (.int n t) := by
  induction h generalizing i with
  | nil => simp at e
  | cons _ _ _ ih => cases i with
    | zero => simp only [List.getElem?_cons_zero, Option.some.injEq] at e; subst e; exact ⟨_, rfl⟩
    | succ i => exact ih (by simpa using e)

theorem does_number {l : Addr} {ns : List Int} {place : Int} {t : Tok} (W : WD w p loose mg mb g) (hs : Scr g l ns) (hp : -1000000 < place ∧ place < 1000000) :
    Does prog w (.ref 299) [.ref l, .int place t] 1 8 g fun _ r => ∃ tk, r = .int (num ns place) tk := by
  intro A s Q E S Rm ret
  refine wpAny_call ?_
  (refine' enter W S ?ho ?hcd ?hroom ?hb ?hl ?_ ?h1 ?h2 ?h3 ?h4; (case ho => k_is); (case hcd => k_is); (case hroom => (have := Rm.d; omega)); (case hb => exact BindsTo.of_eq rfl); (case h1 => decide); (case h2 => exact rfl); (case h3 => exact rfl); (case h4 => exact rfl); (case hl => exact rfl))
  intro L h₁ tk F
  dsimp only
  obtain ⟨⟨vs, hl, hi⟩, hle⟩ := hs
  have hlen := hi.length
  have hsz : vs.toArray.size = ns.length := by rw [List.size_toArray, hlen]
  refine wpAny_execs_cons (wpAny_Return_some (wpAny_BinOp (wpAny_IfExp (isTrue_plain (n_loc F rfl (wpAny_truthy_list (F.isList hl) (by omega) ?_))))))
  cases hns : ns with
  | nil =>
    subst hns
    cases hi
    refine wpAny_Constant_int (wpAny_BinOp (wpAny_Constant_int (n_loc F rfl (mul_int (add_int ?_)))))
    exact ret _ _ _ _ F.after ⟨_, congrArg (Value.int · _) (by simp [num])⟩
  | cons n r =>
    have hne : (!vs.toArray.isEmpty) = true := by
      cases hi with
      | nil => cases hns
      | cons _ _ _ => rfl
    rw [hne]
    have hpos : (0 : Int) < ns.length := by rw [hns]; simp
    have hf0 := Int.fmod_nonneg_of_pos place hpos
    have hf1 := Int.fmod_lt_of_pos place hpos
    have hlt : (place.fmod ns.length).toNat < ns.length := by omega
    obtain ⟨tk2, hv⟩ := ints_at hi (List.getElem?_eq_getElem hlt)
    refine Subscript_ (n_loc F rfl (wpAny_BinOp (n_loc F rfl (wpAny_Call_ofName (n_bi W F.gh (by k_is) rfl (callWith_builtin1 (spliced_more (n_loc F rfl (spliced_none (len_list (F.isList hl) (by omega) ?_))))))))))
    rw [hsz]
    refine mod_int' (by omega) (item_list (F.isList hl) hf0 (by omega) (by simpa using hv) ?_)
    refine wpAny_BinOp (wpAny_Constant_int (n_loc F rfl (mul_int (add_int ?_))))
    refine ret _ _ _ _ F.after ⟨_, congrArg (Value.int · _) ?_⟩
    unfold num
    simp only [hns] at hlt ⊢
    rw [if_neg (by simp), List.getD_eq_getElem?_getD, List.getElem?_eq_getElem hlt]
    rfl
end
end Mine
end

/-! ## K0 -/
section
set_option maxRecDepth 100000
open PySem PySem.W PyProof.Rows PySem.Calls
namespace Mine

/-! ### the words of this law, and what their pointers read as -/
def words : List Str := ["a", "b", "~", "x/y", "0", "~1", "", "x", "1", "2"]
def esc (x : Str) : Str := Txt.replace (Txt.replace x "~" "~0") "/" "~1"
def unesc (x : Str) : Str := Txt.replace (Txt.replace x "~1" "/") "~0" "~"
def textOf (ws : List Str) : Str := Txt.join "" (ws.map fun x => "/" ++ esc x)

def drv : Nat → Sre.M → Option Sre.M
  | 0, _ => none
  | n + 1, m => let m := m.runFor 4; if m.outcome.isSome then some m else drv n m
def codeEsc : Array Nat := #[14, 8, 1, 1, 2, 1, 0, 126, 0, 17, 0, 16, 126, 7, 10, 13, 6, 21, 22, 48, 49, 0, 15, 7, 5, 6, 5, 15, 2, 0, 17, 1, 1]
def codeIdx : Array Nat := #[14, 4, 0, 1, 4294967295, 7, 5, 16, 48, 15, 22, 20, 13, 5, 22, 49, 57, 0, 24, 10, 0, 4294967295, 13, 5, 22, 48, 57, 0, 1, 15, 2, 0, 1]
def failed : Option Sre.M → Bool
  | some m => match m.outcome with | some .failed => true | _ => false
  | none => false
def matched : Option Sre.M → Bool
  | some m => match m.outcome with | some .matched => true | _ => false
  | none => false
def noEsc (x : Str) : Bool := failed (drv 400 (Sre.forSearch codeEsc x.cps 1 0 x.cps.size false))
def isIdx (x : Str) : Bool := matched (drv 400 (Sre.forMatch codeIdx x.cps 0 0 x.cps.size true false))
def noIdx (x : Str) : Bool := failed (drv 400 (Sre.forMatch codeIdx x.cps 0 0 x.cps.size true false))
def okWs (ws : List Str) : Bool := noEsc (textOf ws) && decide ((textOf ws).length ≤ 100) && decide (Txt.split (textOf ws) "/" = ("" : Str) :: ws.map esc) && decide ((ws.map esc).map unesc = ws)
theorem idx_yes : (["0", "1", "2"] : List Str).all isIdx = true := by decide +kernel
theorem idx_no : (["a", "b", "~", "x/y", "~1", "", "x"] : List Str).all noIdx = true := by decide +kernel
end Mine
end

/-! ## K1 -/
section
set_option maxRecDepth 100000
open PySem PySem.W PyProof.Rows PySem.Calls
namespace Mine

/-! ### sorted, over rows that begin with different words -/
def runT {α : Type} (lt : Nat → Nat → Bool) : KasT α → α
  | .ret a => a
  | .ask i j k => runT lt (k (lt i j))
def goodT {α : Type} (n : Nat) : KasT α → Bool
  | .ret _ => true
  | .ask i j k => i != j && decide (i < n) && decide (j < n) && goodT n (k true) && goodT n (k false)
def ltS (x y : Str) : Bool := decide (x.cps.toList < y.cps.toList)
def psort (names : List Str) : List Nat := if names.length < 2 then List.range names.length else (runT (fun i j => ltS (names.getD i "") (names.getD j "")) (kas_sort names.length)).toList
theorem good_sort : ∀ n, 2 ≤ n → n ≤ 3 → goodT n (kas_sort n) = true
  | 2, _, _ => by decide +kernel
  | 3, _, _ => by decide +kernel

section
variable {prog : Program} {w : World} {p : Program} {loose : List Str} {mg mb : Str → Option Value} {A : Around} {E : Value → Shared → Prop} {s : Shared} {R : Result → Shared → Prop}
  {base g₀ g h h' gh0 : Heap} {L : Addr} {m m' : Str → Option Value} {vol : List (Addr × Obj)} {T : Option Obj} {env : Env}

theorem runT_wp {α : Type} {n : Nat} {lt : Nat → Nat → Bool} {κ : SortKind} {vs : List Value} (ask : ∀ i j, i ≠ j → i < n → j < n → ∀ C : Bool → Shared → Prop, C (lt i j) s → kas_ask prog w A κ vs i j C s) :
    ∀ (t : KasT α) {Q : α → Shared → Prop}, goodT n t = true → Q (runT lt t) s → t.kasWp (kas_ask prog w A κ vs) Q s
  | .ret a, _, _, h => h
  | .ask i j k, Q, e, h => by
    simp only [goodT, Bool.and_eq_true, bne_iff_ne, decide_eq_true_eq] at e
    obtain ⟨⟨⟨⟨e1, e2⟩, e3⟩, e4⟩, e5⟩ := e
    refine ask i j e1 e2 e3 _ ?_
    cases hb : lt i j with
    | true => exact runT_wp ask (k true) e4 (by simpa [runT, hb] using h)
    | false => exact runT_wp ask (k false) e5 (by simpa [runT, hb] using h)

def h00 : Heap := ⟨#[], default⟩
def allN (L : Addr) (h : Heap) : List (Addr × Obj) := (List.range h.objs.size).filterMap fun a => if a = L then none else (h.get? a).map fun o => (a, o)
theorem allN_mem {L : Addr} {h : Heap} {a : Addr} {o : Obj} : (a, o) ∈ allN L h ↔ a ≠ L ∧ h.get? a = some o := by
  unfold allN
  simp only [List.mem_filterMap, List.mem_range]
  constructor
  · rintro ⟨b, hb, e⟩
    by_cases q : b = L
    · rw [if_pos q] at e; cases e
    · rw [if_neg q] at e
      obtain ⟨o', ho, e⟩ := Option.map_eq_some_iff.mp e
      cases e
      exact ⟨q, ho⟩
  · rintro ⟨hL, ho⟩
    exact ⟨a, Heap.lt_size ho, by rw [if_neg hL, ho]; rfl⟩
theorem h00_get (a : Addr) : h00.get? a = none := none_of_ge (Nat.zero_le _)
theorem Fm.fr (F : Fm base g₀ L m vol T g h) : Fr h00 L h m := ⟨F.ns, fun b o e => (by rw [h00_get] at e; cases e), Nat.zero_le _⟩
theorem Fm.news (F : Fm base g₀ L m vol T g h) : News h00 L h (allN L h) := fun q hq => by
  obtain ⟨a, o⟩ := q
  have := allN_mem.mp hq
  exact ⟨this.2, this.1, h00_get _⟩
/-- back from the ledger's form: everything stays, the frame's names too -/
theorem Fm.stays (F : Fm base g₀ L m vol T g h) (tT : T ≠ none) (hn : h'.Ns L m') (k : ∀ b o, h.get? b = some o → b ≠ L → h'.get? b = some o) : Fm base g₀ L m' vol T g h' where
  ns := hn
  keep := fun b o e hb => k _ _ (F.keep b o e hb) (fun q => by subst q; exact absurd (Heap.lt_size e) (Nat.not_lt.mpr F.lo))
  lo := F.lo
  tlt := F.tlt
  tab := by
    cases q : T with
    | none => exact absurd q tT
    | some t => exact k _ _ (by rw [F.tab, q]) F.ltab
  vv := fun p hp => let ⟨a, b, c, d⟩ := F.vv p hp; ⟨k _ _ a c, b, c, d⟩
  nd := F.nd
  gh := fun b o e => k _ _ (F.gh b o e) (fun q => by subst q; rw [F.gL] at e; cases e)
  gL := F.gL
  gg := F.gg
  gT := F.gT
/-- a new place that has come to stand is told -/
theorem Fm.tellNew (F : Fm base g₀ L m vol T g h) (tT : T ≠ none) (hn : h'.Ns L m') (k : ∀ b o, h.get? b = some o → b ≠ L → h'.get? b = some o) {D : Addr} {o : Obj} (e : h.get? D = none) (e' : h'.get? D = some o) :
    ∃ g', Fm base g₀ L m' vol T g' h' ∧ g.StaysIn g' ∧ g'.get? D = some o ∧ g.get? D = none := by
  have F' := F.stays tT hn k
  have hg : g.get? D = none := by
    cases q : g.get? D with
    | none => rfl
    | some o => rw [F.gh _ _ q] at e; cases e
  have hDL : D ≠ L := fun q => by obtain ⟨oL, x⟩ := F.hL; rw [q, x] at e; cases e
  have off : ∀ b, g.get? b = none → b ≠ D → (sieve h' fun b => (g.get? b).isSome || Nat.beq b D).get? b = none := fun b eb hb => by
    rw [sieve_get]
    have : Nat.beq b D = false := by cases q : Nat.beq b D with
      | false => rfl
      | true => exact absurd (Nat.eq_of_beq_eq_true q) hb
    simp [eb, this]
  have dT : TAB ≠ D := fun q => by have := F.tab; rw [q, e] at this; exact tT this.symm
  have hbase : base.get? D = none := by
    cases q : base.get? D with
    | none => rfl
    | some o => rw [F.keep _ _ q (Ne.symm dT)] at e; cases e
  refine ⟨sieve h' fun b => (g.get? b).isSome || Nat.beq b D, ?_, fun b o' q => ?_, ?_, hg⟩
  · exact { F' with
      gh := fun b o' e => (sieve_some e).2
      gL := off _ F.gL (Ne.symm hDL)
      gT := off _ F.gT dT
      gg := ⟨fun b o' e => by
        have q := F.gg.sub b o' e
        rw [sieve_get]
        simp [q, F'.gh _ _ q], fun b hb e => off b (F.gg.new b hb e) (fun z => by subst z; exact hb hbase)⟩
      vv := fun p hp => by
        have := F'.vv p hp
        exact ⟨this.1, this.2.1, this.2.2.1, off _ this.2.2.2 fun z => by have := (F.vv p hp).1; rw [z, e] at this; cases this⟩ }
  · rw [sieve_get]
    simp [q, F'.gh _ _ q]
  · rw [sieve_get]
    simp [e']

def tupO (vs : Array Value) : Obj := { cls := .type "tuple", data := .seq vs }

theorem sort_short {a : Addr} {n : Nat} {vs : List Value} {P : PySem.Fin → Shared → Prop} (ho : s.heap.get? a = some (seqObj "list" vs.toArray n)) (h2 : vs.length < 2)
    (h : ∀ h' c, (∀ b o, b ≠ a → s.heap.get? b = some o → h'.get? b = some o) → h'.get? a = some (seqObj "list" vs.toArray c) → P (.done (.ret .none)) { s with heap := h' }) :
    wpAny (model prog w) A (Builtin.«list.sort» ⟨[.ref a], []⟩) P E s := by
  have ha : a < s.heap.objs.size := Heap.lt_size ho
  have s1 := Heap.SameBut.update s.heap a (Obj.mapSeq fun _ => (#[] : Array Value))
  obtain ⟨e1, ho1⟩ : ∃ e1, (s.heap.update a (Obj.mapSeq fun _ => (#[] : Array Value))).get? a = some (seqObj "list" #[] e1) := ⟨_, get?_update_seq ho fun _ => #[]⟩
  have ho2 : (((s.heap.update a (Obj.mapSeq fun _ => (#[] : Array Value))).push (seqObj "tuple" vs.toArray 0)).push (seqObj "list" #[] 0)).get? a = some (seqObj "list" #[] e1) := Heap.get?_push_of_some _ (Heap.get?_push_of_some _ ho1)
  rw [list_sort_plain]
  refine wpAny_bind (listItems_at ho rfl ?_)
  refine wpAny_bind (listUpdate_at ho rfl ?_ (by rw [List.size_toArray, sizeLine_eq]; omega) (Nat.zero_le _))
  refine wpAny_bind (seqEpoch_at ho1 rfl ?_)
  refine wpAny_bind (wpAny_newTuple ?_ (by show vs.length ≤ _; rw [sizeLine_eq]; omega))
  refine wpAny_bind (wpAny_newList ?_ (Nat.zero_le _))
  refine wpAny_holding ?_
  show wpAny (model prog w) A _ P E { s with heap := ((s.heap.update a (Obj.mapSeq fun _ => (#[] : Array Value))).push (seqObj "tuple" vs.toArray 0)).push (seqObj "list" #[] 0) }
  dsimp only
  have hn2 : vs.toArray.size < 2 := by rw [List.size_toArray]; omega
  rw [if_pos hn2, if_pos hn2]
  refine wpAny_bind (wpAny_pure (wpAny_bind (wpAny_pure ?_)))
  dsimp only
  have hout : (arrOf (SortSt.mk' general' (vs.toArray.zip vs.toArray) #[] 7 none)).map (·.2) = vs.toArray := by
    show ((vs.toArray.zip vs.toArray).map (·.2)) = _
    apply Array.toList_inj.mp
    simp only [Array.toList_map, Array.toList_zip]
    exact List.map_snd_zip (Nat.le_refl _)
  rw [hout]
  obtain ⟨c2, hc2⟩ : ∃ c2, ((((s.heap.update a (Obj.mapSeq fun _ => (#[] : Array Value))).push (seqObj "tuple" vs.toArray 0)).push (seqObj "list" #[] 0)).update a (Obj.mapSeq fun _ => vs.toArray)).get? a = some (seqObj "list" vs.toArray c2) := ⟨_, get?_update_seq ho2 fun _ => vs.toArray⟩
  refine wpAny_bind (seqEpoch_at ho2 rfl ?_)
  refine wpAny_bind (listUpdate_at ho2 rfl ?_ (Nat.zero_le _) (by rw [List.size_toArray, sizeLine_eq]; omega))
  simp only [bne_self_eq_false, Bool.false_eq_true, if_false]
  refine wpAny_pure (h _ c2 (fun b o hb e => ?_) hc2)
  rw [Heap.get?_update_other _ _ (Ne.symm hb)]
  refine Heap.get?_push_of_some _ (Heap.get?_push_of_some _ ?_)
  rw [Heap.get?_update_other _ _ (Ne.symm hb)]
  exact e

theorem sorted_short {l : Addr} {vs : List Value} {Q : Value → Shared → Prop} (hl : s.heap.IsList l vs.toArray) (h2 : vs.length < 2)
    (h : ∀ D h' c, (∀ b o, s.heap.get? b = some o → h'.get? b = some o) → s.heap.get? D = none → h'.get? D = some (seqObj "list" vs.toArray c) → Q (.ref D) { s with heap := h' }) :
    wpAny (model prog w) A (call (.builtin "sorted") [.ref l]) Q E s := by
  refine Calls.call_function_entry kind_sorted plain_sorted entry_sorted (args_sorted1 _) ?_
  unfold Builtin.«sorted»
  refine wpAny_bind (m := checkCount "sorted" 1 1 _) (wpAny_pure ?_)
  refine wpAny_bind (collect_list hl ?_ (by rw [sizeLine_eq]; omega))
  refine wpAny_bind (wpAny_newList ?_ (by rw [sizeLine_eq]; omega))
  have hsz : ((s.heap.push (seqObj "list" #[] 0)).update s.heap.objs.size (Obj.mapSeq (· ++ vs.toArray))).objs.size = s.heap.objs.size + 1 := by
    rw [Heap.size_update, size_push']
  have hoL : (((s.heap.push (seqObj "list" #[] 0)).update s.heap.objs.size (Obj.mapSeq (· ++ vs.toArray))).push (seqObj "list" vs.toArray 0)).get? (s.heap.objs.size + 1) = some (seqObj "list" vs.toArray 0) := by
    rw [← hsz]; exact Heap.get?_push_size _ rfl
  have keep : ∀ b o, s.heap.get? b = some o → (((s.heap.push (seqObj "list" #[] 0)).update s.heap.objs.size (Obj.mapSeq (· ++ vs.toArray))).push (seqObj "list" vs.toArray 0)).get? b = some o := fun b o q => by
    have hlt : b < s.heap.objs.size := Heap.lt_size q
    rw [Heap.get?_push_ne _ _ _ (by rw [hsz]; exact Nat.ne_of_lt (Nat.lt_succ_of_lt hlt)), Heap.get?_update_ne _ _ _ _ (Nat.ne_of_lt hlt), Heap.get?_push_ne _ _ _ (Nat.ne_of_lt hlt)]
    exact q
  show wpAny _ _ _ _ _ { s with heap := ((s.heap.push (seqObj "list" #[] 0)).update s.heap.objs.size (Obj.mapSeq (· ++ vs.toArray))).push (seqObj "list" vs.toArray 0) }
  rw [hsz]
  refine wpAny_bind (wpAny_holding (wpAny_call_entry slot_list_sort ⟨_, hoL, rfl⟩ entry_list_sort ?body (args_list_sort _)))
  case body =>
    refine sort_short (s := { s with heap := ((s.heap.push (seqObj "list" #[] 0)).update s.heap.objs.size (Obj.mapSeq (· ++ vs.toArray))).push (seqObj "list" vs.toArray 0) }) hoL h2 fun h' c k e => ?_
    refine ⟨_, rfl, wpAny_pure ⟨_, rfl, ?_⟩⟩
    exact h _ h' c (fun b o q => k b o (Nat.ne_of_lt (Nat.lt_succ_of_lt (Heap.lt_size q))) (keep b o q)) (none_of_ge (Nat.le_succ _)) e

theorem short_ids {vs : List Value} (h : vs.length < 2) : (List.range vs.length).map (fun i => vs.getD i Value.none) = vs := by
  match vs, h with
  | [], _ => rfl
  | [v], _ => rfl
  | _ :: _ :: _, h => exact absurd h (by simp)

theorem Fm.sorted {l : Addr} {vs : List Value} {names : List Str} {Q : Value → Shared → Prop} (F : Fm base g₀ L m vol T g s.heap) (tT : T ≠ none) (hl : g.IsList l vs.toArray) (hn : names.length = vs.length)
    (rows : ∀ i v, vs[i]? = some v → ∃ a t x, v = .ref a ∧ g.get? a = some (tupO #[.str (names.getD i "") t, x])) (nd : names.Nodup) (h3 : vs.length ≤ 3)
    (h : ∀ D g' h', Fm base g₀ L m vol T g' h' → g.StaysIn g' → g'.IsList D ((psort names).map fun i => vs.getD i .none).toArray → Q (.ref D) { s with heap := h' }) :
    wpAny (model prog w) A (call (.builtin "sorted") [.ref l]) Q E s := by
  have hls := F.isList hl
  by_cases h2 : 2 ≤ vs.length
  · refine kat_sorted F.fr F.news hls h2 (by omega) fun D e1 h' F' N' hD => ?_
    have kk : ∀ b o, s.heap.get? b = some o → b ≠ L → h'.get? b = some o := fun b o e hb => (N' (b, o) (.tail _ (allN_mem.mpr ⟨hb, e⟩))).1
    have eD : s.heap.get? D = none := by
      cases q : s.heap.get? D with
      | none => rfl
      | some o => exact absurd (hD (D, o) (allN_mem.mpr ⟨(N' _ (.head _)).2.1, q⟩)) (Nat.lt_irrefl _)
    have gk : g.StaysIn h' := (F.stays tT F'.ns kk).gh
    have trow : KatTups h' vs (vs.map fun v => match v with | .ref a => (match h'.get? a with | some o => (match o.data with | .seq xs _ => xs.getD 0 .none | _ => .none) | none => .none) | _ => .none) := by
      have all : ∀ (us : List Value), (∀ v ∈ us, ∃ a k t x, v = .ref a ∧ g.get? a = some (tupO #[.str k t, x])) → KatTups h' us (us.map fun v => match v with | .ref a => (match h'.get? a with | some o => (match o.data with | .seq xs _ => xs.getD 0 .none | _ => .none) | none => .none) | _ => .none) := by
        intro us
        induction us with
        | nil => exact fun _ => .nil
        | cons v r ih =>
          intro hv
          obtain ⟨a, k, t, x, rfl, ha⟩ := hv v (.head _)
          refine KatTups.cons (gk _ _ ha) rfl rfl ?_ (ih fun u hu => hv u (.tail _ hu))
          simp only [gk _ _ ha, tupO]
          rfl
      refine all vs fun v hv => ?_
      obtain ⟨i, hi, e⟩ := List.getElem_of_mem hv
      obtain ⟨a, t, x, e1, e2⟩ := rows i v (by rw [List.getElem?_eq_getElem hi, e])
      exact ⟨a, _, t, x, e1, e2⟩
    refine kat_kind (T := .type "str") trow (by rw [List.length_map]; omega) ?_ (by rfl) ?_
    · intro v hv
      obtain ⟨u, hu, rfl⟩ := List.mem_map.mp hv
      obtain ⟨i, hi, e⟩ := List.getElem_of_mem hu
      obtain ⟨a, t, x, e1, e2⟩ := rows i u (by rw [List.getElem?_eq_getElem hi, e])
      subst e1
      simp only [gk _ _ e2, tupO]
      exact Looks.of_pure rfl
    · refine runT_wp (n := vs.length) (lt := fun i j => ltS (names.getD i "") (names.getD j "")) ?_ _ (good_sort _ h2 h3) ?_
      · intro i j hij hi hj C hC
        obtain ⟨a, t, x, e1, e2⟩ := rows i _ (List.getElem?_eq_getElem hi)
        obtain ⟨a', t', x', e1', e2'⟩ := rows j _ (List.getElem?_eq_getElem hj)
        unfold kas_ask
        have gi : vs.getD i .none = .ref a := by rw [List.getD_eq_getElem?_getD, List.getElem?_eq_getElem hi, e1]; rfl
        have gj : vs.getD j .none = .ref a' := by rw [List.getD_eq_getElem?_getD, List.getElem?_eq_getElem hj, e1']; rfl
        rw [gi, gj]
        have hne : names.getD i "" ≠ names.getD j "" := by
          intro q
          rw [List.getD_eq_getElem?_getD, List.getElem?_eq_getElem (by omega), List.getD_eq_getElem?_getD, List.getElem?_eq_getElem (by omega)] at q
          exact hij ((List.getElem_inj nd).mp q)
        refine kat_lt (gk _ _ e2) rfl (gk _ _ e2') rfl ?_
        refine kat_cons (wpAny_eqBool_str ?_)
        rw [decide_eq_false hne]
        exact kat_no (oneLt_str hC)
      · have eps : psort names = (runT (fun i j => ltS (names.getD i "") (names.getD j "")) (kas_sort vs.length)).toList := by unfold psort; rw [if_neg (by omega), hn]
        rw [← eps]
        refine KasFin.intro F' N' (.head ?_) fun h'' c F'' N'' => ?_
        · rintro ⟨b, o⟩ hq rfl
          exact absurd (hD _ hq) (Nat.lt_irrefl _)
        · have kk' : ∀ b o, s.heap.get? b = some o → b ≠ L → h''.get? b = some o := fun b o e hb => (N'' (b, o) (.tail _ (allN_mem.mpr ⟨hb, e⟩))).1
          obtain ⟨g', F₃, gg, eg, -⟩ := F.tellNew tT F''.ns kk' eD (N'' _ (.head _)).1
          exact h D g' h'' F₃ gg ⟨_, eg, rfl, _, rfl⟩
  · have h2' : vs.length < 2 := by omega
    refine sorted_short hls h2' fun D h' c k e e' => ?_
    obtain ⟨g', F₃, gg, eg, -⟩ := F.tellNew tT (F.ns.keeps k) (fun b o q _ => k b o q) e e'
    refine h D g' h' F₃ gg ⟨_, eg, rfl, c, ?_⟩
    have : (psort names).map (fun i => vs.getD i .none) = vs := by
      unfold psort
      rw [if_pos (by omega), hn]
      exact short_ids h2'
    rw [this]
end
end Mine
end

/-! ## K2 -/
section
set_option maxRecDepth 100000
open PySem PySem.W PyProof.Rows PySem.Calls
namespace Mine

example (w : World) (h : Heap) (X : (hd.heap_39 w.params).In h) : (hd.heap_39 w.params).In h ∧ PySem.Challenge.rw_bs0014_01 = PySem.Challenge.rw_bs0014_01 := by
  k_fill
  exact ⟨X, rfl⟩

def keyS : PyData × PyData → Str
  | (.str x, _) => x
  | _ => ""
mutual
def told : PyData → PyData
  | .dict kvs => .tuple [.str "object", .list ((psort (kvs.map keyS)).map fun i => (toldKv kvs).getD i .none)]
  | .list xs => .tuple [.str "list", .list (toldAll xs)]
  | .bool b => .tuple [.str "truth", .bool b]
  | .none => .tuple [.str "plain", .none]
  | .int i => .tuple [.str "plain", .int i]
  | .str x => .tuple [.str "plain", .str x]
  | .tuple x => .tuple [.str "plain", .tuple x]
def toldAll : List PyData → List PyData
  | [] => []
  | x :: r => told x :: toldAll r
def toldKv : List (PyData × PyData) → List PyData
  | [] => []
  | (k, v) :: r => .tuple [k, told v] :: toldKv r
end
theorem toldAll_map : ∀ xs : List PyData, toldAll xs = xs.map told
  | [] => by simp [toldAll]
  | x :: r => by rw [toldAll, toldAll_map r]; rfl
theorem toldKv_map : ∀ xs : List (PyData × PyData), toldKv xs = xs.map fun q => .tuple [q.1, told q.2]
  | [] => by simp [toldKv]
  | (k, v) :: r => by rw [toldKv, toldKv_map r]; rfl
theorem told_plain {d : PyData} (h1 : isList d = false) (h2 : isDict d = false) (h3 : isBool d = false) : told d = .tuple [.str "plain", d] := by
  cases d <;> first | rfl | (simp [isList] at h1; done) | (simp [isDict] at h2; done) | (simp [isBool] at h3; done) | (unfold told; rfl)

section
variable {prog : Program} {w : World} {p : Program} {loose : List Str} {mg mb : Str → Option Value} {A : Around} {E : Value → Shared → Prop} {s : Shared} {R : Result → Shared → Prop}
  {base g₀ g h h' gh0 : Heap} {L : Addr} {m m' : Str → Option Value} {vol : List (Addr × Obj)} {T : Option Obj} {env : Env}

mutual
theorem reads_keeps {v : Value} {d : PyData} {as : List Addr} (k : h.StaysIn h') : Reads h v d as → Reads h' v d as
  | .none => .none
  | .bool b => .bool b
  | .int i t => .int i t
  | .str x t => .str x t
  | .list a b c r => .list (k _ _ a) b c (readsAll_keeps k r)
  | .tuple a b c r => .tuple (k _ _ a) b c (readsAll_keeps k r)
  | .dict a b c r q => .dict (k _ _ a) b c (readsAll_keeps k r) (readsAll_keeps k q)
theorem readsAll_keeps {vs : List Value} {ds : List PyData} {as : List Addr} (k : h.StaysIn h') : ReadsAll h vs ds as → ReadsAll h' vs ds as
  | .nil => .nil
  | .cons x y => .cons (reads_keeps k x) (readsAll_keeps k y)
end
/-- plain leaves read as they are -/
theorem JR.reads {v : Value} {d : PyData} {as : List Addr} (x : JR prog w g v d as) (h1 : isList d = false) (h2 : isDict d = false) : Reads g v d [] := by
  cases x with
  | none => exact .none
  | bool b => exact .bool b
  | int i t => exact .int i t
  | str x t => exact .str x t
  | list => simp [isList] at h1
  | dict => simp [isDict] at h2
/-- told rows -/
def TR (g : Heap) (vs : List Value) (ds : List PyData) : Prop := ∃ as, ReadsAll g vs ds as
theorem TR.nil : TR g [] [] := ⟨_, .nil⟩
theorem readsAll_snoc : ∀ {vs : List Value} {ds : List PyData} {as bs : List Addr} {v : Value} {d : PyData}, ReadsAll g vs ds as → Reads g v d bs → ∃ cs, ReadsAll g (vs ++ [v]) (ds ++ [d]) cs
  | _, _, _, _, _, _, .nil, x => ⟨_, .cons x .nil⟩
  | _, _, _, _, _, _, .cons y ys, x => let ⟨_, z⟩ := readsAll_snoc ys x; ⟨_, .cons y z⟩
theorem TR.snoc {vs : List Value} {ds : List PyData} {v : Value} {d : PyData} {as : List Addr} (x : TR g vs ds) (y : Reads g v d as) : TR g (vs ++ [v]) (ds ++ [d]) := let ⟨_, z⟩ := x; readsAll_snoc z y
theorem TR.keeps {vs : List Value} {ds : List PyData} (k : g.StaysIn h) (x : TR g vs ds) : TR h vs ds := let ⟨_, z⟩ := x; ⟨_, readsAll_keeps k z⟩
theorem readsAll_at : ∀ {vs : List Value} {ds : List PyData} {as : List Addr}, ReadsAll g vs ds as → ∀ i, ∃ bs, Reads g (vs.getD i .none) (ds.getD i .none) bs
  | _, _, _, .nil, i => ⟨[], by simpa using Reads.none⟩
  | _, _, _, .cons x y, 0 => ⟨_, x⟩
  | _, _, _, .cons x y, i + 1 => by simpa using readsAll_at y i
theorem TR.pick {vs : List Value} {ds : List PyData} (x : TR g vs ds) : ∀ ns : List Nat, TR g (ns.map fun i => vs.getD i .none) (ns.map fun i => ds.getD i .none)
  | [] => .nil
  | n :: r => by
    obtain ⟨as, z⟩ := x
    obtain ⟨bs, y⟩ := readsAll_at z n
    obtain ⟨cs, t⟩ := TR.pick ⟨as, z⟩ r
    exact ⟨_, .cons y t⟩

theorem two_le {α : Type} {a b : α} : [a, b].length ≤ sizeLine := by have := sizeLine_eq; simp; omega
def rowD (q : PyData × PyData) : PyData := .tuple [q.1, told q.2]
def RowAt (g : Heap) (k : Str) (v : Value) : Prop := ∃ a t x, v = .ref a ∧ g.get? a = some (tupO #[.str k t, x])
theorem RowAt.keeps {k : Str} {v : Value} (x : RowAt g k v) (gg : g.StaysIn h) : RowAt h k v := let ⟨a, t, x, e1, e2⟩ := x; ⟨a, t, x, e1, gg _ _ e2⟩
/-- a pair just made -/
theorem reads_pair {a : Addr} {x : Str} {t : Tok} {v : Value} {d : PyData} {as : List Addr} (e : g.get? a = some (tupO #[.str x t, v])) (r : Reads g v d as) : ∃ cs, Reads g (.ref a) (.tuple [.str x, d]) cs :=
  ⟨_, .tuple e rfl rfl (.cons (.str x t) (.cons r .nil))⟩

set_option maxHeartbeats 1000000 in
theorem does_told : ∀ (n : Nat) {g : Heap} {v : Value} {d : PyData} {as : List Addr}, WD w p loose mg mb g → JR prog w g v d as → okJ n d = true →
    Does prog w (.ref 309) [v] (n + 2) (4 * n + 8) g fun g' r => ∃ as', Reads g' r (told d) as' := by
  intro n
  induction n with
  | zero =>
    intro g v d as W hv hok A s Q E S Rm ret
    refine wpAny_call ?_
    (refine' enterC W S ?ho ?hcd ?hroom ?hb ?hl ?hn ?_ ?h2 ?h3 ?h4; (case ho => k_is); (case hcd => k_is); (case hroom => (have := Rm.d; omega)); (case hb => exact BindsTo.of_eq rfl); (case hl => exact rfl); (case hn => decide); (case h2 => exact rfl); (case h3 => exact rfl); (case h4 => exact rfl))
    intro L h₁ tk cells Y F
    obtain ⟨oc, rfl, hoc⟩ := CellsAre.one Y
    have hoc : oc.data = .cell (some v) := hoc
    have h1 : isList d = false := by cases hv <;> first | rfl | (simp [okJ] at hok; done)
    have h2 : isDict d = false := by cases hv <;> first | rfl | (simp [okJ] at hok; done)
    refine wpAny_execs_cons (wpAny_If (t_isi_dict W F.gh (gv_cell F (.head _) hoc rfl) hv fun tk => ?_))
    rw [h2]
    refine wpAny_execs_nil (wpAny_execs_cons (wpAny_If (t_isi_list W F.gh (gv_cell F (.head _) hoc rfl) hv fun tk => ?_)))
    rw [h1]
    refine wpAny_execs_nil (wpAny_execs_cons (wpAny_Return_some (wpAny_IfExp (t_isi_bool W F.gh (gv_cell F (.head _) hoc rfl) hv fun tk => ?_))))
    cases hb : isBool d with
    | true =>
      cases hv with
      | bool b =>
        refine wpAny_Tuple (spliced_more (wpAny_Constant_str (spliced_more (n_cell' F (.head _) hoc rfl (spliced_none ⟨two_le, ?_⟩)))))
        obtain ⟨g', F', gg, eg, -, -⟩ := F.push S.tT (tupO #[.str "truth" tk, .bool b])
        refine ret _ _ _ _ F'.after ?_
        obtain ⟨cs, r⟩ := reads_pair eg (.bool b)
        exact ⟨cs, by simpa [told] using r⟩
      | _ => simp [isBool] at hb
    | false =>
      refine wpAny_Tuple (spliced_more (wpAny_Constant_str (spliced_more (n_cell' F (.head _) hoc rfl (spliced_none ⟨two_le, ?_⟩)))))
      obtain ⟨g', F', gg, eg, -, -⟩ := F.push S.tT (tupO #[.str "plain" tk, v])
      refine ret _ _ _ _ F'.after ?_
      obtain ⟨cs, r⟩ := reads_pair eg (reads_keeps gg (hv.reads h1 h2))
      exact ⟨cs, by rw [told_plain h1 h2 hb]; exact r⟩
  | succ n ih =>
    intro g v d as W hv hok A s Q E S Rm ret
    refine wpAny_call ?_
    (refine' enterC W S ?ho ?hcd ?hroom ?hb ?hl ?hn ?_ ?h2 ?h3 ?h4; (case ho => k_is); (case hcd => k_is); (case hroom => (have := Rm.d; omega)); (case hb => exact BindsTo.of_eq rfl); (case hl => exact rfl); (case hn => decide); (case h2 => exact rfl); (case h3 => exact rfl); (case h4 => exact rfl))
    intro L h₁ tk cells Y F
    obtain ⟨oc, rfl, hoc⟩ := CellsAre.one Y
    have hoc : oc.data = .cell (some v) := hoc
    have R1 : ∀ env, Room (A.deeper env) (n + 2) (4 * n + 8) := fun env => (Rm.le (dn' := n + 2 + 1) (un' := 4 * n + 8 + 3) (by omega) (by omega)).deeper env
    refine wpAny_execs_cons (wpAny_If (t_isi_dict W F.gh (gv_cell F (.head _) hoc rfl) hv fun tk0 => ?_))
    cases h2 : isDict d with
    | true =>
      cases hv with
      | @dict l kvs ep ds as hm hd ek hs =>
        have hok' : ds.length ≤ 3 ∧ ds.all (fun q => okJ n q.2) = true := by simpa [okJ] using hok
        have hlen := dict_keys ek
        have hnd : (kvs.map (·.1)).Nodup := let ⟨_, _, _, _, _, _, _, x⟩ := hd; x
        have hks : ds.map keyS = kvs.map (·.1) := by
          have := congrArg (List.map fun d => keyS (d, .none)) ek
          simp only [List.map_map] at this
          refine Eq.trans (List.map_congr_left fun q _ => ?_) (this.trans (List.map_congr_left fun q _ => rfl))
          obtain ⟨a, b⟩ := q
          cases a <;> rfl
        refine wpAny_execs_cons (wpAny_Return_some (wpAny_Tuple (spliced_more (wpAny_Constant_str (spliced_more (wpAny_Call_ofName (n_bi W F.gh (by k_is) rfl (callWith_builtin1 (spliced_more (lc_open (cl := [(Str.ofString "value", L + 1)]) (n_cell' F (.head _) hoc rfl (lc_keys F S.tT Rm.h hd hm (by rw [hlen]; have := sizeLine_eq; omega)
          (fun (i : Nat) (items : List Value) (g₁ : Heap) => items.length = i ∧ TR g₁ items ((ds.take i).map rowD) ∧ ∀ j v, items[j]? = some v → RowAt g₁ ((kvs.map fun q : Str × Value => q.1).getD j "") v)
          (fun i items g₁ g₂ ⟨e, a, b⟩ gg => ⟨e, a.keeps gg, fun j v q => (b j v q).keeps gg⟩) ⟨rfl, .nil, fun j v q => by simp at q⟩ ?_ ?_ (by decide) rfl rfl)) rfl (fun _ => rfl) rfl rfl))))))))))
        · rintro i kv t items C mc g₁ h₁ tk vol' E' hi ⟨eit, hTR, hrow⟩ gg hvol F₁
          have W₁ := W.keeps gg
          obtain ⟨q, hq, hqk⟩ := key_at ek hi
          have hi' : i < kvs.length := (List.getElem?_eq_some_iff.mp hi).1
          refine wpAny_Tuple (spliced_more (n_loc F₁ upd_same (spliced_more (wpAny_Call_ofName (n_glob W₁ F₁.gh (by k_is) (callWith_K W₁.k (by k_is) (spliced_more (Subscript_ (n_cell' F₁ (hvol _ (.head _)) hoc rfl (n_loc F₁ upd_same (getItem_J (JR.dict (hm) (dictAt_keeps gg hd) ek (hs.keeps gg)) F₁.gh (JR.str kv.1 t) (at1_key ek hnd hq hqk) fun u as₃ tk₃ ru hsub => spliced_none ⟨(W₁.keeps F₁.gh).k, ?_⟩)))))))))))
          refine (ih W₁ ru (List.all_eq_true.mp hok'.2 q (List.mem_of_getElem? hq))).use F₁ S.tT (R1 _) fun r g₂ h₂ tk₂ F₂ g12 ⟨as', ra⟩ => ?_
          refine spliced_none ⟨two_le, ?_⟩
          have hpu := F₂.push S.tT (tupO #[.str kv.1 t, r])
          obtain ⟨g₃, F₃, g23, eg, z1, z2⟩ := hpu
          refine ⟨_, g₃, _, _, rfl, F₃, fun b o e => g23 b o (g12 b o e), ?_, ?_, ?_⟩
          · rw [List.length_append, eit]; rfl
          · rw [take_snoc hq, List.map_append]
            refine TR.snoc (hTR.keeps fun b o e => g23 b o (g12 b o e)) (as := as') ?_
            unfold rowD
            rw [hqk]
            have := Reads.tuple (h := g₃) (xs := [.str kv.1, told q.2]) (as := [] ++ (as' ++ [])) eg rfl rfl (.cons (.str kv.1 t) (.cons (reads_keeps g23 ra) .nil))
            simpa using this
          · intro j u hj
            rcases Nat.lt_trichotomy j i with hji | hji | hji
            · rw [List.getElem?_append_left (by omega)] at hj
              exact ((hrow j u hj).keeps g12).keeps g23
            · subst hji
              rw [List.getElem?_append_right (by omega), eit, Nat.sub_self] at hj
              cases hj
              refine ⟨_, t, r, rfl, ?_⟩
              rw [List.getD_eq_getElem?_getD, List.getElem?_map, hi]
              exact eg
            · rw [List.getElem?_eq_none (by simp; omega)] at hj; cases hj
        · rintro a items g₁ g₂ h₁ tk ⟨eit, hTR, hrow⟩ gg g12 F₂ hla hna hlen'
          refine spliced_none ?_
          refine Fm.sorted (names := kvs.map fun q : Str × Value => q.1) F₂ S.tT hla (by rw [List.length_map]; omega) (fun i v q => (hrow i v q).keeps g12) hnd (by omega) fun D g₃ h₃ F₃ g23 hlD => ?_
          refine spliced_none ⟨two_le, ?_⟩
          obtain ⟨g₄, F₄, g34, eg, -, -⟩ := F₃.push S.tT (tupO #[.str "object" tk0, .ref D])
          refine ret _ _ _ _ F₄.after ?_
          have hd' : ds.take kvs.length = ds := by rw [hlen, List.take_length]
          rw [hd'] at hTR
          obtain ⟨cs, hr⟩ := (hTR.keeps fun b o e => g34 b o (g23 b o (g12 b o e))).pick (psort (kvs.map fun q : Str × Value => q.1))
          obtain ⟨oD, eD, cD, nD, dD⟩ := hlD
          obtain ⟨bs, rr⟩ := reads_pair eg (.list (g34 _ _ eD) cD dD hr)
          refine ⟨bs, ?_⟩
          rw [told, hks, toldKv_map]
          exact rr
      | _ => simp [isDict] at h2
    | false =>
    refine wpAny_execs_nil (wpAny_execs_cons (wpAny_If (t_isi_list W F.gh (gv_cell F (.head _) hoc rfl) hv fun tk0 => ?_)))
    cases h1 : isList d with
    | true =>
      cases hv with
      | @list l vs xs as hl hs =>
        have hok' : xs.length ≤ 3 ∧ xs.all (okJ n) = true := by simpa [okJ] using hok
        have hlen := hs.length
        refine wpAny_execs_cons (wpAny_Return_some (wpAny_Tuple (spliced_more (wpAny_Constant_str (spliced_more (lc_open (cl := []) (n_cell' F (.head _) hoc rfl (lc_list F S.tT Rm.h hl (by rw [← Array.length_toList, hlen]; have := sizeLine_eq; omega)
          (fun (i : Nat) (items : List Value) (g₁ : Heap) => TR g₁ items ((xs.take i).map told)) (fun i items g₁ g₂ a gg => a.keeps gg) .nil ?_ ?_ (by decide) rfl rfl)) rfl (fun _ => rfl) rfl rfl))))))
        · rintro i u items C mc g₁ h₁ tk vol' E' hi hTR gg hvol F₁
          obtain ⟨du, as₂, edu, ru, -⟩ := hs.at (i := i) (by simpa using hi)
          have W₁ := W.keeps gg
          refine wpAny_Call_ofName (n_glob W₁ F₁.gh (by k_is) (callWith_K W₁.k (by k_is) (spliced_more (n_loc F₁ upd_same (spliced_none ⟨(W₁.keeps F₁.gh).k, ?_⟩)))))
          refine (ih W₁ (ru.keeps gg) (List.all_eq_true.mp hok'.2 du (List.mem_of_getElem? edu))).use F₁ S.tT (R1 _) fun r g₂ h₂ tk₂ F₂ g12 ⟨as', ra⟩ => ?_
          refine ⟨_, g₂, h₂, tk₂, rfl, F₂, g12, ?_⟩
          rw [take_snoc edu, List.map_append]
          exact (hTR.keeps g12).snoc ra
        · rintro a items g₁ g₂ h₁ tk hTR gg g12 F₂ hla hna hlen'
          refine spliced_none ⟨two_le, ?_⟩
          obtain ⟨g₃, F₃, g23, eg, z1, z2⟩ := F₂.push S.tT (tupO #[.str "list" tk0, .ref a])
          refine ret _ _ _ _ F₃.after ?_
          rw [← Array.length_toList, hlen, List.take_length] at hTR
          obtain ⟨cs, hr⟩ := hTR.keeps fun b o e => g23 b o (g12 b o e)
          obtain ⟨oD, eD, cD, nD, dD⟩ := hla
          obtain ⟨bs, rr⟩ := reads_pair eg (.list (g23 _ _ eD) cD dD hr)
          refine ⟨bs, ?_⟩
          rw [told, toldAll_map]
          exact rr
      | _ => simp [isList] at h1
    | false =>
    refine wpAny_execs_nil (wpAny_execs_cons (wpAny_Return_some (wpAny_IfExp (t_isi_bool W F.gh (gv_cell F (.head _) hoc rfl) hv fun tk => ?_))))
    cases hb : isBool d with
    | true =>
      cases hv with
      | bool b =>
        refine wpAny_Tuple (spliced_more (wpAny_Constant_str (spliced_more (n_cell' F (.head _) hoc rfl (spliced_none ⟨two_le, ?_⟩)))))
        obtain ⟨g', F', gg, eg, -, -⟩ := F.push S.tT (tupO #[.str "truth" tk, .bool b])
        refine ret _ _ _ _ F'.after ?_
        obtain ⟨cs, r⟩ := reads_pair eg (.bool b)
        exact ⟨cs, by simpa [told] using r⟩
      | _ => simp [isBool] at hb
    | false =>
      refine wpAny_Tuple (spliced_more (wpAny_Constant_str (spliced_more (n_cell' F (.head _) hoc rfl (spliced_none ⟨two_le, ?_⟩)))))
      obtain ⟨g', F', gg, eg, -, -⟩ := F.push S.tT (tupO #[.str "plain" tk, v])
      refine ret _ _ _ _ F'.after ?_
      obtain ⟨cs, r⟩ := reads_pair eg (reads_keeps gg (hv.reads h1 h2))
      exact ⟨cs, by rw [told_plain h1 h2 hb]; exact r⟩
end
end Mine
end

/-! ## K3 -/
section
set_option maxRecDepth 100000
open PySem PySem.W PyProof.Rows PySem.Calls
namespace Mine

example (w : World) (h : Heap) (X : (hd.heap_39 w.params).In h) : (hd.heap_39 w.params).In h ∧ PySem.Challenge.rw_bs0014_01 = PySem.Challenge.rw_bs0014_01 := by
  k_fill
  exact ⟨X, rfl⟩

mutual
/-- all texts of a document are texts -/
def okS : PyData → Bool
  | .str x => PyData.strOk x
  | .list xs => okSs xs
  | .dict kvs => okSk kvs
  | .tuple _ => false
  | _ => true
def okSs : List PyData → Bool
  | [] => true
  | x :: r => okS x && okSs r
def okSk : List (PyData × PyData) → Bool
  | [] => true
  | (k, v) :: r => (isStr k && okS k) && okS v && okSk r
end
theorem okSs_all : ∀ {xs : List PyData}, okSs xs = true → ∀ x ∈ xs, okS x = true
  | [], _, _, h => nomatch h
  | x :: r, e, y, h => by
    simp only [okSs, Bool.and_eq_true] at e
    rcases List.mem_cons.mp h with rfl | h
    · exact e.1
    · exact okSs_all e.2 y h
theorem okSk_all : ∀ {xs : List (PyData × PyData)}, okSk xs = true → ∀ q ∈ xs, (isStr q.1 = true ∧ okS q.1 = true) ∧ okS q.2 = true
  | [], _, _, h => nomatch h
  | (k, v) :: r, e, y, h => by
    simp only [okSk, Bool.and_eq_true] at e
    rcases List.mem_cons.mp h with rfl | h
    · exact e.1
    · exact okSk_all e.2 y h
theorem canAll {l : List PyData} : (∀ x ∈ l, x.canLay0 = true) → PyData.canLayAll0 l = true := by
  induction l with
  | nil => exact fun _ => rfl
  | cons x r ih => exact fun h => by rw [PyData.canLayAll0, h x (.head _), ih fun y hy => h y (.tail _ hy)]; rfl
theorem depAll {l : List PyData} {N : Nat} : (∀ x ∈ l, x.depth ≤ N) → PyData.depthAll l ≤ N := by
  induction l with
  | nil => exact fun _ => by simp [PyData.depthAll]
  | cons x r ih =>
    intro h
    rw [PyData.depthAll]
    have := h x (.head _)
    have := ih fun y hy => h y (.tail _ hy)
    omega

theorem told_ok : ∀ (n : Nat) (d : PyData), okJ n d = true → okS d = true → (told d).canLay0 = true ∧ (told d).depth ≤ 3 * n + 1 := by
  have leaf : ∀ n d, isList d = false → isDict d = false → okS d = true → (told d).canLay0 = true ∧ (told d).depth ≤ 3 * n + 1 := by
    intro n d h1 h2 h3
    cases d with
    | list => simp [isList] at h1
    | dict => simp [isDict] at h2
    | tuple => simp [okS] at h3
    | str x =>
      simp only [okS] at h3
      refine ⟨?_, ?_⟩
      · rw [told, PyData.canLay0, PyData.canLayAll0, PyData.canLayAll0, PyData.canLayAll0, PyData.canLay0, PyData.canLay0, h3]; decide +kernel
      · simp only [told, PyData.depth, PyData.depthAll]; omega
    | _ =>
      refine ⟨?_, ?_⟩
      · simp only [told, PyData.canLay0, PyData.canLayAll0, Bool.and_true]; decide +kernel
      · simp only [told, PyData.depth, PyData.depthAll]; omega
  intro n
  induction n with
  | zero =>
    intro d h1 h2
    refine leaf 0 d ?_ ?_ h2
    · cases d <;> first | rfl | (simp [okJ] at h1; done)
    · cases d <;> first | rfl | (simp [okJ] at h1; done)
  | succ n ih =>
    intro d h1 h2
    cases d with
    | list xs =>
      have hok' : xs.length ≤ 3 ∧ xs.all (okJ n) = true := by simpa [okJ] using h1
      simp only [okS] at h2
      have all : ∀ x ∈ toldAll xs, x.canLay0 = true ∧ x.depth ≤ 3 * n + 1 := by
        rw [toldAll_map]
        intro x hx
        obtain ⟨y, hy, rfl⟩ := List.mem_map.mp hx
        exact ih y (List.all_eq_true.mp hok'.2 y hy) (okSs_all h2 y hy)
      have a := canAll fun x hx => (all x hx).1
      have b := depAll fun x hx => (all x hx).2
      refine ⟨?_, ?_⟩
      · simp only [told, PyData.canLay0, PyData.canLayAll0, a, Bool.and_true]; decide +kernel
      · simp only [told, PyData.depth, PyData.depthAll]; omega
    | dict kvs =>
      have hok' : kvs.length ≤ 3 ∧ kvs.all (fun q => okJ n q.2) = true := by simpa [okJ] using h1
      simp only [okS] at h2
      have all : ∀ x ∈ toldKv kvs, x.canLay0 = true ∧ x.depth ≤ 3 * n + 2 := by
        rw [toldKv_map]
        intro x hx
        obtain ⟨q, hq, rfl⟩ := List.mem_map.mp hx
        have i := ih q.2 (List.all_eq_true.mp hok'.2 q hq) (okSk_all h2 q hq).2
        have k := (okSk_all h2 q hq).1
        have kl : q.1.canLay0 = true ∧ q.1.depth ≤ 3 * n + 1 := by
          cases e : q.1 with
          | str x => rw [e] at k; exact ⟨k.2, by simp [PyData.depth]⟩
          | _ => rw [e] at k; simp [isStr] at k
        refine ⟨?_, ?_⟩
        · simp only [PyData.canLay0, PyData.canLayAll0, i.1, kl.1, Bool.and_true]
        · simp only [PyData.depth, PyData.depthAll]; omega
      have all' : ∀ x ∈ (psort (kvs.map keyS)).map (fun i => (toldKv kvs).getD i .none), x.canLay0 = true ∧ x.depth ≤ 3 * n + 2 := by
        intro x hx
        obtain ⟨i, _, rfl⟩ := List.mem_map.mp hx
        rw [List.getD_eq_getElem?_getD]
        cases e : (toldKv kvs)[i]? with
        | none => exact ⟨rfl, by simp [PyData.depth]⟩
        | some y => exact all y (List.mem_of_getElem? e)
      have a := canAll fun x hx => (all' x hx).1
      have b := depAll fun x hx => (all' x hx).2
      refine ⟨?_, ?_⟩
      · simp only [told, PyData.canLay0, PyData.canLayAll0, a, Bool.and_true]; decide +kernel
      · simp only [told, PyData.depth, PyData.depthAll]; omega
    | _ => exact leaf _ _ rfl rfl h2
theorem told_shaped {n : Nat} {d : PyData} (hn : n ≤ 12) (h1 : okJ n d = true) (h2 : okS d = true) : SeqAt.shaped (told d) = true := by
  have := told_ok n d h1 h2
  unfold SeqAt.shaped
  rw [this.1, decide_eq_true (by omega)]; rfl
theorem told_self {n : Nat} {d : PyData} (h1 : okJ n d = true) (h2 : okS d = true) : PyData.eqv (told d) (told d) = true := SeqAt.eqv_refl _ (told_ok n d h1 h2).1

section
variable {prog : Program} {w : World} {p : Program} {loose : List Str} {mg mb : Str → Option Value} {A : Around} {E : Value → Shared → Prop} {s : Shared} {R : Result → Shared → Prop}
  {base g₀ g h h' gh0 : Heap} {L : Addr} {m m' : Str → Option Value} {vol : List (Addr × Obj)} {T : Option Obj} {env : Env}

theorem does_same {n : Nat} {u v : Value} {d : PyData} {as bs : List Addr} (W : WD w p loose mg mb g) (hn : n ≤ 12) (hu : JR prog w g u d as) (hv : JR prog w g v d bs) (h1 : okJ n d = true) (h2 : okS d = true) :
    Does prog w (.ref 347) [u, v] (n + 3) (4 * n + 80) g fun g' r => r = .bool true := by
  intro A s Q E S Rm ret
  refine wpAny_call ?_
  (refine' enter W S ?ho ?hcd ?hroom ?hb ?hl ?_ ?h1 ?h2 ?h3 ?h4; (case ho => k_is); (case hcd => k_is); (case hroom => (have := Rm.d; omega)); (case hb => exact BindsTo.of_eq rfl); (case h1 => decide); (case h2 => exact rfl); (case h3 => exact rfl); (case h4 => exact rfl); (case hl => exact rfl))
  intro L h₁ tk F
  have R1 : ∀ env, Room (A.deeper env) (n + 2) (4 * n + 77) := fun env => (Rm.le (dn' := n + 2 + 1) (un' := 4 * n + 77 + 3) (by omega) (by omega)).deeper env
  refine wpAny_execs_cons (wpAny_Return_some (wpAny_Compare1 (wpAny_Call_ofName (n_glob W F.gh (by k_is) (callWith_K W.k (by k_is) (spliced_more (n_loc F rfl (spliced_none ⟨(W.keeps F.gh).k, ?_⟩))))))))
  refine (does_told n W hu h1).use F S.tT ((R1 _).le (by omega) (by omega)) fun r g₂ h₂ tk₂ F₂ g12 ⟨as', ra⟩ => ?_
  have W₂ := W.keeps g12
  refine wpAny_Call_ofName (n_glob W₂ F₂.gh (by k_is) (callWith_K W₂.k (by k_is) (spliced_more (n_loc F₂ rfl (spliced_none ⟨(W₂.keeps F₂.gh).k, ?_⟩)))))
  refine (does_told n W₂ (hv.keeps g12) h1).use F₂ S.tT ((R1 _).le (by omega) (by omega)) fun r' g₃ h₃ tk₃ F₃ g23 ⟨bs', rb⟩ => ?_
  refine SeqAt.compareEq_shaped (reads_keeps F₃.gh (reads_keeps g23 ra)) (reads_keeps F₃.gh rb) (told_shaped hn h1 h2) (told_shaped hn h1 h2) (by have := Rm.u; show A.units + 3 + 64 < cLine; omega) ?_
  rw [told_self h1 h2]
  exact ret _ _ _ _ F₃.after rfl
end
end Mine
end

/-! ## K4 -/
section
set_option maxRecDepth 100000
open PySem PySem.W PyProof.Rows PySem.Calls
namespace Mine

example (w : World) (h : Heap) (X : (hd.heap_39 w.params).In h) : (hd.heap_39 w.params).In h ∧ PySem.Challenge.rw_bs0014_01 = PySem.Challenge.rw_bs0014_01 := by
  k_fill
  exact ⟨X, rfl⟩

section
variable {prog : Program} {w : World} {p : Program} {loose : List Str} {mg mb : Str → Option Value} {A : Around} {E : Value → Shared → Prop} {s : Shared} {R : Result → Shared → Prop}
  {base g₀ g h h' gh0 : Heap} {L : Addr} {m m' : Str → Option Value} {vol : List (Addr × Obj)} {T : Option Obj} {env : Env}

theorem rangeSize_up (n : Nat) : Builtin.Range.rangeSize 0 n 1 = n := by
  unfold Builtin.Range.rangeSize
  simp
  omega
theorem range_small {n : Nat} (h : n ≤ 1000000) : Builtin.Range.small 0 n 1 = true := by
  unfold Builtin.Range.small
  rw [rangeSize_up]
  unfold Builtin.Range.rangeFitsLong
  simp
  omega
theorem lc_range {elt iter : PySem.Expr} {x : Str} {px : Pos} {scope : Scope} {pos : Pos} {cl : List (Str × Addr)} {r : Addr} {n : Nat} {t u v : Tok} {Q : Value → Shared → Prop}
    (F : Fm base g₀ L m vol T g s.heap) (tT : T ≠ none) (hh : A.handled = none) (hr : IsRange s.heap r 0 n 1 t u v) (hsz : n ≤ 1000000) (J : Nat → List Value → Heap → Prop) (Jm : ∀ i items g₁ g₂, J i items g₁ → g₁.StaysIn g₂ → J i items g₂) (h0 : J 0 [] g)
    (turn : ∀ (i : Nat) (t : Tok) (items : List Value) (C : Addr) (mc : Str → Option Value) (g₁ h₁ : Heap) (tk : Nat) (vol' : List (Addr × Obj)) (E' : Value → Shared → Prop), i < n → J i items g₁ → g.StaysIn g₁ →
      (∀ p ∈ vol, p ∈ vol') → Fm base g₀ C (upd x (.int (0 + i) t) mc) vol' T g₁ h₁ →
      wpAny (model prog w) A (eval elt (compEnvC scope cl C env)) (fun y s₂ => ∃ m₂ g₂ h₂ tk₂, s₂ = { s with heap := h₂, toks := tk₂ } ∧ Fm base g₀ C m₂ vol' T g₂ h₂ ∧ g₁.StaysIn g₂ ∧ J (i + 1) (items ++ [y]) g₂) E' { s with heap := h₁, toks := tk })
    (done : ∀ a items g₁ g₂ h₁ tk, J n items g₁ → g.StaysIn g₁ → g₁.StaysIn g₂ → Fm base g₀ L m vol T g₂ h₁ → g₂.IsList a items.toArray → g₁.get? a = none → items.length = n → Q (.ref a) { s with heap := h₁, toks := tk })
    (hcell : ∀ y ∈ scope.names, y.2 ≠ .cell) (hkind : scope.kind = .function) (hx : scope.names.lookup x = some .local) :
    wpAny (model prog w) A (pyIter (.ref r)) (fun it s₂ => wpAny (model prog w) A (newList []) (fun acc s₃ => wpAny (model prog w) A (newFunctionEnv scope env.globals cl [] env.qual none .none (some env)) (fun cenv s₄ =>
      codeAny (model prog w) A (.compStart (.ListComp elt [⟨.Name x px, iter, [], 0⟩] scope pos) 0 it acc { cenv with scope := relabel scope env }) (compPost (model prog w) A E none Q acc cenv.locals) s₄) E s₃) E s₂) E s := by
  refine wpAny_pyIter_range hr (range_small hsz) ?_
  rw [rangeSize_up]
  refine lc_core (own := [(s.heap.objs.size, _)]) (fun C => drive_range (a := 0) (n := n) hh (by simpa [compEnvC, relabel] using hkind) (lookup_relabel_local hx)) (F.pushVol _) (by simp [ObRange]) tT (by have := sizeLine_eq; omega) J h0 ?_ ?_ hcell hkind
  · rintro i items C mc mc' g₁ g₁' h₁ tk vol' E' hi hJ gg g11 ⟨t, rfl⟩ hv' F'
    exact turn i t items C mc g₁' h₁ tk vol' E' hi (Jm _ _ _ _ hJ g11) (fun b o e => g11 b o (gg b o e)) hv' F'
  · intro a items g₁ g₂ h₁ tk hJ gg g12 F₁ hl₁ hn _ hlen
    exact done a items g₁ g₂ h₁ tk hJ gg g12 F₁ hl₁ hn hlen

/-- enumerate of a known list: its two own objects -/
theorem call_enum {l : Addr} {vs : Array Value} {Q : Value → Shared → Prop} (F : Fm base g₀ L m vol T g s.heap) (tT : T ≠ none) (hl : g.IsList l vs)
    (h : ∀ h', (∃ o : Obj, Fm base g₀ L m ((s.heap.objs.size + 1, ({ cls := .type "enumerate", dict := none, data := .fields #[.none, .bool false, .ref s.heap.objs.size, rawInt 0, .none, .none], slots := #[] } : Obj)) :: (s.heap.objs.size, o) :: vol) T g h' ∧ o.cls = .type "list_iterator" ∧ o.data = .fields #[.ref l, .int 0 0]) →
      Q (.ref (s.heap.objs.size + 1)) { s with heap := h' }) : wpAny (model prog w) A (call (.type "enumerate") [.ref l]) Q E s := by
  refine call_enumerate_list (F.isList hl) fun h' he hit hsz k => h h' ?_
  obtain ⟨o, ho, hc, hd⟩ := hit
  refine ⟨o, ?_, hc, hd⟩
  have kt : h'.get? TAB = s.heap.get? TAB := by
    cases q : T with
    | none => exact absurd q tT
    | some o' => rw [F.tab.trans q]; exact k _ _ (F.tab.trans q)
  have F' := F.more k kt
  have n1 := none_of_ge (Nat.le_refl s.heap.objs.size)
  have n2 := none_of_ge (h := s.heap) (Nat.le_succ s.heap.objs.size)
  have gn : ∀ a, s.heap.get? a = none → g.get? a = none := fun a e => by
    cases q : g.get? a with
    | none => rfl
    | some o' => rw [F.gh _ _ q] at e; cases e
  obtain ⟨oL, eL⟩ := F.hL
  have hlt : Nat.succ L ≤ s.heap.objs.size := Heap.lt_size eL
  have hlo := F.lo
  have nv : ∀ p ∈ vol, Nat.succ p.1 ≤ s.heap.objs.size := fun p hp => Heap.lt_size (F.vv p hp).1
  refine { F' with vv := fun p hp => ?_, nd := ?_ }
  · rcases List.mem_cons.mp hp with rfl | hp
    · exact ⟨he, Nat.le_trans (Nat.le_trans hlo (Nat.le_of_lt hlt)) (Nat.le_succ _), Nat.ne_of_gt (Nat.lt_of_lt_of_le hlt (Nat.le_succ _)), gn _ n2⟩
    · rcases List.mem_cons.mp hp with rfl | hp
      · exact ⟨ho, Nat.le_trans hlo (Nat.le_of_lt hlt), Nat.ne_of_gt hlt, gn _ n1⟩
      · exact F'.vv p hp
  · simp only [List.map_cons, List.nodup_cons, List.mem_cons, List.mem_map]
    refine ⟨?_, ?_, F.nd⟩
    · rintro (e | ⟨q, hq, e⟩)
      · exact absurd e (Nat.succ_ne_self _)
      · have := nv q hq; rw [e] at this; exact absurd this (by omega)
    · rintro ⟨q, hq, e⟩
      have := nv q hq; rw [e] at this; exact absurd this (by omega)

theorem dc_enum {kx vx iter : PySem.Expr} {xk xv : Str} {pk pv pt : Pos} {x1 : Nat} {scope : Scope} {pos : Pos} {cl : List (Str × Addr)} {e it l : Addr} {vs : Array Value} {Q : Value → Shared → Prop} {o : Obj}
    (F : Fm base g₀ L m ((e, ({ cls := .type "enumerate", dict := none, data := .fields #[.none, .bool false, .ref it, rawInt 0, .none, .none], slots := #[] } : Obj)) :: (it, o) :: vol) T g s.heap) (hoc : o.cls = .type "list_iterator") (hod : o.data = .fields #[.ref l, .int 0 0])
    (tT : T ≠ none) (hh : A.handled = none) (hl : g.IsList l vs) (hsz : vs.size ≤ sizeLine) (J : Nat → List (Str × Value) → Heap → Prop) (Jm : ∀ i items g₁ g₂, J i items g₁ → g₁.StaysIn g₂ → J i items g₂) (h0 : J 0 [] g)
    (turn : ∀ (i : Nat) (v : Value) (t : Tok) (items : List (Str × Value)) (C : Addr) (mc : Str → Option Value) (g₁ h₁ : Heap) (tk : Nat) (vol' : List (Addr × Obj)) (E' : Value → Shared → Prop), vs[i]? = some v → J i items g₁ → g.StaysIn g₁ →
      (∀ p ∈ vol, p ∈ vol') → Fm base g₀ C (upd xv v (upd xk (.int i t) mc)) vol' T g₁ h₁ →
      wpAny (model prog w) A (eval kx (compEnvC scope cl C env)) (fun ky s₂ => wpAny (model prog w) A (eval vx (compEnvC scope cl C env)) (fun y s₃ => ∃ k t m₂ g₂ h₂ tk₂, ky = .str k t ∧ s₃ = { s with heap := h₂, toks := tk₂ } ∧ Fm base g₀ C m₂ vol' T g₂ h₂ ∧ g₁.StaysIn g₂ ∧ J (i + 1) (stored items k y) g₂ ∧ items.length ≤ i) E' s₂) E' { s with heap := h₁, toks := tk })
    (done : ∀ a items ep g₁ g₂ h₁ tk, J vs.size items g₁ → g.StaysIn g₁ → g₁.StaysIn g₂ → Fm base g₀ L m vol T g₂ h₁ → g₂.DictAt (PySem.strKind prog w) a items ep → (a == sysModules) = false → g₁.get? a = none → Q (.ref a) { s with heap := h₁, toks := tk })
    (hcell : ∀ y ∈ scope.names, y.2 ≠ .cell) (hkind : scope.kind = .function) (hxk : scope.names.lookup xk = some .local) (hxv : scope.names.lookup xv = some .local) :
    wpAny (model prog w) A (pyIter (.ref e)) (fun it s₂ => wpAny (model prog w) A newDict (fun acc s₃ => wpAny (model prog w) A (newFunctionEnv scope env.globals cl [] env.qual none .none (some env)) (fun cenv s₄ =>
      codeAny (model prog w) A (.compStart (.DictComp kx vx [⟨.Tuple [.Name xk pk, .Name xv pv] x1 pt, iter, [], 0⟩] scope pos) 0 it acc { cenv with scope := relabel scope env }) (compPost (model prog w) A E none Q acc cenv.locals) s₄) E s₃) E s₂) E s := by
  have D : ∀ C, Drive prog w A (compEnvC scope cl C env) (.Tuple [.Name xk pk, .Name xv pv] x1 pt) e vs.size g (ObEnum e it l) _ := fun C => drive_enum hh hl (by simpa [compEnvC, relabel] using hkind) (lookup_relabel_local hxk) (lookup_relabel_local hxv)
  have ho : ObEnum e it l 0 [(e, ({ cls := .type "enumerate", dict := none, data := .fields #[.none, .bool false, .ref it, rawInt 0, .none, .none], slots := #[] } : Obj)), (it, o)] := ⟨o, .none, rfl, hoc, hod⟩
  refine (D L).self ho F ?_
  refine dc_core D F ho tT hsz J h0 ?_ ?_ hcell hkind
  · rintro i items C mc mc' g₁ g₁' h₁ tk vol' E' hi hJ gg g11 ⟨v, t, hv, rfl⟩ hv' F'
    exact turn i v t items C mc g₁' h₁ tk vol' E' hv (Jm _ _ _ _ hJ g11) (fun b o e => g11 b o (gg b o e)) hv' F'
  · intro a items ep g₁ g₂ h₁ tk hJ gg g12 F₁ hl₁ hm hn _
    exact done a items ep g₁ g₂ h₁ tk hJ gg g12 F₁ hl₁ hm hn

/-- a cell of the frame is stored to -/
theorem s_cell {x : Str} {v : Value} {c : Addr} {o : Obj} {v₀ : Option Value} {vol₁ vol₂ : List (Addr × Obj)} {Q : Unit → Shared → Prop} (F : Fm base g₀ L m (vol₁ ++ (c, o) :: vol₂) T g s.heap) (ho : o.data = .cell v₀) (hc : env.cells.lookup x = some c)
    (h : ∀ h' o', o'.data = .cell (some v) → Fm base g₀ L m (vol₁ ++ (c, o') :: vol₂) T g h' → Q () { s with heap := h' })
    (hk : env.scope.kind = .function := by rfl) (hx : env.kindOf x = some .cell := by rfl) : wpAny (model prog w) A (storeName env x v) Q E s := by
  have F1 := F.perm List.perm_middle
  refine wpAny_storeName_cell hk hx hc ⟨_, (F1.vv _ (.head _)).1, ho⟩ fun h' hc' hs => ?_
  obtain ⟨o', e', d'⟩ := hc'
  exact h h' o' d' ((F1.turn hs e').perm List.perm_middle.symm)
end
end Mine
end

/-! ## K5 -/
section
set_option maxRecDepth 100000
set_option maxHeartbeats 4000000
open PySem PySem.W PyProof.Rows PySem.Calls
namespace Mine

example (w : World) (h : Heap) (X : (hd.heap_39 w.params).In h) : (hd.heap_39 w.params).In h ∧ PySem.Challenge.rw_bs0014_01 = PySem.Challenge.rw_bs0014_01 := by
  k_fill
  exact ⟨X, rfl⟩

def inner4 : List Str := ["a", "b", "~", "x/y"]
def isKey (ks : List Str) : PyData → Bool | .str x => ks.contains x | _ => false
/-- the documents that _law_value makes -/
def okV : Nat → PyData → Bool
  | n + 1, .list xs => decide (xs.length ≤ 3) && xs.all (okV n)
  | n + 1, .dict kvs => decide (kvs.length ≤ 3) && kvs.all fun q => isKey inner4 q.1 && okV n q.2
  | _, .none => true
  | _, .bool _ => true
  | _, .int _ => true
  | _, .str x => PyData.strOk x
  | _, .list _ => false
  | _, .dict _ => false
  | _, .tuple _ => false
theorem okV_J : ∀ (n : Nat) (d : PyData), okV n d = true → okJ n d = true := by
  intro n
  induction n with
  | zero => intro d h; cases d <;> simp_all [okV, okJ]
  | succ n ih =>
    intro d h
    cases d with
    | list xs =>
      simp only [okV, okJ, Bool.and_eq_true, List.all_eq_true] at h ⊢
      exact ⟨h.1, fun x hx => ih x (h.2 x hx)⟩
    | dict kvs =>
      simp only [okV, okJ, Bool.and_eq_true, List.all_eq_true] at h ⊢
      exact ⟨h.1, fun x hx => ih x.2 (h.2 x hx).2⟩
    | _ => simp_all [okV, okJ]
theorem okSs_of {xs : List PyData} : (∀ x ∈ xs, okS x = true) → okSs xs = true := by
  induction xs with
  | nil => exact fun _ => rfl
  | cons x r ih => intro h; rw [okSs, h x (.head _), ih fun y hy => h y (.tail _ hy)]; rfl
theorem okSk_of {xs : List (PyData × PyData)} : (∀ q ∈ xs, (isStr q.1 = true ∧ okS q.1 = true) ∧ okS q.2 = true) → okSk xs = true := by
  induction xs with
  | nil => exact fun _ => rfl
  | cons x r ih =>
    intro h
    obtain ⟨k, v⟩ := x
    have := h _ (.head _)
    rw [okSk, this.1.1, this.1.2, this.2, ih fun y hy => h y (.tail _ hy)]; rfl
theorem key_ok {ks : List Str} (hk : ks.all PyData.strOk = true) {d : PyData} (h : isKey ks d = true) : isStr d = true ∧ okS d = true := by
  cases d with
  | str x =>
    simp only [isKey, List.contains_iff_mem] at h
    exact ⟨rfl, List.all_eq_true.mp hk x h⟩
  | _ => simp [isKey] at h
theorem inner_ok : inner4.all PyData.strOk = true := by decide +kernel
theorem okV_S : ∀ (n : Nat) (d : PyData), okV n d = true → okS d = true := by
  intro n
  induction n with
  | zero => intro d h; cases d <;> simp_all [okV, okS]
  | succ n ih =>
    intro d h
    cases d with
    | list xs =>
      simp only [okV, okS, Bool.and_eq_true, List.all_eq_true] at h ⊢
      exact okSs_of fun x hx => ih x (h.2 x hx)
    | dict kvs =>
      simp only [okV, okS, Bool.and_eq_true, List.all_eq_true] at h ⊢
      exact okSk_of fun x hx => ⟨key_ok inner_ok (h.2 x hx).1, ih x.2 (h.2 x hx).2⟩
    | _ => simp_all [okV, okS]

section
variable {prog : Program} {w : World} {p : Program} {loose : List Str} {mg mb : Str → Option Value} {A : Around} {E : Value → Shared → Prop} {s : Shared} {R : Result → Shared → Prop}
  {base g₀ g h h' gh0 : Heap} {L : Addr} {m m' : Str → Option Value} {vol : List (Addr × Obj)} {T : Option Obj} {env : Env}

theorem x_ret {e : PySem.Expr} {pos : Pos} {rest : List Stmt} {Q : Flow → Shared → Prop} (h : wpAny (model prog w) A (eval e env) (fun v => Q (.ret v)) E s) : wpAny (model prog w) A (execs (.Return (some e) pos :: rest) env) Q E s := wpAny_execs_cons (wpAny_Return_some h)
/-- a name is given a list comprehension -/
theorem lc_assign {elt target iter : PySem.Expr} {scope : Scope} {pos spos py : Pos} {y : Str} {cl : List (Str × Addr)} {Q : Flow → Shared → Prop}
    (h : wpAny (model prog w) A (eval iter env) (fun xv s₁ => wpAny (model prog w) A (pyIter xv) (fun it s₂ => wpAny (model prog w) A (newList []) (fun acc s₃ => wpAny (model prog w) A (newFunctionEnv scope env.globals cl [] env.qual none .none (some env)) (fun cenv s₄ =>
      codeAny (model prog w) A (.compStart (.ListComp elt [⟨target, iter, [], 0⟩] scope pos) 0 it acc { cenv with scope := relabel scope env }) (compPost (model prog w) A E (some (assign (.Name y py) env)) (fun _ => Q .next) acc cenv.locals) s₄) E s₃) E s₂) E s₁) E s)
    (hsw : swapsWith (.ListComp elt [⟨target, iter, [], 0⟩] scope pos) (some (.Name y py)) spos.line env = pure true) (hclos : closureFor scope env = pure cl) (hs : ∀ x, foldedSetIterable iter env x = pure x)
    (hkind : scope.kind = .function) (hnames : (scope.names.all fun x => x.2 != .local || scope.names.lookup x.1 == some .local) = true) :
    wpAny (model prog w) A (exec (.Assign [.Name y py] (.ListComp elt [⟨target, iter, [], 0⟩] scope pos) spos) env) Q E s := by
  rw [exec_Assign_Name_used y py _ spos hsw]
  refine wpAny_bind (wpAny_standAt (wpAny_bind ?_))
  show wpAny _ _ (comprehension _ _ _ _ _ _ _ _ >>= _) _ _ _
  refine wpAny_bind (wpAny_mono (wpAny_comprehension_free (Q := fun _ => Q .next) rfl hs hclos hkind (fun x hx hl => ?_) h) (fun _ s' q => wpAny_pure (wpAny_pure q)) fun _ _ e => e)
  have := List.all_eq_true.mp hnames x hx
  rw [hl] at this
  simpa using this
theorem lc_rangeU {elt iter : PySem.Expr} {x y : Str} {px py : Pos} {scope : Scope} {pos : Pos} {cl : List (Str × Addr)} {r : Addr} {n : Nat} {t u v : Tok} {Q : Value → Shared → Prop}
    (F : Fm base g₀ L m vol T g s.heap) (tT : T ≠ none) (hh : A.handled = none) (hr : IsRange s.heap r 0 n 1 t u v) (hsz : n ≤ 1000000) (J : Nat → List Value → Heap → Prop) (Jm : ∀ i items g₁ g₂, J i items g₁ → g₁.StaysIn g₂ → J i items g₂) (h0 : J 0 [] g)
    (turn : ∀ (i : Nat) (t : Tok) (items : List Value) (C : Addr) (mc : Str → Option Value) (g₁ h₁ : Heap) (tk : Nat) (vol' : List (Addr × Obj)) (E' : Value → Shared → Prop), i < n → J i items g₁ → g.StaysIn g₁ →
      (∀ p ∈ vol, p ∈ vol') → Fm base g₀ C (upd x (.int (0 + i) t) mc) vol' T g₁ h₁ →
      wpAny (model prog w) A (eval elt (compEnvC scope cl C env)) (fun y s₂ => ∃ m₂ g₂ h₂ tk₂, s₂ = { s with heap := h₂, toks := tk₂ } ∧ Fm base g₀ C m₂ vol' T g₂ h₂ ∧ g₁.StaysIn g₂ ∧ J (i + 1) (items ++ [y]) g₂) E' { s with heap := h₁, toks := tk })
    (done : ∀ a items g₁ g₂ h₁ tk, J n items g₁ → g.StaysIn g₁ → g₁.StaysIn g₂ → Fm base g₀ L (upd y (.ref a) m) vol T g₂ h₁ → g₂.IsList a items.toArray → g₁.get? a = none → items.length = n → Q .none { s with heap := h₁, toks := tk })
    (hcell : ∀ y ∈ scope.names, y.2 ≠ .cell) (hkind : scope.kind = .function) (hx : scope.names.lookup x = some .local) (hL : env.locals = L) (hk : env.scope.kind = .function) (hy : env.kindOf y = some .local) :
    wpAny (model prog w) A (pyIter (.ref r)) (fun it s₂ => wpAny (model prog w) A (newList []) (fun acc s₃ => wpAny (model prog w) A (newFunctionEnv scope env.globals cl [] env.qual none .none (some env)) (fun cenv s₄ =>
      codeAny (model prog w) A (.compStart (.ListComp elt [⟨.Name x px, iter, [], 0⟩] scope pos) 0 it acc { cenv with scope := relabel scope env }) (compPost (model prog w) A E (some (assign (.Name y py) env)) Q acc cenv.locals) s₄) E s₃) E s₂) E s := by
  refine wpAny_pyIter_range hr (range_small hsz) ?_
  rw [rangeSize_up]
  refine lc_coreU (own := [(s.heap.objs.size, _)]) (fun C => drive_range (a := 0) (n := n) hh (by simpa [compEnvC, relabel] using hkind) (lookup_relabel_local hx)) (F.pushVol _) (by simp [ObRange]) tT (by have := sizeLine_eq; omega) J h0 ?_ ?_ hcell hkind hL hk hy
  · rintro i items C mc mc' g₁ g₁' h₁ tk vol' E' hi hJ gg g11 ⟨t, rfl⟩ hv' F'
    exact turn i t items C mc g₁' h₁ tk vol' E' hi (Jm _ _ _ _ hJ g11) (fun b o e => g11 b o (gg b o e)) hv' F'
  · intro a items g₁ g₂ h₁ tk hJ gg g12 F₁ hl₁ hn _ hlen
    exact done a items g₁ g₂ h₁ tk hJ gg g12 F₁ hl₁ hn hlen
theorem lc_listU {elt iter : PySem.Expr} {x y : Str} {px py : Pos} {scope : Scope} {pos : Pos} {cl : List (Str × Addr)} {l : Addr} {vs : Array Value} {Q : Value → Shared → Prop}
    (F : Fm base g₀ L m vol T g s.heap) (tT : T ≠ none) (hh : A.handled = none) (hl : g.IsList l vs) (hsz : vs.size ≤ sizeLine) (J : Nat → List Value → Heap → Prop) (Jm : ∀ i items g₁ g₂, J i items g₁ → g₁.StaysIn g₂ → J i items g₂) (h0 : J 0 [] g)
    (turn : ∀ (i : Nat) (v : Value) (items : List Value) (C : Addr) (mc : Str → Option Value) (g₁ h₁ : Heap) (tk : Nat) (vol' : List (Addr × Obj)) (E' : Value → Shared → Prop), vs[i]? = some v → J i items g₁ → g.StaysIn g₁ →
      (∀ p ∈ vol, p ∈ vol') → Fm base g₀ C (upd x v mc) vol' T g₁ h₁ →
      wpAny (model prog w) A (eval elt (compEnvC scope cl C env)) (fun y s₂ => ∃ m₂ g₂ h₂ tk₂, s₂ = { s with heap := h₂, toks := tk₂ } ∧ Fm base g₀ C m₂ vol' T g₂ h₂ ∧ g₁.StaysIn g₂ ∧ J (i + 1) (items ++ [y]) g₂) E' { s with heap := h₁, toks := tk })
    (done : ∀ a items g₁ g₂ h₁ tk, J vs.size items g₁ → g.StaysIn g₁ → g₁.StaysIn g₂ → Fm base g₀ L (upd y (.ref a) m) vol T g₂ h₁ → g₂.IsList a items.toArray → g₁.get? a = none → items.length = vs.size → Q .none { s with heap := h₁, toks := tk })
    (hcell : ∀ y ∈ scope.names, y.2 ≠ .cell) (hkind : scope.kind = .function) (hx : scope.names.lookup x = some .local) (hL : env.locals = L) (hk : env.scope.kind = .function) (hy : env.kindOf y = some .local) :
    wpAny (model prog w) A (pyIter (.ref l)) (fun it s₂ => wpAny (model prog w) A (newList []) (fun acc s₃ => wpAny (model prog w) A (newFunctionEnv scope env.globals cl [] env.qual none .none (some env)) (fun cenv s₄ =>
      codeAny (model prog w) A (.compStart (.ListComp elt [⟨.Name x px, iter, [], 0⟩] scope pos) 0 it acc { cenv with scope := relabel scope env }) (compPost (model prog w) A E (some (assign (.Name y py) env)) Q acc cenv.locals) s₄) E s₃) E s₂) E s := by
  refine wpAny_pyIter_list (F.isList hl) ?_
  refine lc_coreU (own := [(s.heap.objs.size, _)]) (fun C => drive_list hh hl (by simpa [compEnvC, relabel] using hkind) (lookup_relabel_local hx)) (F.pushVol _) ⟨_, rfl, rfl, rfl⟩ tT hsz J h0 ?_ ?_ hcell hkind hL hk hy
  · rintro i items C mc mc' g₁ g₁' h₁ tk vol' E' hi hJ gg g11 ⟨v, hv, rfl⟩ hv' F'
    exact turn i v items C mc g₁' h₁ tk vol' E' hv (Jm _ _ _ _ hJ g11) (fun b o e => g11 b o (gg b o e)) hv' F'
  · intro a items g₁ g₂ h₁ tk hJ gg g12 F₁ hl₁ hn _ hlen
    exact done a items g₁ g₂ h₁ tk hJ gg g12 F₁ hl₁ hn hlen

/-- an item of a list that was just made -/
theorem item_L {value slice : PySem.Expr} {a : Addr} {vs : Array Value} {i : Int} {tk : Tok} {v : Value} {Q : Value → Shared → Prop} (hl : s.heap.IsList a vs) (h0 : 0 ≤ i) (h1 : i < 1000000) (e : vs[i.toNat]? = some v) (h : Q v s)
    (hs : ∀ o i, subscripted slice false o i = operate [o, i] (getItem o i) := by intro _ _; rfl) : wpAny (model prog w) A (subscriptTail value slice (.ref a) (.int i tk)) Q E s :=
  tail_any hl.typeIs slot_list_getitem.lookup (wpAny_getItem_list hl h0 (by omega) e h) (hs _ _)

theorem add_L {l b : Addr} {vs ws : List Value} {Q : Value → Shared → Prop} (F : Fm base g₀ L m vol T g s.heap) (tT : T ≠ none) (hl : g.IsList l vs.toArray) (hb : g.IsList b ws.toArray) (hsz : vs.length + ws.length ≤ sizeLine)
    (h : ∀ g' h' a, Fm base g₀ L m vol T g' h' → g.StaysIn g' → g'.IsList a (vs ++ ws).toArray → g.get? a = none → Q (.ref a) { s with heap := h' }) :
    wpAny (model prog w) A (binaryOp .Add (.ref l) (.ref b)) Q E s := by
  refine add_lists F.fr F.news (F.isList hl) (F.isList hb) (fun h' F' N' => ?_) hsz
  obtain ⟨g', F₃, gg, eg, en⟩ := F.tellNew tT F'.ns (fun b o e hb => (N' (b, o) (.tail _ (allN_mem.mpr ⟨hb, e⟩))).1) (none_of_ge (Nat.le_refl _)) (N' _ (.head _)).1
  exact h g' h' _ F₃ gg ⟨_, eg, rfl, _, rfl⟩ en

theorem slice_fin {l : Addr} {items : Array Value} {vl vu : Value} {lo hi : Option Int} {Q : Value → Shared → Prop} (F : Fm base g₀ L m vol T g s.heap) (tT : T ≠ none) (hl : g.IsList l items) (hsz : items.size ≤ sizeLine) (pl : IsPart vl lo) (pu : IsPart vu hi)
    (h : ∀ g' h' a, Fm base g₀ L m vol T g' h' → g.StaysIn g' → g'.IsList a (slicePick items lo hi none) → g.get? a = none → Q (.ref a) { s with heap := h' }) :
    ∃ l' items' lo hi, Value.ref l = .ref l' ∧ s.heap.IsList l' items' ∧ items'.size ≤ sizeLine ∧ IsPart vl lo ∧ IsPart vu hi ∧
      Q (.ref (s.heap.objs.size + 1)) { s with heap := (s.heap.push { cls := .type "slice", data := .fields #[vl, vu, .none] }).push { cls := .type "list", data := .seq (slicePick items' lo hi none) } } := by
  refine ⟨l, items, lo, hi, rfl, F.isList hl, hsz, pl, pu, ?_⟩
  have F1 := F.more (h' := s.heap.push { cls := .type "slice", data := .fields #[vl, vu, .none] }) (fun b o e => Heap.get?_push_of_some _ e) (push_tab F _)
  obtain ⟨g', F₃, gg, eg, en, -⟩ := F1.push tT ({ cls := .type "list", data := .seq (slicePick items lo hi none) } : Obj)
  rw [Heap.size_push] at eg en
  exact h g' _ _ F₃ gg ⟨_, eg, rfl, _, rfl⟩ en

/-- a slice of a list, wherever the list comes from -/
theorem sub_slice {value : PySem.Expr} {lower upper : Option PySem.Expr} {p pos : Pos} {Q : Value → Shared → Prop}
    (h : wpAny (model prog w) A (eval value env) (fun o s₁ => wpAny (model prog w) A (evalPart lower env) (fun vl s₂ => wpAny (model prog w) A (evalPart upper env) (fun vu s₃ =>
      ∃ l items lo hi, o = .ref l ∧ s₃.heap.IsList l items ∧ items.size ≤ sizeLine ∧ IsPart vl lo ∧ IsPart vu hi ∧
        Q (.ref (s₃.heap.objs.size + 1)) { s₃ with heap := (s₃.heap.push { cls := .type "slice", data := .fields #[vl, vu, .none] }).push { cls := .type "list", data := .seq (slicePick items lo hi none) } }) E s₂) E s₁) E s)
    : wpAny (model prog w) A (eval (.Subscript value (.Slice lower upper none p) pos) env) Q E s := by
  refine Subscript_ (wpAny_mono h (fun o s₁ h₁ => wpAny_Slice (wpAny_mono h₁ (fun vl s₂ h₂ => wpAny_mono h₂ (fun vu s₃ h₃ => ?_) fun _ _ e => e) fun _ _ e => e)) fun _ _ e => e)
  obtain ⟨l, items, lo, hi, rfl, hl, hsz, pl, pu, hQ⟩ := h₃
  rw [evalPart_none]
  refine wpAny_pure ?_
  refine tail_any (hl.push _).typeIs list_getitem_lookup (wpAny_getItem_list_slice (hl.push _) (Heap.IsSliceOf.new ..) pl pu .none (by simp) ?_ hsz) (ops := [.ref s₃.heap.objs.size, .ref l]) (by with_unfolding_all rfl)
  rw [Heap.size_push]
  exact hQ
/-- a fresh document -/
def Made (prog : Program) (w : World) (g g' : Heap) (r : Value) (d : PyData) : Prop := ∃ as, JR prog w g' r d as ∧ as.Nodup ∧ ∀ a ∈ as, g.get? a = none
theorem Made.keeps {g g' g'' : Heap} {r : Value} {d : PyData} (x : Made prog w g g' r d) (k : g'.StaysIn g'') : Made prog w g g'' r d := let ⟨as, a, b, c⟩ := x; ⟨as, a.keeps k, b, c⟩
/-- fresh documents in a row -/
def Mades (prog : Program) (w : World) (g g' : Heap) (rs : List Value) (ds : List PyData) : Prop := ∃ as, JRs prog w g' rs ds as ∧ as.Nodup ∧ ∀ a ∈ as, g.get? a = none
theorem Mades.nil {g g' : Heap} : Mades prog w g g' [] [] := ⟨[], .nil, .nil, fun _ h => nomatch h⟩
theorem Mades.keeps {g g' g'' : Heap} {r : List Value} {d : List PyData} (x : Mades prog w g g' r d) (k : g'.StaysIn g'') : Mades prog w g g'' r d := let ⟨as, a, b, c⟩ := x; ⟨as, a.keeps k, b, c⟩
theorem none_back {g g' : Heap} (k : g.StaysIn g') {a : Addr} (e : g'.get? a = none) : g.get? a = none := by
  cases q : g.get? a with
  | none => rfl
  | some o => rw [k _ _ q] at e; cases e
theorem Mades.snoc {g g₁ g₂ : Heap} {rs : List Value} {ds : List PyData} {r : Value} {d : PyData} (x : Mades prog w g g₁ rs ds) (k : g.StaysIn g₁) (k2 : g₁.StaysIn g₂) (y : Made prog w g₁ g₂ r d) : Mades prog w g g₂ (rs ++ [r]) (ds ++ [d]) := by
  obtain ⟨as, a, b, c⟩ := x
  obtain ⟨bs, a', b', c'⟩ := y
  refine ⟨as ++ bs, (a.keeps k2).snoc a', ?_, ?_⟩
  · rw [List.nodup_append]
    refine ⟨b, b', fun x hx y hy e => ?_⟩
    subst e
    exact a.there x hx (c' x hy)
  · intro x hx
    rcases List.mem_append.mp hx with hx | hx
    · exact c x hx
    · exact none_back k (c' x hx)
theorem Mades.list {g g₁ g₂ : Heap} {rs : List Value} {ds : List PyData} {a : Addr} (x : Mades prog w g g₁ rs ds) (k : g.StaysIn g₁) (k2 : g₁.StaysIn g₂) (hl : g₂.IsList a rs.toArray) (hn : g₁.get? a = none) : Made prog w g g₂ (.ref a) (.list ds) := by
  obtain ⟨as, p, q, r⟩ := x
  refine ⟨a :: as, .list hl (p.keeps k2), List.nodup_cons.mpr ⟨fun hm => p.there a hm hn, q⟩, fun b hb => ?_⟩
  rcases List.mem_cons.mp hb with rfl | hb
  · exact none_back k hn
  · exact r b hb
theorem Mades.dict {g g₁ g₂ : Heap} {kvs : List (Str × Value)} {ds : List (PyData × PyData)} {a ep : Addr} (x : Mades prog w g g₁ (kvs.map (·.2)) (ds.map (·.2))) (k : g.StaysIn g₁) (k2 : g₁.StaysIn g₂) (ek : ds.map (·.1) = kvs.map (fun q => PyData.str q.1))
    (hd : g₂.DictAt (PySem.strKind prog w) a kvs ep) (hm : (a == sysModules) = false) (hn : g₁.get? a = none) : Made prog w g g₂ (.ref a) (.dict ds) := by
  obtain ⟨as, p, q, r⟩ := x
  refine ⟨a :: as, .dict hm hd ek (p.keeps k2), List.nodup_cons.mpr ⟨fun hm => p.there a hm hn, q⟩, fun b hb => ?_⟩
  rcases List.mem_cons.mp hb with rfl | hb
  · exact none_back k hn
  · exact r b hb

/-- constants in a row -/
inductive CEs : List PySem.Expr → List PyData → Prop
  | nil : CEs [] []
  | none {k pos es ds} : CEs es ds → CEs (.Constant .none k pos :: es) (.none :: ds)
  | bool {b k pos es ds} : CEs es ds → CEs (.Constant (.bool b) k pos :: es) (.bool b :: ds)
  | int {b k pos es ds} : CEs es ds → CEs (.Constant (.int b) k pos :: es) (.int b :: ds)
  | str {b k pos es ds} : CEs es ds → CEs (.Constant (.str b) k pos :: es) (.str b :: ds)
theorem spliced_consts {es : List PySem.Expr} {ds : List PyData} (c : CEs es ds) : ∀ {s : Shared} {pos : Pos} {Q : List Value → Shared → Prop}, (∀ vs tk, (∀ g, JRs prog w g vs ds []) → Q vs { s with toks := tk }) →
    wpAny (model prog w) A (spliced (backTo pos (starEach es env))) Q E s := by
  induction c with
  | nil => exact fun h => spliced_none (h [] _ fun _ => .nil)
  | none _ ih => exact fun h => spliced_more (wpAny_Constant_none (ih fun vs tk hv => h _ _ fun g => .cons .none (hv g)))
  | bool _ ih => exact fun h => spliced_more (wpAny_Constant_bool (ih fun vs tk hv => h _ _ fun g => .cons (.bool _) (hv g)))
  | int _ ih => exact fun h => spliced_more (wpAny_Constant_int (ih fun vs tk hv => h _ _ fun g => .cons (.int _ _) (hv g)))
  | str _ ih => exact fun h => spliced_more (wpAny_Constant_str (ih fun vs tk hv => h _ _ fun g => .cons (.str _ _) (hv g)))
/-- a list of constants, told -/
theorem ev_consts {es : List PySem.Expr} {ds : List PyData} {pos : Pos} {Q : Value → Shared → Prop} (c : CEs es ds) (F : Fm base g₀ L m vol T g s.heap) (tT : T ≠ none) (hsz : ds.length ≤ 100)
    (h : ∀ vs a g' h' tk, (∀ g, JRs prog w g vs ds []) → Fm base g₀ L m vol T g' h' → g.StaysIn g' → g'.IsList a vs.toArray → g.get? a = none → Q (.ref a) { s with heap := h', toks := tk }) :
    wpAny (model prog w) A (eval (.List es pos) env) Q E s := by
  refine wpAny_List (spliced_consts c fun vs tk hv => ⟨by rw [(hv g).length]; have := sizeLine_eq; omega, ?_⟩)
  obtain ⟨g', F₃, gg, eg, en, -⟩ := F.push tT ({ cls := .type "list", data := .seq vs.toArray } : Obj)
  exact h vs _ g' _ _ hv F₃ gg ⟨_, eg, rfl, _, rfl⟩ en
/-- the nine plain values -/
def nine : List PyData := [.none, .bool true, .bool false, .int 0, .int 1, .int 2, .str "", .str "a", .str "1"]
theorem nine_ok : ∀ d ∈ nine, ∀ n, okV n d = true := by
  intro d hd n
  simp only [nine, List.mem_cons, List.mem_nil_iff, or_false] at hd
  rcases hd with rfl | rfl | rfl | rfl | rfl | rfl | rfl | rfl | rfl <;> cases n <;> first | rfl | (show PyData.strOk _ = true; decide +kernel)

theorem call_rng {n : Nat} {t : Tok} {Q : Value → Shared → Prop} (F : Fm base g₀ L m vol T g s.heap) (h : ∀ r h' tk t u v, Fm base g₀ L m vol T g h' → IsRange h' r 0 n 1 t u v → Q (.ref r) { s with heap := h', toks := tk }) : wpAny (model prog w) A (call (.type "range") [.int n t]) Q E s :=
  call_range_1 (h _ _ _ _ _ _ (F.more (fun b o e => Heap.get?_push_of_some _ e) (push_tab F _)) (Heap.get?_push_size _ rfl))

/-! ### reading expressions: what they give, the heap as it was -/
def GE (prog : Program) (w : World) (A : Around) (env : Env) (e : PySem.Expr) (P : Value → Prop) (s : Shared) : Prop :=
  ∀ (tk : Nat) (E : Value → Shared → Prop) (Q : Value → Shared → Prop), (∀ v tk', P v → Q v { s with toks := tk' }) → wpAny (model prog w) A (eval e env) Q E { s with toks := tk }
abbrev GI (prog : Program) (w : World) (A : Around) (env : Env) (e : PySem.Expr) (i : Int) (s : Shared) : Prop := GE prog w A env e (fun v => ∃ t, v = .int i t) s
theorem GE.go {e : PySem.Expr} {P : Value → Prop} {Q : Value → Shared → Prop} (x : GE prog w A env e P s) (h : ∀ v tk', P v → Q v { s with toks := tk' }) : wpAny (model prog w) A (eval e env) Q E s := x s.toks E Q h
theorem GI.go {e : PySem.Expr} {i : Int} {Q : Value → Shared → Prop} (x : GI prog w A env e i s) (h : ∀ t tk', Q (.int i t) { s with toks := tk' }) : wpAny (model prog w) A (eval e env) Q E s := x s.toks E Q fun v tk' ⟨t, e⟩ => e ▸ h t tk'
theorem GE.loc {x : Str} {pos : Pos} {v : Value} {P : Value → Prop} (F : Fm base g₀ L m vol T g s.heap) (hv : m x = some v) (hp : P v) (hL : env.locals = L := by rfl)
    (hk : env.scope.kind = .function := by rfl) (hx : env.kindOf x = some .local := by rfl) (hd : (x == ("__debug__" : Str)) = false := by decide) : GE prog w A env (.Name x pos) P s := fun tk E Q h => n_loc (s := { s with toks := tk }) F hv (h v tk hp) hL hk hx hd
theorem GE.cell {x : Str} {pos : Pos} {v : Value} {c : Addr} {o : Obj} {P : Value → Prop} (F : Fm base g₀ L m vol T g s.heap) (hm : (c, o) ∈ vol) (ho : o.data = .cell (some v)) (hp : P v) (hc : env.cells.lookup x = some c)
    (hk : env.scope.kind = .function := by rfl) (hx : env.kindOf x = some .cell := by rfl) (hd : (x == ("__debug__" : Str)) = false := by decide) : GE prog w A env (.Name x pos) P s := fun tk E Q h => n_cell' (s := { s with toks := tk }) F hm ho hc (h v tk hp) hk hx hd
theorem GI.const {i : Int} {k : Nat} {pos : Pos} : GI prog w A env (.Constant (.int i) k pos) i s := fun _ _ _ h => wpAny_Constant_int (h _ _ ⟨_, rfl⟩)
theorem GI.add {e f : PySem.Expr} {i j : Int} {pos : Pos} (x : GI prog w A env e i s) (y : GI prog w A env f j s) : GI prog w A env (.BinOp e .Add f pos) (i + j) s := fun tk _ _ h => wpAny_BinOp (x tk _ _ fun _ tk' ⟨_, a⟩ => a ▸ y tk' _ _ fun _ tk'' ⟨_, b⟩ => b ▸ add_int (h _ _ ⟨_, rfl⟩))
theorem GI.sub {e f : PySem.Expr} {i j : Int} {pos : Pos} (x : GI prog w A env e i s) (y : GI prog w A env f j s) : GI prog w A env (.BinOp e .Sub f pos) (i - j) s := fun tk _ _ h => wpAny_BinOp (x tk _ _ fun _ tk' ⟨_, a⟩ => a ▸ y tk' _ _ fun _ tk'' ⟨_, b⟩ => b ▸ sub_int (h _ _ ⟨_, rfl⟩))
theorem GI.mul {e f : PySem.Expr} {i j : Int} {pos : Pos} (x : GI prog w A env e i s) (y : GI prog w A env f j s) (hi : -18446744073709551616 < i ∧ i < 18446744073709551616) (hj : -18446744073709551616 < j ∧ j < 18446744073709551616) : GI prog w A env (.BinOp e .Mult f pos) (i * j) s := fun tk _ _ h => wpAny_BinOp (x tk _ _ fun _ tk' ⟨_, a⟩ => a ▸ y tk' _ _ fun _ tk'' ⟨_, b⟩ => b ▸ mul_int (h _ _ ⟨_, rfl⟩))
theorem GI.fdiv {e f : PySem.Expr} {i j : Int} {pos : Pos} (x : GI prog w A env e i s) (y : GI prog w A env f j s) (hj : j ≠ 0) (hp : Builtin.divisionGoesByPylong i j = false := by first | exact PyProof.noPylong_of_log2 (by decide +kernel) | exact PyProof.noPylong_small (by omega)) : GI prog w A env (.BinOp e .FloorDiv f pos) (i.fdiv j) s := fun tk _ _ h => wpAny_BinOp (x tk _ _ fun _ tk' ⟨_, a⟩ => a ▸ y tk' _ _ fun _ tk'' ⟨_, b⟩ => b ▸ floordiv_int hj (h _ _ ⟨_, rfl⟩) (.inl hp))
theorem GI.fmod {e f : PySem.Expr} {i j : Int} {pos : Pos} (x : GI prog w A env e i s) (y : GI prog w A env f j s) (hj : j ≠ 0) : GI prog w A env (.BinOp e .Mod f pos) (i.fmod j) s := fun tk _ _ h => wpAny_BinOp (x tk _ _ fun _ tk' ⟨_, a⟩ => a ▸ y tk' _ _ fun _ tk'' ⟨_, b⟩ => b ▸ mod_int' hj (h _ _ ⟨_, rfl⟩))
/-- arguments, one by one -/
theorem arg_e {e : PySem.Expr} {rest : List PySem.Expr} {pos : Pos} {P : Value → Prop} {Q : List Value → Shared → Prop} (x : GE prog w A env e P s)
    (h : ∀ v tk, P v → wpAny (model prog w) A (spliced (backTo pos (starEach rest env))) (fun vs s' => Q (v :: vs) s') E { s with toks := tk }) (he : starEach (e :: rest) env = (false, eval e env) :: starEach rest env := by rfl) :
    wpAny (model prog w) A (spliced (backTo pos (starEach (e :: rest) env))) Q E s := spliced_more (x.go fun v tk p => h v tk p) he
theorem arg_i {e : PySem.Expr} {rest : List PySem.Expr} {pos : Pos} {i : Int} {Q : List Value → Shared → Prop} (x : GI prog w A env e i s)
    (h : ∀ t tk, wpAny (model prog w) A (spliced (backTo pos (starEach rest env))) (fun vs s' => Q (.int i t :: vs) s') E { s with toks := tk }) (he : starEach (e :: rest) env = (false, eval e env) :: starEach rest env := by rfl) :
    wpAny (model prog w) A (spliced (backTo pos (starEach (e :: rest) env))) Q E s := spliced_more (x.go fun t tk => h t tk) he

theorem strs_of_JRs : ∀ {vs : List Value} {ys : List Str} {as : List Addr}, JRs prog w g vs (ys.map .str) as → StrsAre vs ys
  | _, [], _, .nil => .nil
  | _, _ :: _, _, .cons (.str x t) r => .cons x t (strs_of_JRs r)

theorem slice_mk {items : Array Value} {vl vu : Value} {lo hi : Option Int} (F : Fm base g₀ L m vol T g h) (tT : T ≠ none) :
    ∃ g', Fm base g₀ L m vol T g' ((h.push { cls := .type "slice", data := .fields #[vl, vu, .none] }).push { cls := .type "list", data := .seq (slicePick items lo hi none) }) ∧ g.StaysIn g' ∧ g'.IsList (h.objs.size + 1) (slicePick items lo hi none) ∧ g.get? (h.objs.size + 1) = none := by
  have F1 := F.more (h' := h.push { cls := .type "slice", data := .fields #[vl, vu, .none] }) (fun b o e => Heap.get?_push_of_some _ e) (push_tab F _)
  obtain ⟨g', F₃, gg, eg, en, -⟩ := F1.push tT ({ cls := .type "list", data := .seq (slicePick items lo hi none) } : Obj)
  rw [Heap.size_push] at eg en
  exact ⟨g', F₃, gg, ⟨_, eg, rfl, _, rfl⟩, en⟩
end
end Mine
end

/-! ## K6 -/
section
set_option maxRecDepth 100000
set_option maxHeartbeats 4000000
open PySem PySem.W PyProof.Rows PySem.Calls
namespace Mine

example (w : World) (h : Heap) (X : (hd.heap_39 w.params).In h) : (hd.heap_39 w.params).In h ∧ PySem.Challenge.rw_bs0014_01 = PySem.Challenge.rw_bs0014_01 := by
  k_fill
  exact ⟨X, rfl⟩

section
variable {prog : Program} {w : World} {p : Program} {loose : List Str} {mg mb : Str → Option Value} {A : Around} {E : Value → Shared → Prop} {s : Shared} {R : Result → Shared → Prop}
  {base g₀ g h h' gh0 : Heap} {L : Addr} {m m' : Str → Option Value} {vol : List (Addr × Obj)} {T : Option Obj} {env : Env}

theorem does_value {l : Addr} {ns : List Int} (n : Nat) : ∀ {g : Heap} {place : Int} {t u : Tok}, WD w p loose mg mb g → Scr g l ns → 0 ≤ place → (place + 1) * 10 ^ n < 100000 →
    Does prog w (.ref 304) [.ref l, .int place t, .int n u] (n + 2) (4 * n + 16) g fun g' r => ∃ d, okV n d = true ∧ Made prog w g g' r d := by
  induction n using Nat.strongRecOn with
  | _ n ih =>
    intro g place t u W hs hp0 hp A s Q E S Rm ret
    have hpl : place < 100000 := by
      have h1 : (1 : Int) ≤ 10 ^ n := by exact_mod_cast Nat.one_le_pow n 10 (by omega)
      have h2 : place + 1 ≤ (place + 1) * 10 ^ n := by
        have := Int.mul_le_mul_of_nonneg_left h1 (show (0 : Int) ≤ place + 1 by omega)
        simpa using this
      omega
    refine wpAny_call ?_
    (refine' enterC W S ?ho ?hcd ?hroom ?hb ?hl ?hn ?_ ?h2 ?h3 ?h4; (case ho => k_is); (case hcd => k_is); (case hroom => (have := Rm.d; omega)); (case hb => exact BindsTo.of_eq rfl); (case hl => exact rfl); (case hn => decide); (case h2 => exact rfl); (case h3 => exact rfl); (case h4 => exact rfl))
    intro L h₁ tk cells Y F
    obtain ⟨o1, o2, o3, o4, rfl, hc1, hc2, hc3, hc4⟩ := CellsAre.four Y
    have hc1 : o1.data = .cell none := hc1
    have hc2 : o2.data = .cell (some (.int n u)) := hc2
    have hc3 : o3.data = .cell (some (.int place t)) := hc3
    have hc4 : o4.data = .cell (some (.ref l)) := hc4
    clear Y
    refine wpAny_execs_cons (wpAny_Assign_Name (wpAny_Call_ofName (n_glob W F.gh (by k_is) (callWith_K W.k (by k_is) (spliced_more (n_cell' F (.tail _ (.tail _ (.tail _ (.head _)))) hc4 rfl (spliced_more (n_cell' F (.tail _ (.tail _ (.head _))) hc3 rfl (spliced_none ⟨(W.keeps F.gh).k, ?_⟩)))))))))
    have R1 : ∀ env, Room (A.deeper env) (n + 1) (4 * n + 13) := fun env => (Rm.le (dn' := n + 1 + 1) (un' := 4 * n + 13 + 3) (by omega) (by omega)).deeper env
    refine (does_number W hs ⟨by omega, by omega⟩).use F S.tT ((R1 _).le (by omega) (by omega)) fun r g₂ h₂ tk₂ F₂ g12 ⟨tkn, e⟩ => ?_
    subst e
    have W₂ := W.keeps g12
    refine s_loc F₂ fun h' F₃ => ?_
    dsimp only
    refine wpAny_execs_cons ?_
    refine wpAny_Assign_Name ?_
    refine GI.go (.fmod (.fdiv (.loc F₃ (if_pos rfl) ⟨_, rfl⟩) .const (by decide)) .const (by decide)) fun tkind tk3 => ?_
    dsimp only
    refine s_loc F₃ fun h'' F₄ => ?_
    dsimp only
    generalize hkind : (Int.fmod (Int.fdiv (num ns place) 3) 7) = kind at *
    refine wpAny_execs_cons (wpAny_If (wpAny_mono (Q := fun b s' => b = (decide (kind < 4) || decide (n = 0)) ∧ ∃ tk, s' = ({ s with heap := h'', toks := tk } : Shared)) (isTrue_or (wpAny_isTrue_Compare1 (n_loc F₄ (if_pos rfl) (wpAny_Constant_int (lt_int (wpAny_truthy_bool ?_)))))) (fun b s' hb => ?_) fun _ _ x => x))
    · dsimp only
      by_cases hk : kind < 4
      · rw [decide_eq_true hk]
        exact ⟨rfl, _, rfl⟩
      · rw [decide_eq_false hk]
        refine isTrue_or (wpAny_isTrue_Compare1 (n_cell' F₄ (.tail _ (.head _)) hc2 rfl (wpAny_Constant_int (eq_int (wpAny_truthy_bool ?_)))))
        by_cases hn : n = 0
        · subst hn
          exact ⟨rfl, _, rfl⟩
        · rw [show ((n : Int) == 0) = false by simpa using hn]
          exact isTrue_or_nil ⟨by simp [hn], _, rfl⟩
    obtain ⟨rfl, tk, rfl⟩ := hb
    have W₄ := W₂
    by_cases hsmall : kind < 4 ∨ n = 0
    · rw [show (decide (kind < 4) || decide (n = 0)) = true by simpa using hsmall, if_pos rfl]
      refine x_ret ?_
      refine Subscript_ ?_
      refine ev_consts (ds := nine) ?_ F₄ S.tT (by decide) fun vs a g₅ h₅ tk₅ hv F₅ g25 hl hn => ?_
      · repeat constructor
      refine GI.go (.fmod (.fdiv (.loc F₅ (v := .int (num ns place) tkn) (by rw [if_neg (by decide)]; exact if_pos rfl) ⟨_, rfl⟩) .const (by decide)) .const (by decide)) fun t6 tk6 => ?_
      dsimp only
      generalize hi : (Int.fmod (Int.fdiv (num ns place) 21) 9) = i
      have hi0 : 0 ≤ i := by rw [← hi]; exact Int.fmod_nonneg_of_pos _ (by decide)
      have hi1 : i < 9 := by rw [← hi]; exact Int.fmod_lt_of_pos _ (by decide)
      have hlen : vs.length = 9 := (hv g).length
      obtain ⟨d, bs, ed, rd, hsub⟩ := (hv g₅).at (i := i.toNat) (v := vs[i.toNat]'(by omega)) (List.getElem?_eq_getElem _)
      refine item_L (F₅.isList hl) hi0 (by omega) (v := vs[i.toNat]'(by omega)) (by rw [List.getElem?_toArray]; exact List.getElem?_eq_getElem _) ?_
      refine ret _ _ _ _ F₅.after ⟨d, nine_ok d (List.mem_of_getElem? ed) n, bs, rd, ?_, fun a ha => nomatch hsub a ha⟩
      cases bs with
      | nil => exact .nil
      | cons b r => exact nomatch hsub b (.head _)
    · rw [show (decide (kind < 4) || decide (n = 0)) = false by simpa using hsmall, if_neg (by decide)]
      have hk4 : ¬ kind < 4 := fun z => hsmall (.inl z)
      obtain ⟨k, rfl⟩ : ∃ k, n = k + 1 := ⟨n - 1, by have : n ≠ 0 := fun z => hsmall (.inr z); omega⟩
      refine wpAny_execs_nil ?_
      refine wpAny_execs_cons ?_
      refine lc_assign (cl := [(Str.ofString "script", L + 1), (Str.ofString "place", L + 2), (Str.ofString "depth", L + 3)]) ?_ rfl rfl (fun _ => rfl) rfl rfl
      dsimp only
      generalize hcn : (Int.fmod (Int.fdiv (num ns place) 5) 4) = cn
      have hcn0 : 0 ≤ cn := by rw [← hcn]; exact Int.fmod_nonneg_of_pos _ (by decide)
      have hcn1 : cn < 4 := by rw [← hcn]; exact Int.fmod_lt_of_pos _ (by decide)
      obtain ⟨c, rfl⟩ : ∃ c : Nat, cn = c := ⟨cn.toNat, by omega⟩
      refine wpAny_Call_ofName (n_bi W₂ F₄.gh (by k_is) rfl (PyProof.Rows.callWith_type1 ?_))
      refine arg_i (.fmod (.fdiv (.loc F₄ (v := .int (num ns place) tkn) (by rw [if_neg (by decide)]; exact if_pos rfl) ⟨_, rfl⟩) .const (by decide)) .const (by decide)) fun t6 tk6 => ?_
      rw [hcn]
      dsimp only
      refine spliced_none (call_rng F₄ fun ra h₅ tk₅ t₅ u₅ v₅ F₅ hr => ?_)
      refine lc_rangeU F₅ S.tT Rm.h hr (by omega) (fun i items g₆ => ∃ ds : List PyData, ds.length = i ∧ ds.all (okV k) = true ∧ Mades prog w g g₆ items ds ∧ g.StaysIn g₆) (fun i items g₁ g₂ ⟨ds, a, b, c, d⟩ gg => ⟨ds, a, b, c.keeps gg, fun b o e => gg b o (d b o e)⟩) ⟨[], rfl, rfl, .nil, g12⟩ ?_ ?_ (by decide) rfl rfl rfl rfl rfl
      · rintro i ti items C mc g₆ h₆ tk₆ vol' E' hi ⟨ds, hlen, hall, hmade, gg6⟩ g26 hvol F₆
        have W₆ := W.keeps gg6
        refine wpAny_Call_ofName (n_glob W₆ F₆.gh (by k_is) (callWith_K W₆.k (by k_is) (spliced_more ?_)))
        refine n_cell' F₆ (hvol _ (.tail _ (.tail _ (.tail _ (.head _))))) hc4 rfl ?_
        refine arg_i (.add (.add (.mul .const (.cell F₆ (hvol _ (.tail _ (.tail _ (.head _)))) hc3 ⟨_, rfl⟩ rfl) (by omega) (by omega)) .const) (.loc F₆ upd_same ⟨_, rfl⟩)) fun t7 tk7 => ?_
        dsimp only
        refine arg_i (.sub (.cell F₆ (hvol _ (.tail _ (.head _))) hc2 ⟨_, rfl⟩ rfl) .const) fun t8 tk8 => ?_
        dsimp only
        refine spliced_none ⟨(W₆.keeps F₆.gh).k, ?_⟩
        rw [show ((k + 1 : Nat) : Int) - 1 = (k : Int) by omega]
        have hbd : (5 * place + 1 + (0 + (i : Int)) + 1) * 10 ^ k < 100000 := by
          have hP : (0 : Int) ≤ 10 ^ k := Int.pow_nonneg (by decide)
          have h1 : (5 * place + 1 + (0 + (i : Int)) + 1) * 10 ^ k ≤ ((place + 1) * 10) * 10 ^ k := Int.mul_le_mul_of_nonneg_right (by omega) hP
          have h2 : ((place + 1) * 10) * 10 ^ k = (place + 1) * 10 ^ (k + 1) := by rw [Int.pow_succ, Int.mul_assoc, Int.mul_comm 10]
          omega
        refine (ih k (by omega) W₆ (hs.keeps gg6) (by omega) hbd).use F₆ S.tT ((R1 _).le (by omega) (by omega)) fun r g₇ h₇ tk₇ F₇ g67 ⟨d, hd, hm⟩ => ?_
        exact ⟨_, g₇, h₇, tk₇, rfl, F₇, g67, ds ++ [d], by simp [hlen], by simp [hall, hd], hmade.snoc gg6 g67 hm, fun b o e => g67 b o (gg6 b o e)⟩
      · rintro a items g₆ g₇ h₇ tk₇ ⟨ds, hlen, hall, hmade, gg6⟩ g26 g67 F₇ hla hna hlen'
        dsimp only
        have W₇ := (W.keeps gg6).keeps g67
        refine wpAny_execs_cons ?_
        refine wpAny_If ?_
        refine wpAny_isTrue_Compare1 (n_loc F₇ (v := .int kind tkind) (by rw [upd_ne (by decide)]; exact if_pos rfl) (wpAny_Constant_int (lt_int (wpAny_truthy_bool ?_))))
        dsimp only
        by_cases hk5 : kind < 5
        · rw [decide_eq_true hk5, if_pos rfl]
          refine x_ret ?_
          refine n_loc F₇ (v := .ref a) upd_same ?_
          refine ret _ _ _ _ F₇.after ⟨.list ds, ?_, hmade.list gg6 g67 hla hna⟩
          rw [okV, hall, decide_eq_true (by omega)]; rfl
        · rw [decide_eq_false hk5, if_neg (by decide)]
          refine wpAny_execs_nil ?_
          dsimp only
          generalize hrr : (Int.fmod (Int.fdiv (num ns place) 7) 4) = rr
          have hrr0 : 0 ≤ rr := by rw [← hrr]; exact Int.fmod_nonneg_of_pos _ (by decide)
          have hrr1 : rr < 4 := by rw [← hrr]; exact Int.fmod_lt_of_pos _ (by decide)
          obtain ⟨r, rfl⟩ : ∃ r : Nat, rr = r := ⟨rr.toNat, by omega⟩
          refine wpAny_execs_cons ?_
          refine wpAny_Assign_Name ?_
          refine wpAny_BinOp ?_
          refine sub_slice ?_
          refine ev_consts (ds := inner4.map .str) ?_ F₇ S.tT (by decide) fun vs1 a1 g₈ h₈ tk₈ hv1 F₈ g78 hl1 hn1 => ?_
          · repeat constructor
          have hs1 := strs_of_JRs (hv1 g)
          have hlen1 := hs1.len_eq
          refine evalPart_some_step (GI.go (.fmod (.fdiv (.loc F₈ (v := .int (num ns place) tkn) (by rw [upd_ne (by decide), if_neg (by decide)]; exact if_pos rfl) ⟨_, rfl⟩) .const (by decide)) .const (by decide)) fun t9 tk9 => evalPart_none_step ?_)
          rw [hrr]
          dsimp only
          refine ⟨a1, vs1.toArray, some r, none, rfl, F₈.isList hl1, by rw [List.size_toArray, hlen1]; have := sizeLine_eq; simp [inner4]; omega, .int _ _, .none, ?_⟩
          obtain ⟨g₉, F₉, g89, hl2, hn2⟩ := slice_mk (items := vs1.toArray) (vl := .int r t9) (vu := .none) (lo := some r) (hi := none) F₈ S.tT
          rw [slicePick_from'] at hl2
          refine sub_slice ?_
          refine ev_consts (ds := inner4.map .str) ?_ F₉ S.tT (by decide) fun vs2 a3 g₁₀ h₁₀ tk₁₀ hv2 F₁₀ g910 hl3 hn3 => ?_
          · repeat constructor
          have hs2 := strs_of_JRs (hv2 g)
          have hlen2 := hs2.len_eq
          refine evalPart_none_step (evalPart_some_step (GI.go (.fmod (.fdiv (.loc F₁₀ (v := .int (num ns place) tkn) (by rw [upd_ne (by decide), if_neg (by decide)]; exact if_pos rfl) ⟨_, rfl⟩) .const (by decide)) .const (by decide)) fun t10 tk11 => ?_))
          rw [hrr]
          dsimp only
          refine ⟨a3, vs2.toArray, none, some r, rfl, F₁₀.isList hl3, by rw [List.size_toArray, hlen2]; have := sizeLine_eq; simp [inner4]; omega, .none, .int _ _, ?_⟩
          obtain ⟨g₁₁, F₁₁, g1011, hl4, hn4⟩ := slice_mk (items := vs2.toArray) (vl := .none) (vu := .int r t10) (lo := none) (hi := some r) F₁₀ S.tT
          rw [slicePick_upto'] at hl4
          refine add_L F₁₁ S.tT (isList_keeps (fun b o e => g1011 b o (g910 b o e)) hl2) hl4 (by simp [hlen1, hlen2, inner4]; have := sizeLine_eq; omega) fun g₁₂ h₁₂ a5 F₁₂ g1112 hl5 hn5 => ?_
          dsimp only
          refine s_cell (vol₁ := []) F₁₂ hc1 rfl fun h₁₃ o1' hc1' F₁₃ => ?_
          dsimp only
          have hnm := (hs1.drop' r).append' (hs2.take' r)
          generalize hnames : inner4.drop r ++ inner4.take r = nm at hnm
          have hnm4 : nm.length = 4 ∧ nm.Nodup ∧ ∀ y ∈ nm, y ∈ inner4 := by
            rw [← hnames]
            have : r < 4 := by omega
            match r, this with
            | 0, _ => decide +kernel
            | 1, _ => decide +kernel
            | 2, _ => decide +kernel
            | 3, _ => decide +kernel
          refine x_ret ?_
          refine dc_open (cl := [(Str.ofString "names", L + 4)]) ?_ rfl (fun _ => rfl) rfl rfl
          have W₁₂ : WD w p loose mg mb g₁₂ := ((((W₇.keeps g78).keeps g89).keeps g910).keeps g1011).keeps g1112
          refine wpAny_Call_ofName (n_bi W₁₂ F₁₃.gh (by k_is) rfl (PyProof.Rows.callWith_type1 (spliced_more ?_)))
          refine n_loc F₁₃ (v := .ref a) upd_same ?_
          refine spliced_none ?_
          have hla' : g₁₂.IsList a items.toArray := isList_keeps (fun b o e => g1112 b o (g1011 b o (g910 b o (g89 b o (g78 b o e))))) hla
          refine call_enum F₁₃ S.tT hla' fun h₁₄ ⟨oi, F₁₄, hoc, hod⟩ => ?_
          have g613 : g₆.StaysIn g₁₂ := fun b o e => g1112 b o (g1011 b o (g910 b o (g89 b o (g78 b o (g67 b o e)))))
          refine dc_enum F₁₄ hoc hod S.tT Rm.h hla' (by simp; have := sizeLine_eq; omega) (fun (i : Nat) (its : List (Str × Value)) (_ : Heap) => its.map (fun q : Str × Value => q.1) = nm.take i ∧ its.map (fun q : Str × Value => q.2) = items.take i) (fun _ _ _ _ x _ => x) ⟨rfl, rfl⟩ ?_ ?_ (by decide) rfl rfl rfl
          · rintro i v tv its C mc g₁₅ h₁₅ tk₁₅ vol' E' hi ⟨e1, e2⟩ gg hvol F₁₅
            have hi' : i < items.length := by
              have := (Array.getElem?_eq_some_iff.mp hi).1
              simpa using this
            obtain ⟨y, hy⟩ : ∃ y, nm[i]? = some y := ⟨_, List.getElem?_eq_getElem (show i < nm.length by omega)⟩
            obtain ⟨ty, hyv⟩ := hnm.at hy
            refine Subscript_ ?_
            refine n_cell' F₁₅ (hvol _ (.head _)) hc1' rfl ?_
            refine n_loc F₁₅ (v := .int i tv) (by rw [upd_ne (by decide)]; exact upd_same) ?_
            refine item_L (F₁₅.isList (isList_keeps gg hl5)) (by omega) (by omega) (v := .str y ty) (by rw [List.getElem?_toArray]; simpa using hyv) ?_
            refine n_loc F₁₅ upd_same ?_
            have hlen6 : its.length = i := by
              have := congrArg List.length e1
              simp only [List.length_map, List.length_take] at this
              omega
            refine ⟨y, ty, _, g₁₅, h₁₅, tk₁₅, rfl, rfl, F₁₅, fun _ _ e => e, ⟨?_, ?_⟩, by omega⟩
            · have hny : ∀ z ∈ its, z.1 ≠ y := by
                intro z hz ez
                have hz' : y ∈ nm.take i := by rw [← e1, ← ez]; exact List.mem_map_of_mem hz
                have hnd := hnm4.2.1
                rw [← List.take_append_drop i nm, List.nodup_append] at hnd
                refine hnd.2.2 y hz' y ?_ rfl
                rw [List.drop_eq_getElem_cons (show i < nm.length by omega), show nm[i] = y from (List.getElem?_eq_some_iff.mp hy).2]
                exact .head _
              rw [stored_new hny, take_snoc hy, List.map_append, e1]; rfl
            · have hny : ∀ z ∈ its, z.1 ≠ y := by
                intro z hz ez
                have hz' : y ∈ nm.take i := by rw [← e1, ← ez]; exact List.mem_map_of_mem hz
                have hnd := hnm4.2.1
                rw [← List.take_append_drop i nm, List.nodup_append] at hnd
                refine hnd.2.2 y hz' y ?_ rfl
                rw [List.drop_eq_getElem_cons (show i < nm.length by omega), show nm[i] = y from (List.getElem?_eq_some_iff.mp hy).2]
                exact .head _
              have hiv : items[i]? = some v := by simpa using hi
              rw [stored_new hny, take_snoc hiv, List.map_append, e2]; rfl
          · rintro a6 its ep g₁₅ g₁₆ h₁₆ tk₁₆ ⟨e1, e2⟩ gg g1516 F₁₆ hda hma hna6
            rw [List.size_toArray] at e1 e2
            rw [List.take_length] at e2
            have hz : (List.zip ((nm.take items.length).map PyData.str) ds).map (·.1) = (nm.take items.length).map PyData.str := List.map_fst_zip (by simp; omega)
            have hz2 : (List.zip ((nm.take items.length).map PyData.str) ds).map (·.2) = ds := List.map_snd_zip (by simp; omega)
            refine ret _ _ _ _ F₁₆.after ⟨.dict (List.zip ((nm.take items.length).map PyData.str) ds), ?_, ?_⟩
            · rw [okV, Bool.and_eq_true, List.all_eq_true]
              refine ⟨decide_eq_true (by simp; omega), fun q hq => ?_⟩
              obtain ⟨q1, q2⟩ := List.of_mem_zip (show (q.1, q.2) ∈ _ from hq)
              obtain ⟨y, hy, ey⟩ := List.mem_map.mp q1
              rw [← ey, Bool.and_eq_true]
              refine ⟨?_, List.all_eq_true.mp hall _ q2⟩
              simp only [isKey, List.contains_iff_mem]
              exact hnm4.2.2 y (List.mem_of_mem_take hy)
            · refine Mades.dict (g₁ := g₁₅) (kvs := its) ?_ (fun b o e => gg b o (g613 b o (gg6 b o e))) g1516 ?_ hda hma hna6
              · rw [hz2, e2]
                exact (hmade.keeps g613).keeps gg
              · rw [hz, ← e1, List.map_map]; rfl
end
end Mine
end

/-! ## K7 -/
section
set_option maxRecDepth 100000
set_option maxHeartbeats 4000000
open PySem PySem.W PyProof.Rows PySem.Calls
namespace Mine

example (w : World) (h : Heap) (X : (hd.heap_39 w.params).In h) : (hd.heap_39 w.params).In h ∧ PySem.Challenge.rw_bs0014_01 = PySem.Challenge.rw_bs0014_01 := by
  k_fill
  exact ⟨X, rfl⟩

section
variable {prog : Program} {w : World} {p : Program} {loose : List Str} {mg mb : Str → Option Value} {A : Around} {E : Value → Shared → Prop} {s : Shared} {R : Result → Shared → Prop}
  {base g₀ g h h' gh0 : Heap} {L : Addr} {m m' : Str → Option Value} {vol : List (Addr × Obj)} {T : Option Obj} {env : Env}

open Builtin Builtin.Str in
/-- replace, the tokens known to grow -/
theorem replaceT {x y z : Str} {t u v : Tok} {Q : Value → Shared → Prop} (hu : u ≠ 0) (hv : v ≠ 0) (huv : u ≠ v) (hyz : (y == z) = false) (hb : x.length + (x.length + 1) * z.length ≤ 16777216)
    (hq : ∀ t' k, s.toks ≤ k → Q (.str (Txt.replace x y z) t') { s with toks := k }) : wpAny (model prog w) A (call (.builtin "str.replace") [.str x t, .str y u, .str z v]) Q E s := by
  have e : (2 : Nat) ^ 24 = 16777216 := by decide
  have hl : tooLong (x.length + (occurrences x y 0 x.length (x.length + 1)).length * z.length) = false := by
    have h1 := StrLaws.occ_length_le x y 0 x.length (x.length + 1)
    have h2 : (occurrences x y 0 x.length (x.length + 1)).length * z.length ≤ (x.length + 1) * z.length := Nat.mul_le_mul_right _ h1
    unfold tooLong sizeLine
    exact decide_eq_false (by omega)
  refine call_gives F.slot_str_replace (typeIs_str _ _ _) F.entry_str_replace (F.args_str_replace_3 _ _ _)
    (gives_str_replace x y z t u v fun _ => ⟨by simp [hu, hv], by simp [huv], hyz, hl⟩) ?_
  have hq' := hq
  unfold Txt.replace at hq'
  cases hc : ((occurrences x y 0 x.length (x.length + 1)).isEmpty || (y.length == 0 && z.length == 0))
  · rw [hc] at hq'
    simp only [Bool.false_eq_true, if_false] at hq' ⊢
    exact ⟨fits_replaced y hb, hq' _ _ (Nat.le_succ _)⟩
  · rw [hc] at hq'
    simp only [if_true] at hq' ⊢
    exact hq' t s.toks (Nat.le_refl _)

/-- e.replace('..', '..') -/
theorem ev_replace {e : PySem.Expr} {y z : Str} {k1 k2 : Nat} {p1 p2 apos pos : Pos} {pl : Sem Bool} {Q : Value → Shared → Prop} (hyz : (y == z) = false) (hz : z.length ≤ 2)
    (h : wpAny (model prog w) A (eval e env) (fun v s₁ => ∃ x t, v = .str x t ∧ 0 < s₁.toks ∧ x.length ≤ 10000 ∧ ∀ t' k, 0 < k → Q (.str (Txt.replace x y z) t') { s₁ with toks := k }) E s)
    (he : eval (.Call (.Attribute e (Str.ofString "replace") apos) [.Constant (.str y) k1 p1, .Constant (.str z) k2 p2] [] pos) env = (do
      let ov ← eval e env
      standAt apos.atName
      let (f, first) ← holding [ov] (getMethod ov (Str.ofString "replace") pl)
      callWith pos f first (backTo pos (starEach [.Constant (.str y) k1 p1, .Constant (.str z) k2 p2] env)) []) := by rfl) :
    wpAny (model prog w) A (eval (.Call (.Attribute e (Str.ofString "replace") apos) [.Constant (.str y) k1 p1, .Constant (.str z) k2 p2] [] pos) env) Q E s := by
  refine MethodCall_ (pl := pl) (wpAny_mono h (fun v s₁ q => ?_) fun _ _ x => x) he
  obtain ⟨x, t, rfl, h0, hx, q⟩ := q
  refine GM.replace (callWith_method1 (spliced_more (wpAny_Constant_str (spliced_more (wpAny_Constant_str (spliced_none ?_))))))
  dsimp only
  refine replaceT (Nat.ne_of_gt h0) (Nat.succ_ne_zero _) (Nat.ne_of_lt (Nat.lt_succ_self _)) hyz ?_ fun t' k hk => q t' k (Nat.lt_of_lt_of_le h0 (Nat.le_trans (Nat.le_add_right _ 2) hk))
  have : (x.length + 1) * z.length ≤ (x.length + 1) * 2 := Nat.mul_le_mul_left _ hz
  omega

/-- entering a def, the tokens known to be some -/
theorem enterT {R : Result → Shared → Prop} {name qual : Str} {params : Arguments} {body : List Stmt} {scope : Scope} {dV kV doc pm cdv ct oc : Value} {an od : Option Addr} {osl : Array (Option Value)} {f : Addr} {args : Args} {binds : List (Str × Value)}
    (W : WD w p loose mg mb g) (S : St g s) (ho : (hd.heap_39 w.params).lookup f = some ⟨oc, od, .func (fnOf name qual params body scope dV kV doc pm an cdv ct), osl⟩) (hcd : codeIn (hd.heap_39 w.params) cdv qual = true) (hroom : A.depth < recursionLimit)
    (hbind : BindsTo s (fnOf name qual params body scope dV kV doc pm an cdv ct) args binds) (hne : 0 < binds.length) (hloc : (binds.all fun x => decide (scope.names.lookup x.1 = some .local)) = true)
    (h : ∀ L h₁ tk, 0 < tk → Fm s.heap g L (fun y => binds.reverse.lookup y) [] (s.heap.get? TAB) g h₁ →
      wpAny (model prog w) (A.deeper (envX qual scope L f cdv [])) (execs body (envX qual scope L f cdv []))
        (fun fl s' => R (.ok (.ret (match fl with | .ret v => v | _ => .none))) s')
        (fun e s' => wpAny (model prog w) (A.deeper (envX qual scope L f cdv [])) (leaving (envX qual scope L f cdv []) e) (fun _ s'' => R (.error e) s'') (fun e' s'' => R (.error e') s'') s')
        { s with heap := h₁, toks := tk })
    (hcell : (scope.names.all fun x => decide (x.2 ≠ .cell)) = true) (hco : scope.isCoroutine = false) (hgen : scope.isGenerator = false) (hk : scope.kind = .function) :
    codeAny (model prog w) A (.call (.ref f) args) R s := by
  have Ws := W.keeps S.sub
  have hlt : TAB < s.heap.objs.size := by
    cases q : s.heap.get? TAB with
    | none => exact absurd q S.tT
    | some o => exact Heap.lt_size q
  refine codeAny_call_def (fd := fnOf name qual params body scope dV kV doc pm an cdv ct) (body := body) (binds := binds) hroom (Ws.k _ _ ho) rfl Ws.t.nolimit (codeRec_of Ws.k hcd) rfl hbind
    (fun x hx => of_decide_eq_true (List.all_eq_true.mp hcell x hx)) (locs hloc) (fun h₁ hns k => ?_) hco hgen hk
  refine h _ h₁ _ (Nat.lt_of_lt_of_le hne (Nat.le_add_left _ _)) ⟨hns, fun b o e _ => k b o e, Nat.le_refl _, hlt, ?_, fun _ hp => (nomatch hp), List.nodup_nil, fun b o e => k _ _ (S.sub b o e), ?_, .refl _ _, S.gT⟩
  · cases q : s.heap.get? TAB with
    | none => exact absurd q S.tT
    | some o => exact k _ _ q
  · cases q : g.get? s.heap.objs.size with
    | none => rfl
    | some o => exact absurd (Heap.lt_size (S.sub _ _ q)) (Nat.lt_irrefl _)

theorem words_len : words.all (fun x => decide (x.length ≤ 100) && decide ((Txt.replace x "~" "~0").length ≤ 100) && decide ((esc x).length ≤ 100) && decide ((Txt.replace (esc x) "~1" "/").length ≤ 100) && decide (unesc (esc x) = x)) = true := by decide +kernel
theorem word_len {x : Str} (hx : x ∈ words) : x.length ≤ 100 ∧ (Txt.replace x "~" "~0").length ≤ 100 ∧ (esc x).length ≤ 100 ∧ (Txt.replace (esc x) "~1" "/").length ≤ 100 ∧ unesc (esc x) = x := by
  have := List.all_eq_true.mp words_len x hx
  simp only [Bool.and_eq_true, decide_eq_true_eq] at this
  exact ⟨this.1.1.1.1, this.1.1.1.2, this.1.1.2, this.1.2, this.2⟩

theorem does_escape {x : Str} {t : Tok} (W : WD w p loose mg mb g) (hx : x ∈ words) :
    Does prog w (.ref 285) [.str x t] 1 8 g fun _ r => ∃ tk, r = .str (esc x) tk := by
  intro A s Q E S Rm ret
  refine wpAny_call ?_
  (refine' enterT W S ?ho ?hcd ?hroom ?hb ?hne ?hl ?_ ?h1 ?h2 ?h3 ?h4; (case ho => k_is); (case hcd => k_is); (case hroom => (have := Rm.d; omega)); (case hb => exact BindsTo.of_eq rfl); (case hne => exact Nat.zero_lt_one); (case h1 => decide); (case h2 => exact rfl); (case h3 => exact rfl); (case h4 => exact rfl); (case hl => exact rfl))
  intro L h₁ tk htk F
  dsimp only
  have hw := word_len hx
  refine x_ret ?_
  refine ev_replace (by decide +kernel) (by decide) ?_
  refine ev_replace (by decide +kernel) (by decide) ?_
  refine n_loc F rfl ?_
  refine ⟨x, t, rfl, htk, by omega, fun t' k hk => ⟨_, t', rfl, hk, by omega, fun t'' k' _ => ?_⟩⟩
  exact ret _ _ _ _ F.after ⟨t'', rfl⟩
theorem does_unescape {x : Str} {t : Tok} (W : WD w p loose mg mb g) (hx : x ∈ words) :
    Does prog w (.ref 292) [.str (esc x) t] 1 8 g fun _ r => ∃ tk, r = .str x tk := by
  intro A s Q E S Rm ret
  refine wpAny_call ?_
  (refine' enterT W S ?ho ?hcd ?hroom ?hb ?hne ?hl ?_ ?h1 ?h2 ?h3 ?h4; (case ho => k_is); (case hcd => k_is); (case hroom => (have := Rm.d; omega)); (case hb => exact BindsTo.of_eq rfl); (case hne => exact Nat.zero_lt_one); (case h1 => decide); (case h2 => exact rfl); (case h3 => exact rfl); (case h4 => exact rfl); (case hl => exact rfl))
  intro L h₁ tk htk F
  dsimp only
  have hw := word_len hx
  refine x_ret ?_
  refine ev_replace (by decide +kernel) (by decide) ?_
  refine ev_replace (by decide +kernel) (by decide) ?_
  refine n_loc F rfl ?_
  refine ⟨esc x, t, rfl, htk, by omega, fun t' k hk => ⟨_, t', rfl, hk, by omega, fun t'' k' _ => ?_⟩⟩
  exact ret _ _ _ _ F.after ⟨t'', congrArg (Value.str · _) hw.2.2.2.2⟩

/-- the ways' steps -/
def tokS : PyData → Str
  | .str x => x
  | .int i => toString i
  | _ => ""
def tokOk : PyData → Bool
  | .str x => words.contains x
  | .int i => decide (0 ≤ i ∧ i < 3)
  | _ => false
theorem tok_word {d : PyData} (h : tokOk d = true) : tokS d ∈ words := by
  cases d with
  | str x => exact (show x ∈ words by simpa [tokOk] using h)
  | int i =>
    simp only [tokOk, decide_eq_true_eq] at h
    have : i = 0 ∨ i = 1 ∨ i = 2 := by omega
    rcases this with rfl | rfl | rfl <;> decide +kernel
  | _ => simp [tokOk] at h

/-- str(..) of a step -/
theorem call_strtok {v : Value} {d : PyData} {as : List Addr} {Q : Value → Shared → Prop} (hv : JR prog w g v d as) (hd : tokOk d = true) (h : ∀ t k, s.toks ≤ k → Q (.str (tokS d) t) { s with toks := k }) :
    wpAny (model prog w) A (call (.type "str") [v]) Q E s := by
  cases hv with
  | str x t => exact P.str_of_str (h t _ (Nat.le_refl _))
  | int i t =>
    simp only [tokOk, decide_eq_true_eq] at hd
    refine P.str_of_int ?_ (h _ _ (Nat.le_succ _))
    have : i = 0 ∨ i = 1 ∨ i = 2 := by omega
    rcases this with rfl | rfl | rfl <;> decide +kernel
  | _ => simp [tokOk] at hd

theorem sum_len {ys : List Str} {B : Nat} (h : ∀ y ∈ ys, y.length ≤ B) : (ys.map (·.length)).sum ≤ ys.length * B := by
  induction ys with
  | nil => simp
  | cons y r ih =>
    have h1 := h y (.head _)
    have h2 := ih fun z hz => h z (.tail _ hz)
    simp only [List.map_cons, List.sum_cons, List.length_cons, Nat.add_mul, Nat.one_mul]
    omega
theorem does_text {way : Value} {toks : List PyData} {bs : List Addr} (W : WD w p loose mg mb g) (hw : JR prog w g way (.list toks) bs) (hok : toks.all tokOk = true) (hlen : toks.length ≤ 5) :
    Does prog w (.ref 314) [way] 1 8 g fun _ r => ∃ tk, r = .str (textOf (toks.map tokS)) tk := by
  intro A s Q E S Rm ret
  refine wpAny_call ?_
  (refine' enterT W S ?ho ?hcd ?hroom ?hb ?hne ?hl ?_ ?h1 ?h2 ?h3 ?h4; (case ho => k_is); (case hcd => k_is); (case hroom => (have := Rm.d; omega)); (case hb => exact BindsTo.of_eq rfl); (case hne => exact Nat.zero_lt_one); (case h1 => decide); (case h2 => exact rfl); (case h3 => exact rfl); (case h4 => exact rfl); (case hl => exact rfl))
  intro L h₁ tk htk F
  dsimp only
  cases hw with
  | @list wa vs _ as' hl hs =>
  have hvl : vs.size = toks.length := by rw [← Array.length_toList, hs.length]
  refine x_ret ?_
  refine MethodCall_ ?_
  refine wpAny_Constant_str ?_
  refine GM.join (callWith_method1 (spliced_more ?_))
  dsimp only
  refine lc_open (cl := []) ?_ rfl (fun _ => rfl) rfl rfl
  refine n_loc F rfl ?_
  refine lc_list F S.tT Rm.h hl (by have := sizeLine_eq; omega) (fun i items _ => StrsAre items ((toks.take i).map fun d => "/" ++ esc (tokS d))) (fun _ _ _ _ x _ => x) .nil ?_ ?_ (by decide) rfl rfl
  · rintro i u items C mc g₁ h₂ tk₂ vol' E' hi hit gg hvol F₁
    obtain ⟨du, as₂, edu, ru, -⟩ := hs.at (i := i) (by simpa using hi)
    have hdu : tokOk du = true := List.all_eq_true.mp hok du (List.mem_of_getElem? edu)
    have hwd := word_len (tok_word hdu)
    have W₁ := W.keeps gg
    refine wpAny_BinOp ?_
    refine wpAny_Constant_str ?_
    dsimp only
    refine ev_replace (by decide +kernel) (by decide) ?_
    refine ev_replace (by decide +kernel) (by decide) ?_
    refine wpAny_Call_ofName (n_bi W₁ F₁.gh (by k_is) rfl (PyProof.Rows.callWith_type1 (spliced_more ?_)))
    refine n_loc F₁ upd_same ?_
    refine spliced_none ?_
    refine call_strtok (ru.keeps gg) hdu fun t3 k3 hk3 => ?_
    dsimp only at hk3
    refine ⟨tokS du, t3, rfl, by show 0 < k3; omega, by omega, fun t' k hk => ⟨_, t', rfl, hk, by omega, fun t'' k' _ => ?_⟩⟩
    dsimp only
    refine SB.add (fun t5 k5 => ?_) (by have := sizeLine_eq; have h1 := hwd.2.2.1; have h2 : (Str.ofString "/").length = 1 := rfl; unfold esc at h1; rw [h2]; omega)
    refine ⟨_, g₁, h₂, k5, rfl, F₁, fun _ _ e => e, ?_⟩
    rw [take_snoc edu, List.map_append]
    exact hit.append' (.cons _ _ .nil)
  · rintro a items g₁ g₂ h₂ tk₂ hit gg g12 F₂ hla hna hlen'
    refine spliced_none ?_
    rw [hvl, List.take_length] at hit
    refine join_list (F₂.isList hla) (by simpa using hit) ?_ fun t' k' => ?_
    · have hsum := sum_len (ys := toks.map fun d => ("/" : Str) ++ esc (tokS d)) (B := 101) (fun y hy => by
        obtain ⟨d, hd, rfl⟩ := List.mem_map.mp hy
        have h1 := (word_len (tok_word (List.all_eq_true.mp hok d hd))).2.2.1
        have h2 : (Str.ofString "/").length = 1 := rfl
        rw [size_cat, h2]; omega)
      rw [List.length_map] at hsum
      have h3 : (Str.ofString "").length = 0 := rfl
      rw [h3]
      omega
    · refine ret _ _ _ _ F₂.after ⟨t', ?_⟩
      unfold textOf
      rw [List.map_map]
      rfl
end
end Mine
end

/-! ## K8 -/
section
set_option maxRecDepth 100000
set_option maxHeartbeats 4000000
open PySem PySem.W PyProof.Rows PySem.Calls
namespace Mine

example (w : World) (h : Heap) (X : (hd.heap_39 w.params).In h) : (hd.heap_39 w.params).In h ∧ PySem.Challenge.rw_bs0014_01 = PySem.Challenge.rw_bs0014_01 := by
  k_fill
  exact ⟨X, rfl⟩

/-- documents of this law: depth, width, keys among the words, texts sound -/
def okW : Nat → PyData → Bool
  | n + 1, .list xs => decide (xs.length ≤ 3) && xs.all (okW n)
  | n + 1, .dict kvs => decide (kvs.length ≤ 3) && kvs.all fun q => isKey words q.1 && okW n q.2
  | _, .none => true
  | _, .bool _ => true
  | _, .int _ => true
  | _, .str x => PyData.strOk x
  | _, .list _ => false
  | _, .dict _ => false
  | _, .tuple _ => false
theorem words_ok : words.all PyData.strOk = true := by decide +kernel
theorem inner_words : ∀ x ∈ inner4, x ∈ words := by decide +kernel
theorem isKey_mono {ks ls : List Str} (h : ∀ x ∈ ks, x ∈ ls) {d : PyData} (e : isKey ks d = true) : isKey ls d = true := by
  cases d with
  | str x => simp only [isKey, List.contains_iff_mem] at e ⊢; exact h x e
  | _ => simp [isKey] at e
theorem okV_W : ∀ (n : Nat) (d : PyData), okV n d = true → okW n d = true := by
  intro n
  induction n with
  | zero => intro d h; cases d <;> simp_all [okV, okW]
  | succ n ih =>
    intro d h
    cases d with
    | list xs =>
      simp only [okV, okW, Bool.and_eq_true, List.all_eq_true] at h ⊢
      exact ⟨h.1, fun x hx => ih x (h.2 x hx)⟩
    | dict kvs =>
      simp only [okV, okW, Bool.and_eq_true, List.all_eq_true] at h ⊢
      exact ⟨h.1, fun x hx => ⟨isKey_mono inner_words (h.2 x hx).1, ih x.2 (h.2 x hx).2⟩⟩
    | _ => simp_all [okV, okW]
theorem okW_J : ∀ (n : Nat) (d : PyData), okW n d = true → okJ n d = true := by
  intro n
  induction n with
  | zero => intro d h; cases d <;> simp_all [okW, okJ]
  | succ n ih =>
    intro d h
    cases d with
    | list xs =>
      simp only [okW, okJ, Bool.and_eq_true, List.all_eq_true] at h ⊢
      exact ⟨h.1, fun x hx => ih x (h.2 x hx)⟩
    | dict kvs =>
      simp only [okW, okJ, Bool.and_eq_true, List.all_eq_true] at h ⊢
      exact ⟨h.1, fun x hx => ih x.2 (h.2 x hx).2⟩
    | _ => simp_all [okW, okJ]
theorem okW_S : ∀ (n : Nat) (d : PyData), okW n d = true → okS d = true := by
  intro n
  induction n with
  | zero => intro d h; cases d <;> simp_all [okW, okS]
  | succ n ih =>
    intro d h
    cases d with
    | list xs =>
      simp only [okW, okS, Bool.and_eq_true, List.all_eq_true] at h ⊢
      exact okSs_of fun x hx => ih x (h.2 x hx)
    | dict kvs =>
      simp only [okW, okS, Bool.and_eq_true, List.all_eq_true] at h ⊢
      exact okSk_of fun x hx => ⟨key_ok words_ok (h.2 x hx).1, ih x.2 (h.2 x hx).2⟩
    | _ => simp_all [okW, okS]
theorem okW_up : ∀ (n : Nat) (d : PyData), okW n d = true → okW (n + 1) d = true := by
  intro n
  induction n with
  | zero => intro d h; cases d <;> simp_all [okW]
  | succ n ih =>
    intro d h
    cases d with
    | list xs =>
      rw [okW, Bool.and_eq_true, List.all_eq_true] at h ⊢
      exact ⟨h.1, fun x hx => ih x (h.2 x hx)⟩
    | dict kvs =>
      rw [okW, Bool.and_eq_true, List.all_eq_true] at h ⊢
      refine ⟨h.1, fun x hx => ?_⟩
      have := h.2 x hx
      rw [Bool.and_eq_true] at this ⊢
      exact ⟨this.1, ih x.2 this.2⟩
    | _ => simp_all [okW]

theorem findK_mem {kvs : List (PyData × PyData)} {k : Str} {e : PyData} (h : findK kvs k = some e) : (.str k, e) ∈ kvs := by
  unfold findK at h
  obtain ⟨q, hq, rfl⟩ := Option.map_eq_some_iff.mp h
  have h1 := List.find?_some hq
  have h2 := List.mem_of_find?_eq_some hq
  obtain ⟨a, b⟩ := q
  cases a with
  | str x =>
    simp only [decide_eq_true_eq] at h1
    subst h1
    exact h2
  | _ => simp at h1
theorem at1_ok {n : Nat} {d t e : PyData} (h : okW n d = true) (e1 : at1 d t = some e) : tokOk t = true ∧ ∃ k, n = k + 1 ∧ okW k e = true := by
  cases d with
  | list xs =>
    cases n with
    | zero => simp [okW] at h
    | succ k =>
      cases t with
      | int i =>
        simp only [at1] at e1
        split at e1
        · rename_i hi
          rw [okW, Bool.and_eq_true, List.all_eq_true, decide_eq_true_eq] at h
          have hlt := (List.getElem?_eq_some_iff.mp e1).1
          exact ⟨by simp only [tokOk, decide_eq_true_eq]; omega, k, rfl, h.2 _ (List.mem_of_getElem? e1)⟩
        · cases e1
      | _ => simp [at1] at e1
  | dict kvs =>
    cases n with
    | zero => simp [okW] at h
    | succ k =>
      cases t with
      | str x =>
        simp only [at1] at e1
        rw [okW, Bool.and_eq_true, List.all_eq_true] at h
        have := h.2 _ (findK_mem e1)
        rw [Bool.and_eq_true] at this
        exact ⟨this.1, k, rfl, this.2⟩
      | _ => simp [at1] at e1
  | _ => cases t <;> simp [at1] at e1
theorem atD_ok : ∀ {ts : List PyData} {n : Nat} {d e : PyData}, okW n d = true → atD d ts = some e → ts.all tokOk = true ∧ ts.length ≤ n ∧ okW (n - ts.length) e = true
  | [], n, d, e, h, e1 => by
    simp only [atD, Option.some.injEq] at e1
    subst e1
    exact ⟨rfl, Nat.zero_le _, h⟩
  | t :: r, n, d, e, h, e1 => by
    simp only [atD] at e1
    obtain ⟨d', e2, e3⟩ := Option.bind_eq_some_iff.mp e1
    obtain ⟨h1, k, rfl, h2⟩ := at1_ok h e2
    obtain ⟨h3, h4, h5⟩ := atD_ok h2 e3
    refine ⟨by rw [List.all_cons, h1, h3]; rfl, by simp; omega, ?_⟩
    rw [show k + 1 - (t :: r).length = k - r.length by simp]
    exact h5

/-! ### lists of steps, compared -/
theorem tok_leaf {d : PyData} (h : tokOk d = true) : isList d = false ∧ isDict d = false ∧ d.canLay0 = true ∧ d.depth = 0 := by
  cases d with
  | str x =>
    simp only [tokOk, List.contains_iff_mem] at h
    exact ⟨rfl, rfl, List.all_eq_true.mp words_ok x h, by simp [PyData.depth]⟩
  | int i => exact ⟨rfl, rfl, rfl, by simp [PyData.depth]⟩
  | _ => simp [tokOk] at h
theorem tok_eqv {a b : PyData} (ha : tokOk a = true) (hb : tokOk b = true) : PyData.eqv a b = true ↔ a = b := by
  cases a with
  | str x =>
    cases b with
    | str y => simp [PyData.eqv]
    | int i => simp [PyData.eqv]
    | _ => simp [tokOk] at hb
  | int i =>
    cases b with
    | str y => simp [PyData.eqv]
    | int i => simp [PyData.eqv]
    | _ => simp [tokOk] at hb
  | _ => simp [tokOk] at ha
theorem toks_eqv : ∀ {xs ys : List PyData}, xs.all tokOk = true → ys.all tokOk = true → (PyData.eqvAll xs ys = true ↔ xs = ys)
  | [], [], _, _ => by simp [PyData.eqvAll]
  | [], _ :: _, _, _ => by simp [PyData.eqvAll]
  | _ :: _, [], _, _ => by simp [PyData.eqvAll]
  | x :: xs, y :: ys, h1, h2 => by
    simp only [List.all_cons, Bool.and_eq_true] at h1 h2
    rw [PyData.eqvAll, Bool.and_eq_true, tok_eqv h1.1 h2.1, toks_eqv h1.2 h2.2]
    simp
theorem toks_shaped {xs : List PyData} (h : xs.all tokOk = true) : SeqAt.shaped (.list xs) = true := by
  have a := canAll (l := xs) fun x hx => (tok_leaf (List.all_eq_true.mp h x hx)).2.2.1
  have b := depAll (l := xs) (N := 0) fun x hx => Nat.le_of_eq (tok_leaf (List.all_eq_true.mp h x hx)).2.2.2
  unfold SeqAt.shaped
  rw [PyData.canLay0, a, PyData.depth, decide_eq_true (by omega)]; rfl

section
variable {prog : Program} {w : World} {p : Program} {loose : List Str} {mg mb : Str → Option Value} {A : Around} {E : Value → Shared → Prop} {s : Shared} {R : Result → Shared → Prop}
  {base g₀ g h h' gh0 : Heap} {L : Addr} {m m' : Str → Option Value} {vol : List (Addr × Obj)} {T : Option Obj} {env : Env}

theorem JRs.reads_toks : ∀ {vs : List Value} {ds : List PyData} {as : List Addr}, JRs prog w g vs ds as → ds.all tokOk = true → ReadsAll g vs ds []
  | _, _, _, .nil, _ => .nil
  | _, _, _, .cons x y, h => by
    simp only [List.all_cons, Bool.and_eq_true] at h
    have hl := tok_leaf h.1
    exact .cons (x.reads hl.1 hl.2.1) (y.reads_toks h.2)
theorem JR.reads_way {v : Value} {ds : List PyData} {as : List Addr} (x : JR prog w g v (.list ds) as) (h : ds.all tokOk = true) : ∃ bs, Reads g v (.list ds) bs := by
  cases x with
  | list hl hs => obtain ⟨o, e, c, n, d⟩ := hl; exact ⟨_, .list e c d (hs.reads_toks h)⟩
/-- two ways compared -/
theorem eq_ways {u v : Value} {xs ys : List PyData} {as bs : List Addr} {Q : Value → Shared → Prop} (hu : JR prog w g u (.list xs) as) (hv : JR prog w g v (.list ys) bs) (gh : g.StaysIn s.heap) (h1 : xs.all tokOk = true) (h2 : ys.all tokOk = true)
    (hU : A.units + 64 < cLine) (h : ∀ b : Bool, (b = true ↔ xs = ys) → Q (.bool b) s) : wpAny (model prog w) A (compareOp .Eq u v) Q E s := by
  obtain ⟨cs, r1⟩ := hu.reads_way h1
  obtain ⟨ds, r2⟩ := hv.reads_way h2
  refine SeqAt.compareEq_shaped (reads_keeps gh r1) (reads_keeps gh r2) (toks_shaped h1) (toks_shaped h2) hU ?_
  rw [PyData.eqv]; exact h _ (toks_eqv h1 h2)
theorem ne_ways {u v : Value} {xs ys : List PyData} {as bs : List Addr} {Q : Value → Shared → Prop} (hu : JR prog w g u (.list xs) as) (hv : JR prog w g v (.list ys) bs) (gh : g.StaysIn s.heap) (h1 : xs.all tokOk = true) (h2 : ys.all tokOk = true)
    (hU : A.units + 64 < cLine) (h : ∀ b : Bool, (b = true ↔ xs = ys) → Q (.bool (!b)) s) : wpAny (model prog w) A (compareOp .NotEq u v) Q E s := by
  obtain ⟨cs, r1⟩ := hu.reads_way h1
  obtain ⟨ds, r2⟩ := hv.reads_way h2
  refine SeqAt.compareNe_shaped (reads_keeps gh r1) (reads_keeps gh r2) (toks_shaped h1) (toks_shaped h2) hU ?_
  rw [PyData.eqv]; exact h _ (toks_eqv h1 h2)

/-- for over the keys of a known dict -/
theorem loop_keys {d ep : Addr} {kvs : List (Str × Value)} {x : Str} {px : Pos} {body : List Stmt} {R : Result → Shared → Prop} (F : Fm base g₀ L m vol T g s.heap) (tT : T ≠ none) (hh : A.handled = none)
    (hd0 : g.DictAt (PySem.strKind prog w) d kvs ep) (hdm : (d == sysModules) = false)
    (J : Nat → (Str → Option Value) → Heap → Prop) (h0 : J 0 m g)
    (turn : ∀ (i : Nat) (kv : Str × Value) (t : Tok) (m₁ : Str → Option Value) (g₁ h₁ : Heap) (tk : Nat) (own : List (Addr × Obj)) (E' : Value → Shared → Prop), kvs[i]? = some kv → J i m₁ g₁ → g.StaysIn g₁ →
      Fm base g₀ L (upd x (.str kv.1 t) m₁) (own ++ vol) T g₁ h₁ →
      wpAny (model prog w) A (execs body env) (fun f s₂ => match f with
        | .next | .cont => ∃ m₂ g₂ h₂ tk₂, s₂ = { s with heap := h₂, toks := tk₂ } ∧ Fm base g₀ L m₂ (own ++ vol) T g₂ h₂ ∧ g₁.StaysIn g₂ ∧ J (i + 1) m₂ g₂
        | .brk => False
        | .ret v => R (.ok (.ret v)) s₂) E' { s with heap := h₁, toks := tk })
    (done : ∀ m₁ g₁ h₁ tk, J kvs.length m₁ g₁ → g.StaysIn g₁ → Fm base g₀ L m₁ vol T g₁ h₁ → R (.ok .next) { s with heap := h₁, toks := tk })
    (Jm : ∀ i m₁ g₁ g₂, J i m₁ g₁ → g₁.StaysIn g₂ → J i m₁ g₂)
    (hL : env.locals = L := by rfl) (hk : env.scope.kind = .function := by rfl) (hx : env.kindOf x = some .local := by rfl) :
    wpAny (model prog w) A (pyIter (.ref d)) (fun it s₂ => codeAny (model prog w) A (.forLoop (.Name x px) it body [] env) R s₂) E s := by
  refine wpAny_pyIter_dict hdm (dictAt_keeps F.gh hd0) ?_
  refine loop_for (s := { s with heap := s.heap.push _ }) (own := [(s.heap.objs.size, _)]) (drive_keys hh hd0 hk hx) (F.pushVol _) ⟨_, rfl, rfl, rfl⟩ tT J h0 ?_ ?_ hL
  · rintro i m₁ m₁' g₁ g₁' h₁ tk own' E' hi hJ gg g11 ⟨kv, t, hkv, rfl⟩ F'
    exact turn i kv t m₁ g₁' h₁ tk own' E' hkv (Jm _ _ _ _ hJ g11) (fun b o e => g11 b o (gg b o e)) F'
  · exact done
/-- for over enumerate of a known list -/
theorem loop_enum {e it l : Addr} {vs : Array Value} {o : Obj} {xk xv : Str} {pk pv pt : Pos} {x1 : Nat} {body : List Stmt} {R : Result → Shared → Prop}
    (F : Fm base g₀ L m ((e, ({ cls := .type "enumerate", dict := none, data := .fields #[.none, .bool false, .ref it, rawInt 0, .none, .none], slots := #[] } : Obj)) :: (it, o) :: vol) T g s.heap) (hoc : o.cls = .type "list_iterator") (hod : o.data = .fields #[.ref l, .int 0 0])
    (tT : T ≠ none) (hh : A.handled = none) (hl : g.IsList l vs)
    (J : Nat → (Str → Option Value) → Heap → Prop) (h0 : J 0 m g)
    (turn : ∀ (i : Nat) (v : Value) (t : Tok) (m₁ : Str → Option Value) (g₁ h₁ : Heap) (tk : Nat) (own : List (Addr × Obj)) (E' : Value → Shared → Prop), vs[i]? = some v → J i m₁ g₁ → g.StaysIn g₁ →
      Fm base g₀ L (upd xv v (upd xk (.int i t) m₁)) (own ++ vol) T g₁ h₁ →
      wpAny (model prog w) A (execs body env) (fun f s₂ => match f with
        | .next | .cont => ∃ m₂ g₂ h₂ tk₂, s₂ = { s with heap := h₂, toks := tk₂ } ∧ Fm base g₀ L m₂ (own ++ vol) T g₂ h₂ ∧ g₁.StaysIn g₂ ∧ J (i + 1) m₂ g₂
        | .brk => False
        | .ret v => R (.ok (.ret v)) s₂) E' { s with heap := h₁, toks := tk })
    (done : ∀ m₁ g₁ h₁ tk, J vs.size m₁ g₁ → g.StaysIn g₁ → Fm base g₀ L m₁ vol T g₁ h₁ → R (.ok .next) { s with heap := h₁, toks := tk })
    (Jm : ∀ i m₁ g₁ g₂, J i m₁ g₁ → g₁.StaysIn g₂ → J i m₁ g₂)
    (hL : env.locals = L := by rfl) (hk : env.scope.kind = .function := by rfl) (hxk : env.kindOf xk = some .local := by rfl) (hxv : env.kindOf xv = some .local := by rfl) :
    wpAny (model prog w) A (pyIter (.ref e)) (fun it s₂ => codeAny (model prog w) A (.forLoop (.Tuple [.Name xk pk, .Name xv pv] x1 pt) it body [] env) R s₂) E s := by
  have D : Drive prog w A env (.Tuple [.Name xk pk, .Name xv pv] x1 pt) e vs.size g (ObEnum e it l) _ := drive_enum hh hl hk hxk hxv
  have ho : ObEnum e it l 0 [(e, ({ cls := .type "enumerate", dict := none, data := .fields #[.none, .bool false, .ref it, rawInt 0, .none, .none], slots := #[] } : Obj)), (it, o)] := ⟨o, .none, rfl, hoc, hod⟩
  refine D.self ho F ?_
  refine loop_for D F ho tT J h0 ?_ ?_ hL
  · rintro i m₁ m₁' g₁ g₁' h₁ tk own' E' hi hJ gg g11 ⟨v, t, hv, rfl⟩ F'
    exact turn i v t m₁ g₁' h₁ tk own' E' hv (Jm _ _ _ _ hJ g11) (fun b o e => g11 b o (gg b o e)) F'
  · exact done
end
end Mine
end

/-! ## K9 -/
section
set_option maxRecDepth 100000
set_option maxHeartbeats 4000000
open PySem PySem.W PyProof.Rows PySem.Calls
namespace Mine

example (w : World) (h : Heap) (X : (hd.heap_39 w.params).In h) : (hd.heap_39 w.params).In h ∧ PySem.Challenge.rw_bs0014_01 = PySem.Challenge.rw_bs0014_01 := by
  k_fill
  exact ⟨X, rfl⟩

section
variable {prog : Program} {w : World} {p : Program} {loose : List Str} {mg mb : Str → Option Value} {A : Around} {E : Value → Shared → Prop} {s : Shared} {R : Result → Shared → Prop}
  {base g₀ g h h' gh0 : Heap} {L : Addr} {m m' : Str → Option Value} {vol : List (Addr × Obj)} {T : Option Obj} {env : Env}

/-- the rows told so far -/
structure Rows (prog : Program) (w : World) (g : Heap) (r : Value) (d : PyData) (pre : List PyData) (N : Nat) (ps : List (List PyData)) : Prop where
  at_ : ∃ a rs as, r = .ref a ∧ g.IsList a rs.toArray ∧ JRs prog w g rs (ps.map .list) as
  ok : ∀ p ∈ ps, ∃ q e, p = pre ++ q ∧ atD d q = some e
  ne : ∀ p ∈ ps, p ≠ []
  le : ps.length ≤ N
theorem Rows.keeps {g g' : Heap} {r : Value} {d : PyData} {pre : List PyData} {N : Nat} {ps : List (List PyData)} (x : Rows prog w g r d pre N ps) (k : g.StaysIn g') : Rows prog w g' r d pre N ps :=
  ⟨let ⟨a, rs, as, e, l, j⟩ := x.at_; ⟨a, rs, as, e, isList_keeps k l, j.keeps k⟩, x.ok, x.ne, x.le⟩
def bound : Nat → Nat
  | 0 => 1
  | n + 1 => 1 + 3 * bound n
theorem bound_le {k : Nat} (h : k ≤ 4) : bound k ≤ 1000 := by
  have : k = 0 ∨ k = 1 ∨ k = 2 ∨ k = 3 ∨ k = 4 := by omega
  rcases this with rfl | rfl | rfl | rfl | rfl <;> decide
theorem JRs.app : ∀ {vs us : List Value} {ds es : List PyData} {as bs : List Addr}, JRs prog w g vs ds as → JRs prog w g us es bs → ∃ cs, JRs prog w g (vs ++ us) (ds ++ es) cs
  | _, _, _, _, _, _, .nil, y => ⟨_, y⟩
  | _, _, _, _, _, _, .cons x xs, y => let ⟨_, z⟩ := xs.app y; ⟨_, .cons x z⟩

theorem does_places : ∀ (n : Nat) {g : Heap} {v way : Value} {d : PyData} {pre : List PyData} {as bs : List Addr}, WD w p loose mg mb g → JR prog w g v d as → okW n d = true → JR prog w g way (.list pre) bs → pre.all tokOk = true → n ≤ 5 → pre.length + n ≤ 8 →
    Does prog w (.ref 321) [v, way] (n + 2) (4 * n + 80) g fun g' r => ∃ ps, Rows prog w g' r d pre (bound n) ps ∧ (pre ≠ [] → ps ≠ []) ∧ ((∃ t e, at1 d t = some e) → ps ≠ []) := by
  intro n
  induction n using Nat.strongRecOn with
  | _ n ih =>
  intro g v way d pre as bs W hv hok hw hpre hn5 hn8 A s Q E S Rm ret
  refine wpAny_call ?_
  (refine' enter W S ?ho ?hcd ?hroom ?hb ?hl ?_ ?h1 ?h2 ?h3 ?h4; (case ho => k_is); (case hcd => k_is); (case hroom => (have := Rm.d; omega)); (case hb => exact BindsTo.of_eq rfl); (case h1 => decide); (case h2 => exact rfl); (case h3 => exact rfl); (case h4 => exact rfl); (case hl => exact rfl))
  intro L h₁ tk F
  dsimp only
  obtain ⟨m0, F, mv, mw⟩ : ∃ m0, Fm s.heap g L m0 [] (s.heap.get? TAB) g h₁ ∧ m0 (Str.ofString "value") = some v ∧ m0 (Str.ofString "way") = some way := ⟨_, F, rfl, rfl⟩
  have hU : A.units + 3 + 64 < cLine := by have := Rm.u; omega
  refine wpAny_execs_cons ?_
  refine wpAny_Assign_Name ?_
  refine wpAny_mono (Q := fun r s' => ∃ g₂ h₂ tk₂ ps, s' = ({ s with heap := h₂, toks := tk₂ } : Shared) ∧ Fm s.heap g L m0 [] (s.heap.get? TAB) g₂ h₂ ∧ g.StaysIn g₂ ∧ Rows prog w g₂ r d pre 1 ps ∧ (pre ≠ [] → ps ≠ [])) ?_ (fun r s' q => ?_) fun _ _ x => x
  · refine wpAny_IfExp ?_
    refine wpAny_isTrue_Compare1 ?_
    refine n_loc F mw ?_
    refine wpAny_List (spliced_none ⟨Nat.zero_le _, ?_⟩)
    obtain ⟨g₁, F₁, gg1, e1, -, -⟩ := F.push S.tT ({ cls := .type "list", data := .seq ([] : List Value).toArray } : Obj)
    refine ne_ways (hw.keeps gg1) (JR.list ⟨_, e1, rfl, _, rfl⟩ .nil) F₁.gh hpre rfl hU fun b hb => ?_
    refine wpAny_truthy_bool ?_
    dsimp only
    cases b with
    | true =>
      refine wpAny_List (spliced_none ⟨Nat.zero_le _, ?_⟩)
      obtain ⟨g₂, F₂, gg2, e2, -, -⟩ := F₁.push S.tT ({ cls := .type "list", data := .seq ([] : List Value).toArray } : Obj)
      exact ⟨g₂, _, _, [], rfl, F₂, fun b o e => gg2 b o (gg1 b o e), ⟨⟨_, [], [], rfl, ⟨_, e2, rfl, _, rfl⟩, .nil⟩, fun _ h => (nomatch h), fun _ h => (nomatch h), Nat.zero_le _⟩, fun hne => absurd (hb.mp rfl) hne⟩
    | false =>
      have hne : pre ≠ [] := fun e => by have := hb.mpr e; cases this
      refine wpAny_List (spliced_more (n_loc F₁ mw (spliced_none ⟨by have := sizeLine_eq; simp; omega, ?_⟩)))
      obtain ⟨g₂, F₂, gg2, e2, -, -⟩ := F₁.push S.tT ({ cls := .type "list", data := .seq [way].toArray } : Obj)
      refine ⟨g₂, _, _, [pre], rfl, F₂, fun b o e => gg2 b o (gg1 b o e), ⟨⟨_, [way], _, rfl, ⟨_, e2, rfl, _, rfl⟩, .cons (hw.keeps fun b o e => gg2 b o (gg1 b o e)) .nil⟩, ?_, ?_, Nat.le_refl _⟩, fun _ => by simp⟩
      · intro q hq
        simp only [List.mem_singleton] at hq
        subst hq
        exact ⟨[], d, by simp, rfl⟩
      · intro q hq
        simp only [List.mem_singleton] at hq
        subst hq
        exact hne
  obtain ⟨g₂, h₂, tk₂, ps₀, rfl, F₂, gg2, hrow, hps⟩ := q
  refine s_loc F₂ fun h₃ F₃ => ?_
  dsimp only
  have W₂ := W.keeps gg2
  -- the dict's part
  have hdict : isDict d = true → d = d := fun _ => rfl
  refine wpAny_execs_cons ?_
  refine wpAny_If ?_
  refine t_isi_dict W₂ F₃.gh (gv_loc F₃ (v := v) (by rw [if_neg (by decide)]; exact mv)) (hv.keeps gg2) fun tk₃ => ?_
  dsimp only
  cases hd : isDict d with
  | true =>
    cases hv with
    | @dict l kvs ep ds as hm hda ek hs =>
    obtain ⟨k, rfl⟩ : ∃ k, n = k + 1 := by cases n with | zero => simp [okW] at hok | succ k => exact ⟨k, rfl⟩
    rw [if_pos rfl]
    refine wpAny_execs_cons ?_
    refine wpAny_For ?_
    refine n_loc F₃ (v := .ref l) (by rw [if_neg (by decide)]; exact mv) ?_
    refine loop_keys F₃ S.tT Rm.h (dictAt_keeps gg2 hda) hm (fun i m₁ g₃ => ∃ ra ps, m₁ (Str.ofString "rows") = some ra ∧ m₁ (Str.ofString "value") = some (.ref l) ∧ m₁ (Str.ofString "way") = some way ∧ Rows prog w g₃ ra (.dict ds) pre (1 + i * bound k) ps ∧ (pre ≠ [] → ps ≠ []) ∧ (0 < i → ps ≠ [])) ⟨r, ps₀, if_pos rfl, by rw [if_neg (by decide)]; exact mv, by rw [if_neg (by decide)]; exact mw, ⟨hrow.at_, hrow.ok, hrow.ne, by have := hrow.le; omega⟩, hps, fun z => absurd z (by decide)⟩ ?_ ?_ (fun i m₁ g₁ g₂ ⟨ra, ps, a, b, c, d, e, f⟩ gg => ⟨ra, ps, a, b, c, d.keeps gg, e, f⟩)
    · rintro i kv t m₁ g₃ h₄ tk₄ own E' hi ⟨ra, ps, m1, m2, m3, hr, hp1, hp2⟩ gg F₄
      have W₄ := W₂.keeps gg
      obtain ⟨q, hq, hqk⟩ := key_at ek hi
      have hnd : (kvs.map (·.1)).Nodup := let ⟨_, _, _, _, _, _, _, x⟩ := hda; x
      have hlen := dict_keys ek
      have hi' : i < kvs.length := (List.getElem?_eq_some_iff.mp hi).1
      have hok' := hok
      rw [okW, Bool.and_eq_true, List.all_eq_true, decide_eq_true_eq] at hok'
      have hqe : at1 (.dict ds) (.str kv.1) = some q.2 := at1_key ek hnd hq hqk
      have hkw : tokOk (.str kv.1) = true := (at1_ok hok hqe).1
      obtain ⟨a0, rs0, as0, rfl, hl0, hj0⟩ := hr.at_
      have hrl : rs0.length = ps.length := by rw [hj0.length, List.length_map]
      have hple := hr.le
      have hbk : bound k ≤ 1000 := bound_le (by omega)
      refine wpAny_execs_cons ?_
      refine wpAny_Assign_Name ?_
      refine wpAny_BinOp ?_
      refine n_loc F₄ (v := .ref a0) (by rw [upd_ne (by decide)]; exact m1) ?_
      refine wpAny_Call_ofName (n_glob W₄ F₄.gh (by k_is) (callWith_K W₄.k (by k_is) (spliced_more ?_)))
      refine Subscript_ ?_
      refine n_loc F₄ (v := .ref l) (by rw [upd_ne (by decide)]; exact m2) ?_
      refine n_loc F₄ upd_same ?_
      refine getItem_J (JR.dict hm (dictAt_keeps gg (dictAt_keeps gg2 hda)) ek (hs.keeps fun b o e => gg b o (gg2 b o e))) F₄.gh (JR.str kv.1 t) hqe fun u as₃ tk₅ ru hsub => ?_
      dsimp only
      refine spliced_more ?_
      refine wpAny_BinOp ?_
      refine n_loc F₄ (v := way) (by rw [upd_ne (by decide)]; exact m3) ?_
      refine wpAny_List (spliced_more (n_loc F₄ upd_same (spliced_none ⟨by have := sizeLine_eq; simp; omega, ?_⟩)))
      obtain ⟨g₅, F₅, gg5, e5, -, -⟩ := F₄.push S.tT ({ cls := .type "list", data := .seq [Value.str kv.1 t].toArray } : Obj)
      have hw5 := hw.keeps (h' := g₅) fun b o e => gg5 b o (gg b o (gg2 b o e))
      cases hw5 with
      | @list wa ws _ bs' hwl hws =>
      have hwlen : ws.size = pre.length := by rw [← Array.length_toList, hws.length]
      refine add_L (vs := ws.toList) F₅ S.tT (by simpa using hwl) ⟨_, e5, rfl, _, rfl⟩ (by have := sizeLine_eq; simp; omega) fun g₆ h₆ a6 F₆ gg6 hl6 hn6 => ?_
      dsimp only
      refine spliced_none ⟨((((W₄.keeps gg5).keeps gg6)).keeps F₆.gh).k, ?_⟩
      have g46 : g₃.StaysIn g₆ := fun b o e => gg6 b o (gg5 b o e)
      have hwn : ∃ cs, JR prog w g₆ (.ref a6) (.list (pre ++ [.str kv.1])) cs := by
        obtain ⟨cs, hc⟩ := (hws.keeps gg6).app (us := [Value.str kv.1 t]) (es := [PyData.str kv.1]) (.cons (.str kv.1 t) .nil)
        exact ⟨_, .list hl6 (by simpa using hc)⟩
      obtain ⟨cs, hwn⟩ := hwn
      have hoke : okW k q.2 = true := by
        have := (at1_ok hok hqe).2
        obtain ⟨k', e1, e2⟩ := this
        have : k' = k := by omega
        rw [← this]; exact e2
      have R1 : ∀ env, Room (A.deeper env) (k + 2) (4 * k + 80) := fun env => (Rm.le (dn' := k + 2 + 1) (un' := 4 * k + 80 + 3) (by omega) (by omega)).deeper env
      refine (ih k (by omega) ((W₄.keeps gg5).keeps gg6) (ru.keeps g46) hoke hwn (by rw [List.all_append, hpre]; simpa using hkw) (by omega) (by simp; omega)).use F₆ S.tT (R1 _) fun r7 g₇ h₇ tk₇ F₇ gg7 ⟨ps7, hr7, hp7, hp8⟩ => ?_
      obtain ⟨a7, rs7, as7, rfl, hl7, hj7⟩ := hr7.at_
      have hrl7 : rs7.length = ps7.length := by rw [hj7.length, List.length_map]
      have hple7 := hr7.le
      have hib : i * bound k ≤ 3 * 1000 := Nat.mul_le_mul (by omega) hbk
      refine add_L F₇ S.tT (isList_keeps (fun b o e => gg7 b o (g46 b o e)) hl0) hl7 (by have := sizeLine_eq; omega) fun g₈ h₈ a8 F₈ gg8 hl8 hn8' => ?_
      refine s_loc F₈ fun h₉ F₉ => ?_
      dsimp only
      refine wpAny_execs_nil ?_
      have g48 : g₃.StaysIn g₈ := fun b o e => gg8 b o (gg7 b o (g46 b o e))
      obtain ⟨cs8, hj8⟩ := (hj0.keeps g48).app (hj7.keeps gg8)
      refine ⟨_, g₈, h₉, _, rfl, F₉, g48, .ref a8, ps ++ ps7, if_pos rfl, by rw [if_neg (by decide), upd_ne (by decide)]; exact m2, by rw [if_neg (by decide), upd_ne (by decide)]; exact m3, ⟨⟨a8, _, cs8, rfl, hl8, by rw [List.map_append]; exact hj8⟩, ?_, ?_, ?_⟩, ?_, ?_⟩
      · intro x hx
        rcases List.mem_append.mp hx with hx | hx
        · exact hr.ok x hx
        · obtain ⟨y, e, rfl, he⟩ := hr7.ok x hx
          exact ⟨.str kv.1 :: y, e, by simp, by rw [atD, hqe]; exact he⟩
      · intro x hx
        rcases List.mem_append.mp hx with hx | hx
        · exact hr.ne x hx
        · exact hr7.ne x hx
      · rw [List.length_append, Nat.add_mul]; omega
      · intro hne e; exact hp1 hne (List.append_eq_nil_iff.mp e).1
      · intro _ e; exact hp7 (by simp) (List.append_eq_nil_iff.mp e).2
    · rintro m₁ g₃ h₄ tk₄ ⟨ra, ps, m1, m2, m3, hr, hp1, hp2⟩ gg F₄
      dsimp only
      have W₄ := W₂.keeps gg
      have hlen := dict_keys ek
      have hok' := hok
      rw [okW, Bool.and_eq_true, List.all_eq_true, decide_eq_true_eq] at hok'
      refine wpAny_execs_nil ?_
      dsimp only
      refine wpAny_execs_cons ?_
      refine wpAny_If ?_
      refine t_isi_list W₄ F₄.gh (gv_loc F₄ (v := .ref l) m2) (JR.dict hm (dictAt_keeps gg (dictAt_keeps gg2 hda)) ek (hs.keeps fun b o e => gg b o (gg2 b o e))) fun tk₅ => ?_
      dsimp only [isList]
      rw [if_neg (by decide)]
      refine wpAny_execs_nil ?_
      dsimp only
      refine x_ret ?_
      refine n_loc F₄ m1 ?_
      refine ret _ _ _ _ F₄.after ⟨ps, ⟨hr.at_, hr.ok, hr.ne, ?_⟩, hp1, ?_⟩
      · have h1 := hr.le
        have h2 : kvs.length * bound k ≤ 3 * bound k := Nat.mul_le_mul_right _ (by omega)
        show ps.length ≤ 1 + 3 * bound k
        omega
      · rintro ⟨t, e, hte⟩
        refine hp2 ?_
        rw [hlen]
        cases ds with
        | nil => cases t <;> simp [at1, findK] at hte
        | cons _ _ => simp
    | _ => simp [isDict] at hd
  | false =>
  rw [if_neg (by decide)]
  refine wpAny_execs_nil ?_
  dsimp only
  refine wpAny_execs_cons ?_
  refine wpAny_If ?_
  refine t_isi_list W₂ F₃.gh (gv_loc F₃ (v := v) (by rw [if_neg (by decide)]; exact mv)) (hv.keeps gg2) fun tk₄ => ?_
  dsimp only
  cases hli : isList d with
  | false =>
    rw [if_neg (by decide)]
    refine wpAny_execs_nil ?_
    dsimp only
    refine x_ret ?_
    refine n_loc F₃ (if_pos rfl) ?_
    have hb1 : 1 ≤ bound n := by cases n <;> simp [bound]
    refine ret _ _ _ _ F₃.after ⟨ps₀, ⟨hrow.at_, hrow.ok, hrow.ne, Nat.le_trans hrow.le hb1⟩, hps, ?_⟩
    rintro ⟨t, e, hte⟩
    cases d <;> first | (simp [isList] at hli; done) | (simp [isDict] at hd; done) | (cases t <;> simp [at1] at hte)
  | true =>
    cases hv with
    | @list l vs xs as' hla hs =>
    obtain ⟨k, rfl⟩ : ∃ k, n = k + 1 := by cases n with | zero => simp [okW] at hok | succ k => exact ⟨k, rfl⟩
    have hlen : vs.size = xs.length := by rw [← Array.length_toList, hs.length]
    have hok' := hok
    rw [okW, Bool.and_eq_true, List.all_eq_true, decide_eq_true_eq] at hok'
    rw [if_pos rfl]
    refine wpAny_execs_cons ?_
    refine wpAny_For ?_
    refine wpAny_Call_ofName (n_bi W₂ F₃.gh (by k_is) rfl (PyProof.Rows.callWith_type1 (spliced_more ?_)))
    refine n_loc F₃ (v := .ref l) (by rw [if_neg (by decide)]; exact mv) ?_
    refine spliced_none ?_
    refine call_enum F₃ S.tT (isList_keeps gg2 hla) fun h₅ ⟨oi, F₅, hoc, hod⟩ => ?_
    dsimp only
    refine loop_enum F₅ hoc hod S.tT Rm.h (isList_keeps gg2 hla) (fun i m₁ g₃ => ∃ ra ps, m₁ (Str.ofString "rows") = some ra ∧ m₁ (Str.ofString "value") = some (.ref l) ∧ m₁ (Str.ofString "way") = some way ∧ Rows prog w g₃ ra (.list xs) pre (1 + i * bound k) ps ∧ (pre ≠ [] → ps ≠ []) ∧ (0 < i → ps ≠ [])) ⟨r, ps₀, if_pos rfl, by rw [if_neg (by decide)]; exact mv, by rw [if_neg (by decide)]; exact mw, ⟨hrow.at_, hrow.ok, hrow.ne, by have := hrow.le; omega⟩, hps, fun z => absurd z (by decide)⟩ ?_ ?_ (fun i m₁ g₁ g₂ ⟨ra, ps, a, b, c, d, e, f⟩ gg => ⟨ra, ps, a, b, c, d.keeps gg, e, f⟩)
    · rintro i u t m₁ g₃ h₄ tk₄ own E' hi ⟨ra, ps, m1, m2, m3, hr, hp1, hp2⟩ gg F₄
      have W₄ := W₂.keeps gg
      have hi' : i < xs.length := by rw [← hlen]; exact (Array.getElem?_eq_some_iff.mp hi).1
      obtain ⟨du, as₂, edu, ru, -⟩ := hs.at (i := i) (v := u) (by simpa using hi)
      have hqe : at1 (.list xs) (.int (i : Int)) = some du := by
        simp only [at1]
        rw [if_pos (by omega)]
        simpa using edu
      have hkw : tokOk (.int (i : Int)) = true := (at1_ok hok hqe).1
      obtain ⟨a0, rs0, as0, rfl, hl0, hj0⟩ := hr.at_
      have hrl : rs0.length = ps.length := by rw [hj0.length, List.length_map]
      have hple := hr.le
      have hbk : bound k ≤ 1000 := bound_le (by omega)
      refine wpAny_execs_cons ?_
      refine wpAny_Assign_Name ?_
      refine wpAny_BinOp ?_
      refine n_loc F₄ (v := .ref a0) (by rw [upd_ne (by decide), upd_ne (by decide)]; exact m1) ?_
      refine wpAny_Call_ofName (n_glob W₄ F₄.gh (by k_is) (callWith_K W₄.k (by k_is) (spliced_more ?_)))
      refine n_loc F₄ upd_same ?_
      refine spliced_more ?_
      refine wpAny_BinOp ?_
      refine n_loc F₄ (v := way) (by rw [upd_ne (by decide), upd_ne (by decide)]; exact m3) ?_
      refine wpAny_List (spliced_more (n_loc F₄ (v := .int i t) (by rw [upd_ne (by decide)]; exact upd_same) (spliced_none ⟨by have := sizeLine_eq; simp; omega, ?_⟩)))
      obtain ⟨g₅, F₅, gg5, e5, -, -⟩ := F₄.push S.tT ({ cls := .type "list", data := .seq [Value.int i t].toArray } : Obj)
      have hw5 := hw.keeps (h' := g₅) fun b o e => gg5 b o (gg b o (gg2 b o e))
      cases hw5 with
      | @list wa ws _ bs' hwl hws =>
      have hwlen : ws.size = pre.length := by rw [← Array.length_toList, hws.length]
      refine add_L (vs := ws.toList) F₅ S.tT (by simpa using hwl) ⟨_, e5, rfl, _, rfl⟩ (by have := sizeLine_eq; simp; omega) fun g₆ h₆ a6 F₆ gg6 hl6 hn6 => ?_
      dsimp only
      refine spliced_none ⟨((((W₄.keeps gg5).keeps gg6)).keeps F₆.gh).k, ?_⟩
      have g46 : g₃.StaysIn g₆ := fun b o e => gg6 b o (gg5 b o e)
      have hwn : ∃ cs, JR prog w g₆ (.ref a6) (.list (pre ++ [.int i])) cs := by
        obtain ⟨cs, hc⟩ := (hws.keeps gg6).app (us := [Value.int i t]) (es := [PyData.int i]) (.cons (.int i t) .nil)
        exact ⟨_, .list hl6 (by simpa using hc)⟩
      obtain ⟨cs, hwn⟩ := hwn
      have hoke : okW k du = true := by
        have := (at1_ok hok hqe).2
        obtain ⟨k', e1, e2⟩ := this
        have : k' = k := by omega
        rw [← this]; exact e2
      have R1 : ∀ env, Room (A.deeper env) (k + 2) (4 * k + 80) := fun env => (Rm.le (dn' := k + 2 + 1) (un' := 4 * k + 80 + 3) (by omega) (by omega)).deeper env
      refine (ih k (by omega) ((W₄.keeps gg5).keeps gg6) (ru.keeps fun b o e => g46 b o (gg b o (gg2 b o e))) hoke hwn (by rw [List.all_append, hpre]; simpa using hkw) (by omega) (by simp; omega)).use F₆ S.tT (R1 _) fun r7 g₇ h₇ tk₇ F₇ gg7 ⟨ps7, hr7, hp7, hp8⟩ => ?_
      obtain ⟨a7, rs7, as7, rfl, hl7, hj7⟩ := hr7.at_
      have hrl7 : rs7.length = ps7.length := by rw [hj7.length, List.length_map]
      have hple7 := hr7.le
      have hib : i * bound k ≤ 3 * 1000 := Nat.mul_le_mul (by omega) hbk
      refine add_L F₇ S.tT (isList_keeps (fun b o e => gg7 b o (g46 b o e)) hl0) hl7 (by have := sizeLine_eq; omega) fun g₈ h₈ a8 F₈ gg8 hl8 hn8' => ?_
      refine s_loc F₈ fun h₉ F₉ => ?_
      dsimp only
      refine wpAny_execs_nil ?_
      have g48 : g₃.StaysIn g₈ := fun b o e => gg8 b o (gg7 b o (g46 b o e))
      obtain ⟨cs8, hj8⟩ := (hj0.keeps g48).app (hj7.keeps gg8)
      refine ⟨_, g₈, h₉, _, rfl, F₉, g48, .ref a8, ps ++ ps7, if_pos rfl, by rw [if_neg (by decide), upd_ne (by decide), upd_ne (by decide)]; exact m2, by rw [if_neg (by decide), upd_ne (by decide), upd_ne (by decide)]; exact m3, ⟨⟨a8, _, cs8, rfl, hl8, by rw [List.map_append]; exact hj8⟩, ?_, ?_, ?_⟩, ?_, ?_⟩
      · intro x hx
        rcases List.mem_append.mp hx with hx | hx
        · exact hr.ok x hx
        · obtain ⟨y, e, rfl, he⟩ := hr7.ok x hx
          exact ⟨.int i :: y, e, by simp, by rw [atD, hqe]; exact he⟩
      · intro x hx
        rcases List.mem_append.mp hx with hx | hx
        · exact hr.ne x hx
        · exact hr7.ne x hx
      · rw [List.length_append, Nat.add_mul]; omega
      · intro hne e; exact hp1 hne (List.append_eq_nil_iff.mp e).1
      · intro _ e; exact hp7 (by simp) (List.append_eq_nil_iff.mp e).2
    · rintro m₁ g₃ h₄ tk₄ ⟨ra, ps, m1, m2, m3, hr, hp1, hp2⟩ gg F₄
      dsimp only
      refine wpAny_execs_nil ?_
      dsimp only
      refine x_ret ?_
      refine n_loc F₄ m1 ?_
      refine ret _ _ _ _ F₄.after ⟨ps, ⟨hr.at_, hr.ok, hr.ne, ?_⟩, hp1, ?_⟩
      · have h1 := hr.le
        have h2 : vs.size * bound k ≤ 3 * bound k := Nat.mul_le_mul_right _ (by omega)
        show ps.length ≤ 1 + 3 * bound k
        omega
      · rintro ⟨t, e, hte⟩
        refine hp2 ?_
        rw [hlen]
        cases xs with
        | nil => cases t <;> simp [at1] at hte
        | cons _ _ => simp
    | _ => simp [isList] at hli
end
end Mine
end

/-! ## KA -/
section
set_option maxRecDepth 100000
set_option maxHeartbeats 4000000
open PySem PySem.W PyProof.Rows PySem.Calls
namespace Mine

example (w : World) (h : Heap) (X : (hd.heap_39 w.params).In h) : (hd.heap_39 w.params).In h ∧ PySem.Challenge.rw_bs0014_01 = PySem.Challenge.rw_bs0014_01 := by
  k_fill
  exact ⟨X, rfl⟩

def isK (k : Str) : PyData → Bool | .str x => decide (x = k) | _ => false
def subK (k : Str) (e : PyData) (q : PyData × PyData) : PyData × PyData := if isK k q.1 then (q.1, e) else q
/-- one place of a document set anew -/
def put1 : PyData → PyData → PyData → PyData
  | .list xs, .int i, e => .list (xs.set i.toNat e)
  | .dict kvs, .str k, e => .dict (kvs.map (subK k e))
  | d, _, _ => d
def ed : PyData → List PyData → PyData → PyData
  | _, [], f => f
  | d, t :: r, f => put1 d t (ed ((at1 d t).getD .none) r f)

section
variable {prog : Program} {w : World} {p : Program} {loose : List Str} {mg mb : Str → Option Value} {A : Around} {E : Value → Shared → Prop} {s : Shared} {R : Result → Shared → Prop}
  {base g₀ g h h' gh0 : Heap} {L : Addr} {m m' : Str → Option Value} {vol : List (Addr × Obj)} {T : Option Obj} {env : Env}

theorem JR.reads_tok {v : Value} {d : PyData} {as : List Addr} (x : JR prog w g v d as) (h : tokOk d = true) : Reads g v d [] := x.reads (tok_leaf h).1 (tok_leaf h).2.1
theorem tok_shaped {d : PyData} (h : tokOk d = true) : SeqAt.shaped d = true := by
  have := tok_leaf h
  unfold SeqAt.shaped
  rw [this.2.2.1, this.2.2.2]; rfl
theorem eq_toks {u v : Value} {x y : PyData} {as bs : List Addr} {Q : Value → Shared → Prop} (hu : JR prog w g u x as) (hv : JR prog w g v y bs) (gh : g.StaysIn s.heap) (h1 : tokOk x = true) (h2 : tokOk y = true)
    (hU : A.units + 64 < cLine) (h : ∀ b : Bool, (b = true ↔ x = y) → Q (.bool b) s) : wpAny (model prog w) A (compareOp .Eq u v) Q E s :=
  SeqAt.compareEq_shaped (reads_keeps gh (hu.reads_tok h1)) (reads_keeps gh (hv.reads_tok h2)) (tok_shaped h1) (tok_shaped h2) hU (h _ (tok_eqv h1 h2))
theorem JRs.split : ∀ {vs : List Value} {ds : List PyData} {as : List Addr}, JRs prog w g vs ds as → ∀ k, (∃ bs, JRs prog w g (vs.take k) (ds.take k) bs) ∧ ∃ cs, JRs prog w g (vs.drop k) (ds.drop k) cs
  | _, _, _, .nil, k => by rw [List.take_nil, List.take_nil, List.drop_nil, List.drop_nil]; exact ⟨⟨_, .nil⟩, ⟨_, .nil⟩⟩
  | _, _, _, .cons x y, 0 => ⟨⟨_, .nil⟩, _, .cons x y⟩
  | _, _, _, .cons x y, k + 1 => ⟨let ⟨_, z⟩ := (y.split k).1; ⟨_, .cons x z⟩, (y.split k).2⟩

theorem does_edited : ∀ (way : List PyData) {n : Nat} {g : Heap} {v wv fv : Value} {d e f : PyData} {as bs cs : List Addr}, WD w p loose mg mb g → JR prog w g v d as → okW n d = true → JR prog w g wv (.list way) bs → atD d way = some e → JR prog w g fv f cs →
    way.length ≤ 5 →
    Does prog w (.ref 333) [v, wv, fv] (way.length + 2) (4 * way.length + 80) g fun g' r => ∃ as', JR prog w g' r (ed d way f) as' := by
  intro way
  induction way with
  | nil =>
    intro n g v wv fv d e f as bs cs W hv hok hw he hf hlen A s Q E S Rm ret
    refine wpAny_call ?_
    (refine' enterC W S ?ho ?hcd ?hroom ?hb ?hl ?hn ?_ ?h2 ?h3 ?h4; (case ho => k_is); (case hcd => k_is); (case hroom => (have := Rm.d; omega)); (case hb => exact BindsTo.of_eq rfl); (case hl => exact rfl); (case hn => decide); (case h2 => exact rfl); (case h3 => exact rfl); (case h4 => exact rfl))
    intro L h₁ tk cells Y F
    obtain ⟨o1, o2, o3, rfl, hc1, hc2, hc3⟩ := CellsAre.three Y
    have hc1 : o1.data = .cell none := hc1
    have hc2 : o2.data = .cell (some wv) := hc2
    have hc3 : o3.data = .cell (some v) := hc3
    clear Y
    obtain ⟨m0, F, mf⟩ : ∃ m0, Fm s.heap g L m0 [(L + 3, o1), (L + 2, o2), (L + 1, o3)] (s.heap.get? TAB) g h₁ ∧ m0 (Str.ofString "fresh") = some fv := ⟨_, F, rfl⟩
    dsimp only
    have hU : A.units + 3 + 64 < cLine := by have := Rm.u; omega
    refine wpAny_execs_cons ?_
    refine wpAny_If ?_
    refine wpAny_isTrue_Compare1 ?_
    refine n_cell' F (.tail _ (.head _)) hc2 rfl ?_
    refine wpAny_List (spliced_none ⟨Nat.zero_le _, ?_⟩)
    obtain ⟨g₁, F₁, gg1, e1, -, -⟩ := F.push S.tT ({ cls := .type "list", data := .seq ([] : List Value).toArray } : Obj)
    refine eq_ways (hw.keeps gg1) (JR.list ⟨_, e1, rfl, _, rfl⟩ .nil) F₁.gh rfl rfl hU fun b hb => ?_
    rw [hb.mpr rfl]
    refine wpAny_truthy_bool ?_
    dsimp only
    rw [if_pos rfl]
    refine x_ret ?_
    refine n_loc F₁ mf ?_
    exact ret _ _ _ _ F₁.after ⟨cs, hf.keeps gg1⟩
  | cons t way ih =>
    intro n g v wv fv d e f as bs cs W hv hok hw he hf hlen A s Q E S Rm ret
    simp only [atD] at he
    obtain ⟨d', e1, e2⟩ := Option.bind_eq_some_iff.mp he
    obtain ⟨ht, k, rfl, hok2⟩ := at1_ok hok e1
    have hall := (atD_ok hok2 e2).1
    refine wpAny_call ?_
    (refine' enterC W S ?ho ?hcd ?hroom ?hb ?hl ?hn ?_ ?h2 ?h3 ?h4; (case ho => k_is); (case hcd => k_is); (case hroom => (have := Rm.d; omega)); (case hb => exact BindsTo.of_eq rfl); (case hl => exact rfl); (case hn => decide); (case h2 => exact rfl); (case h3 => exact rfl); (case h4 => exact rfl))
    intro L h₁ tk cells Y F
    obtain ⟨o1, o2, o3, rfl, hc1, hc2, hc3⟩ := CellsAre.three Y
    have hc1 : o1.data = .cell none := hc1
    have hc2 : o2.data = .cell (some wv) := hc2
    have hc3 : o3.data = .cell (some v) := hc3
    clear Y
    obtain ⟨m0, F, mf⟩ : ∃ m0, Fm s.heap g L m0 [(L + 3, o1), (L + 2, o2), (L + 1, o3)] (s.heap.get? TAB) g h₁ ∧ m0 (Str.ofString "fresh") = some fv := ⟨_, F, rfl⟩
    dsimp only
    have hU : A.units + 3 + 64 < cLine := by have := Rm.u; omega
    refine wpAny_execs_cons ?_
    refine wpAny_If ?_
    refine wpAny_isTrue_Compare1 ?_
    refine n_cell' F (.tail _ (.head _)) hc2 rfl ?_
    refine wpAny_List (spliced_none ⟨Nat.zero_le _, ?_⟩)
    obtain ⟨g₁, F₁, gg1, ee1, -, -⟩ := F.push S.tT ({ cls := .type "list", data := .seq ([] : List Value).toArray } : Obj)
    refine eq_ways (hw.keeps gg1) (JR.list ⟨_, ee1, rfl, _, rfl⟩ .nil) F₁.gh (by rw [List.all_cons, ht, hall]; rfl) rfl hU fun b hb => ?_
    have hbf : b = false := by cases b with | false => rfl | true => exact absurd (hb.mp rfl) (by simp)
    subst hbf
    refine wpAny_truthy_bool ?_
    dsimp only
    rw [if_neg (by decide)]
    refine wpAny_execs_nil ?_
    dsimp only
    have W₁ := W.keeps gg1
    have hw1 := hw.keeps gg1
    cases hw1 with
    | @list wa ws _ bs' hwl hws =>
    have hwlen : ws.size = way.length + 1 := by rw [← Array.length_toList, hws.length]; rfl
    obtain ⟨t0, at0, et0, jt0, -⟩ := hws.at (i := 0) (v := ws[0]'(by omega)) (by rw [Array.getElem?_toList]; exact Array.getElem?_eq_getElem _)
    simp only [List.getElem?_cons_zero, Option.some.injEq] at et0
    subst et0
    generalize hwt : ws[0]'(by omega) = wt at jt0
    have hw0 : ws[(0 : Int).toNat]? = some wt := by rw [← hwt]; exact Array.getElem?_eq_getElem _
    refine wpAny_execs_cons ?_
    refine wpAny_Assign_Name ?_
    refine wpAny_Call_ofName (n_glob W₁ F₁.gh (by k_is) (callWith_K W₁.k (by k_is) (spliced_more ?_)))
    refine Subscript_ ?_
    refine n_cell' F₁ (.tail _ (.tail _ (.head _))) hc3 rfl ?_
    refine Subscript_ ?_
    refine n_cell' F₁ (.tail _ (.head _)) hc2 rfl ?_
    refine wpAny_Constant_int ?_
    refine item_L (F₁.isList hwl) (by decide) (by decide) hw0 ?_
    dsimp only
    refine getItem_J (hv.keeps gg1) F₁.gh jt0 e1 fun u as₃ tk₅ ru hsub => ?_
    dsimp only
    refine spliced_more ?_
    refine sub_slice ?_
    refine n_cell' F₁ (.tail _ (.head _)) hc2 rfl ?_
    refine evalPart_some_step (wpAny_Constant_int (evalPart_none_step ?_))
    dsimp only
    refine ⟨wa, ws, some 1, none, rfl, F₁.isList hwl, by rw [hwlen]; have := sizeLine_eq; simp at hlen; omega, .int _ _, .none, ?_⟩
    obtain ⟨g₂, F₂, g12, hl2, hn2⟩ := slice_mk (items := ws) (vl := .int 1 tk₅) (vu := .none) (lo := some 1) (hi := none) F₁ S.tT
    rw [show (some (1 : Int)) = some ((1 : Nat) : Int) from rfl, slicePick_from' ws 1] at hl2
    refine spliced_more ?_
    refine n_loc F₂ mf ?_
    have W₂ := W₁.keeps g12
    have g02 : g.StaysIn g₂ := fun b o e => g12 b o (gg1 b o e)
    refine spliced_none ⟨(W₂.keeps F₂.gh).k, ?_⟩
    have hwn : ∃ cs', JR prog w g₂ (.ref ((h₁.push { cls := .type "list", data := .seq ([] : List Value).toArray }).objs.size + 1)) (.list way) cs' := by
      obtain ⟨cs', hc⟩ := ((hws.split 1).2)
      exact ⟨_, .list hl2 (by simpa using hc.keeps g12)⟩
    obtain ⟨cs', hwn⟩ := hwn
    have R1 : ∀ env, Room (A.deeper env) (way.length + 2) (4 * way.length + 80) := fun env => (Rm.le (dn' := way.length + 2 + 1) (un' := 4 * way.length + 80 + 3) (by simp) (by simp; omega)).deeper env
    refine (ih W₂ (ru.keeps g12) hok2 hwn e2 (hf.keeps g02) (by simp at hlen; omega)).use F₂ S.tT (R1 _) fun r g₃ h₃ tk₃ F₃ g23 ⟨as4, hr4⟩ => ?_
    refine s_cell (vol₁ := []) F₃ hc1 rfl fun h₄ o1' hc1' F₄ => ?_
    dsimp only
    have g03 : g.StaysIn g₃ := fun b o e => g23 b o (g02 b o e)
    have W₃ := W.keeps g03
    have hwl3 : g₃.IsList wa ws := isList_keeps (fun b o e => g23 b o (g12 b o e)) hwl
    refine wpAny_execs_cons ?_
    refine wpAny_If ?_
    refine t_isi_list W₃ F₄.gh (gv_cell F₄ (.tail _ (.tail _ (.head _))) hc3 rfl) (hv.keeps g03) fun tk₆ => ?_
    dsimp only
    cases hv with
    | none => cases t <;> simp [at1] at e1
    | bool => cases t <;> simp [at1] at e1
    | int => cases t <;> simp [at1] at e1
    | str => cases t <;> simp [at1] at e1
    | @list l vs xs as' hla hs =>
      cases jt0 with
      | int i ti =>
        simp only [at1] at e1
        split at e1
        case isFalse => cases e1
        rename_i hi
        obtain ⟨j, rfl⟩ : ∃ j : Nat, i = j := ⟨i.toNat, by omega⟩
        simp only [Int.toNat_natCast] at e1
        have hj := (List.getElem?_eq_some_iff.mp e1).1
        have hvl : vs.size = xs.length := by rw [← Array.length_toList, hs.length]
        have hx3 : xs.length ≤ 3 := by rw [okW, Bool.and_eq_true, decide_eq_true_eq] at hok; exact hok.1
        have hszl : vs.size ≤ sizeLine := by have := sizeLine_eq; omega
        simp only [isList, if_true]
        refine x_ret ?_
        refine wpAny_BinOp ?_
        refine wpAny_BinOp ?_
        refine sub_slice ?_
        refine n_cell' F₄ (.tail _ (.tail _ (.head _))) hc3 rfl ?_
        refine evalPart_none_step (evalPart_some_step ?_)
        refine Subscript_ ?_
        refine n_cell' F₄ (.tail _ (.head _)) hc2 rfl ?_
        refine wpAny_Constant_int ?_
        refine item_L (F₄.isList hwl3) (by decide) (by decide) hw0 ?_
        dsimp only
        refine ⟨l, vs, none, some j, rfl, F₄.isList (isList_keeps g03 hla), hszl, .none, .int _ _, ?_⟩
        obtain ⟨g₅, F₅, g35, hl5, hn5⟩ := slice_mk (items := vs) (vl := .none) (vu := .int j ti) (lo := none) (hi := some j) F₄ S.tT
        rw [slicePick_upto'] at hl5
        refine wpAny_List (spliced_more (n_cell' F₅ (.head _) hc1' rfl (spliced_none ⟨by have := sizeLine_eq; simp; omega, ?_⟩)))
        obtain ⟨g₆, F₆, g56, e6, -, -⟩ := F₅.push S.tT ({ cls := .type "list", data := .seq [r].toArray } : Obj)
        refine add_L F₆ S.tT (isList_keeps g56 hl5) ⟨_, e6, rfl, _, rfl⟩ (by have := sizeLine_eq; simp; omega) fun g₇ h₇ a7 F₇ g67 hl7 hn7 => ?_
        dsimp only
        refine sub_slice ?_
        refine n_cell' F₇ (.tail _ (.tail _ (.head _))) hc3 rfl ?_
        refine evalPart_some_step ?_
        refine wpAny_BinOp ?_
        refine Subscript_ ?_
        refine n_cell' F₇ (.tail _ (.head _)) hc2 rfl ?_
        refine wpAny_Constant_int ?_
        have g37 : g₃.StaysIn g₇ := fun b o e => g67 b o (g56 b o (g35 b o e))
        refine item_L (F₇.isList (isList_keeps g37 hwl3)) (by decide) (by decide) hw0 ?_
        dsimp only
        refine wpAny_Constant_int (add_int (evalPart_none_step ?_))
        dsimp only
        refine ⟨l, vs, some (j + 1), none, rfl, F₇.isList (isList_keeps g37 (isList_keeps g03 hla)), hszl, .int _ _, .none, ?_⟩
        obtain ⟨g₈, F₈, g78, hl8, hn8⟩ := slice_mk (items := vs) (vl := .int (j + 1) (tk₆ + 1 + 1 + 1)) (vu := .none) (lo := some (j + 1)) (hi := none) F₇ S.tT
        rw [show (some ((j : Int) + 1)) = some ((j + 1 : Nat) : Int) from rfl, slicePick_from'] at hl8
        refine add_L F₈ S.tT (isList_keeps g78 hl7) hl8 (by have := sizeLine_eq; simp; omega) fun g₉ h₉ a9 F₉ g89 hl9 hn9 => ?_
        have g39 : g₃.StaysIn g₉ := fun b o e => g89 b o (g78 b o (g37 b o e))
        refine ret _ _ _ _ F₉.after ?_
        obtain ⟨c1, k1⟩ := (hs.split j).1
        obtain ⟨c2, k2⟩ := (hs.split (j + 1)).2
        obtain ⟨c3, k3⟩ := (k1.keeps (fun b o e => g39 b o (g03 b o e))).app (.cons (hr4.keeps g39) .nil)
        obtain ⟨c4, k4⟩ := k3.app (k2.keeps (fun b o e => g39 b o (g03 b o e)))
        have hed : ed (.list xs) (.int j :: way) f = .list (xs.take j ++ [ed d' way f] ++ xs.drop (j + 1)) := by
          rw [ed]
          simp only [at1, put1]
          rw [if_pos (by omega)]
          simp only [Int.toNat_natCast, e1, Option.getD_some]
          rw [List.set_eq_take_append_cons_drop, if_pos hj, List.append_assoc]
          rfl
        rw [hed]
        exact ⟨_, .list hl9 k4⟩
      | _ => simp [at1] at e1
    | @dict l kvs ep ds as' hm hda ek hs =>
      cases jt0 with
      | str key tkey =>
        have hnd : (kvs.map (·.1)).Nodup := let ⟨_, _, _, _, _, _, _, x⟩ := hda; x
        have hlen' := dict_keys ek
        have hx3 : ds.length ≤ 3 := by rw [okW, Bool.and_eq_true, decide_eq_true_eq] at hok; exact hok.1
        rw [show isList (PyData.dict ds) = false from rfl, if_neg (by decide)]
        refine wpAny_execs_nil ?_
        dsimp only
        refine x_ret ?_
        refine dc_open (cl := [(Str.ofString "way", L + 2), (Str.ofString "value", L + 1), (Str.ofString "part", L + 3)]) ?_ rfl (fun _ => rfl) rfl rfl
        refine n_cell' F₄ (.tail _ (.tail _ (.head _))) hc3 rfl ?_
        have hda3 := dictAt_keeps g03 hda
        refine dc_keys F₄ S.tT Rm.h hda3 hm (by rw [hlen']; have := sizeLine_eq; omega)
          (fun (i : Nat) (its : List (Str × Value)) (g₅ : Heap) => its.map (fun q : Str × Value => q.1) = (kvs.take i).map (fun q : Str × Value => q.1) ∧ ∃ bs, JRs prog w g₅ (its.map fun q : Str × Value => q.2) (((ds.take i).map (subK key (ed d' way f))).map fun q : PyData × PyData => q.2) bs)
          (fun i its g₁ g₂ ⟨a, bs, b⟩ gg => ⟨a, bs, b.keeps gg⟩) ⟨rfl, [], .nil⟩ ?_ ?_ (by decide) rfl rfl
        · rintro i kv tkv its C mc g₅ h₅ tk₅' vol' E' hi ⟨e1', bs, hbs⟩ gg hvol F₅
          obtain ⟨q, hq, hqk⟩ := key_at ek hi
          have hi' : i < kvs.length := (List.getElem?_eq_some_iff.mp hi).1
          have hqe : at1 (.dict ds) (.str kv.1) = some q.2 := at1_key ek hnd hq hqk
          have hkw : tokOk (.str kv.1) = true := (at1_ok hok hqe).1
          have g05 : g.StaysIn g₅ := fun b o e => gg b o (g03 b o e)
          have hny : ∀ z ∈ its, z.1 ≠ kv.1 := by
            intro z hz e
            have hz' : kv.1 ∈ (kvs.take i).map (·.1) := by rw [← e1', ← e]; exact List.mem_map_of_mem hz
            have hnd2 := hnd
            rw [← List.take_append_drop i kvs, List.map_append, List.nodup_append] at hnd2
            refine hnd2.2.2 kv.1 hz' kv.1 ?_ rfl
            rw [List.drop_eq_getElem_cons hi', List.map_cons, show kvs[i] = kv from (List.getElem?_eq_some_iff.mp hi).2]
            exact .head _
          have hil : its.length ≤ i := by
            have := congrArg List.length e1'
            simp only [List.length_map, List.length_take] at this
            omega
          have fin : ∀ (y : Value) (y' : PyData) (cs : List Addr) (tk : Nat), JR prog w g₅ y y' cs → (subK key (ed d' way f) q).2 = y' →
              ∃ k t m₂ g₂ h₂ tk₂, (Value.str kv.1 tkv) = .str k t ∧ ({ s with heap := h₅, toks := tk } : Shared) = { s with heap := h₂, toks := tk₂ } ∧ Fm s.heap g C m₂ vol' (s.heap.get? TAB) g₂ h₂ ∧ g₅.StaysIn g₂ ∧
                ((stored its k y).map (fun q : Str × Value => q.1) = (kvs.take (i + 1)).map (fun q : Str × Value => q.1) ∧ ∃ bs, JRs prog w g₂ ((stored its k y).map fun q : Str × Value => q.2) (((ds.take (i + 1)).map (subK key (ed d' way f))).map fun q : PyData × PyData => q.2) bs) ∧ its.length ≤ i := by
            intro y y' cs tk hy hy'
            refine ⟨kv.1, tkv, _, g₅, h₅, tk, rfl, rfl, F₅, fun _ _ e => e, ⟨?_, ?_⟩, hil⟩
            · rw [stored_new hny, take_snoc hi, List.map_append, List.map_append, e1']; rfl
            · rw [stored_new hny, take_snoc hq, List.map_append, List.map_append, List.map_append]
              subst hy'
              exact ⟨_, hbs.snoc hy⟩
          refine n_loc F₅ upd_same ?_
          refine wpAny_IfExp ?_
          refine wpAny_isTrue_Compare1 ?_
          refine n_loc F₅ upd_same ?_
          refine Subscript_ ?_
          refine n_cell' F₅ (hvol _ (.tail _ (.head _))) hc2 rfl ?_
          refine wpAny_Constant_int ?_
          refine item_L (F₅.isList (isList_keeps gg hwl3)) (by decide) (by decide) hw0 ?_
          dsimp only
          refine eq_toks (g := g₅) (JR.str kv.1 tkv) (JR.str key tkey) F₅.gh hkw ht hU fun b hb => ?_
          refine wpAny_truthy_bool ?_
          cases b with
          | true =>
            have hk : kv.1 = key := by have := hb.mp rfl; injection this
            rw [if_pos rfl]
            refine n_cell' F₅ (hvol _ (.head _)) hc1' rfl ?_
            refine fin r _ as4 _ (hr4.keeps gg) ?_
            unfold subK
            rw [if_pos (by rw [hqk, isK]; exact decide_eq_true hk)]
          | false =>
            have hk : kv.1 ≠ key := fun e => by have := hb.mpr (by rw [e]); cases this
            rw [if_neg (by decide)]
            refine Subscript_ ?_
            refine n_cell' F₅ (hvol _ (.tail _ (.tail _ (.head _)))) hc3 rfl ?_
            refine n_loc F₅ upd_same ?_
            refine getItem_J (JR.dict hm (dictAt_keeps gg hda3) ek (hs.keeps g05)) F₅.gh (JR.str kv.1 tkv) hqe fun u as₃ tk₃ ru hsub => ?_
            refine fin u _ as₃ _ ru ?_
            unfold subK
            rw [if_neg (by rw [hqk, isK]; simpa using hk)]
        · rintro a6 its ep' g₅ g₆ h₆ tk₆' ⟨e1', bs, hbs⟩ gg g56 F₆ hd6 hm6 hn6
          rw [List.take_length] at e1'
          rw [hlen', List.take_length] at hbs
          have hed : ed (.dict ds) (.str key :: way) f = .dict (ds.map (subK key (ed d' way f))) := by
            rw [ed, e1]; rfl
          refine ret _ _ _ _ F₆.after ?_
          rw [hed]
          refine ⟨_, .dict hm6 hd6 ?_ (hbs.keeps g56)⟩
          have h1 : (ds.map (subK key (ed d' way f))).map (·.1) = ds.map (·.1) := by
            rw [List.map_map]
            refine List.map_congr_left fun q _ => ?_
            simp only [Function.comp, subK]
            split <;> rfl
          rw [h1, ek]
          have := congrArg (List.map PyData.str) e1'
          simpa [List.map_map, Function.comp_def] using this.symm
      | _ => simp [at1] at e1
end
end Mine
end

/-! ## KB -/
section
set_option maxRecDepth 100000
set_option maxHeartbeats 4000000
open PySem PySem.W PyProof.Rows PySem.Calls
namespace Mine

example (w : World) (h : Heap) (X : (hd.heap_39 w.params).In h) : (hd.heap_39 w.params).In h ∧ PySem.Challenge.rw_bs0014_01 = PySem.Challenge.rw_bs0014_01 := by
  k_fill
  exact ⟨X, rfl⟩

section
variable {prog : Program} {w : World} {A : Around} {E : Value → Shared → Prop} {s : Shared}
theorem eqB_si {a : Str} {t : Tok} {b : Int} {u : Tok} {Q : Bool → Shared → Prop} (h : Q false s) : wpAny (model prog w) A (eqBool (.str a t) (.int b u)) Q E s := by
  unfold eqBool
  refine wpAny_holding ?_
  rw [if_neg (by simp)]
  dsimp only
  exact wpAny_bind (EqMixed.eq_str_int (wpAny_truthy_bool h))
theorem eqB_is {a : Int} {t : Tok} {b : Str} {u : Tok} {Q : Bool → Shared → Prop} (h : Q false s) : wpAny (model prog w) A (eqBool (.int a t) (.str b u)) Q E s := by
  unfold eqBool
  refine wpAny_holding ?_
  rw [if_neg (by simp)]
  dsimp only
  exact wpAny_bind (EqMixed.eq_int_str (wpAny_truthy_bool h))
end
theorem beq_eq_decide' (a b : Int) : (a == b) = decide (a = b) := by by_cases h : a = b <;> simp [h]
def isMix : Str ⊕ Int → Value → Bool
  | .inl x, v => Value.isStrOf x v
  | .inr i, v => Value.isInt i v
def mixKind (prog : Program) (w : World) : KeyKind prog w (Str ⊕ Int) where
  is := isMix
  hash := fun k => match k with | .inl x => hashStr w x | .inr i => hashInt i
  inj := fun v a b ha hb => by
    cases a <;> cases b
    · exact congrArg _ (Value.isStrOf_inj v _ _ ha hb)
    · obtain ⟨t, rfl⟩ := Value.isStrOf_shape ha; simp [isMix, Value.isInt] at hb
    · obtain ⟨t, rfl⟩ := Value.isInt_shape ha; simp [isMix, Value.isStrOf] at hb
    · exact congrArg _ (Value.isInt_inj v _ _ ha hb)
  byValue := fun k v h => by
    cases k
    · obtain ⟨t, rfl⟩ := Value.isStrOf_shape h; rfl
    · obtain ⟨t, rfl⟩ := Value.isInt_shape h; rfl
  pyHash := fun {A E s k v Q} hv h => by
    cases k
    · obtain ⟨t, rfl⟩ := Value.isStrOf_shape hv; exact wpAny_pyHash_str h
    · obtain ⟨t, rfl⟩ := Value.isInt_shape hv; exact wpAny_pyHash_int h
  eqBool := fun {A E s a b u v Q} hu hv h => by
    cases a <;> cases b
    · obtain ⟨t, rfl⟩ := Value.isStrOf_shape hu; obtain ⟨t', rfl⟩ := Value.isStrOf_shape hv
      exact wpAny_eqBool_str (by simpa using h)
    · obtain ⟨t, rfl⟩ := Value.isStrOf_shape hu; obtain ⟨t', rfl⟩ := Value.isInt_shape hv
      exact eqB_si (by simpa using h)
    · obtain ⟨t, rfl⟩ := Value.isInt_shape hu; obtain ⟨t', rfl⟩ := Value.isStrOf_shape hv
      exact eqB_is (by simpa using h)
    · obtain ⟨t, rfl⟩ := Value.isInt_shape hu; obtain ⟨t', rfl⟩ := Value.isInt_shape hv
      exact wpAny_eqBool_int (by simpa [beq_eq_decide'] using h)
  «strs» := fun k x t v h => by
    cases k
    · rename_i k0
      obtain ⟨u, hu⟩ := Value.isStrOf_shape (show Value.isStrOf k0 (.str x t) = true from h)
      injection hu with hx
      subst hx
      cases v <;> rfl
    · simp [isMix, Value.isInt] at h

section
variable {prog : Program} {w : World} {p : Program} {loose : List Str} {mg mb : Str → Option Value} {A : Around} {E : Value → Shared → Prop} {s : Shared} {R : Result → Shared → Prop}
  {base g₀ g h h' gh0 : Heap} {L : Addr} {m m' : Str → Option Value} {vol : List (Addr × Obj)} {T : Option Obj} {env : Env}

theorem toMix {a ep : Addr} {kvs : List (Str × Value)} (x : h.DictAt (PySem.strKind prog w) a kvs ep) : ∃ f, h.MapOf (mixKind prog w) a f ∧ ∀ i, f (.inr i) = none := by
  obtain ⟨o, es, ho, hc, hd, hk, hp, hn⟩ := x
  refine ⟨fun k => findBy isMix es k, ⟨o, es, ep, ho, hc, hd, fun e he => ?_, fun _ => rfl⟩, fun i => ?_⟩
  · obtain ⟨k, k1, k2⟩ := hk e he
    exact ⟨.inl k, k1, k2⟩
  · unfold findBy
    have : (es.find? fun e => isMix (.inr i) e.key) = none := by
      rw [Array.find?_eq_none]
      intro e he
      obtain ⟨k, k1, k2⟩ := hk e he
      obtain ⟨t, ht⟩ := Value.isStrOf_shape k1
      rw [ht]
      simp [isMix, Value.isInt]
    show Option.map _ (es.find? fun e => isMix (.inr i) e.key) = none
    rw [this]; rfl

/-- a step of a way asked of a dict -/
theorem in_J {v t : Value} {kvs : List (PyData × PyData)} {tk : PyData} {as bs : List Addr} {Q : Value → Shared → Prop} (hv : JR prog w g v (.dict kvs) as) (gh : g.StaysIn s.heap) (ht : JR prog w g t tk bs) (hok : tokOk tk = true)
    (h : ∀ n, Q (.bool (at1 (.dict kvs) tk).isSome) { s with toks := n }) : wpAny (model prog w) A (compareOp .In t v) Q E s := by
  cases hv with
  | @dict a kvs' ep ds bs n x ek y =>
    cases ht with
    | str k n' =>
      have hm := (dictAt_keeps gh x).dictOf.mapOf
      refine wpAny_in_of (k := k) (by show Value.isStrOf k (Value.str k n') = true; simp [Value.isStrOf]) n hm ?_
      have e : (valueAt kvs' k).isSome = (at1 (.dict kvs) (.str k)).isSome := by
        simp only [at1]
        cases q : findK kvs k with
        | some d =>
          obtain ⟨v, as', e1, -, -⟩ := findK_at ek y q
          rw [e1]; rfl
        | none =>
          cases q2 : valueAt kvs' k with
          | none => rfl
          | some v =>
            exfalso
            unfold valueAt at q2
            obtain ⟨z, hz, -⟩ := Option.map_eq_some_iff.mp q2
            have hz1 := List.find?_some hz
            have hz2 := List.mem_of_find?_eq_some hz
            simp only [decide_eq_true_eq] at hz1
            have hmem : PyData.str k ∈ kvs.map (·.1) := by rw [ek]; exact List.mem_map.mpr ⟨z, hz2, by rw [hz1]⟩
            obtain ⟨z', hz', ez'⟩ := List.mem_map.mp hmem
            unfold findK at q
            simp only [Option.map_eq_none_iff, List.find?_eq_none] at q
            have := q z' hz'
            rw [ez'] at this
            simp at this
      rw [e]
      exact h _
    | int i n' =>
      obtain ⟨f, hm, hf⟩ := toMix (prog := prog) (w := w) (dictAt_keeps gh x)
      refine wpAny_in_of (knd := mixKind prog w) (k := .inr i) (by show Value.isInt i (Value.int i n') = true; simp [Value.isInt]) n hm ?_
      rw [hf]
      exact h _
    | _ => simp [tokOk] at hok

/-- what is found at a way, or the default -/
def fnd : PyData → List PyData → PyData → PyData
  | d, [], _ => d
  | d, t :: r, f => match at1 d t with
    | some d' => fnd d' r f
    | none => f

theorem isi_int_tok {v : Value} {d : PyData} {as : List Addr} {Q : Value → Shared → Prop} (hv : JR prog w g v d as) (hok : tokOk d = true) (h : ∀ n, Q (.bool (match d with | .int _ => true | _ => false)) { s with toks := n }) :
    wpAny (model prog w) A (call (.builtin "isinstance") [v, .type "int"]) Q E s := by
  cases hv with
  | int => exact IsiPair.int_int (h _)
  | str => exact IsiPair.str_int (h _)
  | _ => simp [tokOk] at hok

theorem does_found {v wv fv : Value} {d f : PyData} {way : List PyData} {n : Nat} {as bs cs : List Addr} (W : WD w p loose mg mb g) (hv : JR prog w g v d as) (hok : okW n d = true) (hw : JR prog w g wv (.list way) bs) (hway : way.all tokOk = true) (hf : JR prog w g fv f cs) :
    Does prog w (.ref 340) [v, wv, fv] 1 80 g fun g' r => ∃ as', JR prog w g' r (fnd d way f) as' := by
  intro A s Q E S Rm ret
  refine wpAny_call ?_
  (refine' enter W S ?ho ?hcd ?hroom ?hb ?hl ?_ ?h1 ?h2 ?h3 ?h4; (case ho => k_is); (case hcd => k_is); (case hroom => (have := Rm.d; omega)); (case hb => exact BindsTo.of_eq rfl); (case h1 => decide); (case h2 => exact rfl); (case h3 => exact rfl); (case h4 => exact rfl); (case hl => exact rfl))
  intro L h₁ tk F0
  dsimp only
  obtain ⟨m0, F, mv, mw, mf⟩ : ∃ m0, Fm s.heap g L m0 [] (s.heap.get? TAB) g h₁ ∧ m0 (Str.ofString "value") = some v ∧ m0 (Str.ofString "way") = some wv ∧ m0 (Str.ofString "default") = some fv := ⟨_, F0, rfl, rfl, rfl⟩
  clear F0
  cases hw with
  | @list wa ws _ as' hl hs =>
  have hwl : ws.size = way.length := by rw [← Array.length_toList, hs.length]
  refine wpAny_execs_cons ?_
  refine wpAny_For ?_
  refine n_loc F mw ?_
  refine loop_list F S.tT Rm.h hl (fun i m₁ g₁ => ∃ v₁ d₁ as₁ k, m₁ (Str.ofString "value") = some v₁ ∧ m₁ (Str.ofString "default") = some fv ∧ JR prog w g₁ v₁ d₁ as₁ ∧ okW k d₁ = true ∧ fnd d₁ (way.drop i) f = fnd d way f) ⟨v, d, as, n, mv, mf, hv, hok, rfl⟩ ?_ ?_
  · rintro i t m₁ g₁ h₂ tk₂ io E' hi ⟨v₁, d₁, as₁, k, m1, m2, r₁, hok₁, e₁⟩ gg F₁
    obtain ⟨tk₁, as₂, et, rt, -⟩ := hs.at (i := i) (by simpa using hi)
    have hit : i < way.length := (List.getElem?_eq_some_iff.mp et).1
    have htok : tokOk tk₁ = true := List.all_eq_true.mp hway tk₁ (List.mem_of_getElem? et)
    rw [List.drop_eq_getElem_cons hit, show way[i] = tk₁ from (List.getElem?_eq_some_iff.mp et).2] at e₁
    have W₁ := W.keeps gg
    have rt' := rt.keeps gg
    have mv1 : (if (Str.ofString "value") = (Str.ofString "token") then some t else m₁ (Str.ofString "value")) = some v₁ := by rw [if_neg (by decide)]; exact m1
    have goOn : ∀ {d₂ : PyData} {v₂ : Value} {as₃ : List Addr} {h₃ : Heap} {tk' : Nat}, at1 d₁ tk₁ = some d₂ → JR prog w g₁ v₂ d₂ as₃ → Fm s.heap g L (fun y => if y = Str.ofString "value" then some v₂ else (if y = Str.ofString "token" then some t else m₁ y)) (io :: []) (s.heap.get? TAB) g₁ h₃ →
        ∃ m₂ g₂ h₂ tk₂, ({ s with heap := h₃, toks := tk' } : Shared) = { s with heap := h₂, toks := tk₂ } ∧ Fm s.heap g L m₂ (io :: []) (s.heap.get? TAB) g₂ h₂ ∧ g₁.StaysIn g₂ ∧
          ∃ v₁ d₁ as₁ k, m₂ (Str.ofString "value") = some v₁ ∧ m₂ (Str.ofString "default") = some fv ∧ JR prog w g₂ v₁ d₁ as₁ ∧ okW k d₁ = true ∧ fnd d₁ (way.drop (i + 1)) f = fnd d way f := by
      intro d₂ v₂ as₃ h₃ tk' ha hj F₃
      obtain ⟨-, k', -, hok₂⟩ := at1_ok hok₁ ha
      refine ⟨_, g₁, h₃, tk', rfl, F₃, fun _ _ e => e, v₂, d₂, as₃, k', if_pos rfl, by rw [if_neg (by decide), if_neg (by decide)]; exact m2, hj, hok₂, ?_⟩
      rw [← e₁, fnd, ha]
    refine wpAny_execs_cons ?_
    refine wpAny_If ?_
    refine wpAny_mono (Q := fun b s' => b = (isDict d₁ && (at1 d₁ tk₁).isSome) ∧ ∃ tk, s' = ({ s with heap := h₂, toks := tk } : Shared)) ?_ (fun b s' hb => ?_) fun _ _ x => x
    · refine isTrue_and ?_
      refine t_isi_dict W₁ F₁.gh (gv_loc F₁ (v := v₁) mv1) r₁ fun tk₃ => ?_
      cases hd : isDict d₁ with
      | false => exact ⟨rfl, _, rfl⟩
      | true =>
        cases d₁ with
        | dict ds =>
          rw [if_pos rfl]
          refine isTrue_and ?_
          refine wpAny_isTrue_Compare1 ?_
          refine n_loc F₁ (if_pos rfl) ?_
          refine n_loc F₁ mv1 ?_
          refine in_J r₁ F₁.gh rt' htok fun n => ?_
          refine wpAny_truthy_bool ?_
          cases hs2 : (at1 (PyData.dict ds) tk₁).isSome with
          | false => exact ⟨rfl, _, rfl⟩
          | true => exact isTrue_and_nil ⟨rfl, _, rfl⟩
        | _ => simp [isDict] at hd
    obtain ⟨rfl, tk₃, rfl⟩ := hb
    cases hb1 : (isDict d₁ && (at1 d₁ tk₁).isSome) with
    | true =>
      rw [if_pos rfl]
      rw [Bool.and_eq_true, Option.isSome_iff_exists] at hb1
      obtain ⟨-, d₂, hd₂⟩ := hb1
      refine wpAny_execs_cons ?_
      refine wpAny_Assign_Name ?_
      refine Subscript_ ?_
      refine n_loc F₁ mv1 ?_
      refine n_loc F₁ (if_pos rfl) ?_
      refine getItem_J r₁ F₁.gh rt' hd₂ fun v₂ as₃ tk₄ r₂ _ => ?_
      refine s_loc F₁ fun h₃ F₃ => ?_
      dsimp only
      refine wpAny_execs_nil ?_
      dsimp only
      refine wpAny_execs_nil ?_
      exact goOn hd₂ r₂ F₃
    | false =>
      rw [if_neg (by decide)]
      refine wpAny_execs_cons ?_
      refine wpAny_If ?_
      refine wpAny_mono (Q := fun b s' => b = (isList d₁ && (at1 d₁ tk₁).isSome) ∧ ∃ tk, s' = ({ s with heap := h₂, toks := tk } : Shared)) ?_ (fun b s' hb => ?_) fun _ _ x => x
      · refine isTrue_and ?_
        refine t_isi_list W₁ F₁.gh (gv_loc F₁ (v := v₁) mv1) r₁ fun tk₃ => ?_
        cases hd : isList d₁ with
        | false => exact ⟨rfl, _, rfl⟩
        | true =>
          cases r₁ with
          | @list l vs xs as₁ hla hjs =>
            rw [if_pos rfl]
            refine isTrue_and ?_
            refine isTrue_plain ?_
            refine wpAny_Call_ofName (n_bi W₁ F₁.gh (by k_is) rfl (PyProof.Rows.callWith_builtin1 (spliced_more ?_)))
            refine n_loc F₁ (if_pos rfl) ?_
            refine spliced_more ?_
            refine n_bi W₁ F₁.gh (by k_is) rfl ?_
            refine spliced_none ?_
            refine isi_int_tok rt' htok fun n => ?_
            refine wpAny_truthy_bool ?_
            cases rt with
            | str y ty => exact ⟨by simp [isList, at1], _, rfl⟩
            | int z tz =>
              rw [if_pos rfl]
              simp only [tokOk, decide_eq_true_eq] at htok
              have hvl : vs.size = xs.length := by rw [← Array.length_toList, hjs.length]
              refine isTrue_and ?_
              refine wpAny_isTrue_Compare1 ?_
              refine n_loc F₁ (if_pos rfl) ?_
              refine wpAny_Call_ofName (n_bi W₁ F₁.gh (by k_is) rfl (PyProof.Rows.callWith_builtin1 (spliced_more ?_)))
              refine n_loc F₁ mv1 ?_
              have hx3 : xs.length ≤ 3 := by
                cases k with
                | zero => simp [okW] at hok₁
                | succ k => rw [okW, Bool.and_eq_true, decide_eq_true_eq] at hok₁; exact hok₁.1
              refine spliced_none (len_list (F₁.isList hla) (by have := sizeLine_eq; omega) ?_)
              rw [hvl]
              refine lt_int (wpAny_truthy_bool ?_)
              have e : (at1 (PyData.list xs) (PyData.int z)).isSome = decide (z < (xs.length : Int)) := by
                simp only [at1]
                rw [if_pos (by omega)]
                by_cases hz : z < (xs.length : Int)
                · rw [decide_eq_true hz, List.getElem?_eq_getElem (by omega)]; rfl
                · rw [decide_eq_false hz, List.getElem?_eq_none (by omega)]; rfl
              rw [e]
              by_cases hz : z < (xs.length : Int)
              · rw [decide_eq_true hz, if_pos rfl]
                exact isTrue_and_nil ⟨rfl, _, rfl⟩
              · rw [decide_eq_false hz, if_neg (by decide)]
                exact ⟨rfl, _, rfl⟩
            | _ => simp [tokOk] at htok
          | _ => simp [isList] at hd
      obtain ⟨rfl, tk₄, rfl⟩ := hb
      cases hb2 : (isList d₁ && (at1 d₁ tk₁).isSome) with
      | true =>
        rw [if_pos rfl]
        rw [Bool.and_eq_true, Option.isSome_iff_exists] at hb2
        obtain ⟨-, d₂, hd₂⟩ := hb2
        refine wpAny_execs_cons ?_
        refine wpAny_Assign_Name ?_
        refine Subscript_ ?_
        refine n_loc F₁ mv1 ?_
        refine n_loc F₁ (if_pos rfl) ?_
        refine getItem_J r₁ F₁.gh rt' hd₂ fun v₂ as₃ tk₄ r₂ _ => ?_
        refine s_loc F₁ fun h₃ F₃ => ?_
        dsimp only
        refine wpAny_execs_nil ?_
        dsimp only
        refine wpAny_execs_nil ?_
        dsimp only
        refine wpAny_execs_nil ?_
        exact goOn hd₂ r₂ F₃
      | false =>
        rw [if_neg (by decide)]
        have hnone : at1 d₁ tk₁ = none := by
          cases q : at1 d₁ tk₁ with
          | none => rfl
          | some d₂ =>
            exfalso
            rw [q] at hb1 hb2
            cases d₁ <;> first | (simp [isList] at hb2; done) | (simp [isDict] at hb1; done) | (cases tk₁ <;> simp [at1] at q)
        refine x_ret ?_
        refine n_loc F₁ (by rw [if_neg (by decide)]; exact m2) ?_
        refine ret _ _ _ _ F₁.after ⟨cs, ?_⟩
        rw [← e₁, fnd, hnone]
        exact hf.keeps gg
  · rintro m₁ g₁ h₂ tk₂ ⟨v₁, d₁, as₁, k, m1, m2, r₁, hok₁, e₁⟩ gg F₁
    dsimp only
    refine x_ret ?_
    refine n_loc F₁ m1 ?_
    rw [hwl, List.drop_length] at e₁
    exact ret _ _ _ _ F₁.after ⟨as₁, by rw [← e₁]; exact r₁⟩
end
end Mine
end

/-! ## KC -/
section
set_option maxRecDepth 100000
set_option maxHeartbeats 4000000
open PySem PySem.W PyProof.Rows PySem.Calls
namespace Mine

example (w : World) (h : Heap) (X : (hd.heap_39 w.params).In h) : (hd.heap_39 w.params).In h ∧ PySem.Challenge.rw_bs0014_01 = PySem.Challenge.rw_bs0014_01 := by
  k_fill
  exact ⟨X, rfl⟩

/-! ### the regex machine -/
open PySem.Builtin.Re PySem.Builtin
section
variable {M : Model} {A : Around} {E : Value → Shared → Prop} {s : Shared}
theorem drive_run : ∀ (k : Nat) (turns : Nat) (m m' : Sre.M) {Q : Sre.M → Shared → Prop}, k ≤ turns → drv k m = some m' → Q m' s → wpAny M A (reDrive turns m) Q E s
  | 0, _, _, _, _, _, h, _ => by simp [drv] at h
  | k + 1, 0, _, _, _, hk, _, _ => absurd hk (by omega)
  | k + 1, turns + 1, m, m', Q, hk, h, q => by
    unfold drv at h
    unfold reDrive
    show wpAny M A (if (m.runFor 4).outcome.isSome = true then pure (m.runFor 4) else _) Q E s
    dsimp only at h
    by_cases ho : (m.runFor 4).outcome.isSome = true
    · rw [if_pos ho] at h ⊢
      cases h
      exact wpAny_pure q
    · rw [if_neg ho] at h ⊢
      exact wpAny_bind (wpAny_rule (drive_run k turns _ m' (by omega) h q))
theorem drive_marks (m : Sre.M) {Q : Unit → Shared → Prop} (q : Q () s) : ∀ l : List Nat, wpAny M A (forIn l PUnit.unit fun i (_ : PUnit) => (if m.seen.has i = true then do rule (Sre.names.getD i ""); pure (ForInStep.yield PUnit.unit) else pure (ForInStep.yield PUnit.unit))) Q E s
  | [] => by rw [List.forIn_nil]; exact wpAny_pure q
  | i :: r => by
    rw [List.forIn_cons]
    refine wpAny_bind ?_
    by_cases h : m.seen.has i = true
    · rw [if_pos h]
      exact wpAny_bind (wpAny_rule (wpAny_pure (drive_marks m q r)))
    · rw [if_neg h]
      exact wpAny_pure (drive_marks m q r)
theorem run_failed {m : Sre.M} {Q : Option Sre.M → Shared → Prop} {k : Nat} (hk : k ≤ 2 ^ 64) (h : failed (drv k m) = true) (q : Q none s) : wpAny M A (reRunToEnd m) Q E s := by
  unfold failed at h
  split at h
  · rename_i m' hm
    unfold reRunToEnd
    refine wpAny_bind (drive_run k _ m m' hk hm ?_)
    refine wpAny_bind (drive_marks m' ?_ _)
    split at h
    · rename_i ho
      rw [ho]
      exact wpAny_pure q
    · cases h
  · cases h
theorem run_matched {m : Sre.M} {Q : Option Sre.M → Shared → Prop} {k : Nat} (hk : k ≤ 2 ^ 64) (h : matched (drv k m) = true) (q : ∀ m', drv k m = some m' → Q (some m') s) : wpAny M A (reRunToEnd m) Q E s := by
  unfold matched at h
  split at h
  · rename_i m' hm
    unfold reRunToEnd
    refine wpAny_bind (drive_run k _ m m' hk hm ?_)
    refine wpAny_bind (drive_marks m' ?_ _)
    split at h
    · rename_i ho
      rw [ho]
      exact wpAny_pure (q m' hm)
    · cases h
  · cases h
end
theorem named_s (v : Value) : reNamed "re.Pattern.search" "search" ["string", "pos", "endpos"] 1 [v] [] = pure [some v, none, none] := by kernel_rfl
theorem named_f (v : Value) : reNamed "re.Pattern.fullmatch" "fullmatch" ["string", "pos", "endpos"] 1 [v] [] = pure [some v, none, none] := by kernel_rfl
theorem text_str (x : Str) (t : Tok) : reTextOf (.str x t) = pure (x.cps, 0) := by kernel_rfl

section
variable {prog : Program} {w : World} {p : Program} {loose : List Str} {mg mb : Str → Option Value} {A : Around} {E : Value → Shared → Prop} {s : Shared} {R : Result → Shared → Prop}
  {base g₀ g h h' gh0 : Heap} {L : Addr} {m m' : Str → Option Value} {vol : List (Addr × Obj)} {T : Option Obj} {env : Env}

/-- a pattern of the written part -/
def patIn (K : Frag) (a : Addr) (code : Array Nat) (groups : Nat) : Bool := match K.lookup a with
  | some ⟨.type "re.Pattern", none, .fields fs, sl⟩ => sl.isEmpty && (fs.getD 6 .none == .int 0 0) && (fs.getD 2 .none == .int groups 0) && (match fs.getD 5 .none with
      | .ref c => (match K.lookup c with
        | some o => (match o.data with | .seq vs _ => decide ((vs.map reRawOf).map (·.toNat) = code) | _ => false)
        | none => false)
      | _ => false)
  | _ => false
theorem pat_esc (w : World) : patIn (hd.heap_39 w.params) 48 codeEsc 1 = true := by kernel_rfl
theorem pat_idx (w : World) : patIn (hd.heap_39 w.params) 43 codeIdx 0 = true := by kernel_rfl

theorem pat_of {K : Frag} {a : Addr} {code : Array Nat} {groups : Nat} (X : K.In h) (e : patIn K a code groups = true) :
    ∃ (fs : Array Value) (c : Addr) (oc : Obj) (vs : Array Value) (n : Nat) (sl : Array (Option Value)), h.get? a = some ⟨.type "re.Pattern", none, .fields fs, sl⟩ ∧ fs.getD 6 .none = .int 0 0 ∧ fs.getD 2 .none = .int groups 0 ∧ fs.getD 5 .none = .ref c ∧ h.get? c = some oc ∧ oc.data = .seq vs n ∧ (vs.map reRawOf).map (·.toNat) = code := by
  unfold patIn at e
  split at e
  · rename_i fs sl ho
    simp only [Bool.and_eq_true, beq_iff_eq] at e
    obtain ⟨⟨⟨e1, e2⟩, e3⟩, e4⟩ := e
    split at e4
    · rename_i c hc
      split at e4
      · rename_i o hoc
        split at e4
        · rename_i vs n hd
          exact ⟨fs, c, o, vs, n, sl, X _ _ ho, e2, e3, hc, X _ _ hoc, hd, of_decide_eq_true e4⟩
        · cases e4
      · cases e4
    · cases e4
  · cases e

theorem target_run {a : Addr} {x : Str} {t : Tok} {code : Array Nat} {groups : Nat} {id f : String} {Q : ReTarget → Shared → Prop} (X : (hd.heap_39 w.params).In s.heap) (e : patIn (hd.heap_39 w.params) a code groups = true)
    (hn : reNamed id f ["string", "pos", "endpos"] 1 [.str x t] [] = pure [some (.str x t), none, none])
    (h : Q { pattern := .ref a, string := .str x t, code := code, text := x.cps, kind := 0, groups := groups, pos := 0, lim := min ((2 ^ 63 - 1 : Int)).toNat x.cps.size } s) : wpAny (model prog w) A (reTarget id f ⟨[.ref a, .str x t], []⟩) Q E s := by
  obtain ⟨fs, c, oc, vs, n, sl, ho, h6, h2, h5, hoc, hd, hcode⟩ := pat_of X e
  unfold reTarget
  dsimp only
  rw [hn]
  refine wpAny_bind (wpAny_pure ?_)
  dsimp only
  refine wpAny_bind (wpAny_pure (wpAny_bind (wpAny_pure ?_)))
  refine wpAny_bind ?_
  unfold fieldsOf
  dsimp only
  refine wpAny_bind (wpAny_load ho ?_)
  dsimp only
  refine wpAny_pure ?_
  rw [text_str]
  refine wpAny_bind (wpAny_pure ?_)
  dsimp only
  rw [h6, h2, h5]
  rw [if_neg (by decide), if_neg (by decide)]
  refine wpAny_bind (m := reNoCollectionInside _ 0) (wpAny_pure ?_)
  refine wpAny_bind ?_
  unfold reRawItems seqItems?
  dsimp only
  refine wpAny_bind (wpAny_bind (wpAny_load hoc ?_))
  rw [hd]
  dsimp only
  refine wpAny_pure (wpAny_pure ?_)
  rw [Option.getD_some, hcode]
  refine wpAny_pure ?_
  simpa [reRawNat] using h

end
namespace RF
theorem slot_search : Slot "re.Pattern" "search" "re.Pattern.search" :=
  .of (owner := "re.Pattern") (n := "search") (by rw [typeLookup_type, builtinLookup_eq_fast]; kernel_rfl) (by decide +kernel) (by decide +kernel) (by decide +kernel)
    (by first | exact .inl (by decide +kernel) | exact .inr (by decide +kernel)) (by rw [isSubtype_type]; kernel_rfl)
theorem type_search : typeOf (.builtin "re.Pattern.search") = pure (.type "method_descriptor") := by show builtinType _ = _; rw [builtinType_eq_fast]; kernel_rfl
theorem entry_search : entryFor table "re.Pattern.search" = some Builtin.«re.Pattern.search» := entryFor_of_tree (by kernel_rfl)
theorem args_search (a b : Value) : argsOk "re.Pattern.search" ⟨[a, b], []⟩ := by unfold argsOk; kernel_rfl
theorem slot_full : Slot "re.Pattern" "fullmatch" "re.Pattern.fullmatch" :=
  .of (owner := "re.Pattern") (n := "fullmatch") (by rw [typeLookup_type, builtinLookup_eq_fast]; kernel_rfl) (by decide +kernel) (by decide +kernel) (by decide +kernel)
    (by first | exact .inl (by decide +kernel) | exact .inr (by decide +kernel)) (by rw [isSubtype_type]; kernel_rfl)
theorem type_full : typeOf (.builtin "re.Pattern.fullmatch") = pure (.type "method_descriptor") := by show builtinType _ = _; rw [builtinType_eq_fast]; kernel_rfl
theorem entry_full : entryFor table "re.Pattern.fullmatch" = some Builtin.«re.Pattern.fullmatch» := entryFor_of_tree (by kernel_rfl)
theorem args_full (a b : Value) : argsOk "re.Pattern.fullmatch" ⟨[a, b], []⟩ := by unfold argsOk; kernel_rfl
theorem plain : PlainAttrs "re.Pattern" := ⟨⟨"object.__getattribute__", by rw [typeLookup_type, builtinLookup_eq_fast]; kernel_rfl, by decide +kernel⟩, by rw [typeLookup_type, builtinLookup_eq_fast]; kernel_rfl⟩
end RF
section
variable {prog : Program} {w : World} {p : Program} {loose : List Str} {mg mb : Str → Option Value} {A : Around} {E : Value → Shared → Prop} {s : Shared} {R : Result → Shared → Prop}
  {base g₀ g h h' gh0 : Heap} {L : Addr} {m m' : Str → Option Value} {vol : List (Addr × Obj)} {T : Option Obj} {env : Env}

theorem Fm.moreP (F : Fm base g₀ L m vol T g h) (o : Obj) : Fm base g₀ L m vol T g (h.push o) := F.more (fun b o e => Heap.get?_push_of_some _ e) (push_tab F _)
theorem lim_eq {n : Nat} (h : n ≤ 1000) : min ((2 ^ 63 - 1 : Int)).toNat n = n := by
  have : ((2 ^ 63 - 1 : Int)).toNat = 9223372036854775807 := by decide
  rw [this]; omega
/-- pattern.search(text), nothing found -/
theorem call_search {x : Str} {t : Tok} {Q : Value → Shared → Prop} (X : (hd.heap_39 w.params).In s.heap) (hx : noEsc x = true) (hs : x.length ≤ 1000) (h : Q .none s) : wpAny (model prog w) A (call (.builtin "re.Pattern.search") [.ref 48, .str x t]) Q E s := by
  obtain ⟨fs, c, oc, vs, n, sl, ho, -⟩ := pat_of X (pat_esc w)
  refine wpAny_call_entry RF.slot_search ⟨_, ho, rfl⟩ RF.entry_search ?_ (RF.args_search _ _)
  unfold Builtin.«re.Pattern.search»
  refine wpAny_bind (target_run X (pat_esc w) (named_s _) ?_)
  unfold reAnswer
  dsimp only
  rw [lim_eq (show x.cps.size ≤ 1000 from hs)]
  refine wpAny_bind (run_failed (k := 400) (by decide) hx ?_)
  exact wpAny_pure ⟨_, rfl, h⟩
/-- pattern.fullmatch(text), no match -/
theorem call_full_no {x : Str} {t : Tok} {Q : Value → Shared → Prop} (X : (hd.heap_39 w.params).In s.heap) (hx : noIdx x = true) (hs : x.length ≤ 1000) (h : Q .none s) : wpAny (model prog w) A (call (.builtin "re.Pattern.fullmatch") [.ref 43, .str x t]) Q E s := by
  obtain ⟨fs, c, oc, vs, n, sl, ho, -⟩ := pat_of X (pat_idx w)
  refine wpAny_call_entry RF.slot_full ⟨_, ho, rfl⟩ RF.entry_full ?_ (RF.args_full _ _)
  unfold Builtin.«re.Pattern.fullmatch»
  refine wpAny_bind (target_run X (pat_idx w) (named_f _) ?_)
  unfold reAnswer
  dsimp only
  rw [lim_eq (show x.cps.size ≤ 1000 from hs)]
  refine wpAny_bind (run_failed (k := 400) (by decide) hx ?_)
  exact wpAny_pure ⟨_, rfl, h⟩
/-- pattern.fullmatch(text), a match: some new object -/
theorem call_full_yes {x : Str} {t : Tok} {Q : Value → Shared → Prop} (F : Fm base g₀ L m vol T g s.heap) (X : (hd.heap_39 w.params).In s.heap) (hx : isIdx x = true) (hs : x.length ≤ 1000)
    (h : ∀ a h', Fm base g₀ L m vol T g h' → (∃ o, h'.get? a = some o ∧ o.cls = .type "re.Match") → Q (.ref a) { s with heap := h' }) : wpAny (model prog w) A (call (.builtin "re.Pattern.fullmatch") [.ref 43, .str x t]) Q E s := by
  obtain ⟨fs, c, oc, vs, n, sl, ho, -⟩ := pat_of X (pat_idx w)
  refine wpAny_call_entry RF.slot_full ⟨_, ho, rfl⟩ RF.entry_full ?_ (RF.args_full _ _)
  unfold Builtin.«re.Pattern.fullmatch»
  refine wpAny_bind (target_run X (pat_idx w) (named_f _) ?_)
  unfold reAnswer
  dsimp only
  rw [lim_eq (show x.cps.size ≤ 1000 from hs)]
  refine wpAny_bind (run_matched (k := 400) (by decide) hx fun m' _ => ?_)
  unfold reNewMatch
  dsimp only
  refine wpAny_bind ?_
  rw [if_neg (by rw [show List.range 0 = [] from rfl, List.any_nil]; decide)]
  refine wpAny_bind (wpAny_newTuple ?_ (by have := sizeLine_eq; rw [show List.range 0 = [] from rfl]; simp; omega))
  unfold newFields
  refine wpAny_newObj_type ?_ (by have := sizeLine_eq; show _ ≤ _; simp; omega)
  exact wpAny_pure ⟨_, rfl, h _ _ ((F.moreP _).moreP _) ⟨_, Heap.get?_push_size _ rfl, rfl⟩⟩

theorem match_bool : typeLookup (.type "re.Match") "__bool__" = pure none := by rw [typeLookup_type, builtinLookup_eq_fast]; kernel_rfl
theorem match_len : typeLookup (.type "re.Match") "__len__" = pure none := by rw [typeLookup_type, builtinLookup_eq_fast]; kernel_rfl
/-- such a match object is true -/
theorem truthy_match {a : Addr} {o : Obj} {Q : Bool → Shared → Prop} (e : s.heap.get? a = some o) (hc : o.cls = .type "re.Match") (h : Q true s) : wpAny (model prog w) A (truthy (.ref a)) Q E s := by
  have hT : s.TypeIs (.ref a) "re.Match" := ⟨o, e, hc⟩
  unfold truthy
  dsimp only
  refine wpAny_bind ?_
  unfold callSpecial?
  refine wpAny_bind (wpAny_specialOf hT match_bool ?_)
  refine wpAny_pure ?_
  dsimp only
  refine wpAny_bind (wpAny_specialOf hT match_len ?_)
  exact wpAny_pure h
end
end Mine
end

/-! ## KD -/
section
set_option maxRecDepth 100000
set_option maxHeartbeats 4000000
open PySem PySem.W PyProof.Rows PySem.Calls
namespace Mine

example (w : World) (h : Heap) (X : (hd.heap_39 w.params).In h) : (hd.heap_39 w.params).In h ∧ PySem.Challenge.rw_bs0014_01 = PySem.Challenge.rw_bs0014_01 := by
  k_fill
  exact ⟨X, rfl⟩

section
variable {prog : Program} {w : World} {p : Program} {loose : List Str} {mg mb : Str → Option Value} {A : Around} {E : Value → Shared → Prop} {s : Shared} {R : Result → Shared → Prop}
  {base g₀ g h h' gh0 : Heap} {L : Addr} {m m' : Str → Option Value} {vol : List (Addr × Obj)} {T : Option Obj} {env : Env}

/-! ### one moving object, in the ledger's form -/
def restN (L D : Addr) (h : Heap) : List (Addr × Obj) := (allN L h).filter fun p => p.1 != D
theorem restN_mem {L D : Addr} {h : Heap} {a : Addr} {o : Obj} : (a, o) ∈ restN L D h ↔ (a ≠ L ∧ h.get? a = some o) ∧ a ≠ D := by
  unfold restN
  rw [List.mem_filter, allN_mem]
  simp
theorem restN_ne {L D : Addr} {h : Heap} : ∀ p ∈ restN L D h, p.1 ≠ D := fun ⟨_, _⟩ hp => (restN_mem.mp hp).2
theorem Fm.newsD {D : Addr} {o : Obj} (F : Fm base g₀ L m vol T g h) (e : h.get? D = some o) (hD : D ≠ L) : News h00 L h ((D, o) :: restN L D h) := fun q hq => by
  rcases List.mem_cons.mp hq with rfl | hq
  · exact ⟨e, hD, h00_get _⟩
  · obtain ⟨a, o'⟩ := q
    have := restN_mem.mp hq
    exact ⟨this.1.2, this.1.1, h00_get _⟩
theorem Fm.turnK {a : Addr} {o o' : Obj} (F : Fm base g₀ L m ((a, o) :: vol) T g h) (tT : T ≠ none) (hn : h'.Ns L m') (k : ∀ b x, h.get? b = some x → b ≠ L → b ≠ a → h'.get? b = some x) (e : h'.get? a = some o') : Fm base g₀ L m' ((a, o') :: vol) T g h' := by
  have ha := F.vv (a, o) (.head _)
  have nd := F.nd
  rw [List.map_cons, List.nodup_cons] at nd
  have aT : TAB ≠ a := fun z => by have := ha.2.1; rw [← z] at this; exact absurd F.tlt (Nat.not_lt.mpr this)
  refine ⟨hn, fun b x q hb => k b x (F.keep b x q hb) (fun z => by subst z; exact absurd (Heap.lt_size q) (Nat.not_lt.mpr F.lo)) (fun z => by subst z; exact absurd (Heap.lt_size q) (Nat.not_lt.mpr ha.2.1)), F.lo, F.tlt, ?_, fun p hp => ?_, F.nd, fun b x q => k b x (F.gh b x q) (fun z => by rw [z, F.gL] at q; cases q) (fun z => by rw [z, ha.2.2.2] at q; cases q), F.gL, F.gg, F.gT⟩
  · cases q : T with
    | none => exact absurd q tT
    | some t => exact k _ _ (F.tab.trans q) F.ltab aT
  · rcases List.mem_cons.mp hp with rfl | hp
    · exact ⟨e, ha.2⟩
    · have := F.vv p (.tail _ hp)
      exact ⟨k _ _ this.1 this.2.2.1 fun z => nd.1 (List.mem_map.mpr ⟨p, hp, z⟩), this.2⟩
theorem Fm.turnN {a : Addr} {o o' : Obj} (F : Fm base g₀ L m ((a, o) :: vol) T g h) (tT : T ≠ none) (F' : Fr h00 L h' m') (N' : News h00 L h' ((a, o') :: restN L a h)) : Fm base g₀ L m' ((a, o') :: vol) T g h' :=
  F.turnK tT F'.ns (fun b x e hL ha => (N' (b, x) (.tail _ (restN_mem.mpr ⟨⟨hL, e⟩, ha⟩))).1) (N' _ (.head _)).1

/-- entering a def some of whose caller's new objects move -/
theorem enterB {R : Result → Shared → Prop} {name qual : Str} {params : Arguments} {body : List Stmt} {scope : Scope} {dV kV doc pm cdv ct oc : Value} {an od : Option Addr} {osl : Array (Option Value)} {f : Addr} {args : Args} {binds : List (Str × Value)} {b0 : Heap}
    (W : WD w p loose mg mb g) (S : St g s) (hb0 : ∀ b o, b0.get? b = some o → s.heap.get? b = some o) (hz0 : b0.objs.size ≤ s.heap.objs.size) (ht0 : b0.get? TAB ≠ none)
    (hvol : ∀ q ∈ vol, s.heap.get? q.1 = some q.2 ∧ b0.objs.size ≤ q.1 ∧ g.get? q.1 = none) (hndv : (vol.map (·.1)).Nodup)
    (ho : (hd.heap_39 w.params).lookup f = some ⟨oc, od, .func (fnOf name qual params body scope dV kV doc pm an cdv ct), osl⟩) (hcd : codeIn (hd.heap_39 w.params) cdv qual = true) (hroom : A.depth < recursionLimit)
    (hbind : BindsTo s (fnOf name qual params body scope dV kV doc pm an cdv ct) args binds) (hloc : (binds.all fun x => decide (scope.names.lookup x.1 = some .local)) = true)
    (h : ∀ L h₁ tk, Fm b0 g L (fun y => binds.reverse.lookup y) vol (s.heap.get? TAB) g h₁ →
      wpAny (model prog w) (A.deeper (envX qual scope L f cdv [])) (execs body (envX qual scope L f cdv []))
        (fun fl s' => R (.ok (.ret (match fl with | .ret v => v | _ => .none))) s')
        (fun e s' => wpAny (model prog w) (A.deeper (envX qual scope L f cdv [])) (leaving (envX qual scope L f cdv []) e) (fun _ s'' => R (.error e) s'') (fun e' s'' => R (.error e') s'') s')
        { s with heap := h₁, toks := tk })
    (hcell : (scope.names.all fun x => decide (x.2 ≠ .cell)) = true) (hco : scope.isCoroutine = false) (hgen : scope.isGenerator = false) (hk : scope.kind = .function) :
    codeAny (model prog w) A (.call (.ref f) args) R s := by
  have Ws := W.keeps S.sub
  have hlt : TAB < b0.objs.size := by
    cases q : b0.get? TAB with
    | none => exact absurd q ht0
    | some o => exact Heap.lt_size q
  refine codeAny_call_def (fd := fnOf name qual params body scope dV kV doc pm an cdv ct) (body := body) (binds := binds) hroom (Ws.k _ _ ho) rfl Ws.t.nolimit (codeRec_of Ws.k hcd) rfl hbind
    (fun x hx => of_decide_eq_true (List.all_eq_true.mp hcell x hx)) (locs hloc) (fun h₁ hns k => ?_) hco hgen hk
  refine h _ h₁ _ ⟨hns, fun b o e _ => k b o (hb0 b o e), hz0, hlt, ?_, fun q hq => ?_, hndv, fun b o e => k _ _ (S.sub b o e), ?_, .refl _ _, S.gT⟩
  · cases q : s.heap.get? TAB with
    | none => exact absurd q S.tT
    | some o => exact k _ _ q
  · have := hvol q hq
    exact ⟨k _ _ this.1, this.2.1, Nat.ne_of_lt (Heap.lt_size this.1), this.2.2⟩
  · cases q : g.get? s.heap.objs.size with
    | none => rfl
    | some o => exact absurd (Heap.lt_size (S.sub _ _ q)) (Nat.lt_irrefl _)

/-- a new moving object, from the ledger's form -/
theorem Fm.volNew {D : Addr} {o : Obj} (F : Fm base g₀ L m vol T g h) (tT : T ≠ none) (F' : Fr h00 L h' m') (N' : News h00 L h' ((D, o) :: allN L h)) (e : h.get? D = none) (hD : base.objs.size ≤ D) : Fm base g₀ L m' ((D, o) :: vol) T g h' := by
  have F1 := F.stays tT F'.ns fun b x e hb => (N' (b, x) (.tail _ (allN_mem.mpr ⟨hb, e⟩))).1
  refine { F1 with vv := fun p hp => ?_, nd := ?_ }
  · rcases List.mem_cons.mp hp with rfl | hp
    · exact ⟨(N' _ (.head _)).1, hD, (N' _ (.head _)).2.1, none_back F.gh e⟩
    · exact F1.vv p hp
  · rw [List.map_cons, List.nodup_cons]
    refine ⟨fun hm => ?_, F.nd⟩
    obtain ⟨q, hq, z⟩ := List.mem_map.mp hm
    have := (F.vv q hq).1
    rw [z, e] at this; cases this
theorem Fm.size_ge (F : Fm base g₀ L m vol T g h) : base.objs.size ≤ h.objs.size := by
  obtain ⟨oL, e⟩ := F.hL
  exact Nat.le_trans F.lo (Nat.le_of_lt (Heap.lt_size e))

/-! ### a pointer object -/
def ptrE (w : World) (tk : Tok) (v : Value) : List DictEntry := [⟨PyData.keyHash w.params (Str.ofString "parts"), .str (Str.ofString "parts") tk, v⟩]
def ptrD (w : World) (tk : Tok) (v : Value) : Obj := dictOf (ptrE w tk v) 1
structure IsPtr (w : World) (g : Heap) (a : Addr) (ws : List Str) : Prop where
  at_ : ∃ dx tk l vs, g.get? a = some (instObj 274 dx) ∧ g.get? dx = some (ptrD w tk (.ref l)) ∧ g.IsList l (vs : List Value).toArray ∧ StrsAre vs ws
theorem IsPtr.keeps {a : Addr} {ws : List Str} (x : IsPtr w g a ws) (k : g.StaysIn h) : IsPtr w h a ws :=
  ⟨let ⟨dx, tk, l, vs, a1, a2, a3, a4⟩ := x.at_; ⟨dx, tk, l, vs, k _ _ a1, k _ _ a2, isList_keeps k a3, a4⟩⟩

theorem does_ptr {ws : List Str} {t : Tok} (W : WD w p loose mg mb g) (hall : ∀ x ∈ ws, x ∈ words) (hok : okWs ws = true) (hlen : ws.length ≤ 5) :
    Does prog w (.ref 274) [.str (textOf ws) t] 4 120 g fun g' r => ∃ a, r = .ref a ∧ IsPtr w g' a ws ∧ g.get? a = none := by
  intro A s Q E S Rm ret
  have hok' := hok
  simp only [okWs, Bool.and_eq_true, decide_eq_true_eq] at hok'
  obtain ⟨⟨⟨hesc, hlen100⟩, hsplit⟩, hun⟩ := hok'
  obtain ⟨hh, gns, dr, tks, os⟩ := s
  refine wpAny_call ?_
  have Xs := (W.keeps S.sub).k
  refine make_core (makes_of Xs (C := 274) (by k_is)) (looks_findIn Xs (by k_is)) (fun self => bind_fn Xs self (by k_is)) (.inl rfl) ?_
  have n0 : hh.get? hh.objs.size = none := none_of_ge (Nat.le_refl _)
  have n1 : hh.get? (hh.objs.size + 1) = none := none_of_ge (Nat.le_succ _)
  have kk : ∀ b o, hh.get? b = some o → ((hh.push emptyDict).push (instObj 274 hh.objs.size)).get? b = some o := fun b o e => Heap.get?_push_of_some _ (Heap.get?_push_of_some _ e)
  have gnone : ∀ a, hh.get? a = none → g.get? a = none := fun a e => none_back S.sub e
  have hlt : TAB < hh.objs.size := by
    cases q : hh.get? TAB with
    | none => exact absurd q S.tT
    | some o => exact Heap.lt_size q
  have S' : St g (⟨(hh.push emptyDict).push (instObj 274 hh.objs.size), gns, dr, tks, os⟩ : Shared) := ⟨fun b o e => kk b o (S.sub b o e), S.gT, by
    cases q : hh.get? TAB with
    | none => exact absurd q S.tT
    | some o => rw [kk _ _ q]; exact Option.some_ne_none _⟩
  have hD : ((hh.push emptyDict).push (instObj 274 hh.objs.size)).get? hh.objs.size = some emptyDict := Heap.get?_push_of_some _ (Heap.get?_push_size _ rfl)
  have hX : ((hh.push emptyDict).push (instObj 274 hh.objs.size)).get? (hh.objs.size + 1) = some (instObj 274 hh.objs.size) := by heap_get
  (refine' enterB (vol := [(hh.objs.size, emptyDict), (hh.objs.size + 1, instObj 274 hh.objs.size)]) W S' (b0 := hh) kk ?hz S.tT ?hv ?hnd ?ho ?hcd ?hroom ?hb ?hl ?_ ?h1 ?h2 ?h3 ?h4; (case ho => k_is); (case hcd => k_is); (case hb => exact BindsTo.of_eq rfl); (case h1 => decide); (case h2 => exact rfl); (case h3 => exact rfl); (case h4 => exact rfl); (case hl => exact rfl))
  case hz => rw [Heap.size_push, Heap.size_push]; exact Nat.le_trans (Nat.le_succ _) (Nat.le_succ _)
  case hv =>
    intro q hq
    rcases List.mem_cons.mp hq with rfl | hq
    · exact ⟨hD, Nat.le_refl _, gnone _ n0⟩
    · rcases List.mem_cons.mp hq with rfl | hq
      · exact ⟨hX, Nat.le_succ _, gnone _ n1⟩
      · cases hq
  case hnd => simp
  case hroom =>
    have := Rm.d
    show A.depth + 1 < _
    omega
  intro L h₁ tk F0
  obtain ⟨m0, F, ms, mp⟩ : ∃ m0, Fm hh g L m0 [(hh.objs.size, emptyDict), (hh.objs.size + 1, instObj 274 hh.objs.size)] (hh.get? TAB) g h₁ ∧ m0 (Str.ofString "self") = some (.ref (hh.objs.size + 1)) ∧ m0 (Str.ofString "pointer") = some (.str (textOf ws) t) := by
    have e : ((hh.push emptyDict).push (instObj 274 hh.objs.size)).get? TAB = hh.get? TAB := by
      cases q : hh.get? TAB with
      | none => exact absurd q S.tT
      | some o => exact kk _ _ q
    exact ⟨_, e ▸ F0, rfl, rfl⟩
  clear F0
  have tT : hh.get? TAB ≠ none := S.tT
  dsimp only
  generalize hAA : (A.under (Code.builtin "type.__call__" { pos := [Value.ref 274, Value.str (textOf ws) t] })) = AA
  have hAd : AA.depth ≤ A.depth + 1 := by rw [← hAA]; exact Nat.le_refl _
  have hAu : AA.units ≤ A.units + 1 := by rw [← hAA]; exact Nat.le_refl _
  have hAh : AA.handled = none := by rw [← hAA]; exact Rm.h
  have R1 : ∀ env, Room (AA.deeper env) 1 40 := fun env => ⟨by have := Rm.d; show AA.depth + 1 + 1 < _; omega, by have := Rm.u; show AA.units + 3 + 40 < _; omega, hAh⟩
  have hU : AA.units + 3 + 64 < cLine := by have := Rm.u; omega
  -- no text?
  refine wpAny_execs_cons ?_
  refine wpAny_If ?_
  refine isTrue_not ?_
  refine isTrue_plain ?_
  refine wpAny_Call_ofName (n_bi W F.gh (by k_is) rfl (PyProof.Rows.callWith_builtin1 (spliced_more ?_)))
  refine n_loc F mp ?_
  refine spliced_more ?_
  refine n_bi W F.gh (by k_is) rfl ?_
  refine spliced_none ?_
  refine IsiPair.str_str ?_
  refine wpAny_truthy_bool ?_
  rw [show (!true) = false from rfl, if_neg (by decide)]
  refine wpAny_execs_nil ?_
  dsimp only
  -- the search
  refine wpAny_execs_cons ?_
  refine wpAny_Assign_Name ?_
  refine MethodCall_ ?_
  refine PyProof.Rows.Attribute_name ?_
  refine n_loc F ms ?_
  have I0 : ∀ {hx : Heap}, hx.get? (hh.objs.size + 1) = some (instObj 274 hh.objs.size) → hx.get? hh.objs.size = some emptyDict → InstAt hx (hh.objs.size + 1) (instObj 274 hh.objs.size) 274 (some emptyDict) := fun a b => ⟨a, rfl, rfl, b⟩
  have X1 := (W.keeps F.gh).k
  refine get_value X1 (I0 (F.vv _ (.tail _ (.head _))).1 (F.vv _ (.head _)).1) (plainGet_of (name := Str.ofString "x") (by k_is)).1 (findObj_cls (by k_is) (by k_is) (by k_is) rfl (by decide +kernel) rfl) rfl ?_
  obtain ⟨fsP, cP, ocP, vsP, nP, slP, hoP, -⟩ := pat_of X1 (pat_esc w)
  refine getMethod_builtin (T := "re.Pattern") ⟨_, hoP, rfl⟩ RF.plain RF.slot_search RF.type_search (fun a e => by cases e; exact ⟨_, hoP, rfl⟩) ?_
  refine callWith_method1 (spliced_more ?_)
  dsimp only
  refine n_loc F mp ?_
  refine spliced_none ?_
  refine call_search X1 hesc (by omega) ?_
  refine s_loc F fun h₂ F₂ => ?_
  dsimp only
  refine wpAny_execs_cons ?_
  refine wpAny_If ?_
  refine isTrue_plain ?_
  refine n_loc F₂ (if_pos rfl) ?_
  refine truthy_none ?_
  rw [if_neg (by decide)]
  refine wpAny_execs_nil ?_
  dsimp only
  -- the split
  refine wpAny_execs_cons ?_
  refine wpAny_Assign_Name ?_
  refine MethodCall_ ?_
  refine n_loc F₂ (v := .str (textOf ws) t) (by rw [if_neg (by decide)]; exact mp) ?_
  refine GM.split ?_
  refine callWith_method1 (spliced_more ?_)
  refine wpAny_Constant_str ?_
  refine spliced_none ?_
  dsimp only
  refine splitN1 F₂.fr F₂.news rfl (fun ls h₃ k₃ hls F₃' N₃ => ?_) (by have := sizeLine_eq; omega)
  have F₃ := F₂.volNew tT F₃' N₃ (none_of_ge (Nat.le_refl _)) F₂.size_ge
  rw [hsplit] at hls
  dsimp only
  generalize hDD : h₂.objs.size = D at F₃
  refine s_loc F₃ fun h₄ F₄ => ?_
  dsimp only
  obtain ⟨t0, r0, rfl, hr0⟩ : ∃ t0 r0, ls = (Str.ofString "", t0) :: r0 ∧ r0.map (·.1) = ws.map esc := by
    cases ls with
    | nil => simp at hls
    | cons a r =>
      obtain ⟨a1, a2⟩ := a
      simp only [List.map_cons, List.cons.injEq] at hls
      exact ⟨a2, r, by rw [← hls.1], hls.2⟩
  -- pop
  refine wpAny_execs_cons ?_
  refine wpAny_If ?_
  refine wpAny_isTrue_Compare1 ?_
  refine MethodCall_ ?_
  refine n_loc F₄ (if_pos rfl) ?_
  have eD := (F₄.vv _ (.head _)).1
  have hDL := (F₄.vv _ (.head _)).2.2.1
  refine getMethod_builtin (T := "list") ⟨_, eD, rfl⟩ PySem.F.plainAttrs_list PySem.F.slot_list_pop PySem.F.type_list_pop (fun a e => by cases e; exact ⟨_, eD, rfl⟩) ?_
  refine callWith_method1 (spliced_more ?_)
  refine wpAny_Constant_int ?_
  refine spliced_none ?_
  dsimp only
  refine kl_popAt (k := 0) (p := []) (q := strValues r0) (y := .str (Str.ofString "") t0) F₄.fr (F₄.newsD eD hDL) (by decide) (by simp [strValues, seqIndex?]) rfl (.head restN_ne) (by have := sizeLine_eq; have := congrArg List.length hr0; simp [strValues] at this ⊢; omega) fun h₅ F₅' N₅ => ?_
  have F₅ := F₄.turnN tT F₅' N₅
  refine wpAny_Constant_str ?_
  dsimp only
  refine SeqAt.compareNe_shaped (.str _ _) (.str _ _) (by decide +kernel) (by decide +kernel) hU ?_
  rw [show PyData.eqv (.str (Str.ofString "")) (.str (Str.ofString "")) = true from by decide +kernel]
  refine wpAny_truthy_bool ?_
  rw [show (!true) = false from rfl, if_neg (by decide)]
  refine wpAny_execs_nil ?_
  dsimp only
  -- unescape each
  obtain ⟨g₁, F₆, g01, eD₁, hn1, -⟩ := F₅.tell
  have W₁ := W.keeps g01
  have hlD : g₁.IsList D (strValues r0).toArray := ⟨_, eD₁, rfl, _, rfl⟩
  have hrl : r0.length = ws.length := by have := congrArg List.length hr0; simpa using this
  refine wpAny_execs_cons ?_
  refine lc_assign (cl := []) ?_ rfl rfl (fun _ => rfl) rfl rfl
  refine n_loc F₆ (if_pos rfl) ?_
  refine lc_listU F₆ tT hAh hlD (by have := sizeLine_eq; simp [strValues]; omega) (fun i items _ => StrsAre items (ws.take i)) (fun _ _ _ _ x _ => x) .nil ?_ ?_ (by decide) rfl rfl rfl rfl rfl
  · rintro i v items C mc g₂ h₇ tk₇ vol' E' hi hit gg hvol F₇
    have W₂ := W₁.keeps gg
    have hi' : i < r0.length := by
      have := (Array.getElem?_eq_some_iff.mp hi).1
      simpa [strValues] using this
    obtain ⟨x, tx, hx1, hx2⟩ : ∃ x tx, v = .str (esc x) tx ∧ ws[i]? = some x := by
      have h1 : (r0.map (·.1))[i]? = (ws.map esc)[i]? := by rw [hr0]
      simp only [List.getElem?_map] at h1
      have hw : i < ws.length := by omega
      rw [List.getElem?_eq_getElem hi', List.getElem?_eq_getElem hw] at h1
      simp only [Option.map_some, Option.some.injEq] at h1
      refine ⟨ws[i], r0[i].2, ?_, List.getElem?_eq_getElem hw⟩
      simp only [strValues, List.getElem?_toArray, List.getElem?_map, List.getElem?_eq_getElem hi', Option.map_some, Option.some.injEq] at hi
      rw [← hi, h1]
    subst hx1
    refine wpAny_Call_ofName (n_glob W₂ F₇.gh (by k_is) (callWith_K W₂.k (by k_is) (spliced_more ?_)))
    refine n_loc F₇ upd_same ?_
    refine spliced_none ⟨(W₂.keeps F₇.gh).k, ?_⟩
    refine (does_unescape W₂ (hall x (List.mem_of_getElem? hx2))).use F₇ tT ((R1 _).le (Nat.le_refl _) (by decide)) fun r g₃ h₈ tk₈ F₈ g23 ⟨tkr, er⟩ => ?_
    subst er
    refine ⟨_, g₃, h₈, tk₈, rfl, F₈, g23, ?_⟩
    rw [take_snoc hx2]
    exact hit.append' (.cons _ _ .nil)
  · rintro a items g₂ g₃ h₇ tk₇ hit gg g23 F₇ hla hna hlen'
    have hit' : StrsAre items ws := by
      have : (strValues r0).toArray.size = ws.length := by simp [strValues, hrl]
      rw [this, List.take_length] at hit
      exact hit
    dsimp only
    have W₃ := (W₁.keeps gg).keeps g23
    -- self.parts = parts
    refine wpAny_execs_cons ?_
    refine plainObj_wpAny_Assign_Attribute ?_
    refine n_loc F₇ upd_same ?_
    refine n_loc F₇ (v := .ref (hh.objs.size + 1)) (by rw [upd_ne (by decide), if_neg (by decide), if_neg (by decide)]; exact ms) ?_
    have X7 := (W₃.keeps F₇.gh).k
    have ev := F₇.vv _ (.head _)
    have ex := F₇.vv _ (.tail _ (.head _))
    refine set_plain X7 (I0 ex.1 ev.1) (by k_is) ?_
    refine osa_dict (K := hd.heap_39 w.params) (C := 274) (s := { heap := h₇, gens := gns, drawn := dr, toks := tk₇ + 1, os := os }) (pre := []) (es := ptrE w (tk₇ + 1) (.ref a)) (n := 1) (od' := ptrD w (tk₇ + 1) (.ref a)) F₇.fr (F₇.newsD ev.1 ev.2.2.1) X7 (I0 ex.1 ev.1) rfl (by k_is) (by k_is) (show hasDictIn (hd.heap_39 w.params) 274 = true by k_is) rfl (fun _ h => (nomatch h)) restN_ne ?_ rfl (show 1 ≤ 1000 by decide) fun h₈ F₈' N₈ => ?_
    · exact putName_dict _ _ _ _ [] 0
    have F₈ := F₇.turnN tT F₈' N₈
    dsimp only
    refine wpAny_execs_nil ?_
    dsimp only
    refine ⟨rfl, ?_⟩
    obtain ⟨g₄, F₉, g34, e4, n4, -⟩ := F₈.tell
    obtain ⟨g₅, F₁₀, g45, e5, n5, -⟩ := F₉.tell
    have g05 : g.StaysIn g₄ := fun b o e => g34 b o (g23 b o (gg b o (g01 b o e)))
    refine ret _ g₅ h₈ _ F₁₀.after ⟨_, rfl, ⟨hh.objs.size, tk₇ + 1, a, items, e5, g45 _ _ e4, isList_keeps (fun b o e => g45 b o (g34 b o e)) hla, hit'⟩, none_back g05 n5⟩
end
end Mine
end

/-! ## LA -/
section
set_option maxRecDepth 100000
set_option maxHeartbeats 4000000
open PySem PySem.W PyProof.Rows PySem.Calls
namespace Mine

example (w : World) (h : Heap) (X : (hd.heap_39 w.params).In h) : (hd.heap_39 w.params).In h ∧ PySem.Challenge.rw_bs0014_01 = PySem.Challenge.rw_bs0014_01 := by
  k_fill
  exact ⟨X, rfl⟩

section
variable {prog : Program} {w : World} {p : Program} {loose : List Str} {mg mb : Str → Option Value} {A : Around} {E : Value → Shared → Prop} {s : Shared} {R : Result → Shared → Prop}
  {base g₀ g h h' gh0 : Heap} {L : Addr} {m m' : Str → Option Value} {vol : List (Addr × Obj)} {T : Option Obj} {env : Env}

def seqTup : Obj := { cls := .type "tuple", data := .seq [Value.type "list", Value.type "tuple", Value.type "str", Value.type "bytes"].toArray }
theorem seq_in (X : (hd.heap_39 w.params).In h) : h.get? 49 = some seqTup := X _ _ (by k_is)

theorem isi_seq {v : Value} {d : PyData} {as : List Addr} {Q : Value → Shared → Prop} (hv : JR prog w g v d as) (gh : g.StaysIn s.heap) (X : (hd.heap_39 w.params).In s.heap) (h : ∀ n, Q (.bool (isList d || isStr d)) { s with toks := n }) :
    wpAny (model prog w) A (call (.builtin "isinstance") [v, .ref 49]) Q E s := by
  have e := seq_in X
  cases hv with
  | none => exact IsiPair.tupleOfB (Tx := "NoneType") (x := .none) (tp := 49) (cs := [Value.type "list", Value.type "tuple", Value.type "str", Value.type "bytes"]) (vs := [false, false, false, false]) (by pv_isi_answers) rfl e rfl h
  | bool b => exact IsiPair.tupleOfB (Tx := "bool") (x := .bool b) (tp := 49) (cs := [Value.type "list", Value.type "tuple", Value.type "str", Value.type "bytes"]) (vs := [false, false, false, false]) (by pv_isi_answers) rfl e rfl h
  | int i t => exact IsiPair.tupleOfB (Tx := "int") (x := .int i t) (tp := 49) (cs := [Value.type "list", Value.type "tuple", Value.type "str", Value.type "bytes"]) (vs := [false, false, false, false]) (by pv_isi_answers) rfl e rfl h
  | str x t => exact IsiPair.tupleOfB (Tx := "str") (x := .str x t) (tp := 49) (cs := [Value.type "list", Value.type "tuple", Value.type "str", Value.type "bytes"]) (vs := [false, false, true, false]) (by pv_isi_answers) rfl e rfl h
  | list x y =>
    obtain ⟨o, eo, c, r⟩ := x
    exact IsiPair.tupleOfB (Tx := "list") (tp := 49) (cs := [Value.type "list", Value.type "tuple", Value.type "str", Value.type "bytes"]) (vs := [true, false, false, false]) (by pv_isi_answers) ⟨_, gh _ _ eo, c⟩ e rfl h
  | dict n x e' y =>
    obtain ⟨o, es, eo, c, r⟩ := x
    exact IsiPair.tupleOfB (Tx := "dict") (tp := 49) (cs := [Value.type "list", Value.type "tuple", Value.type "str", Value.type "bytes"]) (vs := [false, false, false, false]) (by pv_isi_answers) ⟨_, gh _ _ eo, c.1⟩ e rfl h

/-- what a call of a code does -/
def DoesC (prog : Program) (w : World) (f : Value) (args : List Value) (dn un : Nat) (g : Heap) (Post : Heap → Value → Prop) : Prop :=
  ∀ (A : Around) (s : Shared) (R : Result → Shared → Prop), St g s → Room A dn un →
    (∀ r g' h' tk, After g s g' h' → Post g' r → R (.ok (.ret r)) { s with heap := h', toks := tk }) → codeAny (model prog w) A (.call f ⟨args, []⟩) R s
theorem DoesC.does {f : Value} {args : List Value} {dn un : Nat} {Post : Heap → Value → Prop} (D : DoesC prog w f args dn un g Post) : Does prog w f args dn un g Post := fun A s Q E S Rm ret =>
  wpAny_call (D A s _ S Rm ret)

/-- a word of the index kind -/
theorem idx_word {x : Str} (hx : x ∈ words) : x ≠ "-" ∧ x.length ≤ 100 := by
  have : words.all (fun x => decide (x ≠ "-")) = true := by decide +kernel
  exact ⟨of_decide_eq_true (List.all_eq_true.mp this x hx), (word_len hx).1⟩
theorem idx_is {i : Int} (h0 : 0 ≤ i) (h1 : i < 3) : isIdx (toString i : String) = true := by
  have : i = 0 ∨ i = 1 ∨ i = 2 := by omega
  rcases this with rfl | rfl | rfl <;> decide +kernel
theorem dash_ok : PyData.strOk ("-" : Str) = true := by decide +kernel
theorem ne_dash {x : Str} {t u : Tok} {Q : Value → Shared → Prop} (hx : x ∈ words) (hU : A.units + 64 < cLine) (h : Q (.bool false) s) : wpAny (model prog w) A (compareOp .Eq (.str x t) (.str "-" u)) Q E s := by
  have hne := (idx_word hx).1
  refine SeqAt.compareEq_shaped (.str _ _) (.str _ _) (tok_shaped (d := .str x) (by simpa [tokOk] using hx)) (by decide +kernel) hU ?_
  rw [show PyData.eqv (.str x) (.str "-") = false by simpa [PyData.eqv] using hne]
  exact h

theorem does_part {v : Value} {d t e : PyData} {as : List Addr} {tk0 : Tok} {n : Nat} (W : WD w p loose mg mb g) (hv : JR prog w g v d as) (hok : okW n d = true) (he : at1 d t = some e) :
    DoesC prog w (.ref 184) [.ref 274, v, .str (tokS t) tk0] 1 80 g fun g' r => ∃ bs, JR prog w g' r t bs := by
  intro A s R S Rm ret
  have htok := (at1_ok hok he).1
  have hword := tok_word htok
  (refine' enter W S ?ho ?hcd ?hroom ?hb ?hl ?_ ?h1 ?h2 ?h3 ?h4; (case ho => k_is); (case hcd => k_is); (case hroom => (have := Rm.d; omega)); (case hb => exact BindsTo.of_eq rfl); (case h1 => decide); (case h2 => exact rfl); (case h3 => exact rfl); (case h4 => exact rfl); (case hl => exact rfl))
  intro L h₁ tk F0
  obtain ⟨m0, F, md, mp⟩ : ∃ m0, Fm s.heap g L m0 [] (s.heap.get? TAB) g h₁ ∧ m0 (Str.ofString "doc") = some v ∧ m0 (Str.ofString "part") = some (.str (tokS t) tk0) := ⟨_, F0, rfl, rfl⟩
  clear F0
  have hU : A.units + 3 + 64 < cLine := by have := Rm.u; omega
  have X1 := (W.keeps F.gh).k
  refine wpAny_execs_cons ?_
  refine wpAny_If ?_
  refine isTrue_plain ?_
  refine wpAny_Call_ofName (n_bi W F.gh (by k_is) rfl (PyProof.Rows.callWith_builtin1 (spliced_more ?_)))
  refine n_loc F md ?_
  refine spliced_more ?_
  refine n_glob W F.gh (by k_is) ?_
  refine spliced_none ?_
  refine isi_dict hv F.gh fun tk1 => ?_
  refine wpAny_truthy_bool ?_
  cases hv with
  | @dict l kvs ep ds bs hm hda ek hs =>
    rw [show isDict (PyData.dict ds) = true from rfl, if_pos rfl]
    cases t with
    | str k =>
      refine x_ret ?_
      refine n_loc F mp ?_
      exact ret _ _ _ _ F.after ⟨[], .str k tk0⟩
    | _ => simp [at1] at he
  | @list l vs xs as' hla hs =>
    rw [show isDict (PyData.list xs) = false from rfl, if_neg (by decide)]
    cases t with
    | int i =>
      simp only [tokOk, decide_eq_true_eq] at htok
      refine wpAny_execs_cons ?_
      refine wpAny_If ?_
      refine isTrue_plain ?_
      refine wpAny_Call_ofName (n_bi W F.gh (by k_is) rfl (PyProof.Rows.callWith_builtin1 (spliced_more ?_)))
      refine n_loc F md ?_
      refine spliced_more ?_
      refine n_bi W F.gh (by k_is) rfl ?_
      refine spliced_none ?_
      refine isi_str (JR.list hla hs) F.gh fun tk2 => ?_
      refine wpAny_truthy_bool ?_
      rw [show isStr (PyData.list xs) = false from rfl, if_neg (by decide)]
      refine wpAny_execs_cons ?_
      refine wpAny_If ?_
      refine isTrue_plain ?_
      refine wpAny_Call_ofName (n_bi W F.gh (by k_is) rfl (PyProof.Rows.callWith_builtin1 (spliced_more ?_)))
      refine n_loc F md ?_
      refine spliced_more ?_
      refine n_glob W F.gh (by k_is) ?_
      refine spliced_none ?_
      refine isi_seq (JR.list hla hs) F.gh X1 fun tk3 => ?_
      refine wpAny_truthy_bool ?_
      rw [show (isList (PyData.list xs) || isStr (PyData.list xs)) = true from rfl, if_pos rfl]
      refine wpAny_execs_cons ?_
      refine wpAny_If ?_
      refine wpAny_isTrue_Compare1 ?_
      refine n_loc F mp ?_
      refine wpAny_Constant_str ?_
      refine ne_dash hword hU ?_
      refine wpAny_truthy_bool ?_
      rw [if_neg (by decide)]
      refine wpAny_execs_nil ?_
      dsimp only
      refine wpAny_execs_cons ?_
      refine wpAny_If ?_
      refine isTrue_not ?_
      refine isTrue_plain ?_
      refine MethodCall_ ?_
      refine PyProof.Rows.Attribute_name ?_
      refine n_glob W F.gh (by k_is) ?_
      refine cls_value (mc := .type "type") X1 (by k_is) (by k_is) rfl ?_
      obtain ⟨fsP, cP, ocP, vsP, nP, slP, hoP, -⟩ := pat_of X1 (pat_idx w)
      refine getMethod_builtin (T := "re.Pattern") ⟨_, hoP, rfl⟩ RF.plain RF.slot_full RF.type_full (fun a e => by cases e; exact ⟨_, hoP, rfl⟩) ?_
      refine callWith_method1 (spliced_more ?_)
      refine wpAny_Call_ofName (n_bi W F.gh (by k_is) rfl (PyProof.Rows.callWith_type1 (spliced_more ?_)))
      refine n_loc F mp ?_
      refine spliced_none ?_
      refine P.str_of_str ?_
      refine spliced_none ?_
      have hidx : isIdx (tokS (.int i)) = true := idx_is htok.1 htok.2
      refine call_full_yes F X1 hidx (by have := (idx_word hword).2; omega) fun am h₂ F₂ ⟨om, eom, com⟩ => ?_
      refine truthy_match eom com ?_
      rw [show (!true) = false from rfl, if_neg (by decide)]
      refine wpAny_execs_nil ?_
      dsimp only
      refine wpAny_execs_cons ?_
      refine wpAny_Try_except ?_
      refine x_ret ?_
      refine wpAny_Call_ofName (n_bi W F₂.gh (by k_is) rfl (PyProof.Rows.callWith_type1 (spliced_more ?_)))
      refine n_loc F₂ mp ?_
      refine spliced_none ?_
      refine KIN.call_num (n := i) htok.1 (by omega) ?_
      exact ret _ _ _ _ F₂.after ⟨[], .int i _⟩
    | _ => simp [at1] at he
  | _ => cases t <;> simp [at1] at he
end
end Mine
end

/-! ## LB -/
section
set_option maxRecDepth 100000
set_option maxHeartbeats 4000000
open PySem PySem.W PyProof.Rows PySem.Calls
namespace Mine

example (w : World) (h : Heap) (X : (hd.heap_39 w.params).In h) : (hd.heap_39 w.params).In h ∧ PySem.Challenge.rw_bs0014_01 = PySem.Challenge.rw_bs0014_01 := by
  k_fill
  exact ⟨X, rfl⟩

section
variable {prog : Program} {w : World} {p : Program} {loose : List Str} {mg mb : Str → Option Value} {A : Around} {E : Value → Shared → Prop} {s : Shared} {R : Result → Shared → Prop}
  {base g₀ g h h' gh0 : Heap} {L : Addr} {m m' : Str → Option Value} {vol : List (Addr × Obj)} {T : Option Obj} {env : Env}

/-! ### a part of a document, and the document around it -/
mutual
theorem JR.keepsBut {S : Addr → Prop} {v : Value} {d : PyData} {as : List Addr} (k : ∀ b o, g.get? b = some o → ¬ S b → h.get? b = some o) : JR prog w g v d as → (∀ a ∈ as, ¬ S a) → JR prog w h v d as
  | .none, _ => .none
  | .bool b, _ => .bool b
  | .int i t, _ => .int i t
  | .str x t, _ => .str x t
  | .list x y, n => .list (let ⟨o, e, r⟩ := x; ⟨o, k _ _ e (n _ (.head _)), r⟩) (JRs.keepsBut k y fun a ha => n a (.tail _ ha))
  | .dict z x e y, n => .dict z (let ⟨o, es, q, r⟩ := x; ⟨o, es, k _ _ q (n _ (.head _)), r⟩) e (JRs.keepsBut k y fun a ha => n a (.tail _ ha))
theorem JRs.keepsBut {S : Addr → Prop} {vs : List Value} {ds : List PyData} {as : List Addr} (k : ∀ b o, g.get? b = some o → ¬ S b → h.get? b = some o) : JRs prog w g vs ds as → (∀ a ∈ as, ¬ S a) → JRs prog w h vs ds as
  | .nil, _ => .nil
  | .cons x y, n => .cons (JR.keepsBut k x fun a ha => n a (List.mem_append_left _ ha)) (JRs.keepsBut k y fun a ha => n a (List.mem_append_right _ ha))
end
theorem JRs.cut : ∀ {vs : List Value} {ds : List PyData} {as : List Addr} (_ : JRs prog w g vs ds as) {i : Nat} {d : PyData}, ds[i]? = some d → ∃ v pre as1 post, vs[i]? = some v ∧ as = pre ++ (as1 ++ post) ∧ JRs prog w g (vs.take i) (ds.take i) pre ∧ JR prog w g v d as1 ∧ JRs prog w g (vs.drop (i + 1)) (ds.drop (i + 1)) post
  | _, _, _, .nil, i, d, e => by simp at e
  | _, _, _, .cons x y, 0, d, e => by
    simp only [List.getElem?_cons_zero, Option.some.injEq] at e
    subst e
    exact ⟨_, [], _, _, rfl, rfl, .nil, x, y⟩
  | _, _, _, .cons x y, i + 1, d, e => by
    obtain ⟨v, pre, as1, post, e1, e2, a, b, c⟩ := y.cut (i := i) (by simpa using e)
    subst e2
    exact ⟨v, _, as1, post, by simpa using e1, by rw [← List.append_assoc], .cons x a, b, c⟩
theorem JRs.app' : ∀ {vs us : List Value} {ds es : List PyData} {as bs : List Addr}, JRs prog w g vs ds as → JRs prog w g us es bs → JRs prog w g (vs ++ us) (ds ++ es) (as ++ bs)
  | _, _, _, _, _, _, .nil, y => y
  | _, _, _, _, _, _, .cons x xs, y => by have := JRs.cons x (xs.app' y); simpa [List.append_assoc] using this

theorem mem_swap {a : Addr} {pre as1 post cs : List Addr} : ∀ b ∈ a :: (pre ++ (cs ++ post)), b ∈ a :: (pre ++ (as1 ++ post)) ∨ b ∈ cs := by
  intro b hb
  simp only [List.mem_cons, List.mem_append] at hb ⊢
  rcases hb with h | h | h | h <;> simp [h]

structure Child (prog : Program) (w : World) (g : Heap) (u : Value) (e : PyData) (bs : List Addr) (t : PyData) (r : Value) (e1 : PyData) (as1 : List Addr) : Prop where
  jr : JR prog w g r e1 as1
  sub : ∀ a ∈ as1, a ∈ bs
  nd : bs.Nodup → as1.Nodup
  put : bs.Nodup → ∀ g' e' cs, (∀ b o, g.get? b = some o → b ∉ as1 → g'.get? b = some o) → JR prog w g' r e' cs → ∃ cs', JR prog w g' u (put1 e t e') cs' ∧ ∀ b ∈ cs', b ∈ bs ∨ b ∈ cs

theorem subK_eq {kvs : List (Str × Value)} {ds : List (PyData × PyData)} (ek : ds.map (·.1) = kvs.map (fun q => PyData.str q.1)) (nd : (kvs.map (·.1)).Nodup) {i : Nat} {k : Str} {q : PyData × PyData} (hq : ds[i]? = some q) (hk : q.1 = .str k) (e' : PyData) :
    (ds.map (subK k e')).map (·.2) = (ds.map (·.2)).take i ++ e' :: (ds.map (·.2)).drop (i + 1) := by
  induction ds generalizing kvs i with
  | nil => simp at hq
  | cons x ds ih =>
    cases kvs with
    | nil => simp at ek
    | cons y kvs =>
      simp only [List.map_cons, List.cons.injEq] at ek
      simp only [List.map_cons, List.nodup_cons] at nd
      cases i with
      | zero =>
        simp only [List.getElem?_cons_zero, Option.some.injEq] at hq
        subst hq
        have hyk : y.1 = k := by have := ek.1.symm.trans hk; injection this
        have hrest : (ds.map (subK k e')).map (·.2) = ds.map (·.2) := by
          rw [List.map_map]
          refine List.map_congr_left fun z hz => ?_
          simp only [Function.comp, subK]
          rw [if_neg]
          intro hz2
          have hzm : z.1 ∈ kvs.map (fun q => PyData.str q.1) := by rw [← ek.2]; exact List.mem_map_of_mem hz
          obtain ⟨q', hq', e⟩ := List.mem_map.mp hzm
          rw [← e] at hz2
          simp only [isK, decide_eq_true_eq] at hz2
          exact nd.1 (by rw [hyk, ← hz2]; exact List.mem_map_of_mem hq')
        simp only [List.map_cons, List.take_zero, List.nil_append, List.drop_succ_cons, List.drop_zero, hrest]
        congr 1
        unfold subK
        rw [if_pos (by rw [hk]; simp [isK])]
      | succ i =>
        simp only [List.getElem?_cons_succ] at hq
        have hyk : y.1 ≠ k := by
          rintro rfl
          have hm : PyData.str y.1 ∈ ds.map (·.1) := by rw [← hk]; exact List.mem_map_of_mem (List.mem_of_getElem? hq)
          rw [ek.2] at hm
          obtain ⟨z, hz, e⟩ := List.mem_map.mp hm
          exact nd.1 (List.mem_map.mpr ⟨z, hz, by injection e⟩)
        have hx : subK k e' x = x := by
          unfold subK
          rw [if_neg]
          rw [ek.1]; simpa [isK] using hyk
        simp only [List.map_cons, hx, List.take_succ_cons, List.cons_append, List.drop_succ_cons]
        rw [ih ek.2 nd.2 hq]
theorem subK_fst (k : Str) (e' : PyData) (ds : List (PyData × PyData)) : (ds.map (subK k e')).map (·.1) = ds.map (·.1) := by
  rw [List.map_map]
  refine List.map_congr_left fun q _ => ?_
  simp only [Function.comp, subK]
  split <;> rfl

/-- the place of a key -/
theorem findK_idx {ds : List (PyData × PyData)} {k : Str} {e : PyData} (h : findK ds k = some e) : ∃ i : Nat, ds[i]? = some ((PyData.str k, e) : PyData × PyData) := by
  obtain ⟨i, hi, e'⟩ := List.getElem_of_mem (findK_mem h)
  exact ⟨i, by rw [List.getElem?_eq_getElem hi, e']⟩

theorem nodup_parts {a : Addr} {pre as1 post : List Addr} (h : (a :: (pre ++ (as1 ++ post))).Nodup) : as1.Nodup ∧ a ∉ as1 ∧ (∀ x ∈ pre, x ∉ as1) ∧ ∀ x ∈ post, x ∉ as1 := by
  rw [List.nodup_cons, List.nodup_append, List.nodup_append] at h
  obtain ⟨h1, -, ⟨h3, -, h5⟩, h6⟩ := h
  refine ⟨h3, fun hm => h1 (List.mem_append_right _ (List.mem_append_left _ hm)), fun x hx hm => h6 x hx x (List.mem_append_left _ hm) rfl, fun x hx hm => h5 x hm x hx rfl⟩

theorem getItem_C {v t : Value} {d tk d' : PyData} {as bs : List Addr} {value slice : PySem.Expr} {Q : Value → Shared → Prop} (hv : JR prog w g v d as) (gh : g.StaysIn s.heap) (ht : JR prog w g t tk bs) (e : at1 d tk = some d')
    (h : ∀ v' as' n, Child prog w g v d as tk v' d' as' → Q v' { s with toks := n })
    (hs : ∀ o i, subscripted slice false o i = operate [o, i] (getItem o i) := by intro _ _; rfl) : wpAny (model prog w) A (subscriptTail value slice v t) Q E s := by
  cases hv with
  | none => cases ht <;> simp [at1] at e
  | bool => cases ht <;> simp [at1] at e
  | int => cases ht <;> simp [at1] at e
  | str => cases ht <;> simp [at1] at e
  | @list a vs xs as x y =>
    cases ht with
    | int i n =>
      simp only [at1] at e
      by_cases hi : 0 ≤ i ∧ i < 64
      · rw [if_pos hi] at e
        have hl := isList_keeps gh x
        have hlen := y.length
        obtain ⟨u, pre, as1, post, e1, rfl, j1, j2, j3⟩ := y.cut e
        have hj := (List.getElem?_eq_some_iff.mp e).1
        refine tail_any hl.typeIs slot_list_getitem.lookup (wpAny_getItem_list hl hi.1 (by omega) (by simpa using e1) (h u as1 s.toks ⟨j2, fun a ha => List.mem_cons_of_mem _ (List.mem_append_right _ (List.mem_append_left _ ha)), fun nd => (nodup_parts nd).1, ?_⟩)) (hs _ _)
        intro nd g' e' cs k hj'
        obtain ⟨-, n2, n3, n4⟩ := nodup_parts nd
        have hset : put1 (.list xs) (.int i) e' = .list (xs.take i.toNat ++ e' :: xs.drop (i.toNat + 1)) := by
          simp only [put1]
          rw [List.set_eq_take_append_cons_drop, if_pos hj]
        rw [hset]
        have hvs : vs.toList = vs.toList.take i.toNat ++ u :: vs.toList.drop (i.toNat + 1) := by
          have h1 := List.take_append_drop i.toNat vs.toList
          have hlt : i.toNat < vs.toList.length := by omega
          rw [List.drop_eq_getElem_cons hlt, show vs.toList[i.toNat] = u from (List.getElem?_eq_some_iff.mp e1).2] at h1
          exact h1.symm
        have hx' : g'.IsList a vs := let ⟨o, q, r⟩ := x; ⟨o, k _ _ q n2, r⟩
        have hjs := (j1.keepsBut (S := fun b => b ∈ as1) k n3).app' (.cons hj' (j3.keepsBut (S := fun b => b ∈ as1) k n4))
        rw [← hvs] at hjs
        exact ⟨_, .list hx' hjs, mem_swap⟩
      · rw [if_neg hi] at e; cases e
    | _ => simp [at1] at e
  | @dict a kvs ep ds bs n x ek y =>
    cases ht with
    | str k n' =>
      simp only [at1] at e
      have hnd : (kvs.map (·.1)).Nodup := let ⟨_, _, _, _, _, _, _, x⟩ := x; x
      obtain ⟨i, hi⟩ := findK_idx e
      have hi2 : (ds.map (·.2))[i]? = some d' := by rw [List.getElem?_map, hi]; rfl
      obtain ⟨u, pre, as1, post, e1, rfl, j1, j2, j3⟩ := y.cut hi2
      obtain ⟨v', as', ev, rv, hsub⟩ := findK_at ek y e
      -- the value is the one at that place
      have huv : v' = u := by
        simp only [List.getElem?_map] at e1
        obtain ⟨z, hz, rfl⟩ := Option.map_eq_some_iff.mp e1
        have hzk : z.1 = k := by
          have h1 := congrArg (fun l => l[i]?) ek
          simp only [List.getElem?_map, hi, hz, Option.map_some, Option.some.injEq] at h1
          injection h1 with h1; exact h1.symm
        unfold valueAt at ev
        obtain ⟨z', hz', rfl⟩ := Option.map_eq_some_iff.mp ev
        have h2 := List.find?_some hz'
        have h3 := List.mem_of_find?_eq_some hz'
        simp only [decide_eq_true_eq] at h2
        obtain ⟨i', hi', ei'⟩ := List.getElem_of_mem h3
        have hii : i' = i := by
          have hlt := (List.getElem?_eq_some_iff.mp hz).1
          refine (List.getElem_inj (xs := kvs.map (·.1)) (h₀ := by simpa using hi') (h₁ := by simpa using hlt) hnd).mp ?_
          simp only [List.getElem_map]
          rw [ei', h2, (List.getElem?_eq_some_iff.mp hz).2, hzk]
        subst hii
        rw [← ei', (List.getElem?_eq_some_iff.mp hz).2]
      subst huv
      have hm := (dictAt_keeps gh x).dictOf.mapOf
      refine tail_any hm.typeIs slot_dict_getitem.lookup (wpAny_getItem_of (k := k) (by show Value.isStrOf k (Value.str k n') = true; simp [Value.isStrOf]) hm ev (h v' as1 _ ⟨j2, fun a ha => List.mem_cons_of_mem _ (List.mem_append_right _ (List.mem_append_left _ ha)), fun nd => (nodup_parts nd).1, ?_⟩)) (hs _ _)
      intro nd g' e' cs kk hj'
      obtain ⟨-, n2, n3, n4⟩ := nodup_parts nd
      have hvs : kvs.map (·.2) = (kvs.map (·.2)).take i ++ v' :: (kvs.map (·.2)).drop (i + 1) := by
        have h1 := List.take_append_drop i (kvs.map (·.2))
        have hlt := (List.getElem?_eq_some_iff.mp e1).1
        rw [List.drop_eq_getElem_cons hlt, (List.getElem?_eq_some_iff.mp e1).2] at h1
        exact h1.symm
      have hx' : g'.DictAt (PySem.strKind prog w) a kvs ep := let ⟨o, es, q, r⟩ := x; ⟨o, es, kk _ _ q n2, r⟩
      have hjs := (j1.keepsBut (S := fun b => b ∈ as1) kk n3).app' (.cons hj' (j3.keepsBut (S := fun b => b ∈ as1) kk n4))
      rw [← hvs, ← subK_eq ek hnd hi rfl e'] at hjs
      exact ⟨_, .dict n hx' ((subK_fst k e' ds).trans ek) hjs, mem_swap⟩
    | _ => simp [at1] at e
end
end Mine
end

/-! ## LC -/
section
set_option maxRecDepth 100000
set_option maxHeartbeats 4000000
open PySem PySem.W PyProof.Rows PySem.Calls
namespace Mine

example (w : World) (h : Heap) (X : (hd.heap_39 w.params).In h) : (hd.heap_39 w.params).In h ∧ PySem.Challenge.rw_bs0014_01 = PySem.Challenge.rw_bs0014_01 := by
  k_fill
  exact ⟨X, rfl⟩

section
variable {prog : Program} {w : World} {p : Program} {loose : List Str} {mg mb : Str → Option Value} {A : Around} {E : Value → Shared → Prop} {s : Shared} {R : Result → Shared → Prop}
  {base g₀ g h h' gh0 : Heap} {L : Addr} {m m' : Str → Option Value} {vol : List (Addr × Obj)} {T : Option Obj} {env : Env}

theorem ptr_method {a : Addr} {ws : List Str} {name : Str} {f : Addr} {pl : Sem Bool} {Q : Value × List Value → Shared → Prop} (x : IsPtr w g a ws) (gh : g.StaysIn s.heap) (X : (hd.heap_39 w.params).In s.heap)
    (hf : findIn (hd.heap_39 w.params) (.ref 274) name = some (some (.ref f))) (ht : typeIn (hd.heap_39 w.params) (.ref f) = some (.type "function")) (hs : ∀ tk v, shadowIn (some (ptrD w tk v)) name = some false)
    (h : Q (.ref f, [.ref a]) s) : wpAny (model prog w) A (getMethod (.ref a) name pl) Q E s := by
  obtain ⟨dx, tk, l, vs, e1, e2, -, -⟩ := x.at_
  have pg := plainGet_of (K := hd.heap_39 w.params) (C := 274) (name := name) (show plainGet (hd.heap_39 w.params) 274 (Str.ofString "x") = true by k_is)
  exact method_fn X (C := 274) (ox := instObj 274 dx) (od := some (ptrD w tk (.ref l))) ⟨gh _ _ e1, rfl, rfl, gh _ _ e2⟩ pg.1 pg.2 hf ht (hs _ _) h

theorem ptr_parts {a : Addr} {ws : List Str} {expr : Bool} {Q : Value → Shared → Prop} (x : IsPtr w g a ws) (gh : g.StaysIn s.heap) (X : (hd.heap_39 w.params).In s.heap)
    (h : ∀ l vs, g.IsList l (vs : List Value).toArray → StrsAre vs ws → Q (.ref l) { s with toks := s.toks + 1 }) : wpAny (model prog w) A (getAttr (.ref a) "parts" expr) Q E s := by
  obtain ⟨dx, tk, l, vs, e1, e2, e3, e4⟩ := x.at_
  have pg := plainGet_of (K := hd.heap_39 w.params) (C := 274) (name := Str.ofString "x") (show plainGet (hd.heap_39 w.params) 274 (Str.ofString "x") = true by k_is)
  refine get_value X (C := 274) (ox := instObj 274 dx) (od := some (ptrD w tk (.ref l))) ⟨gh _ _ e1, rfl, rfl, gh _ _ e2⟩ pg.1 (findObj_own (by k_is) (attr := none) (by k_is) rfl ?_) rfl (h l vs e3 e4)
  rfl

/-- JsonPointer.get_part, bound -/
theorem cm_getpart {pl : Sem Bool} {Q : Value × List Value → Shared → Prop} (F : Fm base g₀ L m vol T g s.heap) (X : (hd.heap_39 w.params).In s.heap)
    (h : ∀ q h', Fm base g₀ L m vol T g h' → h'.get? q = some (methodObj (.ref 184) (.ref 274)) → g.get? q = none → q ≠ L → Q (.ref q, []) { s with heap := h', toks := s.toks + 1 }) :
    wpAny (model prog w) A (getMethod (.ref 274) "get_part" pl) Q E s := by
  refine method_cls X (by k_is) ?_
  refine cls_bind (mc := .type "type") X (by k_is) (by k_is) ?_
  refine wpAny_call ?_
  refine cm_get (s := { s with toks := s.toks + 1 }) (f := .ref 184) X (by k_is) ?_
  refine handed_on rfl ?_
  obtain ⟨oL, eL⟩ := F.hL
  exact h _ _ (F.moreP _) (Heap.get?_push_size _ rfl) (none_back F.gh (none_of_ge (Nat.le_refl _))) (Nat.ne_of_gt (Heap.lt_size eL))

theorem notIn_J {v t : Value} {kvs : List (PyData × PyData)} {tk e : PyData} {as bs : List Addr} {Q : Value → Shared → Prop} (hv : JR prog w g v (.dict kvs) as) (gh : g.StaysIn s.heap) (ht : JR prog w g t tk bs) (he : at1 (.dict kvs) tk = some e)
    (h : ∀ n, Q (.bool false) { s with toks := n }) : wpAny (model prog w) A (compareOp .NotIn t v) Q E s := by
  cases hv with
  | @dict a kvs' ep ds bs n x ek y =>
    cases ht with
    | str k n' =>
      simp only [at1] at he
      have hm := (dictAt_keeps gh x).dictOf.mapOf
      obtain ⟨v, as', e1, -, -⟩ := findK_at ek y he
      refine wpAny_notIn_of (k := k) (by show Value.isStrOf k (Value.str k n') = true; simp [Value.isStrOf]) n hm ?_
      rw [e1]
      exact h _
    | _ => simp [at1] at he

theorem does_walk {gd : Heap} {v : Value} {a : Addr} {d t e : PyData} {as : List Addr} {tk0 : Tok} {n : Nat} (W : WD w p loose mg mb g) (kd : gd.StaysIn g) (hv : JR prog w gd v d as) (hok : okW n d = true) (he : at1 d t = some e) :
    Does prog w (.ref 201) [.ref a, v, .str (tokS t) tk0] 3 100 g fun _ r => ∃ as1, Child prog w gd v d as t r e as1 := by
  intro A s Q E S Rm ret
  have htok := (at1_ok hok he).1
  refine wpAny_call ?_
  (refine' enter W S ?ho ?hcd ?hroom ?hb ?hl ?_ ?h1 ?h2 ?h3 ?h4; (case ho => k_is); (case hcd => k_is); (case hroom => (have := Rm.d; omega)); (case hb => exact BindsTo.of_eq rfl); (case h1 => decide); (case h2 => exact rfl); (case h3 => exact rfl); (case h4 => exact rfl); (case hl => exact rfl))
  intro L h₁ tk F0
  obtain ⟨m0, F, md, mp⟩ : ∃ m0, Fm s.heap g L m0 [] (s.heap.get? TAB) g h₁ ∧ m0 (Str.ofString "doc") = some v ∧ m0 (Str.ofString "part") = some (.str (tokS t) tk0) := ⟨_, F0, rfl, rfl⟩
  clear F0
  dsimp only
  have R1 : ∀ env, Room (A.deeper env) 1 80 := fun env => (Rm.le (dn' := 2) (un' := 83) (by omega) (by omega)).deeper env
  have X1 := (W.keeps F.gh).k
  refine wpAny_execs_cons ?_
  refine wpAny_Assign_Name ?_
  refine MethodCall_ ?_
  refine n_glob W F.gh (by k_is) ?_
  refine cm_getpart F X1 fun q h₂ F₂ hq hgq hqL => ?_
  have X2 := (W.keeps F₂.gh).k
  refine callWith_M (K := hd.heap_39 w.params) (h₀ := g) (L := L) (news := [(q, methodObj (.ref 184) (.ref 274))]) W.k (fun z hz => by rcases List.mem_cons.mp hz with rfl | hz; exact ⟨hq, hqL, hgq⟩; cases hz) (.head _) (by k_is) (spliced_more ?_)
  refine n_loc F₂ md ?_
  refine spliced_more ?_
  refine n_loc F₂ mp ?_
  refine spliced_none ⟨⟨hq, X2⟩, ?_⟩
  refine wpAny_call (method_call hq ?_)
  refine does_part W (hv.keeps kd) hok he _ _ _ (F₂.st S.tT) (R1 _) fun r g₃ h₃ tk₃ x ⟨bs, hr⟩ => ?_
  have F₃ := F₂.called S.tT x
  have g03 : g.StaysIn g₃ := x.grow.sub
  dsimp only
  refine s_loc F₃ fun h₄ F₄ => ?_
  dsimp only
  have W₄ := W.keeps g03
  have X4 := (W₄.keeps F₄.gh).k
  have hv4 := (hv.keeps kd).keeps g03
  have md4 : (fun y => if y = Str.ofString "part" then some r else m0 y) (Str.ofString "doc") = some v := by show (if _ then _ else _) = _; rw [if_neg (by decide)]; exact md
  refine wpAny_execs_cons ?_
  refine wpAny_If ?_
  refine isTrue_plain ?_
  refine wpAny_Call_ofName (n_bi W₄ F₄.gh (by k_is) rfl (PyProof.Rows.callWith_builtin1 (spliced_more ?_)))
  refine n_loc F₄ md4 ?_
  refine spliced_more ?_
  refine n_glob W₄ F₄.gh (by k_is) ?_
  refine spliced_none ?_
  refine isi_seq hv4 F₄.gh X4 fun tk5 => ?_
  refine wpAny_truthy_bool ?_
  cases hv with
  | @list l vs xs as' hla hs =>
    rw [show (isList (PyData.list xs) || isStr (PyData.list xs)) = true from rfl, if_pos rfl]
    cases hr with
    | int i ti =>
      refine wpAny_execs_cons ?_
      refine wpAny_If ?_
      refine wpAny_isTrue_Compare1 ?_
      refine n_loc F₄ (if_pos rfl) ?_
      refine wpAny_Constant_str ?_
      refine EqMixed.eq_int_str ?_
      refine wpAny_truthy_bool ?_
      rw [if_neg (by decide)]
      refine wpAny_execs_nil ?_
      dsimp only
      refine wpAny_execs_cons ?_
      refine wpAny_Try_except ?_
      refine x_ret ?_
      refine Subscript_ ?_
      refine n_loc F₄ md4 ?_
      refine n_loc F₄ (if_pos rfl) ?_
      refine getItem_C (g := gd) (JR.list hla hs) (fun b o z => F₄.gh b o (g03 b o (kd b o z))) (JR.int i ti) he fun u as1 n c => ?_
      exact ret _ _ _ _ F₄.after ⟨as1, c⟩
    | _ => simp [at1] at he
  | @dict l kvs ep ds bs2 hm hda ek hs =>
    rw [show (isList (PyData.dict ds) || isStr (PyData.dict ds)) = false from rfl, if_neg (by decide)]
    refine wpAny_execs_nil ?_
    dsimp only
    cases hr with
    | str k tk' =>
      refine wpAny_execs_cons ?_
      refine wpAny_Try_except ?_
      refine wpAny_execs_cons ?_
      refine wpAny_If ?_
      refine isTrue_and ?_
      refine isTrue_plain ?_
      refine wpAny_Call_ofName (n_bi W₄ F₄.gh (by k_is) rfl (PyProof.Rows.callWith_builtin1 (spliced_more ?_)))
      refine n_loc F₄ md4 ?_
      refine spliced_more ?_
      refine n_glob W₄ F₄.gh (by k_is) ?_
      refine spliced_none ?_
      refine isi_dict hv4 F₄.gh fun tk6 => ?_
      refine wpAny_truthy_bool ?_
      rw [show isDict (PyData.dict ds) = true from rfl, if_pos rfl]
      refine isTrue_and ?_
      refine wpAny_isTrue_Compare1 ?_
      refine n_loc F₄ (if_pos rfl) ?_
      refine n_loc F₄ md4 ?_
      refine notIn_J (g := g₃) hv4 F₄.gh (JR.str k tk') he fun n => ?_
      refine wpAny_truthy_bool ?_
      rw [if_neg (by decide), if_neg (by decide)]
      refine wpAny_execs_nil ?_
      dsimp only
      refine x_ret ?_
      refine Subscript_ ?_
      refine n_loc F₄ md4 ?_
      refine n_loc F₄ (if_pos rfl) ?_
      refine getItem_C (g := gd) (JR.dict hm hda ek hs) (fun b o z => F₄.gh b o (g03 b o (kd b o z))) (JR.str k tk') he fun u as1 n c => ?_
      exact ret _ _ _ _ F₄.after ⟨as1, c⟩
    | _ => simp [at1] at he
  | _ => cases t <;> simp [at1] at he
end
end Mine
end

/-! ## LD -/
section
set_option maxRecDepth 100000
set_option maxHeartbeats 4000000
open PySem PySem.W PyProof.Rows PySem.Calls
namespace Mine

example (w : World) (h : Heap) (X : (hd.heap_39 w.params).In h) : (hd.heap_39 w.params).In h ∧ PySem.Challenge.rw_bs0014_01 = PySem.Challenge.rw_bs0014_01 := by
  k_fill
  exact ⟨X, rfl⟩

theorem ed_snoc : ∀ {ts : List PyData} {d e t f : PyData}, atD d ts = some e → ed d (ts ++ [t]) f = ed d ts (put1 e t f)
  | [], d, e, t, f, h => by
    simp only [atD, Option.some.injEq] at h
    subst h
    rfl
  | x :: ts, d, e, t, f, h => by
    simp only [atD] at h
    obtain ⟨d', h1, h2⟩ := Option.bind_eq_some_iff.mp h
    rw [List.cons_append, ed, ed, h1, Option.getD_some, ed_snoc h2]
theorem atD_snoc : ∀ {ts : List PyData} {d e : PyData} {t : PyData}, atD d ts = some e → atD d (ts ++ [t]) = at1 e t
  | [], d, e, t, h => by
    simp only [atD, Option.some.injEq] at h
    subst h
    rw [List.nil_append, atD]
    cases at1 d t <;> rfl
  | x :: ts, d, e, t, h => by
    simp only [atD] at h
    obtain ⟨d', h1, h2⟩ := Option.bind_eq_some_iff.mp h
    rw [List.cons_append, atD, h1, Option.bind_some, atD_snoc h2]
theorem atD_app : ∀ {ts us : List PyData} {d e : PyData}, atD d (ts ++ us) = some e → ∃ d', atD d ts = some d' ∧ atD d' us = some e
  | [], us, d, e, h => ⟨d, rfl, h⟩
  | x :: ts, us, d, e, h => by
    rw [List.cons_append, atD] at h
    obtain ⟨d', h1, h2⟩ := Option.bind_eq_some_iff.mp h
    obtain ⟨d'', h3, h4⟩ := atD_app h2
    exact ⟨d'', by rw [atD, h1]; exact h3, h4⟩

section
variable {prog : Program} {w : World} {p : Program} {loose : List Str} {mg mb : Str → Option Value} {A : Around} {E : Value → Shared → Prop} {s : Shared} {R : Result → Shared → Prop}
  {base g₀ g h h' gh0 : Heap} {L : Addr} {m m' : Str → Option Value} {vol : List (Addr × Obj)} {T : Option Obj} {env : Env}

/-- a part of a document at a way, and the document around it -/
structure CtxD (prog : Program) (w : World) (g : Heap) (root : Value) (d : PyData) (as : List Addr) (u : Value) (e : PyData) (bs : List Addr) (ts : List PyData) : Prop where
  jr : JR prog w g u e bs
  sub : ∀ a ∈ bs, a ∈ as
  nd : as.Nodup → bs.Nodup
  put : as.Nodup → ∀ g' e' cs, (∀ b o, g.get? b = some o → b ∉ bs → g'.get? b = some o) → JR prog w g' u e' cs → ∃ as', JR prog w g' root (ed d ts e') as' ∧ ∀ b ∈ as', b ∈ as ∨ b ∈ cs
theorem CtxD.here {v : Value} {d : PyData} {as : List Addr} (x : JR prog w g v d as) : CtxD prog w g v d as v d as [] := ⟨x, fun _ h => h, id, fun _ _ _ _ _ y => ⟨_, y, fun _ hb => .inr hb⟩⟩
theorem CtxD.step {root u r : Value} {d e e1 t : PyData} {as bs as1 : List Addr} {ts : List PyData} (x : CtxD prog w g root d as u e bs ts) (hd : atD d ts = some e) (c : Child prog w g u e bs t r e1 as1) : CtxD prog w g root d as r e1 as1 (ts ++ [t]) :=
  ⟨c.jr, fun a ha => x.sub a (c.sub a ha), fun nd => c.nd (x.nd nd), fun nd g' e' cs k y => by
    obtain ⟨cs', z, zs⟩ := c.put (x.nd nd) g' e' cs k y
    rw [ed_snoc hd]
    obtain ⟨as', z', zs'⟩ := x.put nd g' _ cs' (fun b o q hb => k b o q fun hb' => hb (c.sub b hb')) z
    refine ⟨as', z', fun b hb => ?_⟩
    rcases zs' b hb with h | h
    · exact .inl h
    · exact (zs b h).imp (x.sub b) id⟩

theorem pick_last (vs : Array Value) (h : 0 < vs.size) : slicePick vs none (some (-1)) none = (vs.toList.take (vs.size - 1)).toArray := by
  rw [slicePick_plain]
  have : clipAt vs.size (-1) = vs.size - 1 := by
    unfold clipAt
    rw [if_pos (by decide)]
    omega
  simp only [Option.elim, List.drop_zero, this, Nat.sub_zero]

theorem does_last {a : Addr} {v : Value} {d e x t : PyData} {as : List Addr} {ts : List PyData} {n : Nat} (W : WD w p loose mg mb g) (hp : IsPtr w g a ((ts ++ [t]).map tokS)) (hv : JR prog w g v d as) (hok : okW n d = true) (he : atD d ts = some e) (hx : at1 e t = some x) (hl : ts.length ≤ 5) :
    Does prog w (.ref 131) [.ref a, v] 4 110 g fun g' r => ∃ q u pv bs tb, r = .ref q ∧ g'.get? q = some (tupO #[u, pv]) ∧ CtxD prog w g v d as u e bs ts ∧ JR prog w g' pv t tb := by
  intro A s Q E S Rm ret
  refine wpAny_call ?_
  (refine' enter W S ?ho ?hcd ?hroom ?hb ?hl ?_ ?h1 ?h2 ?h3 ?h4; (case ho => k_is); (case hcd => k_is); (case hroom => (have := Rm.d; omega)); (case hb => exact BindsTo.of_eq rfl); (case h1 => decide); (case h2 => exact rfl); (case h3 => exact rfl); (case h4 => exact rfl); (case hl => exact rfl))
  intro L h₁ tk F0
  obtain ⟨m0, F, ms, md⟩ : ∃ m0, Fm s.heap g L m0 [] (s.heap.get? TAB) g h₁ ∧ m0 (Str.ofString "self") = some (.ref a) ∧ m0 (Str.ofString "doc") = some v := ⟨_, F0, rfl, rfl⟩
  clear F0
  dsimp only
  have R1 : ∀ env, Room (A.deeper env) 3 107 := fun env => (Rm.le (dn' := 4) (un' := 110) (by omega) (by omega)).deeper env
  have X1 := (W.keeps F.gh).k
  refine wpAny_execs_cons ?_
  refine wpAny_If ?_
  refine isTrue_not ?_
  refine isTrue_plain ?_
  refine PyProof.Rows.Attribute_name ?_
  refine n_loc F ms ?_
  refine ptr_parts hp F.gh X1 fun l vs hl1 hs1 => ?_
  have hvl : vs.length = ts.length + 1 := by have := hs1.len_eq; simpa using this
  refine wpAny_truthy_list (F.isList hl1) (by simp; have := sizeLine_eq; omega) ?_
  rw [show (!(!vs.toArray.isEmpty)) = false by cases vs with | nil => simp at hvl | cons _ _ => rfl, if_neg (by decide)]
  refine wpAny_execs_nil ?_
  dsimp only
  refine wpAny_execs_cons ?_
  refine wpAny_For ?_
  refine sub_slice ?_
  refine PyProof.Rows.Attribute_name ?_
  refine n_loc F ms ?_
  refine ptr_parts hp F.gh X1 fun l2 vs2 hl2 hs2 => ?_
  have hvl2 : vs2.length = ts.length + 1 := by have := hs2.len_eq; simpa using this
  refine evalPart_none_step (evalPart_some_step ?_)
  refine wpAny_UnaryOp ?_
  refine wpAny_Constant_int (neg_int ?_)
  dsimp only
  refine ⟨l2, vs2.toArray, none, some (-1), rfl, F.isList hl2, by simp; have := sizeLine_eq; omega, .none, .int _ _, ?_⟩
  obtain ⟨g₂, F₂, g12, hl3, hn3⟩ := slice_mk (items := vs2.toArray) (vl := .none) (vu := .int (-1) (tk + 1 + 1 + 1 + 1 + 1)) (lo := none) (hi := some (-1)) F S.tT
  rw [pick_last _ (by simp; omega)] at hl3
  refine loop_list F₂ S.tT Rm.h hl3 (fun i m₁ g₁ => ∃ u e₁ bs k, m₁ (Str.ofString "self") = some (.ref a) ∧ m₁ (Str.ofString "doc") = some u ∧ CtxD prog w g v d as u e₁ bs (ts.take i) ∧ atD d (ts.take i) = some e₁ ∧ okW k e₁ = true ∧ g.StaysIn g₁) ⟨v, d, as, n, ms, md, .here hv, rfl, hok, g12⟩ ?_ ?_
  · rintro i pt m₁ g₁ h₂ tk₂ io E' hi ⟨u, e₁, bs, k, m1, m2, hc, hd₁, hk, g01⟩ gg F₃
    have hil : i < ts.length := by
      have := (Array.getElem?_eq_some_iff.mp hi).1
      simp at this; omega
    have hti : ts[i]? = some ts[i] := List.getElem?_eq_getElem hil
    obtain ⟨tt, htt⟩ : ∃ tt, pt = .str (tokS ts[i]) tt := by
      have h1 : ((ts ++ [t]).map tokS)[i]? = some (tokS ts[i]) := by rw [List.getElem?_map, List.getElem?_append_left hil, hti]; rfl
      obtain ⟨tt, h2⟩ := hs2.at h1
      refine ⟨tt, ?_⟩
      simp only [List.getElem?_toArray, List.toList_toArray, List.size_toArray, List.getElem?_take] at hi
      rw [if_pos (by omega), h2] at hi
      exact (Option.some.inj hi).symm
    subst htt
    have htake := take_snoc hti
    obtain ⟨e₂, he₂⟩ : ∃ e₂, at1 e₁ ts[i] = some e₂ := by
      have h1 : ts = ts.take (i + 1) ++ ts.drop (i + 1) := (List.take_append_drop _ _).symm
      rw [h1] at he
      obtain ⟨d', h2, -⟩ := atD_app he
      rw [htake, atD_snoc hd₁] at h2
      exact ⟨d', h2⟩
    have W₁ := W.keeps g01
    have X₃ := (W₁.keeps F₃.gh).k
    refine wpAny_execs_cons ?_
    refine wpAny_Assign_Name ?_
    refine MethodCall_ ?_
    refine n_loc F₃ (v := .ref a) (by rw [if_neg (by decide)]; exact m1) ?_
    refine ptr_method (hp.keeps g01) F₃.gh X₃ (f := 201) (by k_is) (by k_is) (fun _ _ => rfl) ?_
    refine callWith_K W₁.k (by k_is) (spliced_more ?_)
    refine n_loc F₃ (v := u) (by rw [if_neg (by decide)]; exact m2) ?_
    refine spliced_more ?_
    refine n_loc F₃ (if_pos rfl) ?_
    refine spliced_none ⟨X₃, ?_⟩
    refine (does_walk W₁ g01 hc.jr hk he₂).use F₃ S.tT ((R1 _).le (by decide) (by decide)) fun r g₄ h₄ tk₄ F₄ g34 ⟨as1, c⟩ => ?_
    dsimp only
    refine s_loc F₄ fun h₅ F₅ => ?_
    dsimp only
    refine wpAny_execs_nil ?_
    obtain ⟨-, k', -, hk'⟩ := at1_ok hk he₂
    refine ⟨_, g₄, h₅, _, rfl, F₅, g34, r, e₂, as1, k', ?_, if_pos rfl, ?_, ?_, hk', fun b o z => g34 b o (g01 b o z)⟩
    · rw [if_neg (by decide), if_neg (by decide)]; exact m1
    · rw [htake]; exact hc.step hd₁ c
    · rw [htake, atD_snoc hd₁]; exact he₂
  · rintro m₁ g₁ h₂ tk₂ ⟨u, e₁, bs, k, m1, m2, hc, hd₁, hk, g01⟩ gg F₃
    have hsz : (List.take (vs2.toArray.size - 1) vs2.toArray.toList).toArray.size = ts.length := by simp; omega
    rw [hsz, List.take_length] at hc hd₁
    rw [he] at hd₁
    cases hd₁
    dsimp only
    have W₁ := W.keeps g01
    have X₃ := (W₁.keeps F₃.gh).k
    refine x_ret ?_
    refine wpAny_Tuple (spliced_more ?_)
    refine n_loc F₃ m2 ?_
    refine spliced_more ?_
    refine MethodCall_ ?_
    refine n_glob W₁ F₃.gh (by k_is) ?_
    refine cm_getpart F₃ X₃ fun q h₄ F₄ hq hgq hqL => ?_
    have X₄ := (W₁.keeps F₄.gh).k
    refine callWith_M (K := hd.heap_39 w.params) (h₀ := g₁) (L := L) (news := [(q, methodObj (.ref 184) (.ref 274))]) W₁.k (fun z hz => by rcases List.mem_cons.mp hz with rfl | hz; exact ⟨hq, hqL, hgq⟩; cases hz) (.head _) (by k_is) (spliced_more ?_)
    refine n_loc F₄ m2 ?_
    refine spliced_more ?_
    refine Subscript_ ?_
    refine PyProof.Rows.Attribute_name ?_
    refine n_loc F₄ m1 ?_
    refine ptr_parts (hp.keeps g01) F₄.gh X₄ fun l4 vs4 hl4 hs4 => ?_
    have hvl4 : vs4.length = ts.length + 1 := by have := hs4.len_eq; simpa using this
    refine wpAny_UnaryOp ?_
    refine wpAny_Constant_int (neg_int ?_)
    dsimp only
    obtain ⟨tt, htt⟩ : ∃ tt, vs4[ts.length]? = some (.str (tokS t) tt) := hs4.at (by simp)
    refine tail_any (F₄.isList hl4).typeIs slot_list_getitem.lookup (wpAny_getItem_list_neg (F₄.isList hl4) (by decide) (by simp; omega) (by decide) (x := .str (tokS t) tt) ?_ ?_) (ops := [.ref l4, .int (-1) _]) (by rfl)
    · rw [List.getElem?_toArray, ← htt]
      congr 1
      simp; omega
    refine spliced_none ⟨⟨hq, X₄⟩, ?_⟩
    refine wpAny_call (method_call hq ?_)
    refine does_part W₁ (hc.jr.keeps g01) hk hx _ _ _ (F₄.st S.tT) ((R1 _).le (by decide) (by decide)) fun r g₅ h₅ tk₅ y ⟨tb, hr⟩ => ?_
    have F₅ := F₄.called S.tT y
    dsimp only
    refine spliced_none ⟨two_le, ?_⟩
    obtain ⟨g₆, F₆, g56, e6, -, -⟩ := F₅.push S.tT (tupO #[u, r])
    refine ret _ _ _ _ F₆.after ⟨_, u, r, bs, tb, rfl, e6, hc, hr.keeps g56⟩
end
end Mine
end

/-! ## LE -/
section
set_option maxRecDepth 100000
set_option maxHeartbeats 4000000
open PySem PySem.W PyProof.Rows PySem.Calls
namespace Mine

example (w : World) (h : Heap) (X : (hd.heap_39 w.params).In h) : (hd.heap_39 w.params).In h ∧ PySem.Challenge.rw_bs0014_01 = PySem.Challenge.rw_bs0014_01 := by
  k_fill
  exact ⟨X, rfl⟩

section
variable {prog : Program} {w : World} {p : Program} {loose : List Str} {mg mb : Str → Option Value} {A : Around} {E : Value → Shared → Prop} {s : Shared} {R : Result → Shared → Prop}
  {base g₀ g h h' gh0 : Heap} {L : Addr} {m m' : Str → Option Value} {vol : List (Addr × Obj)} {T : Option Obj} {env : Env}

theorem stored_map {kvs : List (Str × Value)} (nd : (kvs.map (·.1)).Nodup) {i : Nat} {k : Str} {v0 : Value} (h : kvs[i]? = some (k, v0)) (v : Value) : (kvs.map fun kv => if kv.1 = k then (kv.1, v) else kv) = kvs.take i ++ (k, v) :: kvs.drop (i + 1) := by
  induction kvs generalizing i with
  | nil => simp at h
  | cons x kvs ih =>
    simp only [List.map_cons, List.nodup_cons] at nd
    cases i with
    | zero =>
      simp only [List.getElem?_cons_zero, Option.some.injEq] at h
      subst h
      have hr : (kvs.map fun kv => if kv.1 = k then (kv.1, v) else kv) = kvs := by
        refine (List.map_congr_left fun z hz => ?_).trans (List.map_id _)
        rw [if_neg]; rfl
        intro e
        exact nd.1 (List.mem_map.mpr ⟨z, hz, e⟩)
      simp [hr]
    | succ i =>
      simp only [List.getElem?_cons_succ] at h
      have hx : x.1 ≠ k := by
        intro e
        exact nd.1 (by rw [e]; exact List.mem_map.mpr ⟨_, List.mem_of_getElem? h, rfl⟩)
      simp only [List.map_cons, if_neg hx, List.take_succ_cons, List.cons_append, List.drop_succ_cons]
      rw [ih nd.2 h]
theorem stored_at {kvs : List (Str × Value)} (nd : (kvs.map (·.1)).Nodup) {i : Nat} {k : Str} {v0 : Value} (h : kvs[i]? = some (k, v0)) (v : Value) : stored kvs k v = kvs.take i ++ (k, v) :: kvs.drop (i + 1) := by
  unfold stored
  rw [if_pos, stored_map nd h v]
  rw [List.any_eq_true]
  exact ⟨_, List.mem_of_getElem? h, by simp⟩
/-- self._set_child -/
theorem ptr_child {a : Addr} {ws : List Str} {pl : Sem Bool} {Q : Value × List Value → Shared → Prop} (x : IsPtr w g a ws) (gh : g.StaysIn s.heap) (X : (hd.heap_39 w.params).In s.heap)
    (h : Q (.ref 174, []) { s with toks := s.toks + 1 }) : wpAny (model prog w) A (getMethod (.ref a) "_set_child" pl) Q E s := by
  obtain ⟨dx, tk, l, vs, e1, e2, -, -⟩ := x.at_
  have pg := plainGet_of (K := hd.heap_39 w.params) (C := 274) (name := Str.ofString "x") (show plainGet (hd.heap_39 w.params) 274 (Str.ofString "x") = true by k_is)
  have I : InstAt s.heap a (instObj 274 dx) 274 (some (ptrD w tk (.ref l))) := ⟨gh _ _ e1, rfl, rfl, gh _ _ e2⟩
  have hf : findIn (hd.heap_39 w.params) (.ref 274) (Str.ofString "_set_child") = some (some (.ref 176)) := by k_is
  have ht : typeIn (hd.heap_39 w.params) (.ref 176) = some (.type "staticmethod") := by k_is
  refine method_usual X I pg.1 pg.2 hf (by simp only [Option.all_some, ht, Option.any_some]; decide +kernel) ?_
  have hfo : findObj (hd.heap_39 w.params) 274 (some (ptrD w tk (.ref l))) (Str.ofString "_set_child") = some (.bind (.builtin "staticmethod.__get__") (.ref 176)) := by
    kernel_rfl
  refine get_bind X I pg.1 hfo pg.2 ?_
  refine wpAny_call ?_
  refine sm_get (s := { s with toks := s.toks + 1 }) (f := .ref 174) X (by k_is) ?_
  exact handed_on rfl h

theorem does_child {u pv fv : Value} {e t x f : PyData} {bs tb cs0 : List Addr} {gp : Heap} {n : Nat} (W : WD w p loose mg mb g) (hu : JR prog w gp u e bs) (hok : okW n e = true) (ht : JR prog w g pv t tb) (hx : at1 e t = some x) :
    ∀ (A : Around) (s : Shared) (Q : Value → Shared → Prop) (E : Value → Shared → Prop), St g s → gp.StaysIn s.heap → Room A 1 80 →
      (∀ ap h' tk, u = .ref ap → ap ∈ bs → (∀ b o, s.heap.get? b = some o → b ≠ ap → h'.get? b = some o) → h'.get? ap ≠ none →
        (∀ g' cs, (∀ b o, gp.get? b = some o → b ≠ ap → g'.get? b = some o) → g'.get? ap = h'.get? ap → bs.Nodup → JR prog w g' fv f cs → ∃ cs', JR prog w g' u (put1 e t f) cs' ∧ ∀ b ∈ cs', b ∈ bs ∨ b ∈ cs) → Q .none { s with heap := h', toks := tk }) →
      wpAny (model prog w) A (call (.ref 174) [u, pv, fv]) Q E s := by
  intro A s Q E S hgp Rm ret
  refine wpAny_call ?_
  (refine' enter W S ?ho ?hcd ?hroom ?hb ?hl ?_ ?h1 ?h2 ?h3 ?h4; (case ho => k_is); (case hcd => k_is); (case hroom => (have := Rm.d; omega)); (case hb => exact BindsTo.of_eq rfl); (case h1 => decide); (case h2 => exact rfl); (case h3 => exact rfl); (case h4 => exact rfl); (case hl => exact rfl))
  intro L h₁ tk F0
  obtain ⟨m0, F, mp, mt, mv⟩ : ∃ m0, Fm s.heap g L m0 [] (s.heap.get? TAB) g h₁ ∧ m0 (Str.ofString "parent") = some u ∧ m0 (Str.ofString "part") = some pv ∧ m0 (Str.ofString "value") = some fv := ⟨_, F0, rfl, rfl, rfl⟩
  clear F0
  dsimp only
  have all : ∀ b o, s.heap.get? b = some o → h₁.get? b = some o := F.after.all
  have hgp1 : gp.StaysIn h₁ := fun b o z => all b o (hgp b o z)
  have X1 := (W.keeps F.gh).k
  refine wpAny_execs_cons ?_
  refine wpAny_If ?_
  refine isTrue_plain ?_
  refine wpAny_Call_ofName (n_bi W F.gh (by k_is) rfl (PyProof.Rows.callWith_builtin1 (spliced_more ?_)))
  refine n_loc F mp ?_
  refine spliced_more ?_
  refine n_bi W F.gh (by k_is) rfl ?_
  refine spliced_none ?_
  refine isi_str hu hgp1 fun tk2 => ?_
  refine wpAny_truthy_bool ?_
  have hns : isStr e = false := by cases e <;> first | rfl | (cases t <;> simp [at1] at hx)
  rw [hns, if_neg (by decide)]
  refine wpAny_execs_cons ?_
  refine wpAny_If ?_
  refine wpAny_mono (Q := fun b s' => b = false ∧ ∃ tk, s' = ({ s with heap := h₁, toks := tk } : Shared)) ?_ (fun b s' hb => ?_) fun _ _ z => z
  · refine isTrue_and ?_
    refine isTrue_plain ?_
    refine wpAny_Call_ofName (n_bi W F.gh (by k_is) rfl (PyProof.Rows.callWith_builtin1 (spliced_more ?_)))
    refine n_loc F mp ?_
    refine spliced_more ?_
    refine n_glob W F.gh (by k_is) ?_
    refine spliced_none ?_
    refine isi_seq hu hgp1 X1 fun tk3 => ?_
    refine wpAny_truthy_bool ?_
    cases hb : (isList e || isStr e) with
    | false => exact ⟨rfl, _, rfl⟩
    | true =>
      rw [if_pos rfl]
      refine isTrue_and ?_
      refine wpAny_isTrue_Compare1 ?_
      refine n_loc F mt ?_
      refine wpAny_Constant_str ?_
      cases ht with
      | int i ti =>
        refine EqMixed.eq_int_str ?_
        refine wpAny_truthy_bool ?_
        exact ⟨rfl, _, rfl⟩
      | _ => cases e <;> simp [at1] at hx <;> simp [isList, isStr] at hb
  obtain ⟨rfl, tk4, rfl⟩ := hb
  rw [if_neg (by decide)]
  refine wpAny_execs_cons ?_
  refine wpAny_Try_except ?_
  refine wpAny_execs_cons ?_
  refine wpAny_Assign_Subscript ?_
  refine n_loc F mv ?_
  refine n_loc F mp ?_
  refine n_loc F mt ?_
  cases hu with
  | @list l vs xs as' hla hs =>
    cases ht with
    | int i ti =>
      simp only [at1] at hx
      split at hx
      case isFalse => cases hx
      rename_i hi
      have hj := (List.getElem?_eq_some_iff.mp hx).1
      have hvl : vs.size = xs.length := by rw [← Array.length_toList, hs.length]
      refine wpAny_setItem_list (isList_keeps hgp1 hla) hi.1 (by omega) (by omega) fun h₂ hl2 hsb => ?_
      refine wpAny_execs_nil ?_
      repeat (dsimp only; refine wpAny_execs_nil ?_)
      try dsimp only
      obtain ⟨ol, eol, cl, nl, dl⟩ := hl2
      refine ret l h₂ _ rfl (.head _) (fun b o z hb => (hsb.2 b hb).trans (all b o z)) (by rw [eol]; exact Option.some_ne_none _) ?_
      intro g' cs k hap nd hf
      obtain ⟨v0, pre, as1, post, e1, rfl, j1, j2, j3⟩ := hs.cut hx
      have nd' := nd
      rw [List.nodup_cons] at nd'
      have hset : put1 (.list xs) (.int i) f = .list (xs.take i.toNat ++ f :: xs.drop (i.toNat + 1)) := by
        simp only [put1]
        rw [List.set_eq_take_append_cons_drop, if_pos hj]
      rw [hset]
      have hvs : (vs.setIfInBounds i.toNat fv).toList = vs.toList.take i.toNat ++ fv :: vs.toList.drop (i.toNat + 1) := by
        rw [Array.toList_setIfInBounds, List.set_eq_take_append_cons_drop, if_pos (by rw [Array.length_toList, hvl]; exact hj)]
      have hl' : g'.IsList l (vs.setIfInBounds i.toNat fv) := ⟨ol, by rw [hap]; exact eol, cl, nl, dl⟩
      have n1 : ∀ y ∈ pre, ¬ y = l := fun y hy z => nd'.1 (z ▸ List.mem_append_left _ hy)
      have n2 : ∀ y ∈ post, ¬ y = l := fun y hy z => nd'.1 (z ▸ List.mem_append_right _ (List.mem_append_right _ hy))
      have hjs := (j1.keepsBut (S := fun b => b = l) k n1).app' (.cons hf (j3.keepsBut (S := fun b => b = l) k n2))
      rw [← hvs] at hjs
      exact ⟨_, .list hl' hjs, mem_swap⟩
    | _ => simp [at1] at hx
  | @dict l kvs ep ds bs2 hm hda ek hs =>
    cases ht with
    | str key tkey =>
      simp only [at1] at hx
      have hnd : (kvs.map (·.1)).Nodup := let ⟨_, _, _, _, _, _, _, z⟩ := hda; z
      have hx3 : ds.length ≤ 3 := by cases n with
        | zero => simp [okW] at hok
        | succ n => rw [okW, Bool.and_eq_true, decide_eq_true_eq] at hok; exact hok.1
      have hlen' := dict_keys ek
      obtain ⟨i, hi⟩ := findK_idx hx
      refine wpAny_setItem_pairs (k := key) (by show Value.isStrOf key (Value.str key tkey) = true; simp [Value.isStrOf]) (dictAt_keeps hgp1 hda).dictOf (fun h₂ hd2 hsb => ?_) (by rw [hlen']; have := sizeLine_eq; omega)
      dsimp only
      refine wpAny_execs_nil ?_
      repeat (dsimp only; refine wpAny_execs_nil ?_)
      try dsimp only
      have hd2' := hd2
      obtain ⟨ol, esl, epl, eol, rl⟩ := hd2'
      refine ret l h₂ _ rfl (.head _) (fun b o z hb => (hsb.2 b hb).trans (all b o z)) (by rw [eol]; exact Option.some_ne_none _) ?_
      intro g' cs k hap nd hf
      have hi2 : (ds.map (·.2))[i]? = some x := by rw [List.getElem?_map, hi]; rfl
      obtain ⟨v0, pre, as1, post, e1, rfl, j1, j2, j3⟩ := hs.cut hi2
      have nd' := nd
      rw [List.nodup_cons] at nd'
      have n1 : ∀ y ∈ pre, ¬ y = l := fun y hy z => nd'.1 (z ▸ List.mem_append_left _ hy)
      have n2 : ∀ y ∈ post, ¬ y = l := fun y hy z => nd'.1 (z ▸ List.mem_append_right _ (List.mem_append_right _ hy))
      have hjs := (j1.keepsBut (S := fun b => b = l) k n1).app' (.cons hf (j3.keepsBut (S := fun b => b = l) k n2))
      have hkv : ∃ v1, kvs[i]? = some (key, v1) := by
        have h1 := congrArg (fun l => l[i]?) ek
        simp only [List.getElem?_map, hi, Option.map_some] at h1
        obtain ⟨z, hz, hz2⟩ := Option.map_eq_some_iff.mp h1.symm
        injection hz2 with hz2
        exact ⟨z.2, by rw [hz, ← hz2]⟩
      obtain ⟨v1, hkv⟩ := hkv
      have hst := stored_at hnd hkv fv
      have hvs : (stored kvs key fv).map (·.2) = (kvs.map (·.2)).take i ++ fv :: (kvs.map (·.2)).drop (i + 1) := by
        rw [hst, List.map_append, List.map_cons, List.map_take, List.map_drop]
      have hks : (stored kvs key fv).map (fun q => PyData.str q.1) = kvs.map (fun q => PyData.str q.1) := by
        have h1 := List.take_append_drop i kvs
        have hlt := (List.getElem?_eq_some_iff.mp hkv).1
        rw [List.drop_eq_getElem_cons hlt, (List.getElem?_eq_some_iff.mp hkv).2] at h1
        rw [hst]
        conv => rhs; rw [← h1]
        simp
      rw [← hvs, ← subK_eq ek hnd hi rfl f] at hjs
      have hda' : g'.DictAt (PySem.strKind prog w) l (stored kvs key fv) epl := ⟨ol, esl, by rw [hap]; exact eol, rl⟩
      exact ⟨_, .dict hm hda' ((subK_fst key f ds).trans (ek.trans hks.symm)) hjs, mem_swap⟩
    | _ => simp [at1] at hx
  | _ => cases t <;> simp [at1] at hx
end
end Mine
end

/-! ## LF -/
section
set_option maxRecDepth 100000
set_option maxHeartbeats 4000000
open PySem PySem.W PyProof.Rows PySem.Calls
namespace Mine

example (w : World) (h : Heap) (X : (hd.heap_39 w.params).In h) : (hd.heap_39 w.params).In h ∧ PySem.Challenge.rw_bs0014_01 = PySem.Challenge.rw_bs0014_01 := by
  k_fill
  exact ⟨X, rfl⟩

section
variable {prog : Program} {w : World} {p : Program} {loose : List Str} {mg mb : Str → Option Value} {A : Around} {E : Value → Shared → Prop} {s : Shared} {R : Result → Shared → Prop}
  {base g₀ g h h' gh0 : Heap} {L : Addr} {m m' : Str → Option Value} {vol : List (Addr × Obj)} {T : Option Obj} {env : Env}

theorem JR.root {v : Value} {d : PyData} {as : List Addr} (x : JR prog w h v d as) {b : Addr} (e : v = .ref b) : b ∈ as := by
  cases x <;> first | (cases e; exact .head _) | cases e

/-- pointer.set of a place that is there -/
theorem set_any (inp : Bool) {a : Addr} {v fv : Value} {d x t f : PyData} {as cs : List Addr} {ts : List PyData} {n : Nat} (W : WD w p loose mg mb g) (hp : IsPtr w g a ((ts ++ [t]).map tokS)) (hv : JR prog w g v d as) (hok : okW n d = true) (hn5 : n ≤ 5)
    (hx : atD d (ts ++ [t]) = some x) (hf : JR prog w g fv f cs) (hdis : inp = true → ∀ b ∈ cs, b ∉ as) :
    ∀ (A : Around) (s : Shared) (Q : Value → Shared → Prop) (E : Value → Shared → Prop), St g s → Room A (n + 5) (4 * n + 130) →
      (∀ (v' : Value) (as' : List Addr) (gd hd : Heap) (ap : Addr) (h' : Heap) (tk : Nat), (inp = true → v' = v ∧ as' = as) → (inp = false → ∀ b ∈ as', g.get? b = none) → (inp = false → as'.Nodup) → (∀ b, v' = .ref b → b ∈ as') → After g s gd hd → ap ∈ as' → gd.get? ap ≠ none →
        (∀ b o, hd.get? b = some o → b ≠ ap → h'.get? b = some o) → h'.get? ap ≠ none →
        (∀ g', (∀ b o, gd.get? b = some o → b ≠ ap → g'.get? b = some o) → g'.get? ap = h'.get? ap → as'.Nodup → ∃ cs', JR prog w g' v' (ed d (ts ++ [t]) f) cs' ∧ ∀ b ∈ cs', b ∈ as' ∨ b ∈ cs) → Q v' { s with heap := h', toks := tk }) →
      wpAny (model prog w) A (call (.ref 147) [.ref a, v, fv, .bool inp, .bool false]) Q E s := by
  intro A s Q E S Rm ret
  obtain ⟨e, he, hx1⟩ : ∃ e, atD d ts = some e ∧ at1 e t = some x := by
    obtain ⟨e, h1, h2⟩ := atD_app hx
    refine ⟨e, h1, ?_⟩
    rw [atD] at h2
    cases q : at1 e t with
    | none => rw [q] at h2; cases h2
    | some y => rw [q] at h2; simpa [atD] using h2
  have hokJ := okW_J n d hok
  have htl := (atD_ok hok hx).2.1
  simp only [List.length_append, List.length_cons, List.length_nil] at htl
  refine wpAny_call ?_
  (refine' enter W S ?ho ?hcd ?hroom ?hb ?hl ?_ ?h1 ?h2 ?h3 ?h4; (case ho => k_is); (case hcd => k_is); (case hroom => (have := Rm.d; omega)); (case hb => exact binds_K (W.keeps S.sub).k rfl (by k_is) rfl rfl rfl); (case h1 => decide); (case h2 => exact rfl); (case h3 => exact rfl); (case h4 => exact rfl); (case hl => exact rfl))
  intro L h₁ tk F0
  obtain ⟨m0, F, ms, md, mv, mi, mc⟩ : ∃ m0, Fm s.heap g L m0 [] (s.heap.get? TAB) g h₁ ∧ m0 (Str.ofString "self") = some (.ref a) ∧ m0 (Str.ofString "doc") = some v ∧ m0 (Str.ofString "value") = some fv ∧ m0 (Str.ofString "inplace") = some (.bool inp) ∧ m0 (Str.ofString "create") = some (.bool false) := ⟨_, F0, rfl, rfl, rfl, rfl, rfl⟩
  clear F0
  dsimp only
  have R1 : ∀ env, Room (A.deeper env) (n + 4) (4 * n + 127) := fun env => (Rm.le (dn' := n + 4 + 1) (un' := 4 * n + 127 + 3) (by omega) (by omega)).deeper env
  have X1 := (W.keeps F.gh).k
  refine wpAny_execs_cons ?_
  refine wpAny_If ?_
  refine wpAny_isTrue_Compare1 ?_
  refine wpAny_Call_ofName (n_bi W F.gh (by k_is) rfl (PyProof.Rows.callWith_builtin1 (spliced_more ?_)))
  refine PyProof.Rows.Attribute_name ?_
  refine n_loc F ms ?_
  refine ptr_parts hp F.gh X1 fun l vs hl1 hs1 => ?_
  have hvl : vs.length = ts.length + 1 := by have := hs1.len_eq; simpa using this
  refine spliced_none (len_list (F.isList hl1) (by simp; have := sizeLine_eq; omega) ?_)
  refine wpAny_Constant_int ?_
  refine eq_int (wpAny_truthy_bool ?_)
  rw [show (((vs.toArray.size : Nat) : Int) == 0) = false from by rw [List.size_toArray, hvl]; exact beq_eq_false_iff_ne.mpr (by omega), if_neg (by decide)]
  refine wpAny_execs_nil ?_
  dsimp only
  -- the copy
  refine wpAny_execs_cons ?_
  refine wpAny_mono (Q := fun f' s' => f' = Flow.next ∧ ∃ v' as' g₂ h₂ m₂ tk₂, s' = ({ s with heap := h₂, toks := tk₂ } : Shared) ∧ Fm s.heap g L m₂ [] (s.heap.get? TAB) g₂ h₂ ∧ g.StaysIn g₂ ∧ m₂ (Str.ofString "self") = some (.ref a) ∧ m₂ (Str.ofString "doc") = some v' ∧ m₂ (Str.ofString "value") = some fv ∧ m₂ (Str.ofString "create") = some (.bool false) ∧
    JR prog w g₂ v' d as' ∧ (inp = true → v' = v ∧ as' = as) ∧ (inp = false → ∀ b ∈ as', g.get? b = none) ∧ (inp = false → as'.Nodup)) ?_ (fun f' s' q => ?_) fun _ _ z => z
  · refine wpAny_If ?_
    refine isTrue_not ?_
    refine isTrue_plain ?_
    refine n_loc F mi ?_
    refine wpAny_truthy_bool ?_
    cases inp with
    | true =>
      rw [show (!true) = false from rfl, if_neg (by decide)]
      exact wpAny_execs_nil ⟨rfl, v, as, g, h₁, m0, _, rfl, F, fun _ _ z => z, ms, md, mv, mc, hv, fun _ => ⟨rfl, rfl⟩, fun z => (by cases z), fun z => (by cases z)⟩
    | false =>
      rw [show (!false) = true from rfl, if_pos rfl]
      refine wpAny_execs_cons ?_
      refine wpAny_Assign_Name ?_
      refine wpAny_Call_ofName (n_glob W F.gh (by k_is) (callWith_K W.k (by k_is) (spliced_more ?_)))
      refine n_loc F md ?_
      refine spliced_none ⟨X1, ?_⟩
      refine (does_copied n W hv hokJ).use F S.tT ((R1 _).le (by omega) (by omega)) fun r g₂ h₂ tk₂ F₂ g12 ⟨as', hr, hnd, hnew⟩ => ?_
      refine s_loc F₂ fun h₃ F₃ => ?_
      dsimp only
      refine wpAny_execs_nil ⟨rfl, r, as', g₂, h₃, _, _, rfl, F₃, g12, by rw [if_neg (by decide)]; exact ms, if_pos rfl, by rw [if_neg (by decide)]; exact mv, by rw [if_neg (by decide)]; exact mc, hr, fun z => (by cases z), fun _ => hnew, fun _ => hnd⟩
  obtain ⟨rfl, v', as', g₂, h₂, m₂, tk₂, rfl, F₂, g12, ms2, md2, mv2, mc2, hv2, hi1, hi2, hi3⟩ := q
  dsimp only
  have W₂ := W.keeps g12
  have X2 := (W₂.keeps F₂.gh).k
  refine wpAny_execs_cons ?_
  refine wpAny_If ?_
  refine isTrue_plain ?_
  refine n_loc F₂ mc2 ?_
  refine wpAny_truthy_bool ?_
  rw [if_neg (by decide)]
  refine wpAny_execs_cons ?_
  refine PyProof.Rows.Assign_Tuple ?_
  refine MethodCall_ ?_
  refine n_loc F₂ ms2 ?_
  refine ptr_method (hp.keeps g12) F₂.gh X2 (f := 131) (by k_is) (by k_is) (fun _ _ => rfl) ?_
  refine callWith_K W₂.k (by k_is) (spliced_more ?_)
  refine n_loc F₂ md2 ?_
  refine spliced_none ⟨X2, ?_⟩
  refine (does_last W₂ (hp.keeps g12) hv2 hok he hx1 (by omega)).use F₂ S.tT ((R1 _).le (by omega) (by omega)) fun r g₃ h₃ tk₃ F₃ g23 ⟨q, u, pv, bs, tb, hr, eq, hc, htb⟩ => ?_
  subst hr
  dsimp only
  refine wpAny_assign_Tuple Rm.h ⟨_, F₃.gh _ _ eq, rfl, 0, rfl⟩ rfl rfl fun h₄ hx₄ => ?_
  have sL : ∀ {y : Addr} {o : Obj}, h₃.get? y = some o → h₄.get? y = some o := fun {y o} z => hx₄ y o (fun z' => by subst z'; exact absurd (Heap.lt_size z) (Nat.lt_irrefl _)) z
  have tabT : h₄.get? TAB = h₃.get? TAB := by
    rw [F₃.tab]
    cases q' : s.heap.get? TAB with
    | none => exact absurd q' S.tT
    | some o => exact sL (by rw [F₃.tab, q'])
  have F₄ := F₃.more (fun y o z => sL z) tabT
  show wpAny _ _ (assignInOrder [assign (.Name _ _) _, assign (.Name _ _) _] [u, pv]) _ _ _
  refine wpAny_assignInOrder_more (wpAny_assign_Name (s_loc F₄ fun h₅ F₅ => ?_))
  refine wpAny_assignInOrder_more (wpAny_assign_Name (s_loc F₅ fun h₆ F₆ => ?_))
  refine wpAny_assignInOrder_none ?_
  dsimp only
  refine wpAny_execs_nil ?_
  dsimp only
  have W₃ := W₂.keeps g23
  have X6 := (W₃.keeps F₆.gh).k
  refine wpAny_execs_cons ?_
  refine wpAny_Expr_any ?_
  refine MethodCall_ ?_
  refine n_loc F₆ (v := .ref a) (by rw [if_neg (by decide), if_neg (by decide)]; exact ms2) ?_
  refine ptr_child ((hp.keeps g12).keeps g23) F₆.gh X6 ?_
  refine callWith_K W₃.k (by k_is) (spliced_more ?_)
  refine n_loc F₆ (v := u) (by rw [if_neg (by decide)]; exact if_pos rfl) ?_
  refine spliced_more ?_
  refine n_loc F₆ (v := pv) (if_pos rfl) ?_
  refine spliced_more ?_
  refine n_loc F₆ (v := fv) (by rw [if_neg (by decide), if_neg (by decide)]; exact mv2) ?_
  refine spliced_none ⟨X6, ?_⟩
  refine does_child (gp := g₂) (f := f) (cs0 := cs) W₃ hc.jr (atD_ok hok he).2.2 htb hx1 _ _ _ _ (F₆.st S.tT) (fun b o z => F₆.gh b o (g23 b o z)) ((R1 _).le (by omega) (by omega)) ?_
  intro ap h' tk' hap hapb hk hne hput
  subst hap
  have hapas : ap ∈ as' := hc.sub ap hapb
  have g2ap : g₂.get? ap ≠ none := hv2.there ap hapas
  have g3ap : g₃.get? ap ≠ none := by
    cases q' : g₂.get? ap with
    | none => exact absurd q' g2ap
    | some o => rw [g23 _ _ q']; exact Option.some_ne_none _
  have hapL : L ≠ ap := fun z => by rw [← z] at g3ap; exact g3ap F₆.gL
  dsimp only
  have hns' : h'.Ns L _ := let ⟨oL, es, ep, a1, a2⟩ := F₆.ns; ⟨oL, es, ep, hk _ _ a1 hapL, a2⟩
  refine x_ret ?_
  refine wpAny_Name (wpAny_loadName_local (m := _) rfl rfl hns' (v := v') (by rw [if_neg (by decide), if_neg (by decide)]; exact md2) ?_) (by decide)
  refine ret v' as' g₃ h₆ ap h' _ hi1 hi2 hi3 (fun b e => hv2.root e) F₆.after hapas g3ap hk hne ?_
  intro g' k hap' nd
  have hfg : JR prog w g' fv f cs := by
    refine (((hf.keeps g12).keeps g23)).keepsBut (S := fun b => b = ap) (fun b o z hb => k b o z hb) fun b hb z => ?_
    subst z
    cases inp with
    | true =>
      obtain ⟨-, rfl⟩ := hi1 rfl
      exact hdis rfl _ hb hapas
    | false => exact hf.there _ hb (hi2 rfl _ hapas)
  obtain ⟨cs', hj, hjs⟩ := hput g' cs (fun b o z hb => k b o (g23 b o z) hb) hap' (hc.nd nd) hfg
  obtain ⟨as3, hj3, hjs3⟩ := hc.put nd g' _ cs' (fun b o z hb => k b o (g23 b o z) (fun z' => hb (z' ▸ hapb))) hj
  refine ⟨as3, by rw [ed_snoc he]; exact hj3, fun b hb => ?_⟩
  rcases hjs3 b hb with h | h
  · exact .inl h
  · exact (hjs b h).imp (hc.sub b) id
end
end Mine
end

/-! ## LG -/
section
set_option maxRecDepth 100000
set_option maxHeartbeats 4000000
open PySem PySem.W PyProof.Rows PySem.Calls
namespace Mine

example (w : World) (h : Heap) (X : (hd.heap_39 w.params).In h) : (hd.heap_39 w.params).In h ∧ PySem.Challenge.rw_bs0014_01 = PySem.Challenge.rw_bs0014_01 := by
  k_fill
  exact ⟨X, rfl⟩

section
variable {prog : Program} {w : World} {p : Program} {loose : List Str} {mg mb : Str → Option Value} {A : Around} {E : Value → Shared → Prop} {s : Shared} {R : Result → Shared → Prop}
  {base g₀ g h h' gh0 : Heap} {L : Addr} {m m' : Str → Option Value} {vol : List (Addr × Obj)} {T : Option Obj} {env : Env}

/-- the known part with one of its new objects changed -/
theorem after_put {gd hd' : Heap} {ap : Addr} (S : St g s) (x : After g s gd hd') (h0 : g.get? ap = none) (h1 : gd.get? ap ≠ none) (hk : ∀ b o, hd'.get? b = some o → b ≠ ap → h'.get? b = some o) :
    After g s (sieve h' fun b => (gd.get? b).isSome) h' := by
  have hs : s.heap.get? ap = none := by
    cases q : s.heap.get? ap with
    | none => rfl
    | some o => exact absurd (x.grow.new ap (by rw [q]; exact Option.some_ne_none _) h0) h1
  refine ⟨fun b o e hb => hk b o (x.stay b o e hb) (fun z => by rw [z, hs] at e; cases e), ?_, ⟨fun b o e => ?_, fun b hb e => ?_⟩, fun b o e => (sieve_some e).2⟩
  · cases q : s.heap.get? TAB with
    | none => exact absurd q S.tT
    | some o => exact hk _ _ (by rw [x.tab, q]) fun z => by rw [← z, q] at hs; cases hs
  · have e1 := x.grow.sub b o e
    rw [sieve_get, e1]
    exact hk _ _ (x.sub b o e1) fun z => by rw [z, h0] at e; cases e
  · rw [sieve_get, x.grow.new b hb e]; rfl

theorem does_set {a : Addr} {v fv : Value} {d x f : PyData} {as cs : List Addr} {way : List PyData} {n : Nat} (W : WD w p loose mg mb g) (hp : IsPtr w g a (way.map tokS)) (hv : JR prog w g v d as) (hok : okW n d = true) (hn5 : n ≤ 5)
    (hx : atD d way = some x) (hf : JR prog w g fv f cs) :
    Does prog w (.ref 147) [.ref a, v, fv, .bool false, .bool false] (n + 5) (4 * n + 130) g fun g' r => (∃ as', JR prog w g' r (ed d way f) as' ∧ ∀ b ∈ as', g.get? b = none ∨ b ∈ cs) ∧ (way ≠ [] → ∀ b, r = .ref b → g.get? b = none) := by
  rcases List.eq_nil_or_concat way with rfl | ⟨ts, t, rfl⟩
  · intro A s Q E S Rm ret
    refine wpAny_call ?_
    (refine' enter W S ?ho ?hcd ?hroom ?hb ?hl ?_ ?h1 ?h2 ?h3 ?h4; (case ho => k_is); (case hcd => k_is); (case hroom => (have := Rm.d; omega)); (case hb => exact binds_K (W.keeps S.sub).k rfl (by k_is) rfl rfl rfl); (case h1 => decide); (case h2 => exact rfl); (case h3 => exact rfl); (case h4 => exact rfl); (case hl => exact rfl))
    intro L h₁ tk F0
    obtain ⟨m0, F, ms, mv, mi⟩ : ∃ m0, Fm s.heap g L m0 [] (s.heap.get? TAB) g h₁ ∧ m0 (Str.ofString "self") = some (.ref a) ∧ m0 (Str.ofString "value") = some fv ∧ m0 (Str.ofString "inplace") = some (.bool false) := ⟨_, F0, rfl, rfl, rfl⟩
    clear F0
    dsimp only
    have X1 := (W.keeps F.gh).k
    refine wpAny_execs_cons ?_
    refine wpAny_If ?_
    refine wpAny_isTrue_Compare1 ?_
    refine wpAny_Call_ofName (n_bi W F.gh (by k_is) rfl (PyProof.Rows.callWith_builtin1 (spliced_more ?_)))
    refine PyProof.Rows.Attribute_name ?_
    refine n_loc F ms ?_
    refine ptr_parts hp F.gh X1 fun l vs hl1 hs1 => ?_
    have hvl : vs.length = 0 := by have := hs1.len_eq; simpa using this
    refine spliced_none (len_list (F.isList hl1) (by simp; have := sizeLine_eq; omega) ?_)
    refine wpAny_Constant_int ?_
    refine eq_int (wpAny_truthy_bool ?_)
    rw [show (((vs.toArray.size : Nat) : Int) == 0) = true from by rw [List.size_toArray, hvl]; rfl, if_pos rfl]
    refine wpAny_execs_cons ?_
    refine wpAny_If ?_
    refine isTrue_plain ?_
    refine n_loc F mi ?_
    refine wpAny_truthy_bool ?_
    rw [if_neg (by decide)]
    refine wpAny_execs_nil ?_
    dsimp only
    refine x_ret ?_
    refine n_loc F mv ?_
    dsimp only
    exact ret fv g h₁ _ F.after ⟨⟨cs, hf, fun _ hb => .inr hb⟩, fun z => absurd rfl z⟩
  · rw [List.concat_eq_append] at hp hx ⊢
    intro A s Q E S Rm ret
    refine set_any false W hp hv hok hn5 hx hf (fun z => by cases z) A s Q E S Rm ?_
    intro v' as' gd hd' ap h' tk _ i2 i3 i4 x hap hg hk hne hj
    have h0 := i2 rfl ap hap
    refine ret v' _ h' tk (after_put S x h0 hg hk) ⟨?_, fun _ b e => ?_⟩
    · obtain ⟨cs', hj1, hj2⟩ : ∃ cs', JR prog w (sieve h' fun b => (gd.get? b).isSome) v' (ed d (ts ++ [t]) f) cs' ∧ ∀ b ∈ cs', b ∈ as' ∨ b ∈ cs := by
        refine hj _ (fun b o e hb => ?_) ?_ (i3 rfl)
        · rw [sieve_get, e]; exact hk _ _ (x.sub b o e) hb
        · rw [sieve_get]
          cases q : gd.get? ap with
          | none => exact absurd q hg
          | some o => rfl
      exact ⟨cs', hj1, fun b hb => (hj2 b hb).imp (i2 rfl b) id⟩
    · subst e
      exact i2 rfl _ (i4 _ rfl)
end
end Mine
end

/-! ## LH -/
section
set_option maxRecDepth 100000
set_option maxHeartbeats 4000000
open PySem PySem.W PyProof.Rows PySem.Calls
namespace Mine

example (w : World) (h : Heap) (X : (hd.heap_39 w.params).In h) : (hd.heap_39 w.params).In h ∧ PySem.Challenge.rw_bs0014_01 = PySem.Challenge.rw_bs0014_01 := by
  k_fill
  exact ⟨X, rfl⟩

section
variable {prog : Program} {w : World} {p : Program} {loose : List Str} {mg mb : Str → Option Value} {A : Around} {E : Value → Shared → Prop} {s : Shared} {R : Result → Shared → Prop}
  {base g₀ g h h' gh0 : Heap} {L : Addr} {m m' : Str → Option Value} {vol : List (Addr × Obj)} {T : Option Obj} {env : Env}

theorem does_resolve {a : Addr} {v : Value} {d e : PyData} {as : List Addr} {ts : List PyData} {xs : List Value} {n : Nat} (W : WD w p loose mg mb g) (hp : IsPtr w g a (ts.map tokS)) (hv : JR prog w g v d as) (hok : okW n d = true) (he : atD d ts = some e) (hl : ts.length ≤ 5) (hxs : xs = [] ∨ ∃ dv, xs = [dv]) :
    Does prog w (.ref 139) (.ref a :: v :: xs) 4 110 g fun g' r => ∃ bs, CtxD prog w g v d as r e bs ts := by
  rcases hxs with rfl | ⟨dv, rfl⟩ <;> (
  intro A s Q E S Rm ret
  refine wpAny_call ?_
  (refine' enter W S ?ho ?hcd ?hroom ?hb ?hl ?_ ?h1 ?h2 ?h3 ?h4; (case ho => k_is); (case hcd => k_is); (case hroom => (have := Rm.d; omega)); (case hb => exact binds_K (W.keeps S.sub).k rfl (by k_is) rfl rfl rfl); (case h1 => decide); (case h2 => exact rfl); (case h3 => exact rfl); (case h4 => exact rfl); (case hl => exact rfl))
  intro L h₁ tk F0
  obtain ⟨m0, F, ms, md⟩ : ∃ m0, Fm s.heap g L m0 [] (s.heap.get? TAB) g h₁ ∧ m0 (Str.ofString "self") = some (.ref a) ∧ m0 (Str.ofString "doc") = some v := ⟨_, F0, rfl, rfl⟩
  clear F0
  dsimp only
  have R1 : ∀ env, Room (A.deeper env) 3 107 := fun env => (Rm.le (dn' := 4) (un' := 110) (by omega) (by omega)).deeper env
  have X1 := (W.keeps F.gh).k
  refine wpAny_execs_cons ?_
  refine wpAny_For ?_
  refine PyProof.Rows.Attribute_name ?_
  refine n_loc F ms ?_
  refine ptr_parts hp F.gh X1 fun l vs hl1 hs1 => ?_
  have hvl : vs.length = ts.length := by have := hs1.len_eq; simpa using this
  dsimp only
  refine loop_list F S.tT Rm.h hl1 (fun i m₁ g₁ => ∃ u e₁ bs k, m₁ (Str.ofString "self") = some (.ref a) ∧ m₁ (Str.ofString "doc") = some u ∧ CtxD prog w g v d as u e₁ bs (ts.take i) ∧ atD d (ts.take i) = some e₁ ∧ okW k e₁ = true ∧ g.StaysIn g₁) ⟨v, d, as, n, ms, md, .here hv, rfl, hok, fun _ _ z => z⟩ ?_ ?_
  · rintro i pt m₁ g₁ h₂ tk₂ io E' hi ⟨u, e₁, bs, k, m1, m2, hc, hd₁, hk, g01⟩ gg F₃
    have hil : i < ts.length := by
      have := (Array.getElem?_eq_some_iff.mp hi).1
      simp at this; omega
    have hti : ts[i]? = some ts[i] := List.getElem?_eq_getElem hil
    obtain ⟨tt, htt⟩ : ∃ tt, pt = .str (tokS ts[i]) tt := by
      have h1 : (ts.map tokS)[i]? = some (tokS ts[i]) := by rw [List.getElem?_map, hti]; rfl
      obtain ⟨tt, h2⟩ := hs1.at h1
      refine ⟨tt, ?_⟩
      rw [List.getElem?_toArray, h2] at hi
      exact (Option.some.inj hi).symm
    subst htt
    have htake := take_snoc hti
    obtain ⟨e₂, he₂⟩ : ∃ e₂, at1 e₁ ts[i] = some e₂ := by
      have h1 : ts = ts.take (i + 1) ++ ts.drop (i + 1) := (List.take_append_drop _ _).symm
      rw [h1] at he
      obtain ⟨d', h2, -⟩ := atD_app he
      rw [htake, atD_snoc hd₁] at h2
      exact ⟨d', h2⟩
    have W₁ := W.keeps g01
    have X₃ := (W₁.keeps F₃.gh).k
    refine wpAny_execs_cons ?_
    refine wpAny_Try_except ?_
    refine wpAny_execs_cons ?_
    refine wpAny_Assign_Name ?_
    refine MethodCall_ ?_
    refine n_loc F₃ (v := .ref a) (by rw [if_neg (by decide)]; exact m1) ?_
    refine ptr_method (hp.keeps g01) F₃.gh X₃ (f := 201) (by k_is) (by k_is) (fun _ _ => rfl) ?_
    refine callWith_K W₁.k (by k_is) (spliced_more ?_)
    refine n_loc F₃ (v := u) (by rw [if_neg (by decide)]; exact m2) ?_
    refine spliced_more ?_
    refine n_loc F₃ (if_pos rfl) ?_
    refine spliced_none ⟨X₃, ?_⟩
    refine (does_walk W₁ g01 hc.jr hk he₂).use F₃ S.tT ((R1 _).le (by decide) (by decide)) fun r g₄ h₄ tk₄ F₄ g34 ⟨as1, c⟩ => ?_
    dsimp only
    refine s_loc F₄ fun h₅ F₅ => ?_
    dsimp only
    refine wpAny_execs_nil ?_
    dsimp only
    refine wpAny_execs_nil ?_
    dsimp only
    refine wpAny_execs_nil ?_
    obtain ⟨-, k', -, hk'⟩ := at1_ok hk he₂
    refine ⟨_, g₄, h₅, _, rfl, F₅, g34, r, e₂, as1, k', ?_, if_pos rfl, ?_, ?_, hk', fun b o z => g34 b o (g01 b o z)⟩
    · rw [if_neg (by decide), if_neg (by decide)]; exact m1
    · rw [htake]; exact hc.step hd₁ c
    · rw [htake, atD_snoc hd₁]; exact he₂
  · rintro m₁ g₁ h₂ tk₂ ⟨u, e₁, bs, k, m1, m2, hc, hd₁, hk, g01⟩ gg F₃
    have hsz : vs.toArray.size = ts.length := by simp [hvl]
    rw [hsz, List.take_length] at hc hd₁
    rw [he] at hd₁
    cases hd₁
    dsimp only
    refine x_ret ?_
    refine n_loc F₃ m2 ?_
    dsimp only
    exact ret u g₁ h₂ _ F₃.after ⟨bs, hc⟩)
end
end Mine
end

/-! ## LI -/
section
set_option maxRecDepth 100000
set_option maxHeartbeats 4000000
open PySem PySem.W PyProof.Rows PySem.Calls
namespace Mine

example (w : World) (h : Heap) (X : (hd.heap_39 w.params).In h) : (hd.heap_39 w.params).In h ∧ PySem.Challenge.rw_bs0014_01 = PySem.Challenge.rw_bs0014_01 := by
  k_fill
  exact ⟨X, rfl⟩

section
variable {prog : Program} {w : World} {p : Program} {loose : List Str} {mg mb : Str → Option Value} {A : Around} {E : Value → Shared → Prop} {s : Shared} {R : Result → Shared → Prop}
  {base g₀ g h h' gh0 : Heap} {L : Addr} {m m' : Str → Option Value} {vol : List (Addr × Obj)} {T : Option Obj} {env : Env}

/-- a contract with keywords -/
def DoesKw (prog : Program) (w : World) (f : Value) (args : List Value) (kws : List (Str × Value)) (dn un : Nat) (g : Heap) (Post : Heap → Value → Prop) : Prop :=
  ∀ (A : Around) (s : Shared) (Q : Value → Shared → Prop) (E : Value → Shared → Prop), St g s → Room A dn un →
    (∀ r g' h' tk, After g s g' h' → Post g' r → Q r { s with heap := h', toks := tk }) → wpAny (model prog w) A (call f args kws) Q E s
theorem DoesKw.use {f : Value} {args : List Value} {kws : List (Str × Value)} {dn un : Nat} {Post : Heap → Value → Prop} {Q : Value → Shared → Prop} (D : DoesKw prog w f args kws dn un g Post)
    (F : Fm base g₀ L m vol T g s.heap) (tT : T ≠ none) (R : Room A dn un)
    (h : ∀ r g' h' tk, Fm base g₀ L m vol T g' h' → g.StaysIn g' → Post g' r → Q r { s with heap := h', toks := tk }) : wpAny (model prog w) A (call f args kws) Q E s :=
  D A s Q E (F.st tT) R fun r g' h' tk x post => h r g' h' tk (F.called tT x) x.grow.sub post

structure PathOk (way : List PyData) : Prop where
  tok : way.all tokOk = true
  ok : okWs (way.map tokS) = true
  len : way.length ≤ 5
theorem PathOk.words {way : List PyData} (x : PathOk way) : ∀ y ∈ way.map tokS, y ∈ Mine.words := fun y hy => by
  obtain ⟨t, ht, rfl⟩ := List.mem_map.mp hy
  exact tok_word (List.all_eq_true.mp x.tok t ht)

theorem does_set_pointer {v fv : Value} {d x f : PyData} {as cs : List Addr} {way : List PyData} {n : Nat} {tk0 : Tok} (W : WD w p loose mg mb g) (hw : PathOk way) (hv : JR prog w g v d as) (hok : okW n d = true) (hn5 : n ≤ 5)
    (hx : atD d way = some x) (hf : JR prog w g fv f cs) :
    DoesKw prog w (.ref 63) [v, .str (textOf (way.map tokS)) tk0, fv] [(Str.ofString "inplace", .bool false)] (n + 6) (4 * n + 140) g fun g' r => (∃ as', JR prog w g' r (ed d way f) as' ∧ ∀ b ∈ as', g.get? b = none ∨ b ∈ cs) ∧ (way ≠ [] → ∀ b, r = .ref b → g.get? b = none) := by
  intro A s Q E S Rm ret
  refine wpAny_call ?_
  (refine' enter W S ?ho ?hcd ?hroom ?hb ?hl ?_ ?h1 ?h2 ?h3 ?h4; (case ho => k_is); (case hcd => k_is); (case hroom => (have := Rm.d; omega)); (case hb => exact binds_K (W.keeps S.sub).k rfl (by k_is) rfl rfl rfl); (case h1 => decide); (case h2 => exact rfl); (case h3 => exact rfl); (case h4 => exact rfl); (case hl => exact rfl))
  intro L h₁ tk F0
  obtain ⟨m0, F, md, mp, mv, mi, mc⟩ : ∃ m0, Fm s.heap g L m0 [] (s.heap.get? TAB) g h₁ ∧ m0 (Str.ofString "doc") = some v ∧ m0 (Str.ofString "pointer") = some (.str (textOf (way.map tokS)) tk0) ∧ m0 (Str.ofString "value") = some fv ∧ m0 (Str.ofString "inplace") = some (.bool false) ∧ m0 (Str.ofString "create") = some (.bool false) := ⟨_, F0, rfl, rfl, rfl, rfl, rfl⟩
  clear F0
  dsimp only
  have R1 : ∀ env, Room (A.deeper env) (n + 5) (4 * n + 137) := fun env => (Rm.le (dn' := n + 5 + 1) (un' := 4 * n + 137 + 3) (by omega) (by omega)).deeper env
  have X1 := (W.keeps F.gh).k
  refine wpAny_execs_cons ?_
  refine wpAny_Assign_Name ?_
  refine wpAny_Call_ofName (n_glob W F.gh (by k_is) (callWith_K W.k (by k_is) (spliced_more ?_)))
  refine n_loc F mp ?_
  refine spliced_none ⟨X1, ?_⟩
  refine (does_ptr W hw.words hw.ok (by have := hw.len; simpa using this)).use F S.tT ((R1 _).le (by omega) (by omega)) fun r g₂ h₂ tk₂ F₂ g12 ⟨a, hr, hp, hna⟩ => ?_
  subst hr
  refine s_loc F₂ fun h₃ F₃ => ?_
  dsimp only
  have W₂ := W.keeps g12
  have X3 := (W₂.keeps F₃.gh).k
  refine x_ret ?_
  refine MethodCall_ ?_
  refine n_loc F₃ (if_pos rfl) ?_
  refine ptr_method hp F₃.gh X3 (f := 147) (by k_is) (by k_is) (fun _ _ => rfl) ?_
  refine callWith_K W₂.k (by k_is) (spliced_more ?_)
  refine n_loc F₃ (v := v) (by rw [if_neg (by decide)]; exact md) ?_
  refine spliced_more ?_
  refine n_loc F₃ (v := fv) (by rw [if_neg (by decide)]; exact mv) ?_
  refine spliced_more ?_
  refine n_loc F₃ (v := .bool false) (by rw [if_neg (by decide)]; exact mi) ?_
  refine spliced_more ?_
  refine n_loc F₃ (v := .bool false) (by rw [if_neg (by decide)]; exact mc) ?_
  refine spliced_none ⟨X3, ?_⟩
  refine (does_set W₂ hp (hv.keeps g12) hok hn5 hx (hf.keeps g12)).use F₃ S.tT ((R1 _).le (by omega) (by omega)) fun r g₄ h₄ tk₄ F₄ g24 ⟨⟨as4, hj, hjs⟩, hnew⟩ => ?_
  dsimp only
  refine ret r g₄ h₄ _ F₄.after ⟨⟨as4, hj, fun b hb => (hjs b hb).imp (none_back g12) id⟩, fun z b e => none_back g12 (hnew z b e)⟩

theorem does_resolve_pointer {v : Value} {d e : PyData} {as : List Addr} {way : List PyData} {xs : List Value} {n : Nat} {tk0 : Tok} (W : WD w p loose mg mb g) (hw : PathOk way) (hv : JR prog w g v d as) (hok : okW n d = true) (he : atD d way = some e) (hxs : xs = [] ∨ ∃ dv, xs = [dv]) :
    Does prog w (.ref 71) (v :: .str (textOf (way.map tokS)) tk0 :: xs) 5 140 g fun g' r => ∃ bs, JR prog w g' r e bs := by
  rcases hxs with rfl | ⟨dv, rfl⟩ <;> (
  intro A s Q E S Rm ret
  refine wpAny_call ?_
  (refine' enter W S ?ho ?hcd ?hroom ?hb ?hl ?_ ?h1 ?h2 ?h3 ?h4; (case ho => k_is); (case hcd => k_is); (case hroom => (have := Rm.d; omega)); (case hb => exact binds_K (W.keeps S.sub).k rfl (by k_is) rfl rfl rfl); (case h1 => decide); (case h2 => exact rfl); (case h3 => exact rfl); (case h4 => exact rfl); (case hl => exact rfl))
  intro L h₁ tk F0
  obtain ⟨m0, dv', F, md, mp, mv⟩ : ∃ m0 dv', Fm s.heap g L m0 [] (s.heap.get? TAB) g h₁ ∧ m0 (Str.ofString "doc") = some v ∧ m0 (Str.ofString "pointer") = some (.str (textOf (way.map tokS)) tk0) ∧ m0 (Str.ofString "default") = some dv' := ⟨_, _, F0, rfl, rfl, rfl⟩
  clear F0
  dsimp only
  have R1 : ∀ env, Room (A.deeper env) 4 137 := fun env => (Rm.le (dn' := 5) (un' := 140) (by omega) (by omega)).deeper env
  have X1 := (W.keeps F.gh).k
  refine wpAny_execs_cons ?_
  refine wpAny_Assign_Name ?_
  refine wpAny_Call_ofName (n_glob W F.gh (by k_is) (callWith_K W.k (by k_is) (spliced_more ?_)))
  refine n_loc F mp ?_
  refine spliced_none ⟨X1, ?_⟩
  refine (does_ptr W hw.words hw.ok (by have := hw.len; simpa using this)).use F S.tT ((R1 _).le (by omega) (by omega)) fun r g₂ h₂ tk₂ F₂ g12 ⟨a, hr, hp, hna⟩ => ?_
  subst hr
  refine s_loc F₂ fun h₃ F₃ => ?_
  dsimp only
  have W₂ := W.keeps g12
  have X3 := (W₂.keeps F₃.gh).k
  refine x_ret ?_
  refine MethodCall_ ?_
  refine n_loc F₃ (if_pos rfl) ?_
  refine ptr_method hp F₃.gh X3 (f := 139) (by k_is) (by k_is) (fun _ _ => rfl) ?_
  refine callWith_K W₂.k (by k_is) (spliced_more ?_)
  refine n_loc F₃ (v := v) (by rw [if_neg (by decide)]; exact md) ?_
  refine spliced_more ?_
  refine n_loc F₃ (v := dv') (by rw [if_neg (by decide)]; exact mv) ?_
  refine spliced_none ⟨X3, ?_⟩
  refine (does_resolve W₂ hp (hv.keeps g12) hok he hw.len (.inr ⟨_, rfl⟩)).use F₃ S.tT ((R1 _).le (by omega) (by omega)) fun r g₄ h₄ tk₄ F₄ g24 ⟨bs, hc⟩ => ?_
  dsimp only
  exact ret r g₄ h₄ _ F₄.after ⟨bs, hc.jr.keeps g24⟩)
end
end Mine
end

/-! ## LJ -/
section
set_option maxRecDepth 100000
set_option maxHeartbeats 4000000
open PySem PySem.W PyProof.Rows PySem.Calls
namespace Mine

example (w : World) (h : Heap) (X : (hd.heap_39 w.params).In h) : (hd.heap_39 w.params).In h ∧ PySem.Challenge.rw_bs0014_01 = PySem.Challenge.rw_bs0014_01 := by
  k_fill
  exact ⟨X, rfl⟩

section
variable {prog : Program} {w : World} {p : Program} {loose : List Str} {mg mb : Str → Option Value} {A : Around} {E : Value → Shared → Prop} {s : Shared} {R : Result → Shared → Prop}
  {base g₀ g h h' gh0 : Heap} {L : Addr} {m m' : Str → Option Value} {vol : List (Addr × Obj)} {T : Option Obj} {env : Env}

/-- the code table of from_parts: empty, or with its one generator -/
def TabIs (pos : Pos) (ps : Array Value) : Prop := ps = #[] ∨ ∃ c, ps = #[rawInt pos.line, rawInt pos.col, .ref c]
theorem TabIs.triples {pos : Pos} {ps : Array Value} (x : TabIs pos ps) : TriplesOk ps.toList := by
  rcases x with rfl | ⟨c, rfl⟩ <;> exact trivial

theorem gen_strs {elt iter : Expr} {x : Str} {px : Pos} {scope : Scope} {pos : Pos} {Q : Value → Shared → Prop} {l c bm : Addr} {ob : Obj} {vs : List Value} {xs : List Str} {f : Str → Str} {ps : Array Value}
    (hh : A.handled = none) (hco : scope.isCoroutine = false) (hclos : closureFor scope env = pure []) (hcell : ∀ y ∈ scope.names, y.2 ≠ .cell) (h0 : scope.names.lookup (".0" : Str) = some NameKind.local)
    (hx : scope.names.lookup x = some .local) (hkind : scope.kind = .function) (hroom : A.depth < recursionLimit)
    (hcode : env.code = .ref c) (C : CodeHd s.heap c TAB) (hP : s.heap.get? TAB = some (tabObj ps)) (ht : TabIs pos ps) (hgl : env.globals = mainGlobals) (M : BMod s.heap mainGlobals mg bm ob) (hlim : s.heap.NoLimit)
    (hl : s.heap.IsList l vs.toArray) (hs : StrsAre vs xs)
    (helt : ∀ (code : Value) (C' : Addr) (A' : Around) E' (y : Str) (_ : y ∈ xs) (t : Tok) (u : Shared) m₂, u.heap.Ns C' m₂ → m₂ x = some (.str y t) → wpAny (model prog w) A' (eval elt (genEnv scope [] C' code builtinsNs env)) (fun z s₃ => (∃ t', z = .str (f y) t') ∧ Keeps u s₃) E' u)
    (hQ : ∀ a h₅ tk gs ps', gs.bare = true → TabIs pos ps' → (∀ b o, s.heap.get? b = some o → b ≠ TAB → h₅.get? b = some o) → h₅.get? TAB = some (tabObj ps') →
      Gen prog w A (s.heap.objs.size - 1) a xs.length (fun j v => ∃ u, v = .str (f (xs.getD j "")) u) { s with heap := h₅, gens := s.gens.push gs, toks := tk } → Q (.ref a) { s with heap := h₅, gens := s.gens.push gs, toks := tk })
    (hit : wpAny (model prog w) A (eval iter env) (fun xv s₁ => xv = .ref l ∧ s₁ = s) E s)
    (hfold : ∀ x, genFold iter env x = pure x) :
    wpAny (model prog w) A (eval (.GeneratorExp elt [⟨.Name x px, iter, [], 0⟩] scope pos) env) Q E s := by
  refine wpAny_GeneratorExp_walksQD hh hco hclos hcell h0 hx hkind hroom (wpAny_mono hit (fun xv s₁ q => ?_) fun _ _ z => z) hfold
  obtain ⟨rfl, rfl⟩ := q
  refine wpAny_pyIter_list hl ⟨hlim.push _, ?_⟩
  have hlt : l < s₁.heap.objs.size := by obtain ⟨_, e, _⟩ := hl; exact Heap.lt_size e
  have up : ∀ (o' : Obj) b o, s₁.heap.get? b = some o → (s₁.heap.push o').get? b = some o := fun o' b o e => Heap.get?_push_of_some _ e
  have hTlt : TAB < s₁.heap.objs.size := Heap.lt_size hP
  have hpos : 0 < s₁.heap.objs.size := Nat.lt_of_le_of_lt (Nat.zero_le _) hTlt
  have hlT : l ≠ TAB := fun e => by
    obtain ⟨o, ho, hc, _⟩ := hl
    rw [e, hP] at ho; cases ho; exact absurd hc (by simp [tabObj])
  refine wpAny_mono (Q := fun code s' => ∃ c' h₃ tk₃ ps', code = .ref c' ∧ s' = ({ s₁ with heap := h₃, toks := tk₃ } : Shared) ∧ Heap.ExtBut TAB (s₁.heap.push { cls := .type "list_iterator", data := .fields #[.ref l, .int 0 0] }) h₃ ∧ s₁.heap.objs.size + 1 ≤ h₃.objs.size ∧ TabIs pos ps' ∧ h₃.get? TAB = some (tabObj ps')) ?_ (fun code s' q => ?_) fun _ _ z => z
  · rcases ht with rfl | ⟨c', rfl⟩
    · refine wpAny_genexprCodeX hcode ((C.keeps (up _)).code (up _ _ _ hP) trivial) ((C.keeps (up _)).tab (up _ _ _ hP)) rfl fun c' h₃ tk₃ hx₃ hge hlt₃ _ _ htab₃ _ => ?_
      exact ⟨c', h₃, tk₃, _, rfl, rfl, hx₃, Nat.le_trans (by rw [Heap.size_push] at hge; exact hge) (Nat.le_of_lt hlt₃), .inr ⟨c', rfl⟩, htab₃.2⟩
    · refine wpAny_codeAt_hit hcode ((C.keeps (up _)).code (up _ _ _ hP) trivial) (c' := .ref c') (by simp [codeAmong, rawInt]) ?_
      exact ⟨c', _, _, _, rfl, rfl, fun _ _ _ e => e, by rw [Heap.size_push]; exact Nat.le_refl _, .inr ⟨c', rfl⟩, up _ _ _ hP⟩
  obtain ⟨c', h₃, tk₃, ps', rfl, rfl, hx₃, hsz₃, hps', htab₃⟩ := q
  have k₃ : ∀ b o, s₁.heap.get? b = some o → b ≠ TAB → h₃.get? b = some o := fun b o e hb => hx₃ b o hb (up _ _ _ e)
  have bT : mainGlobals ≠ TAB := by decide
  have bmT : bm ≠ TAB := fun e => by
    have ho := M.obj
    rw [e, hP] at ho; cases ho; exact absurd M.cls (by simp [tabObj])
  have hcT : cStatics ≠ TAB := by decide
  have M₃ : BMod h₃ mainGlobals mg bm ob := ⟨M.ns.at' fun o e => k₃ _ _ e bT, M.name, M.ne, k₃ _ _ M.obj bmT, M.cls, M.dict, M.data⟩
  have hl₃ : h₃.NoLimit := (hlim.push _).extBut hx₃ hcT
  have hTlt₃ : s₁.heap.objs.size ≠ TAB := Nat.ne_of_gt hTlt
  have hit₃ : h₃.IsListIter s₁.heap.objs.size l 0 := ⟨_, hx₃ _ _ hTlt₃ (Heap.get?_push_size _ rfl), rfl, rfl⟩
  have hli₃ : h₃.IsList l vs.toArray := let ⟨o, e, r⟩ := hl; ⟨o, k₃ _ _ e hlT, r⟩
  rw [hgl]
  refine wpAny_builtinsFor M₃.ns M₃.name M₃.ne M₃.obj M₃.cls M₃.dict M₃.data ?_
  refine ⟨s₁.heap.objs.size, [s₁.heap.objs.size, l], [s₁.heap.objs.size], vs.toArray.size, _, _, fun _ => true, fun i v => ∃ u, v = .str (f (xs.getD i "")) u, rfl, fun A' hA => Walks.list hA _ _ (Nat.ne_of_lt hlt) vs.toArray, ⟨hit₃, hli₃⟩, ?_, hl₃, ?_, fun href _ => ⟨?_, ?_⟩, ?_⟩
  · intro b hb
    rcases List.mem_cons.mp hb with rfl | hb
    · exact hsz₃
    · rcases List.mem_cons.mp hb with rfl | hb
      · exact Nat.lt_of_lt_of_le hlt (Nat.le_trans (Nat.le_succ _) hsz₃)
      · cases hb
  · intro hb
    rcases List.mem_cons.mp hb with e | hb
    · have : cStatics < s₁.heap.objs.size := let ⟨_, hn, _⟩ := hlim; hn.lt
      exact absurd (e ▸ this) (Nat.lt_irrefl _)
    · cases hb
  · intro A' E' i v s₂ m₂ _ _ _ _ _ _ _
    exact wpAny_pure ⟨rfl, s₂.heap, s₂.toks, rfl, fun _ _ e => e⟩
  · intro A' E' i v s₂ m₂ _ _ _ hP _ hn hm _
    have hP' : vs[i]? = some v := by simpa using hP
    have hi : i < xs.length := by rw [← hs.len_eq]; exact (List.getElem?_eq_some_iff.mp hP').1
    obtain ⟨t, ht⟩ := hs.at (List.getElem?_eq_getElem hi)
    rw [hP'] at ht
    have hv := Option.some.inj ht
    subst hv
    have hg : xs.getD i "" = xs[i] := by simp [List.getD_eq_getElem?_getD, hi]
    rw [hg]
    exact helt _ _ A' E' _ (List.getElem_mem hi) t s₂ m₂ hn hm
  · intro a h₅ tk gs hb hlt₅ hsz₅ hk W hat
    have hn : vs.toArray.size = xs.length := by simp [hs.len_eq]
    have hp : passing (fun _ => true) vs.toArray.size 0 = List.range xs.length := by rw [hn]; simp [passing]
    rw [hp, List.length_range] at W
    refine hQ a h₅ tk gs ps' hb hps' (fun b o e hb' => hk b o (k₃ b o e hb')) (hk _ _ htab₃) ?_
    refine Gen.imp (F := fun j y => ∃ i, (List.range xs.length)[j]? = some i ∧ ∃ u, y = .str (f (xs.getD i "")) u) ⟨_, _, _, _, W, hat, (fun i s' st => st.1.typeIs), List.mem_cons_self, ?_, ?_⟩ ?_
    · intro b hb
      show b < h₅.objs.size
      rw [hsz₅]
      dsimp only at hlt₅
      rcases List.mem_cons.mp hb with rfl | hb
      · exact Nat.lt_succ_self _
      · rcases List.mem_cons.mp hb with rfl | hb
        · exact Nat.lt_succ_of_lt hlt₅
        · exact Nat.lt_succ_of_lt (Nat.lt_trans (List.mem_range.mp hb) hlt₅)
    · intro b hb
      rcases List.mem_cons.mp hb with rfl | hb
      · show s₁.heap.objs.size - 1 < h₃.objs.size
        omega
      · rcases List.mem_cons.mp hb with rfl | hb
        · exact Nat.sub_lt hpos Nat.one_pos
        · cases hb
    · rintro j y ⟨i, hi, hy⟩
      have : i = j := by
        obtain ⟨h1, h2⟩ := List.getElem?_eq_some_iff.mp hi
        simpa using h2.symm
      subst this
      exact hy

/-- the code table of from_parts has grown -/
theorem Fm.grown {ps' : Array Value} (F : Fm base g₀ L m vol T g h) (k : ∀ b o, h.get? b = some o → b ≠ TAB → h'.get? b = some o) (e : h'.get? TAB = some (tabObj ps')) : Fm base g₀ L m vol (some (tabObj ps')) g h' where
  ns := F.ns.at' fun o e' => k _ _ e' (Ne.symm F.ltab)
  keep := fun b o e' hb => k _ _ (F.keep b o e' hb) hb
  lo := F.lo
  tlt := F.tlt
  tab := e
  vv := fun p hp => let ⟨a, b, c, d⟩ := F.vv p hp; ⟨k _ _ a (Nat.ne_of_gt (Nat.lt_of_lt_of_le F.tlt b)), b, c, d⟩
  nd := F.nd
  gh := fun b o e' => k _ _ (F.gh b o e') (fun q => by subst q; rw [F.gT] at e'; cases e')
  gL := F.gL
  gg := F.gg
  gT := F.gT

end
end Mine
end

/-! ## LK -/
section
set_option maxRecDepth 100000
set_option maxHeartbeats 4000000
open PySem PySem.W PyProof.Rows PySem.Calls
namespace Mine

example (w : World) (h : Heap) (X : (hd.heap_39 w.params).In h) : (hd.heap_39 w.params).In h ∧ PySem.Challenge.rw_bs0014_01 = PySem.Challenge.rw_bs0014_01 := by
  k_fill
  exact ⟨X, rfl⟩

section
variable {prog : Program} {w : World} {p : Program} {loose : List Str} {mg mb : Str → Option Value} {A : Around} {E : Value → Shared → Prop} {s : Shared} {R : Result → Shared → Prop}
  {base g₀ g h h' gh0 : Heap} {L : Addr} {m m' : Str → Option Value} {vol : List (Addr × Obj)} {T : Option Obj} {env : Env}

/-- the place of from_parts' generator -/
def gpos : Pos := ⟨208, 26, 208, 56⟩

structure AfterG (g : Heap) (s : Shared) (g' h' : Heap) : Prop where
  stay : ∀ b o, s.heap.get? b = some o → b ≠ TAB → h'.get? b = some o
  grow : Grow s.heap g g'
  sub : g'.StaysIn h'

/-- a contract of a call that may make a generator -/
def DoesG (prog : Program) (w : World) (f : Value) (args : List Value) (dn un : Nat) (g : Heap) (Post : Heap → Value → Prop) : Prop :=
  ∀ (A : Around) (s : Shared) (ps : Array Value) (Q : Value → Shared → Prop) (E : Value → Shared → Prop), St g s → Room A dn un → AllBare s.gens → s.heap.get? TAB = some (tabObj ps) → TabIs gpos ps →
    (∀ r g' (s' : Shared) ps', s'.os = s.os → AllBare s'.gens → AfterG g s g' s'.heap → s'.heap.get? TAB = some (tabObj ps') → TabIs gpos ps' → Post g' r → Q r s') → wpAny (model prog w) A (call f args) Q E s

def DoesGC (prog : Program) (w : World) (f : Value) (args : List Value) (dn un : Nat) (g : Heap) (Post : Heap → Value → Prop) : Prop :=
  ∀ (A : Around) (s : Shared) (ps : Array Value) (R : Result → Shared → Prop), St g s → Room A dn un → AllBare s.gens → s.heap.get? TAB = some (tabObj ps) → TabIs gpos ps →
    (∀ r g' (s' : Shared) ps', s'.os = s.os → AllBare s'.gens → AfterG g s g' s'.heap → s'.heap.get? TAB = some (tabObj ps') → TabIs gpos ps' → Post g' r → R (.ok (.ret r)) s') → codeAny (model prog w) A (.call f ⟨args, []⟩) R s
theorem DoesGC.does {f : Value} {args : List Value} {dn un : Nat} {Post : Heap → Value → Prop} (D : DoesGC prog w f args dn un g Post) : DoesG prog w f args dn un g Post := fun A s ps Q E S Rm G hP hps ret =>
  wpAny_call (D A s ps _ S Rm G hP hps ret)

theorem Fm.calledG {g' : Heap} {ps' : Array Value} (F : Fm base g₀ L m vol T g s.heap) (tT : T ≠ none) (x : AfterG g s g' h') (e : h'.get? TAB = some (tabObj ps')) : Fm base g₀ L m vol (some (tabObj ps')) g' h' where
  ns := F.ns.at' fun o e' => x.stay _ _ e' (Ne.symm F.ltab)
  keep := fun b o e' hb => x.stay _ _ (F.keep b o e' hb) hb
  lo := F.lo
  tlt := F.tlt
  tab := e
  vv := fun q hq => let ⟨a, b, c, d⟩ := F.vv q hq; ⟨x.stay _ _ a (Nat.ne_of_gt (Nat.lt_of_lt_of_le F.tlt b)), b, c, x.grow.new _ (by rw [a]; exact Option.some_ne_none _) d⟩
  nd := F.nd
  gh := x.sub
  gL := x.grow.new _ (by obtain ⟨o, e'⟩ := F.hL; rw [e']; exact Option.some_ne_none _) F.gL
  gg := ⟨fun b o e => x.grow.sub b o (F.gg.sub b o e), fun a ha e => by
    by_cases hb : a = TAB
    · subst hb; exact x.grow.new _ (by rw [F.tab]; exact tT) F.gT
    · cases q : base.get? a with
      | none => exact absurd q ha
      | some o => exact x.grow.new a (by rw [F.keep a o q hb]; exact Option.some_ne_none _) (F.gg.new a ha e)⟩
  gT := x.grow.new _ (by rw [F.tab]; exact tT) F.gT

theorem Fm.afterG (F : Fm s.heap g₀ L m vol T g h) : AfterG g₀ s g h := ⟨F.keep, F.gg, F.gh⟩

theorem range_getD {xs : List Str} (f : Str → Str) : (List.range xs.length).map (fun j => f (xs.getD j "")) = xs.map f := by
  apply List.ext_getElem
  · simp
  · intro i h1 h2
    have hi : i < xs.length := by simpa using h2
    simp [List.getD_eq_getElem?_getD, hi]

theorem does_from_parts {l : Addr} {vs : List Value} {ws : List Str} {bm : Addr} {ob : Obj} (W : WD w p loose mg mb g) (M : BMod g mainGlobals mg bm ob) (hl : g.IsList l vs.toArray) (hs : StrsAre vs ws) (hall : ∀ x ∈ ws, x ∈ words) (hok : okWs ws = true) (hlen : ws.length ≤ 5) :
    DoesGC prog w (.ref 268) [.ref 274, .ref l] 6 140 g fun g' r => ∃ a, r = .ref a ∧ IsPtr w g' a ws ∧ g.get? a = none := by
  intro A s ps R S Rm G hP hps ret
  (refine' enter W S ?ho ?hcd ?hroom ?hb ?hl ?_ ?h1 ?h2 ?h3 ?h4; (case ho => k_is); (case hcd => k_is); (case hroom => (have := Rm.d; omega)); (case hb => exact BindsTo.of_eq rfl); (case h1 => decide); (case h2 => exact rfl); (case h3 => exact rfl); (case h4 => exact rfl); (case hl => exact rfl))
  intro L h₁ tk F0
  obtain ⟨m0, F, mc, mp⟩ : ∃ m0, Fm s.heap g L m0 [] (s.heap.get? TAB) g h₁ ∧ m0 (Str.ofString "cls") = some (.ref 274) ∧ m0 (Str.ofString "parts") = some (.ref l) := ⟨_, F0, rfl, rfl⟩
  clear F0
  have R1 : ∀ env, Room (A.deeper env) 5 137 := fun env => (Rm.le (dn' := 6) (un' := 140) (by omega) (by omega)).deeper env
  have X1 := (W.keeps F.gh).k
  have hvl : vs.length = ws.length := hs.len_eq
  refine wpAny_execs_cons ?_
  refine lc_assign (cl := []) ?_ rfl rfl (fun _ => rfl) rfl rfl
  refine n_loc F mp ?_
  refine lc_listU F S.tT Rm.h hl (by have := sizeLine_eq; simp; omega) (fun i items _ => StrsAre items ((ws.map esc).take i)) (fun _ _ _ _ x _ => x) .nil ?_ ?_ (by decide) rfl rfl rfl rfl rfl
  · rintro i v items C mc g₂ h₇ tk₇ vol' E' hi hit gg hvol F₇
    have W₂ := W.keeps gg
    have hi1 : vs[i]? = some v := by simpa using hi
    have hi' : i < ws.length := by rw [← hvl]; exact (List.getElem?_eq_some_iff.mp hi1).1
    obtain ⟨t, ht⟩ := hs.at (List.getElem?_eq_getElem hi')
    rw [hi1] at ht
    have hv := Option.some.inj ht
    subst hv
    have hmem : ws[i] ∈ words := hall _ (List.getElem_mem hi')
    refine wpAny_Call_ofName (n_glob W₂ F₇.gh (by k_is) (callWith_K W₂.k (by k_is) (spliced_more ?_)))
    refine wpAny_Call_ofName (n_bi W₂ F₇.gh (by k_is) rfl (PyProof.Rows.callWith_type1 (spliced_more ?_)))
    refine n_loc F₇ upd_same ?_
    refine spliced_none ?_
    refine P.str_of_str ?_
    dsimp only
    refine spliced_none ⟨(W₂.keeps F₇.gh).k, ?_⟩
    refine (does_escape W₂ hmem).use F₇ S.tT ((R1 _).le (by decide) (by decide)) fun r g₃ h₈ tk₈ F₈ g23 ⟨tkr, er⟩ => ?_
    subst er
    refine ⟨_, g₃, h₈, tk₈, rfl, F₈, g23, ?_⟩
    have h2 : (ws.map esc)[i]? = some (esc ws[i]) := by simp [hi']
    rw [take_snoc h2]
    exact hit.append' (.cons _ _ .nil)
  · rintro a items g₂ g₃ h₇ tk₇ hit gg g23 F₇ hla hna hlen'
    have hit' : StrsAre items (ws.map esc) := by
      have h1 : vs.toArray.size = ws.length := by simp [hvl]
      rw [h1, ← List.length_map (f := esc), List.take_length] at hit
      exact hit
    dsimp only
    have W₃ := (W.keeps gg).keeps g23
    have M₃ := (M.keeps gg).keeps g23
    have X₇ := (W₃.keeps F₇.gh).k
    refine wpAny_execs_cons ?_
    refine wpAny_Assign_Name ?_
    refine wpAny_Call_ofName (n_loc F₇ (v := .ref 274) (by rw [upd_ne (by decide)]; exact mc) (callWith_K W₃.k (by k_is) (spliced_more ?_)))
    refine MethodCall_ ?_
    refine wpAny_Constant_str ?_
    refine GM.join (callWith_method1 (spliced_more ?_))
    dsimp only
    have hP7 : h₇.get? TAB = some (tabObj ps) := F₇.tab.trans hP
    have kall : ∀ (h₈ : Heap), (∀ b o, h₇.get? b = some o → h₈.get? b = some o) → (hd.heap_39 w.params).In h₈ := fun _ k => X₇.keeps k
    refine gen_strs (s := { s with heap := h₇, toks := _ }) (c := 267) (f := fun x => "/" ++ x) (xs := ws.map esc) (vs := items) (l := a) (bm := bm) (ob := ob) (mg := mg) (ps := ps) Rm.h rfl (by rfl) (by decide) rfl rfl rfl (by have := Rm.d; show A.depth + 1 < _; omega) rfl (codeHd_of_K (c := 267) (P := 265) X₇ (by kernel_rfl)) hP7 hps rfl (M₃.keeps F₇.gh) (W₃.keeps F₇.gh).t.nolimit (F₇.isList hla) hit' ?_ ?_ ?_ (fun _ => rfl)
    · intro code C' A' E' y hy t u m₂ hn hm
      refine wpAny_BinOp ?_
      refine wpAny_Constant_str ?_
      refine wpAny_Name (wpAny_loadName_local rfl rfl hn hm ?_) (by decide)
      refine SB.add (fun t5 k5 => ?_) (by
        obtain ⟨x, hx, rfl⟩ := List.mem_map.mp hy
        have := sizeLine_eq; have h1 := (word_len (hall _ hx)).2.2.1; have h2 : (Str.ofString "/").length = 1 := rfl; unfold esc at h1 ⊢; rw [h2]; omega)
      exact ⟨⟨_, rfl⟩, u.heap, k5, rfl, fun _ _ e => e⟩
    · intro ag h₈ tk₈ gs ps' hgb hps' k8 hP8 X
      have F₈ : Fm s.heap g L _ [] (some (tabObj ps')) g₃ h₈ := F₇.grown k8 hP8
      dsimp only
      refine spliced_none ?_
      have hlK : L ≤ h₇.objs.size - 1 := by obtain ⟨oL, eL⟩ := F₇.hL; exact Nat.le_sub_one_of_lt (Heap.lt_size eL)
      refine join_rowsK (s := { s with heap := h₈, gens := s.gens.push gs, toks := tk₈ }) F₈.fr (G.push hgb) X hlK (fun j => "/" ++ ((ws.map esc).getD j "")) (fun j v hv => hv) ?_ (fun s' t' F' G' hos hk => ?_) ?_
      · rw [range_getD]
        refine joinOk_of ?_
        have hsum := sum_len (ys := (ws.map esc).map fun x => ("/" : Str) ++ x) (B := 101) (fun y hy => by
          rw [List.map_map] at hy
          obtain ⟨d, hd, rfl⟩ := List.mem_map.mp hy
          have h1 := (word_len (hall d hd)).2.2.1
          have h2 : (Str.ofString "/").length = 1 := rfl
          show (("/" : Str) ++ esc d).length ≤ 101
          rw [size_cat, h2]; omega)
        rw [List.length_map, List.length_map] at hsum
        have h3 : (Str.ofString "").length = 0 := rfl
        rw [List.length_map, List.length_map, h3]
        have hsum' : (List.map (fun x => x.length) (List.map (HAppend.hAppend (Str.ofString "/")) (List.map esc ws))).sum ≤ ws.length * 101 := hsum
        have h4 : ws.length * 101 ≤ 5 * 101 := Nat.mul_le_mul_right _ hlen
        exact Nat.le_trans (Nat.add_le_add_right (Nat.le_trans hsum' h4) _) (by simp)
      · have ktx : (List.range (ws.map esc).length).map (fun j => ("/" : Str) ++ ((ws.map esc).getD j "")) = ws.map fun x => "/" ++ esc x := by rw [range_getD, List.map_map]; rfl
        rw [ktx]
        have k9 : ∀ b o, h₈.get? b = some o → b < h₇.objs.size → s'.heap.get? b = some o := fun b o e hb => hk b o (Nat.le_sub_one_of_lt hb) e
        have F₉ : Fm s.heap g L _ [] (some (tabObj ps')) g₃ s'.heap := F₇.grown (fun b o e hb => k9 b o (k8 b o e hb) (Heap.lt_size e)) (k9 _ _ hP8 (Heap.lt_size hP7))
        have X₉ := (W₃.keeps F₉.gh).k
        refine spliced_none ⟨X₉, ?_⟩
        refine (does_ptr W₃ hall hok hlen).use F₉ (by simp) ((R1 _).le (by omega) (by omega)) fun r g₄ h₄ tk₄ F₄ g34 ⟨ap, hr, hp, hna⟩ => ?_
        subst hr
        refine s_loc F₄ fun h₅ F₅ => ?_
        dsimp only
        refine x_ret ?_
        refine n_loc F₅ (if_pos rfl) ?_
        dsimp only
        exact ret _ g₄ _ ps' hos G' F₅.afterG F₅.tab hps' ⟨ap, rfl, hp, none_back (fun b o e => g23 b o (gg b o e)) hna⟩
      · rw [List.length_map]
        have := sizeLine_eq
        omega
    · refine n_loc F₇ upd_same ?_
      exact ⟨rfl, rfl⟩
end
end Mine
end

/-! ## LL -/
section
set_option maxRecDepth 100000
set_option maxHeartbeats 4000000
open PySem PySem.W PyProof.Rows PySem.Calls
namespace Mine

example (w : World) (h : Heap) (X : (hd.heap_39 w.params).In h) : (hd.heap_39 w.params).In h ∧ PySem.Challenge.rw_bs0014_01 = PySem.Challenge.rw_bs0014_01 := by
  k_fill
  exact ⟨X, rfl⟩

section
variable {prog : Program} {w : World} {p : Program} {loose : List Str} {mg mb : Str → Option Value} {A : Around} {E : Value → Shared → Prop} {s : Shared} {R : Result → Shared → Prop}
  {base g₀ g h h' gh0 : Heap} {L : Addr} {m m' : Str → Option Value} {vol : List (Addr × Obj)} {T : Option Obj} {env : Env}

/-- list(..) of a list -/
theorem list_L {l : Addr} {items : Array Value} {Q : Value → Shared → Prop} (F : Fm base g₀ L m vol T g s.heap) (tT : T ≠ none) (hl : g.IsList l items) (hsz : items.size ≤ sizeLine)
    (h : ∀ g' h' a, Fm base g₀ L m vol T g' h' → g.StaysIn g' → g'.IsList a items → g.get? a = none → Q (.ref a) { s with heap := h' }) :
    wpAny (model prog w) A (call (.type "list") [.ref l]) Q E s := by
  refine list_copyK F.fr F.news (F.isList hl) (fun D c h' F' N' l1 => ?_) hsz
  have n0 : s.heap.get? D = none := by
    cases q : s.heap.get? D with
    | none => rfl
    | some o => exact absurd (l1 (D, o) (allN_mem.mpr ⟨(N' _ (.head _)).2.1, q⟩)) (Nat.lt_irrefl _)
  obtain ⟨g', F₃, gg, eg, en⟩ := F.tellNew tT F'.ns (fun b o e hb => (N' (b, o) (.tail _ (allN_mem.mpr ⟨hb, e⟩))).1) n0 (N' _ (.head _)).1
  exact h g' h' _ F₃ gg ⟨_, eg, rfl, _, rfl⟩ en

theorem looks_cls {M : Model} {h : Heap} {a : Addr} {o : Obj} (e : h.get? a = some o) : Looks M h (typeOf (.ref a)) o.cls := (Looks.ld e).andThen .now
/-- isinstance(.., JsonPointer) -/
theorem isp_str {x : Str} {t : Tok} {Q : Value → Shared → Prop} (X : (hd.heap_39 w.params).In s.heap) (h : ∀ n, Q (.bool false) { s with toks := n }) : wpAny (model prog w) A (call (.builtin "isinstance") [.str x t, .ref 274]) Q E s := by
  (refine' isn_call (K := hd.heap_39 w.params) (P := fun _ => True) X ?k2 ?k3 ?k4 trivial str_cls (h _); (case k2 => (intro M; exact Looks.of_pure rfl)); (case k3 => k_not); (case k4 => intro e; cases e))
theorem isp_list {l : Addr} {items : Array Value} {Q : Value → Shared → Prop} (X : (hd.heap_39 w.params).In s.heap) (hl : s.heap.IsList l items) (h : ∀ n, Q (.bool false) { s with toks := n }) : wpAny (model prog w) A (call (.builtin "isinstance") [.ref l, .ref 274]) Q E s := by
  obtain ⟨o, e1, e2, e3⟩ := hl
  (refine' isn_call (K := hd.heap_39 w.params) (T := "list") (P := fun h => ∃ o, h.get? l = some o ∧ o.cls = .type "list") X ?k2 ?k3 ?k4 ⟨o, e1, e2⟩ list_cls (h _); (case k2 => (intro M; exact e2 ▸ looks_cls e1)); (case k3 => k_not); (case k4 => intro e; cases e))
theorem isp_ptr {a : Addr} {ws : List Str} {Q : Value → Shared → Prop} (X : (hd.heap_39 w.params).In s.heap) (hp : IsPtr w g a ws) (gh : g.StaysIn s.heap) (h : ∀ n, Q (.bool true) { s with toks := n }) : wpAny (model prog w) A (call (.builtin "isinstance") [.ref a, .ref 274]) Q E s := by
  obtain ⟨dx, tk, l, vs, e1, -⟩ := hp.at_
  exact isi_call (K := hd.heap_39 w.params) (t := .ref 274) X (fun M => looks_cls (gh _ _ e1)) (by k_is) (fun e => by cases e) (h _)

/-- self.__class__ of a pointer -/
theorem ptr_class {a : Addr} {ws : List Str} {expr : Bool} {Q : Value → Shared → Prop} (F : Fm base g₀ L m vol T g s.heap) (W : WD w p loose mg mb g) (x : IsPtr w g a ws)
    (h : ∀ n, Q (.ref 274) { s with toks := n }) : wpAny (model prog w) A (getAttr (.ref a) "__class__" expr) Q E s := by
  obtain ⟨dx, tk, l, vs, e1, e2, -, -⟩ := x.at_
  have gh := F.gh
  have X := (W.keeps gh).k
  have I : InstAt s.heap a (instObj 274 dx) 274 (some (ptrD w tk (.ref l))) := ⟨gh _ _ e1, rfl, rfl, gh _ _ e2⟩
  have hg := plainGet_of (K := hd.heap_39 w.params) (C := 274) (name := Str.ofString "__class__") (show plainGet (hd.heap_39 w.params) 274 (Str.ofString "__class__") = true by k_is)
  have hfo : findObj (hd.heap_39 w.params) 274 (some (ptrD w tk (.ref l))) (Str.ofString "__class__") = some (.bind (.builtin "getset_descriptor.__get__") (.builtin "object.__class__")) := by
    kernel_rfl
  exact get_bind X I hg.1 hfo hg.2 (wpAny_call (class_get (s := { s with toks := s.toks + 1 }) (ox := instObj 274 dx) (od := some (ptrD w tk (.ref l))) X I (show mroIn (hd.heap_39 w.params) 274 (.type "object") = some true by k_is) (handed_on rfl (h _))))

theorem cm_fromparts {pl : Sem Bool} {Q : Value × List Value → Shared → Prop} (F : Fm base g₀ L m vol T g s.heap) (X : (hd.heap_39 w.params).In s.heap)
    (h : ∀ q h', Fm base g₀ L m vol T g h' → h'.get? q = some (methodObj (.ref 268) (.ref 274)) → g.get? q = none → q ≠ L → Q (.ref q, []) { s with heap := h', toks := s.toks + 1 }) :
    wpAny (model prog w) A (getMethod (.ref 274) "from_parts" pl) Q E s := by
  refine method_cls X (by k_is) ?_
  refine cls_bind (mc := .type "type") X (by k_is) (by k_is) ?_
  refine wpAny_call ?_
  refine cm_get (s := { s with toks := s.toks + 1 }) (f := .ref 268) X (by k_is) ?_
  refine handed_on rfl ?_
  obtain ⟨oL, eL⟩ := F.hL
  exact h _ _ (F.moreP _) (Heap.get?_push_size _ rfl) (none_back F.gh (none_of_ge (Nat.le_refl _))) (Nat.ne_of_gt (Heap.lt_size eL))
end
end Mine
end

/-! ## LM -/
section
set_option maxRecDepth 100000
set_option maxHeartbeats 4000000
open PySem PySem.W PyProof.Rows PySem.Calls
namespace Mine

example (w : World) (h : Heap) (X : (hd.heap_39 w.params).In h) : (hd.heap_39 w.params).In h ∧ PySem.Challenge.rw_bs0014_01 = PySem.Challenge.rw_bs0014_01 := by
  k_fill
  exact ⟨X, rfl⟩

section
variable {prog : Program} {w : World} {p : Program} {loose : List Str} {mg mb : Str → Option Value} {A : Around} {E : Value → Shared → Prop} {s : Shared} {R : Result → Shared → Prop}
  {base g₀ g h h' gh0 : Heap} {L : Addr} {m m' : Str → Option Value} {vol : List (Addr × Obj)} {T : Option Obj} {env : Env}

theorem cm_fromV {pl : Sem Bool} {Q : Value × List Value → Shared → Prop} (F : Fm base g₀ L m vol T g s.heap) (X : (hd.heap_39 w.params).In s.heap)
    (h : ∀ q h', Fm base g₀ L m ((q, methodObj (.ref 268) (.ref 274)) :: vol) T g h' → Q (.ref q, []) { s with heap := h', toks := s.toks + 1 }) :
    wpAny (model prog w) A (getMethod (.ref 274) "from_parts" pl) Q E s := by
  refine method_cls X (by k_is) ?_
  refine cls_bind (mc := .type "type") X (by k_is) (by k_is) ?_
  refine wpAny_call ?_
  refine cm_get (s := { s with toks := s.toks + 1 }) (f := .ref 268) X (by k_is) ?_
  refine handed_on rfl ?_
  exact h _ _ (F.pushVol _)

theorem DoesG.use {f : Value} {args : List Value} {dn un : Nat} {ps : Array Value} {Post : Heap → Value → Prop} {Q : Value → Shared → Prop} (D : DoesG prog w f args dn un g Post)
    (F : Fm base g₀ L m vol T g s.heap) (hT : T = some (tabObj ps)) (hps : TabIs gpos ps) (G : AllBare s.gens) (R : Room A dn un)
    (h : ∀ r g' (s' : Shared) ps', s'.os = s.os → AllBare s'.gens → Fm base g₀ L m vol (some (tabObj ps')) g' s'.heap → TabIs gpos ps' → g.StaysIn g' → Post g' r → Q r s') : wpAny (model prog w) A (call f args) Q E s := by
  subst hT
  exact D A s ps Q E (F.st (by simp)) R G F.tab hps fun r g' s' ps' ho hb x e hps' hpost => h r g' s' ps' ho hb (F.calledG (by simp) x e) hps' x.grow.sub hpost

theorem DoesGC.use {f : Value} {args : List Value} {dn un : Nat} {ps : Array Value} {Post : Heap → Value → Prop} (D : DoesGC prog w f args dn un g Post)
    (F : Fm base g₀ L m vol T g s.heap) (hT : T = some (tabObj ps)) (hps : TabIs gpos ps) (G : AllBare s.gens) (Rm : Room A dn un)
    (h : ∀ r g' (s' : Shared) ps', s'.os = s.os → AllBare s'.gens → Fm base g₀ L m vol (some (tabObj ps')) g' s'.heap → TabIs gpos ps' → g.StaysIn g' → Post g' r → R (.ok (.ret r)) s') : codeAny (model prog w) A (.call f ⟨args, []⟩) R s := by
  subst hT
  exact D A s ps R (F.st (by simp)) Rm G F.tab hps fun r g' s' ps' ho hb x e hps' hpost => h r g' s' ps' ho hb (F.calledG (by simp) x e) hps' x.grow.sub hpost

/-- what join takes -/
inductive Tail (w : World) (g : Heap) : Value → List Str → Prop
  | ptr {b ws} : IsPtr w g b ws → Tail w g (.ref b) ws
  | text {ws} (t) : okWs ws = true → Tail w g (.str (textOf ws) t) ws
  | list {l vs ws} : g.IsList l (vs : List Value).toArray → StrsAre vs ws → Tail w g (.ref l) ws

theorem does_join {a bm : Addr} {ob : Obj} {v : Value} {xs ws : List Str} (W : WD w p loose mg mb g) (M : BMod g mainGlobals mg bm ob) (hp : IsPtr w g a xs) (hv : Tail w g v ws) (hall : ∀ x ∈ xs ++ ws, x ∈ words) (hok : okWs (xs ++ ws) = true) (hlen : (xs ++ ws).length ≤ 5) :
    DoesG prog w (.ref 222) [.ref a, v] 7 150 g fun g' r => ∃ b, r = .ref b ∧ IsPtr w g' b (xs ++ ws) ∧ g.get? b = none := by
  intro A s ps Q E S Rm G hP hps ret
  refine wpAny_call ?_
  (refine' enter W S ?ho ?hcd ?hroom ?hb ?hl ?_ ?h1 ?h2 ?h3 ?h4; (case ho => k_is); (case hcd => k_is); (case hroom => (have := Rm.d; omega)); (case hb => exact BindsTo.of_eq rfl); (case h1 => decide); (case h2 => exact rfl); (case h3 => exact rfl); (case h4 => exact rfl); (case hl => exact rfl))
  intro L h₁ tk F0
  obtain ⟨m0, F, ms, mv⟩ : ∃ m0, Fm s.heap g L m0 [] (s.heap.get? TAB) g h₁ ∧ m0 (Str.ofString "self") = some (.ref a) ∧ m0 (Str.ofString "suffix") = some v := ⟨_, F0, rfl, rfl⟩
  clear F0
  dsimp only
  have R1 : ∀ env, Room (A.deeper env) 6 147 := fun env => (Rm.le (dn' := 7) (un' := 150) (by omega) (by omega)).deeper env
  have X1 := (W.keeps F.gh).k
  simp only [List.length_append] at hlen
  refine wpAny_execs_cons ?_
  refine wpAny_mono (Q := fun f' s' => f' = Flow.next ∧ ∃ l vs g₂ h₂ m₂ tk₂, s' = ({ s with heap := h₂, toks := tk₂ } : Shared) ∧ Fm s.heap g L m₂ [] (s.heap.get? TAB) g₂ h₂ ∧ g.StaysIn g₂ ∧ m₂ (Str.ofString "self") = some (.ref a) ∧ m₂ (Str.ofString "suffix_parts") = some (.ref l) ∧
    g₂.IsList l (vs : List Value).toArray ∧ StrsAre vs ws) ?_ (fun f' s' q => ?_) fun _ _ z => z
  · refine wpAny_If ?_
    refine isTrue_plain ?_
    refine wpAny_Call_ofName (n_bi W F.gh (by k_is) rfl (PyProof.Rows.callWith_builtin1 (spliced_more ?_)))
    refine n_loc F mv ?_
    refine spliced_more ?_
    refine n_glob W F.gh (by k_is) ?_
    refine spliced_none ?_
    cases hv with
    | ptr hb =>
      refine isp_ptr X1 hb F.gh fun n => ?_
      refine wpAny_truthy_bool ?_
      rw [if_pos rfl]
      refine wpAny_execs_cons ?_
      refine wpAny_Assign_Name ?_
      refine PyProof.Rows.Attribute_name ?_
      refine n_loc F mv ?_
      refine ptr_parts hb F.gh X1 fun l vs hl1 hs1 => ?_
      refine s_loc F fun h₃ F₃ => ?_
      dsimp only
      refine wpAny_execs_nil ⟨rfl, l, vs, g, h₃, _, _, rfl, F₃, fun _ _ z => z, by rw [if_neg (by decide)]; exact ms, if_pos rfl, hl1, hs1⟩
    | text t ht =>
      refine isp_str X1 fun n => ?_
      refine wpAny_truthy_bool ?_
      rw [if_neg (by decide)]
      refine wpAny_execs_cons ?_
      refine wpAny_If ?_
      refine isTrue_plain ?_
      refine wpAny_Call_ofName (n_bi W F.gh (by k_is) rfl (PyProof.Rows.callWith_builtin1 (spliced_more ?_)))
      refine n_loc F mv ?_
      refine spliced_more ?_
      refine n_bi W F.gh (by k_is) rfl ?_
      refine spliced_none ?_
      refine IsiPair.str_str ?_
      refine wpAny_truthy_bool ?_
      rw [if_pos rfl]
      refine wpAny_execs_cons ?_
      refine wpAny_Assign_Name ?_
      refine Attribute_any_ ?_
      refine wpAny_Call_ofName (n_glob W F.gh (by k_is) (callWith_K W.k (by k_is) (spliced_more ?_)))
      refine n_loc F mv ?_
      refine spliced_none ⟨X1, ?_⟩
      refine (does_ptr W (fun x hx => hall x (List.mem_append.mpr (.inr hx))) ht (by omega)).use F S.tT ((R1 _).le (by omega) (by omega)) fun r g₂ h₂ tk₂ F₂ g12 ⟨b, hr, hb, hnb⟩ => ?_
      subst hr
      dsimp only
      refine ptr_parts hb F₂.gh ((W.keeps g12).keeps F₂.gh).k fun l vs hl1 hs1 => ?_
      refine s_loc F₂ fun h₃ F₃ => ?_
      dsimp only
      refine wpAny_execs_nil ?_
      dsimp only
      refine wpAny_execs_nil ⟨rfl, l, vs, g₂, h₃, _, _, rfl, F₃, g12, by rw [if_neg (by decide)]; exact ms, if_pos rfl, hl1, hs1⟩
    | @list l vs _ hl1 hs1 =>
      refine isp_list X1 (F.isList hl1) fun n => ?_
      refine wpAny_truthy_bool ?_
      rw [if_neg (by decide)]
      refine wpAny_execs_cons ?_
      refine wpAny_If ?_
      refine isTrue_plain ?_
      refine wpAny_Call_ofName (n_bi W F.gh (by k_is) rfl (PyProof.Rows.callWith_builtin1 (spliced_more ?_)))
      refine n_loc F mv ?_
      refine spliced_more ?_
      refine n_bi W F.gh (by k_is) rfl ?_
      refine spliced_none ?_
      obtain ⟨o, eo, co, ro⟩ := F.isList hl1
      refine IsiPair.list_str eo co ?_
      refine wpAny_truthy_bool ?_
      rw [if_neg (by decide)]
      refine wpAny_execs_cons ?_
      refine wpAny_Assign_Name ?_
      refine n_loc F mv ?_
      refine s_loc F fun h₃ F₃ => ?_
      dsimp only
      refine wpAny_execs_nil ?_
      dsimp only
      refine wpAny_execs_nil ⟨rfl, l, vs, g, h₃, _, _, rfl, F₃, fun _ _ z => z, by rw [if_neg (by decide)]; exact ms, if_pos rfl, hl1, hs1⟩
  obtain ⟨rfl, l, vs, g₂, h₂, m₂, tk₂, rfl, F₂, g12, ms2, mp2, hl2, hs2⟩ := q
  dsimp only
  have W₂ := W.keeps g12
  have X2 := (W₂.keeps F₂.gh).k
  refine wpAny_execs_cons ?_
  refine wpAny_Try_except ?_
  refine x_ret ?_
  refine MethodCall_ ?_
  refine PyProof.Rows.Attribute_name ?_
  refine n_loc F₂ ms2 ?_
  refine ptr_class F₂ W₂ (hp.keeps g12) fun n => ?_
  refine cm_fromV F₂ X2 fun q h₃ F₃ => ?_
  dsimp only
  have hq3 := F₃.vv _ (.head _)
  refine callWith_M (K := hd.heap_39 w.params) (h₀ := g₂) (L := L) (news := [(q, methodObj (.ref 268) (.ref 274))]) W₂.k (fun z hz => by rcases List.mem_cons.mp hz with rfl | hz; exact ⟨hq3.1, hq3.2.2.1, hq3.2.2.2⟩; cases hz) (.head _) (by k_is) (spliced_more ?_)
  refine wpAny_BinOp ?_
  refine wpAny_Call_ofName (n_bi W₂ F₃.gh (by k_is) rfl (PyProof.Rows.callWith_type1 (spliced_more ?_)))
  refine PyProof.Rows.Attribute_name ?_
  refine n_loc F₃ ms2 ?_
  refine ptr_parts (hp.keeps g12) F₃.gh (W₂.keeps F₃.gh).k fun l3 vs3 hl3 hs3 => ?_
  have z3 : vs3.length = xs.length := hs3.len_eq
  have z2 : vs.length = ws.length := hs2.len_eq
  refine spliced_none ?_
  refine list_L F₃ S.tT hl3 (by have := sizeLine_eq; simp; omega) fun g₄ h₄ a4 F₄ g24 hl4 hn4 => ?_
  dsimp only
  have W₄ := W₂.keeps g24
  refine wpAny_Call_ofName (n_bi W₄ F₄.gh (by k_is) rfl (PyProof.Rows.callWith_type1 (spliced_more ?_)))
  refine n_loc F₄ mp2 ?_
  refine spliced_none ?_
  refine list_L F₄ S.tT (isList_keeps g24 hl2) (by have := sizeLine_eq; simp; omega) fun g₅ h₅ a5 F₅ g45 hl5 hn5 => ?_
  dsimp only
  refine add_L F₅ S.tT (isList_keeps g45 hl4) hl5 (by have := sizeLine_eq; omega) fun g₆ h₆ a6 F₆ g56 hl6 hn6 => ?_
  have W₆ := (W₄.keeps g45).keeps g56
  have g16 : g.StaysIn g₆ := fun b o z => g56 b o (g45 b o (g24 b o (g12 b o z)))
  have hq6 := F₆.vv _ (.head _)
  refine spliced_none ⟨⟨hq6.1, (W₆.keeps F₆.gh).k⟩, ?_⟩
  refine wpAny_call (method_call hq6.1 ?_)
  refine (does_from_parts W₆ (M.keeps g16) hl6 (StrsAre.append' hs3 hs2) hall hok (by simp; omega)).use (s := { s with heap := h₆, toks := _ }) F₆ hP hps G ((R1 _).le (by omega) (by omega)) fun r g₇ s' ps' hos hb F₇ hps' g67 ⟨b, hr, hpb, hnb⟩ => ?_
  dsimp only
  subst hr
  exact ret _ g₇ s' ps' hos hb F₇.afterG F₇.tab hps' ⟨b, rfl, hpb, none_back g16 hnb⟩
end
end Mine
end

/-! ## LN -/
section
set_option maxRecDepth 100000
set_option maxHeartbeats 4000000
open PySem PySem.W PyProof.Rows PySem.Calls
namespace Mine

example (w : World) (h : Heap) (X : (hd.heap_39 w.params).In h) : (hd.heap_39 w.params).In h ∧ PySem.Challenge.rw_bs0014_01 = PySem.Challenge.rw_bs0014_01 := by
  k_fill
  exact ⟨X, rfl⟩

section
variable {prog : Program} {w : World} {p : Program} {loose : List Str} {mg mb : Str → Option Value} {A : Around} {E : Value → Shared → Prop} {s : Shared} {R : Result → Shared → Prop}
  {base g₀ g h h' gh0 : Heap} {L : Addr} {m m' : Str → Option Value} {vol : List (Addr × Obj)} {T : Option Obj} {env : Env}

theorem jrs_strs {vs : List Value} {xs : List Str} (h : StrsAre vs xs) : JRs prog w g vs (xs.map .str) [] := by
  induction h with
  | nil => exact .nil
  | cons y t _ ih => exact .cons (as := []) (.str y t) ih

theorem does_eq {a b : Addr} {xs : List Str} (W : WD w p loose mg mb g) (ha : IsPtr w g a xs) (hb : IsPtr w g b xs) (hall : ∀ x ∈ xs, x ∈ words) :
    Does prog w (.ref 242) [.ref a, .ref b] 1 100 g fun _ r => r = .bool true := by
  intro A s Q E S Rm ret
  refine wpAny_call ?_
  (refine' enter W S ?ho ?hcd ?hroom ?hb ?hl ?_ ?h1 ?h2 ?h3 ?h4; (case ho => k_is); (case hcd => k_is); (case hroom => (have := Rm.d; omega)); (case hb => exact BindsTo.of_eq rfl); (case h1 => decide); (case h2 => exact rfl); (case h3 => exact rfl); (case h4 => exact rfl); (case hl => exact rfl))
  intro L h₁ tk F0
  obtain ⟨m0, F, ms, mo⟩ : ∃ m0, Fm s.heap g L m0 [] (s.heap.get? TAB) g h₁ ∧ m0 (Str.ofString "self") = some (.ref a) ∧ m0 (Str.ofString "other") = some (.ref b) := ⟨_, F0, rfl, rfl⟩
  clear F0
  dsimp only
  have X1 := (W.keeps F.gh).k
  refine wpAny_execs_cons ?_
  refine wpAny_If ?_
  refine isTrue_not ?_
  refine isTrue_plain ?_
  refine wpAny_Call_ofName (n_bi W F.gh (by k_is) rfl (PyProof.Rows.callWith_builtin1 (spliced_more ?_)))
  refine n_loc F mo ?_
  refine spliced_more ?_
  refine n_glob W F.gh (by k_is) ?_
  refine spliced_none ?_
  refine isp_ptr X1 hb F.gh fun n => ?_
  refine wpAny_truthy_bool ?_
  rw [show (!true) = false from rfl, if_neg (by decide)]
  refine wpAny_execs_nil ?_
  dsimp only
  refine x_ret ?_
  refine wpAny_Compare1 ?_
  refine PyProof.Rows.Attribute_name ?_
  refine n_loc F ms ?_
  refine ptr_parts ha F.gh X1 fun l vs hl hs => ?_
  refine PyProof.Rows.Attribute_name ?_
  refine n_loc F mo ?_
  refine ptr_parts hb F.gh X1 fun l2 vs2 hl2 hs2 => ?_
  have ht : (xs.map PyData.str).all tokOk = true := by
    rw [List.all_eq_true]
    intro d hd
    obtain ⟨x, hx, rfl⟩ := List.mem_map.mp hd
    simpa [tokOk] using hall x hx
  refine eq_ways (JR.list hl (jrs_strs hs)) (JR.list hl2 (jrs_strs hs2)) F.gh ht ht (by have := Rm.u; show A.units + 3 + 64 < _; omega) fun r hr => ?_
  have hr' : r = true := hr.mpr rfl
  subst hr'
  exact ret _ g h₁ _ F.after rfl

theorem ns_val {K : Frag} {N : Addr} {mg : Str → Option Value} {n : Str} {v : Value} (X : K.In h) (G : h.Ns N mg) (e : nsIn K N n = some (some v)) : mg n = some v := by
  obtain ⟨o, es, ep, ho, hd, _, hf⟩ := G
  unfold nsIn at e
  split at e
  · rename_i c d es' n' sl q
    have := X _ _ q
    rw [ho] at this
    cases this
    cases hd
    split at e
    · rename_i en he
      cases e
      rw [← hf]
      unfold nsFind findBy
      rw [← Array.find?_toList, he]
      rfl
    · split at e <;> cases e
  · cases e

def ptrCls (K : Frag) : Bool := match K.lookup 274 with
  | some ⟨.type "type", _, .cls cd, sl⟩ => (match cd.mro, sl.toList with
    | [.ref C', .type "object"], [_, _, _, _, some (.builtin _), _] => C' == 274 && !cd.hasDel && nsOkIn K cd.ns && nsIn K cd.ns "__ne__" == some none && nsIn K cd.ns "__eq__" == some (some (.ref 242))
    | _, _ => false)
  | _ => false
def fnObj (K : Frag) (f : Addr) : Bool := match K.lookup f with
  | some ⟨.type "function", _, _, _⟩ => true
  | _ => false
theorem own_eqK {K : Frag} {a dx : Addr} (X : K.In h) (e1 : h.get? a = some (instObj 274 dx)) (q : ptrCls K = true) (qf : fnObj K 242 = true) : h.OwnEqNoNe a 274 242 "object" [.type "object"] := by
  obtain ⟨of, hof, hfc⟩ : ∃ of, h.get? 242 = some of ∧ of.cls = .type "function" := by
    unfold fnObj at qf
    split at qf
    · rename_i ho
      exact ⟨_, X _ _ ho, rfl⟩
    · cases qf
  unfold ptrCls at q
  split at q
  · rename_i dd cd sl ho
    split at q
    · rename_i C' k0 k1 k2 k3 n k5 hm hs
      simp only [Bool.and_eq_true, beq_iff_eq, Bool.not_eq_true'] at q
      obtain ⟨⟨⟨⟨rfl, hdel⟩, hok⟩, hni⟩, he⟩ := q
      obtain ⟨nm, bs, mro, ns, qn, hd, sn, sub, ab, col, del⟩ := cd
      dsimp only at hm hdel hok hni he
      subst hm hdel
      have hsl : sl = #[k0, k1, k2, k3, some (.builtin n), k5] := by
        obtain ⟨l⟩ := sl
        simp only at hs
        rw [hs]
      subst hsl
      have hN : h.Ns ns (h.nsMap ns) := .of_isNs (isNs_of_in X hok)
      exact ⟨_, of, nm, qn, ns, bs, hd, sn, sub, ab, col, dd, k0, k1, k2, k3, k5, n, h.nsMap ns, some (.builtin "object.__eq__"), e1, rfl, X _ _ ho, hN, ns_val X hN he, hof, hfc, PySem.F.cmp_object.mro, by rw [typeLookup_type, builtinLookup_eq_fast]; kernel_rfl, nsMap_none_of_in X hok hni⟩
    · cases q
  · cases q
theorem own_eq {a : Addr} {xs : List Str} (W : WD w p loose mg mb g) (ha : IsPtr w g a xs) (gh : g.StaysIn h) : h.OwnEqNoNe a 274 242 "object" [.type "object"] := by
  obtain ⟨dx, tk, l, vs, e1, -⟩ := ha.at_
  exact own_eqK (W.keeps gh).k (gh _ _ e1) (show ptrCls (hd.heap_39 w.params) = true by kernel_rfl) (show fnObj (hd.heap_39 w.params) 242 = true by kernel_rfl)

/-- a != b of two pointers of the same words -/
theorem ne_ptr {a b : Addr} {xs : List Str} {Q : Value → Shared → Prop} (W : WD w p loose mg mb g) (F : Fm base g₀ L m vol T g s.heap) (tT : T ≠ none) (Rm : Room A 2 110) (ha : IsPtr w g a xs) (hb : IsPtr w g b xs) (hall : ∀ x ∈ xs, x ∈ words)
    (h : ∀ g' h' tk, Fm base g₀ L m vol T g' h' → g.StaysIn g' → Q (.bool false) { s with heap := h', toks := tk }) : wpAny (model prog w) A (compareOp .NotEq (.ref a) (.ref b)) Q E s := by
  obtain ⟨hh, gns, dr, tks, os⟩ := s
  obtain ⟨dx, tk, l, vs, e1, -⟩ := id hb.at_
  refine compareOp_ne_ownEq PySem.F.cmp_object (own_eq W ha F.gh) (F.gh _ _ e1) rfl (by have := Rm.u; omega) ?_
  refine (does_eq W ha hb hall).use (s := ⟨hh, gns, dr, tks, os⟩) F tT ⟨by have := Rm.d; show A.depth + 1 < _; omega, by have := Rm.u; show A.units + 1 + 100 < _; omega, Rm.h⟩ fun r g' h' tk' F' gg hr => ?_
  exact ⟨true, hr, h g' h' tk' F' gg⟩
end
end Mine
end

/-! ## LX -/
section
set_option maxRecDepth 100000
set_option maxHeartbeats 4000000
open PySem PySem.W PyProof.Rows PySem.Calls
namespace Mine

/-! ### the search for a lone tilde fails on each text whose tildes stand ahead of 0 or 1: the machine's run told once -/
namespace Esc

theorem run_done {m : Sre.M} (h : m.outcome.isSome = true) : ∀ k, Sre.M.runFor k m = m
  | 0 => rfl
  | k + 1 => by rw [Sre.M.runFor, if_pos h]
theorem run_add {m : Sre.M} : ∀ (a b : Nat), Sre.M.runFor (a + b) m = Sre.M.runFor b (Sre.M.runFor a m) := by
  intro a
  induction a generalizing m with
  | zero => intro b; rw [Nat.zero_add]; rfl
  | succ a ih =>
    intro b
    by_cases h : m.outcome.isSome = true
    · rw [run_done h, run_done h, run_done h]
    · rw [show a + 1 + b = (a + b) + 1 by omega, Sre.M.runFor, if_neg h, ih, Sre.M.runFor, if_neg h]
theorem run_past {m : Sre.M} {a b : Nat} (hab : a ≤ b) {o : Sre.Outcome} (h : (Sre.M.runFor a m).outcome = some o) : Sre.M.runFor b m = Sre.M.runFor a m := by
  obtain ⟨j, e⟩ : ∃ j, b = a + j := ⟨b - a, by omega⟩
  rw [e, run_add, run_done (by rw [h]; rfl)]
theorem drv_failed : ∀ (n k : Nat) (m : Sre.M), k ≤ 4 * n + 4 → (Sre.M.runFor k m).outcome = some .failed → failed (drv (n + 1) m) = true := by
  intro n
  induction n with
  | zero =>
    intro k m hk h
    have hd : drv 1 m = if (Sre.M.runFor 4 m).outcome.isSome then some (Sre.M.runFor 4 m) else drv 0 (Sre.M.runFor 4 m) := rfl
    have h4 : (Sre.M.runFor 4 m).outcome = some .failed := by rw [run_past (by omega) h, h]
    rw [hd, if_pos (by rw [h4]; rfl)]
    simp only [failed, h4]
  | succ n ih =>
    intro k m hk h
    have hd : drv (n + 1 + 1) m = if (Sre.M.runFor 4 m).outcome.isSome then some (Sre.M.runFor 4 m) else drv (n + 1) (Sre.M.runFor 4 m) := rfl
    rw [hd]
    by_cases h4 : (Sre.M.runFor 4 m).outcome.isSome = true
    · rw [if_pos h4]
      have : (Sre.M.runFor 4 m).outcome = some .failed := by
        by_cases hk4 : k ≤ 4
        · rw [run_past hk4 h, h]
        · rw [show k = 4 + (k - 4) by omega, run_add, run_done h4] at h; exact h
      simp only [failed, this]
    · rw [if_neg h4]
      by_cases hk4 : k ≤ 4
      · rw [run_past hk4 h, h] at h4; exact absurd rfl h4
      · rw [show k = 4 + (k - 4) by omega, run_add] at h
        exact ih (k - 4) _ (by omega) h

section
variable {m : Sre.M} {b : Bool} {σ : Sre.Seen}
theorem exec_lit (hop : Sre.ops[m.word 0]? = some .LITERAL) (hl : ¬ m.pos ≥ m.lim) (ha : Sre.accepts m.code m.pc (m.text.getD m.pos 0) (m.seen.add (m.word 0)) = .ok (b, σ)) :
    m.exec = if b then { m with seen := σ, pc := m.pc + Sre.itemWidth m.code m.pc, pos := m.pos + 1 } else { m with seen := σ, answer := some false } := by
  unfold Sre.M.exec
  rw [hop]
  dsimp only
  rw [if_neg hl, ha]
  cases b <;> rfl
theorem exec_lit_end (hop : Sre.ops[m.word 0]? = some .LITERAL) (hl : m.pos ≥ m.lim) : m.exec = { m with seen := m.seen.add (m.word 0), answer := some false } := by
  unfold Sre.M.exec
  rw [hop]
  dsimp only
  rw [if_pos hl]; rfl
theorem exec_in (hop : Sre.ops[m.word 0]? = some .IN) (hl : ¬ m.pos ≥ m.lim) (ha : Sre.accepts m.code m.pc (m.text.getD m.pos 0) (m.seen.add (m.word 0)) = .ok (false, σ)) :
    m.exec = { m with seen := σ, answer := some false } := by
  unfold Sre.M.exec
  rw [hop]
  dsimp only
  rw [if_neg hl, ha]
  rfl
theorem exec_at (hop : Sre.ops[m.word 0]? = some .AT) (ha : ({ m with seen := m.seen.add (m.word 0) } : Sre.M).isAt (m.word 1) = .ok false) :
    m.exec = { m with seen := (m.seen.add (m.word 0)).add (43 + m.word 1), answer := some false } := by
  unfold Sre.M.exec
  rw [hop]
  dsimp only
  erw [ha]
  rfl
end

/-- the machine as it begins at the place `s` of the text -/
def S (text : Array Nat) (lim s : Nat) (first : Bool) (mk : Array (Option Nat)) (σ : Sre.Seen) : Sre.M :=
  { code := codeEsc, text, lim, start := s, lastStart := lim, pc := 9, pos := s, handed := s, outermost := first, marks := mk,
    frames := [{ wait := .nextStart, pc := 9, pos := s, outermost := first }], weight := 1, seen := σ }
/-- and behind the mark -/
def S1 (text : Array Nat) (lim s : Nat) (first : Bool) (mk : Array (Option Nat)) (σ : Sre.Seen) : Sre.M :=
  { S text lim s first mk σ with pc := 11, lastmark := 0 }

variable {text : Array Nat} {lim s : Nat} {first : Bool} {mk : Array (Option Nat)} {σ : Sre.Seen}
theorem st_mark : Sre.M.step (S text lim s first mk σ) = S1 text lim s first (mk.setIfInBounds 0 (some s)) (σ.add 17) := rfl

/-- no tilde stands at the place -/
def No (text : Array Nat) (lim s : Nat) (first : Bool) (mk : Array (Option Nat)) (σ : Sre.Seen) : Sre.M :=
  { S1 text lim s first mk σ with answer := some false }
theorem st_lit_no (hs : s < lim) (hc : text.getD s 0 ≠ 126) : Sre.M.step (S1 text lim s first mk σ) = No text lim s first mk (σ.add 16) := by
  show Sre.M.exec (S1 text lim s first mk σ) = _
  rw [exec_lit (b := false) (σ := σ.add 16) rfl (by show ¬ s ≥ lim; omega) ?_]
  · rfl
  · show Except.ok (text.getD s 0 == 126, σ.add 16) = _
    rw [beq_false_of_ne hc]
theorem st_lit_end : Sre.M.step (S1 text lim lim first mk σ) = No text lim lim first mk (σ.add 16) := by
  show Sre.M.exec (S1 text lim lim first mk σ) = _
  rw [exec_lit_end rfl (Nat.le_refl lim)]
  rfl
theorem st_next (hs : s < lim) : Sre.M.step (No text lim s first mk σ) = S text lim (s + 1) false mk σ := by
  show (if s < lim then _ else _) = _
  rw [if_pos hs]
  rfl
theorem st_last : (Sre.M.runFor 2 (No text lim lim first mk σ)).outcome = some .failed := by
  have : Sre.M.step (No text lim lim first mk σ) = { No text lim lim first mk σ with frames := [], weight := 0, pc := 9, lastmark := 0, answer := some false } := by
    show (if lim < lim then _ else _) = _
    rw [if_neg (Nat.lt_irrefl _)]
    rfl
  show (Sre.M.runFor 1 (Sre.M.step (No text lim lim first mk σ))).outcome = _
  rw [this]
  rfl

/-- a tilde stands at the place: behind it -/
def T2 (text : Array Nat) (lim s : Nat) (first : Bool) (mk : Array (Option Nat)) (σ : Sre.Seen) : Sre.M :=
  { S1 text lim s first mk σ with pc := 13, pos := s + 1 }
def br (s : Nat) (first : Bool) (i : Nat) : Sre.Frame := { wait := .nextBranch, pc := i, pos := s + 1, outermost := first, kept := { lastmark := 0, lastindex := -1 } }
/-- within one of the ways of the branch -/
def T3 (text : Array Nat) (lim s : Nat) (first : Bool) (mk : Array (Option Nat)) (σ : Sre.Seen) (i : Nat) : Sre.M :=
  { S1 text lim s first mk σ with pc := i + 1, pos := s + 1, handed := s + 1, frames := [br s first i, { wait := .nextStart, pc := 9, pos := s, outermost := first }], weight := 2 }
def T3no (text : Array Nat) (lim s : Nat) (first : Bool) (mk : Array (Option Nat)) (σ : Sre.Seen) (i : Nat) : Sre.M :=
  { T3 text lim s first mk σ i with answer := some false }
def T4 (text : Array Nat) (lim s : Nat) (first : Bool) (mk : Array (Option Nat)) (σ : Sre.Seen) : Sre.M :=
  { T3 text lim s first mk σ 24 with pc := 24, frames := [{ wait := .nextStart, pc := 9, pos := s, outermost := first }], weight := 1, answer := some false }
theorem st_lit_yes (hs : s < lim) (hc : text.getD s 0 = 126) : Sre.M.step (S1 text lim s first mk σ) = T2 text lim s first mk (σ.add 16) := by
  show Sre.M.exec (S1 text lim s first mk σ) = _
  rw [exec_lit (b := true) (σ := σ.add 16) rfl (by show ¬ s ≥ lim; omega) ?_]
  · rfl
  · show Except.ok (text.getD s 0 == 126, σ.add 16) = _
    rw [hc]; rfl
theorem st_branch : Sre.M.step (T2 text lim s first mk σ) = T3 text lim s first mk (σ.add 7) 14 := rfl
theorem in_set (c : Nat) (hc : c = 48 ∨ c = 49) (σ : Sre.Seen) : ∃ σ', Sre.accepts codeEsc 15 c σ = .ok (false, σ') := by
  rcases hc with rfl | rfl <;> exact ⟨_, rfl⟩
theorem st_in (hs : s + 1 < lim) (hc : text.getD (s + 1) 0 = 48 ∨ text.getD (s + 1) 0 = 49) :
    ∃ σ', Sre.M.step (T3 text lim s first mk σ 14) = T3no text lim s first mk σ' 14 := by
  obtain ⟨σ', h⟩ := in_set _ hc (σ.add 13)
  refine ⟨σ', ?_⟩
  show Sre.M.exec (T3 text lim s first mk σ 14) = _
  rw [exec_in (σ := σ') rfl (by show ¬ s + 1 ≥ lim; omega) h]
  rfl
theorem st_second : Sre.M.step (T3no text lim s first mk σ 14) = T3 text lim s first mk σ 24 := rfl
theorem st_at (hs : s + 1 < lim) (hc : text.getD (s + 1) 0 = 48 ∨ text.getD (s + 1) 0 = 49) :
    ∃ σ', Sre.M.step (T3 text lim s first mk σ 24) = T3no text lim s first mk σ' 24 := by
  refine ⟨(σ.add 6).add (43 + 5), ?_⟩
  show Sre.M.exec (T3 text lim s first mk σ 24) = _
  rw [exec_at rfl ?_]
  · rfl
  · show Except.ok (s + 1 == lim || (s + 1 + 1 == lim && text.getD (s + 1) 0 == 10)) = _
    rw [beq_false_of_ne (by omega), beq_false_of_ne (a := text.getD (s + 1) 0) (by omega), Bool.and_false, Bool.or_false]
theorem st_third : Sre.M.step (T3no text lim s first mk σ 24) = (T4 text lim s first mk σ) := rfl
theorem st_over (hs : s < lim) : Sre.M.step (T4 text lim s first mk σ) = S text lim (s + 1) false mk σ := by
  show (if s < lim then _ else _) = _
  rw [if_pos hs]
  rfl

theorem run_one {m : Sre.M} (h : m.outcome = none) (k : Nat) : Sre.M.runFor (k + 1) m = Sre.M.runFor k m.step := by rw [Sre.M.runFor, if_neg (by rw [h]; exact Bool.false_ne_true)]
/-- one place's turn -/
theorem turn (hs : s < lim) (hc : text.getD s 0 = 126 → s + 1 < lim ∧ (text.getD (s + 1) 0 = 48 ∨ text.getD (s + 1) 0 = 49)) :
    ∃ k mk' σ', k ≤ 8 ∧ Sre.M.runFor k (S text lim s first mk σ) = S text lim (s + 1) false mk' σ' := by
  by_cases h : text.getD s 0 = 126
  · obtain ⟨h1, h2⟩ := hc h
    obtain ⟨σ1, e1⟩ := st_in (text := text) (lim := lim) (s := s) (first := first) (mk := mk.setIfInBounds 0 (some s)) (σ := ((σ.add 17).add 16).add 7) h1 h2
    obtain ⟨σ2, e2⟩ := st_at (text := text) (lim := lim) (s := s) (first := first) (mk := mk.setIfInBounds 0 (some s)) (σ := σ1) h1 h2
    refine ⟨8, mk.setIfInBounds 0 (some s), σ2, by omega, ?_⟩
    rw [run_one rfl, st_mark, run_one rfl, st_lit_yes hs h, run_one rfl, st_branch, run_one rfl, e1, run_one rfl, st_second, run_one rfl, e2, run_one rfl, st_third, run_one rfl, st_over hs]
    rfl
  · refine ⟨3, mk.setIfInBounds 0 (some s), (σ.add 17).add 16, by omega, ?_⟩
    rw [run_one rfl, st_mark, run_one rfl, st_lit_no hs h, run_one rfl, st_next hs]
    rfl
theorem runs (H : ∀ i, i < lim → text.getD i 0 = 126 → i + 1 < lim ∧ (text.getD (i + 1) 0 = 48 ∨ text.getD (i + 1) 0 = 49)) :
    ∀ (n s : Nat) (first : Bool) (mk : Array (Option Nat)) (σ : Sre.Seen), s + n = lim → ∃ k, k ≤ 8 * n + 4 ∧ (Sre.M.runFor k (S text lim s first mk σ)).outcome = some .failed
  | 0, s, first, mk, σ, e => by
    obtain rfl : s = lim := by omega
    refine ⟨4, by omega, ?_⟩
    rw [run_one rfl, st_mark, run_one rfl, st_lit_end]
    exact st_last
  | n + 1, s, first, mk, σ, e => by
    obtain ⟨k, mk', σ', hk, ek⟩ := turn (first := first) (mk := mk) (σ := σ) (show s < lim by omega) (H s (by omega))
    obtain ⟨j, hj, ej⟩ := runs H n (s + 1) false mk' σ' (by omega)
    exact ⟨k + j, by omega, by rw [run_add, ek]; exact ej⟩

/-- each tilde stands ahead of 0 or 1 -/
def tame : List Nat → Bool
  | [] => true
  | c :: r => (c != 126 || (r.headD 0 == 48 || r.headD 0 == 49)) && tame r
theorem tame_at : ∀ {l : List Nat} {i : Nat}, tame l = true → i < l.length → l.getD i 0 = 126 → i + 1 < l.length ∧ (l.getD (i + 1) 0 = 48 ∨ l.getD (i + 1) 0 = 49)
  | [], i, _, hi, _ => absurd hi (Nat.not_lt_zero _)
  | c :: r, 0, h, _, hc => by
    simp only [List.getD_cons_zero] at hc
    subst hc
    match r, h with
    | [], h => simp [tame] at h
    | d :: r, h =>
      simp only [tame, Bool.and_eq_true, Bool.or_eq_true, beq_iff_eq] at h
      refine ⟨by simp, ?_⟩
      simpa using h.1
  | c :: r, i + 1, h, hi, hc => by
    rw [tame, Bool.and_eq_true] at h
    rw [List.length_cons] at hi ⊢
    rw [List.getD_cons_succ] at hc ⊢
    have := tame_at h.2 (Nat.lt_of_succ_lt_succ hi) hc
    exact ⟨by omega, this.2⟩
theorem no_esc {x : Str} (h : tame x.cps.toList = true) (hlen : x.length ≤ 100) : noEsc x = true := by
  have hl : x.cps.size ≤ 100 := hlen
  unfold noEsc
  by_cases h0 : x.cps.size = 0
  · have hf : Sre.forSearch codeEsc x.cps 1 0 x.cps.size false = { S x.cps 0 0 true #[none, none] (({} : Sre.Seen).add 14) with lastStart := 0, frames := [], weight := 0, answer := some false } := by
      unfold Sre.forSearch
      rw [h0]
      rfl
    rw [hf]
    rfl
  · have hf : Sre.forSearch codeEsc x.cps 1 0 x.cps.size false = S x.cps x.cps.size 0 true #[none, none] (({} : Sre.Seen).add 14) := by
      unfold Sre.forSearch
      have hc : (decide (0 > x.cps.size) || decide (x.cps.size - 0 < (Sre.header codeEsc).1)) = false := by
        rw [show (Sre.header codeEsc).1 = 1 from rfl]
        rw [Bool.or_eq_false_iff]; exact ⟨decide_eq_false (by omega), decide_eq_false (by omega)⟩
      dsimp only
      rw [if_neg (by simpa using hc)]
      rfl
    rw [hf]
    obtain ⟨k, hk, e⟩ := runs (text := x.cps) (lim := x.cps.size) (fun i hi hc => by
      have := tame_at (l := x.cps.toList) (i := i) h (by simpa using hi) (by simpa using hc)
      simpa using this) x.cps.size 0 true #[none, none] (({} : Sre.Seen).add 14) (by omega)
    exact drv_failed 399 k _ (by omega) e
end Esc

/-- what is checked of a pointer's text -/
def fine (ws : List Str) : Bool := Esc.tame (textOf ws).cps.toList && decide ((textOf ws).length ≤ 100) && decide (Txt.split (textOf ws) "/" = ("" : Str) :: ws.map esc)
theorem unesc_esc : (words.all fun x => unesc (esc x) == x) = true := by decide +kernel
theorem ok_fine {ws : List Str} (hall : ∀ x ∈ ws, x ∈ words) (h : fine ws = true) : okWs ws = true := by
  simp only [fine, Bool.and_eq_true, decide_eq_true_eq] at h
  simp only [okWs, Bool.and_eq_true, decide_eq_true_eq]
  refine ⟨⟨⟨Esc.no_esc h.1.1 h.1.2, h.1.2⟩, h.2⟩, ?_⟩
  rw [List.map_map]
  conv => rhs; rw [← List.map_id ws]
  exact List.map_congr_left fun x hx => by simpa using List.all_eq_true.mp unesc_esc x (hall x hx)
end Mine
end

/-! ## LO -/
section
set_option maxRecDepth 100000
set_option maxHeartbeats 40000000
open PySem PySem.W PyProof.Rows PySem.Calls
namespace Mine

/-- the first words of a place, and the later ones -/
def topW : List Str := ["b", "0", "~1", "", "x", "1", "2"]
def innW : List Str := ["a", "b", "~", "x/y", "0", "1", "2"]
theorem fineOne : (words.all fun x => fine [x]) = true := by decide +kernel
theorem fineTwo : (words.all fun x => innW.all fun y => fine [x, y]) = true := by decide +kernel
theorem fineThree0 : (innW.all fun y => innW.all fun z => fine ["b", y, z]) = true := by decide +kernel
theorem fineThree1 : (innW.all fun y => innW.all fun z => fine ["0", y, z]) = true := by decide +kernel
theorem fineThree2 : (innW.all fun y => innW.all fun z => fine ["~1", y, z]) = true := by decide +kernel
theorem fineThree3 : (innW.all fun y => innW.all fun z => fine ["", y, z]) = true := by decide +kernel
theorem fineThree4 : (innW.all fun y => innW.all fun z => fine ["x", y, z]) = true := by decide +kernel
theorem fineThree5 : (innW.all fun y => innW.all fun z => fine ["1", y, z]) = true := by decide +kernel
theorem fineThree6 : (innW.all fun y => innW.all fun z => fine ["2", y, z]) = true := by decide +kernel
theorem fineThree : (topW.all fun x => innW.all fun y => innW.all fun z => fine [x, y, z]) = true := by
  simp only [topW, List.all_cons, List.all_nil, fineThree0, fineThree1, fineThree2, fineThree3, fineThree4, fineThree5, fineThree6, Bool.and_self]
theorem innW_words : ∀ x ∈ innW, x ∈ words := by decide +kernel
theorem topW_words : ∀ x ∈ topW, x ∈ words := by decide +kernel

def wayW : List Str → Bool
  | [] => true
  | [x] => words.contains x
  | [x, y] => words.contains x && innW.contains y
  | [x, y, z] => topW.contains x && innW.contains y && innW.contains z
  | _ => false
theorem ok_way {ws : List Str} (h : wayW ws = true) : okWs ws = true := by
  match ws, h with
  | [], _ => exact ok_fine (by simp) (by decide +kernel)
  | [x], h =>
    have hx : x ∈ words := by simpa [wayW] using h
    exact ok_fine (by simpa using hx) (List.all_eq_true.mp fineOne x hx)
  | [x, y], h =>
    simp only [wayW, Bool.and_eq_true, List.contains_iff_mem] at h
    refine ok_fine ?_ (List.all_eq_true.mp (List.all_eq_true.mp fineTwo x h.1) y h.2)
    simpa using ⟨h.1, innW_words _ h.2⟩
  | [x, y, z], h =>
    simp only [wayW, Bool.and_eq_true, List.contains_iff_mem] at h
    refine ok_fine ?_ (List.all_eq_true.mp (List.all_eq_true.mp (List.all_eq_true.mp fineThree x h.1.1) y h.1.2) z h.2)
    simpa using ⟨topW_words _ h.1.1, innW_words _ h.1.2, innW_words _ h.2⟩
  | _ :: _ :: _ :: _ :: _, h => simp [wayW] at h
end Mine
end

/-! ## LP -/
section
set_option maxRecDepth 100000
open PySem PySem.W PyProof.Rows PySem.Calls
namespace Mine

/-! ### plain laws of edits -/
theorem findK_cons {a b : PyData} {r : List (PyData × PyData)} {k : Str} : findK ((a, b) :: r) k = if isK k a = true then some b else findK r k := by
  unfold findK
  rw [List.find?_cons]
  cases a with
  | str y => by_cases hy : y = k <;> simp [isK, hy]
  | _ => simp [isK]
theorem find_sub {kvs : List (PyData × PyData)} {k : Str} {x e : PyData} (h : findK kvs k = some x) : findK (kvs.map (subK k e)) k = some e := by
  induction kvs with
  | nil => simp [findK] at h
  | cons q r ih =>
    obtain ⟨a, b⟩ := q
    rw [findK_cons] at h
    rw [List.map_cons]
    by_cases hk : isK k a = true
    · rw [show subK k e (a, b) = (a, e) by simp [subK, hk], findK_cons, if_pos hk]
    · rw [show subK k e (a, b) = (a, b) by simp [subK, hk], findK_cons, if_neg hk]
      rw [if_neg hk] at h
      exact ih h
theorem at1_put1 {d t x e : PyData} (h : at1 d t = some x) : at1 (put1 d t e) t = some e := by
  cases d <;> cases t <;> simp only [at1] at h <;> try (cases h; done)
  · rename_i xs i
    split at h
    · rename_i hi
      obtain ⟨h1, -⟩ := List.getElem?_eq_some_iff.mp h
      simp [put1, at1, hi, List.getElem?_set, h1]
    · cases h
  · rename_i kvs k
    exact find_sub h
theorem atD_ed : ∀ {p : List PyData} {d x v : PyData}, atD d p = some x → atD (ed d p v) p = some v
  | [], _, _, _, _ => rfl
  | t :: r, d, x, v, h => by
    rw [atD] at h
    obtain ⟨d', h1, h2⟩ := Option.bind_eq_some_iff.mp h
    rw [ed, h1, Option.getD_some, atD, at1_put1 h1, Option.bind_some]
    exact atD_ed h2
end Mine
end

/-! ## LQ -/
section
set_option maxRecDepth 100000
open PySem PySem.W PyProof.Rows PySem.Calls
namespace Mine

theorem subK_subK {k : Str} {e e' : PyData} (q : PyData × PyData) : subK k e' (subK k e q) = subK k e' q := by
  obtain ⟨a, b⟩ := q
  by_cases hk : isK k a = true <;> simp [subK, hk]
theorem put1_put1 {d t e e' : PyData} : put1 (put1 d t e) t e' = put1 d t e' := by
  cases d <;> cases t <;> simp only [put1]
  · rw [List.set_set]
  · rw [List.map_map]
    congr 1
    exact List.map_congr_left fun q _ => subK_subK q
theorem ed_ed : ∀ {p : List PyData} {d x v v' : PyData}, atD d p = some x → ed (ed d p v) p v' = ed d p v'
  | [], _, _, _, _, _ => rfl
  | t :: r, d, x, v, v', h => by
    rw [atD] at h
    obtain ⟨d', h1, h2⟩ := Option.bind_eq_some_iff.mp h
    simp only [ed, h1, Option.getD_some, at1_put1 h1, put1_put1]
    rw [ed_ed h2]
end Mine
end

/-! ## LR -/
section
set_option maxRecDepth 100000
open PySem PySem.W PyProof.Rows PySem.Calls
namespace Mine

theorem ed_app : ∀ {p q : List PyData} {d e v : PyData}, atD d p = some e → ed d (p ++ q) v = ed d p (ed e q v)
  | [], q, d, e, v, h => by
    simp only [atD, Option.some.injEq] at h
    subst h
    rfl
  | t :: r, q, d, e, v, h => by
    rw [atD] at h
    obtain ⟨d', h1, h2⟩ := Option.bind_eq_some_iff.mp h
    simp only [List.cons_append, ed, h1, Option.getD_some]
    rw [ed_app h2]
theorem atD_appS : ∀ {p q : List PyData} {d e : PyData}, atD d p = some e → atD d (p ++ q) = atD e q
  | [], q, d, e, h => by
    simp only [atD, Option.some.injEq] at h
    subst h
    rfl
  | t :: r, q, d, e, h => by
    rw [atD] at h
    obtain ⟨d', h1, h2⟩ := Option.bind_eq_some_iff.mp h
    simp only [List.cons_append, atD, h1, Option.bind_some]
    exact atD_appS h2
/-- above the edited place -/
theorem atD_ed_above {p q : List PyData} {d e x v : PyData} (he : atD d p = some e) (hx : atD e q = some x) : atD (ed d (p ++ q) v) p = some (ed e q v) := by
  rw [ed_app he]
  exact atD_ed he
/-- below the edited place -/
theorem atD_ed_below {p q : List PyData} {d e v : PyData} (he : atD d p = some e) : atD (ed d p v) (p ++ q) = atD v q := atD_appS (atD_ed he)
end Mine
end

/-! ## LS -/
section
set_option maxRecDepth 100000
open PySem PySem.W PyProof.Rows PySem.Calls
namespace Mine

theorem isK_iff {k : Str} {a : PyData} : isK k a = true ↔ a = .str k := by
  cases a <;> simp [isK]
theorem subK_comm {k k' : Str} {e e' : PyData} (h : k ≠ k') (q : PyData × PyData) : subK k e (subK k' e' q) = subK k' e' (subK k e q) := by
  obtain ⟨a, b⟩ := q
  by_cases h1 : isK k a = true
  · have h2 : ¬ isK k' a = true := fun z => by
      rw [isK_iff] at h1 z
      rw [h1] at z
      injection z with z
      exact h z
    simp [subK, h1, h2]
  · by_cases h2 : isK k' a = true <;> simp [subK, h1, h2]
theorem find_other {kvs : List (PyData × PyData)} {k k' : Str} {e : PyData} (h : k ≠ k') : findK (kvs.map (subK k e)) k' = findK kvs k' := by
  induction kvs with
  | nil => rfl
  | cons q r ih =>
    obtain ⟨a, b⟩ := q
    rw [List.map_cons, findK_cons]
    by_cases h1 : isK k a = true
    · have h2 : ¬ isK k' a = true := fun z => by
        rw [isK_iff] at h1 z
        rw [h1] at z
        injection z with z
        exact h z
      rw [show subK k e (a, b) = (a, e) by simp [subK, h1], findK_cons, if_neg h2, if_neg h2, ih]
    · rw [show subK k e (a, b) = (a, b) by simp [subK, h1], findK_cons, ih]
end Mine
end

/-! ## LT -/
section
set_option maxRecDepth 100000
open PySem PySem.W PyProof.Rows PySem.Calls
namespace Mine

/-- two steps that both stand in one document and differ, in either order -/
theorem put1_comm {d t u x y e e' : PyData} (ht : at1 d t = some x) (hu : at1 d u = some y) (h : t ≠ u) : put1 (put1 d t e) u e' = put1 (put1 d u e') t e := by
  cases d <;> cases t <;> simp only [at1] at ht <;> try (cases ht; done)
  · rename_i xs i
    cases u <;> simp only [at1] at hu <;> try (cases hu; done)
    rename_i j
    split at ht
    · split at hu
      · rename_i hi hj
        have hij : i.toNat ≠ j.toNat := fun z => h (by congr 1; omega)
        simp only [put1]
        rw [List.set_comm _ _ hij]
      · cases hu
    · cases ht
  · rename_i kvs k
    cases u <;> simp only [at1] at hu <;> try (cases hu; done)
    rename_i k'
    have hk : k ≠ k' := fun z => h (by rw [z])
    simp only [put1, List.map_map]
    congr 1
    exact List.map_congr_left fun q _ => (subK_comm hk q).symm
theorem at1_put1_ne {d t u x y e : PyData} (ht : at1 d t = some x) (hu : at1 d u = some y) (h : t ≠ u) : at1 (put1 d t e) u = some y := by
  cases d <;> cases t <;> simp only [at1] at ht <;> try (cases ht; done)
  · rename_i xs i
    cases u <;> simp only [at1] at hu <;> try (cases hu; done)
    rename_i j
    split at ht
    · split at hu
      · rename_i hi hj
        have hij : i.toNat ≠ j.toNat := fun z => h (by congr 1; omega)
        simp only [put1, at1, if_pos hj]
        rw [List.getElem?_set_ne hij]
        exact hu
      · cases hu
    · cases ht
  · rename_i kvs k
    cases u <;> simp only [at1] at hu <;> try (cases hu; done)
    rename_i k'
    have hk : k ≠ k' := fun z => h (by rw [z])
    simp only [put1, at1]
    rw [find_other hk]
    exact hu
end Mine
end

/-! ## LU -/
section
set_option maxRecDepth 100000
open PySem PySem.W PyProof.Rows PySem.Calls
namespace Mine

/-- two places that part -/
inductive Apart : List PyData → List PyData → Prop
  | here {t u : PyData} {r s : List PyData} : t ≠ u → Apart (t :: r) (u :: s)
  | step {t : PyData} {r s : List PyData} : Apart r s → Apart (t :: r) (t :: s)
theorem atD_cons {t : PyData} {r : List PyData} {d x : PyData} (h : atD d (t :: r) = some x) : ∃ d', at1 d t = some d' ∧ atD d' r = some x := by
  rw [atD] at h
  exact Option.bind_eq_some_iff.mp h
theorem atD_ed_apart {p q : List PyData} (h : Apart p q) : ∀ {d x y v : PyData}, atD d p = some x → atD d q = some y → atD (ed d p v) q = some y := by
  induction h with
  | @here t u r s hne =>
    intro d x y v hx hy
    obtain ⟨d1, h1, -⟩ := atD_cons hx
    obtain ⟨d2, h2, h3⟩ := atD_cons hy
    rw [ed, atD, at1_put1_ne h1 h2 hne, Option.bind_some]
    exact h3
  | @step t r s _ ih =>
    intro d x y v hx hy
    obtain ⟨d1, h1, hx'⟩ := atD_cons hx
    obtain ⟨d2, h2, hy'⟩ := atD_cons hy
    rw [h1] at h2
    cases h2
    rw [ed, h1, Option.getD_some, atD, at1_put1 h1, Option.bind_some]
    exact ih hx' hy'
theorem ed_comm {p q : List PyData} (h : Apart p q) : ∀ {d x y v v' : PyData}, atD d p = some x → atD d q = some y → ed (ed d p v) q v' = ed (ed d q v') p v := by
  induction h with
  | @here t u r s hne =>
    intro d x y v v' hx hy
    obtain ⟨d1, h1, -⟩ := atD_cons hx
    obtain ⟨d2, h2, -⟩ := atD_cons hy
    simp only [ed, h1, h2, Option.getD_some, at1_put1_ne h1 h2 hne, at1_put1_ne h2 h1 (Ne.symm hne)]
    exact put1_comm h1 h2 hne
  | @step t r s _ ih =>
    intro d x y v v' hx hy
    obtain ⟨d1, h1, hx'⟩ := atD_cons hx
    obtain ⟨d2, h2, hy'⟩ := atD_cons hy
    rw [h1] at h2
    cases h2
    simp only [ed, h1, Option.getD_some, at1_put1 h1, put1_put1]
    rw [ih hx' hy']
end Mine
end

/-! ## LV -/
section
set_option maxRecDepth 100000
open PySem PySem.W PyProof.Rows PySem.Calls
namespace Mine

/-- neither above nor below: they part -/
theorem apart_of : ∀ {p q : List PyData}, q ≠ p.take q.length → p ≠ q.take p.length → Apart p q
  | [], q, _, h => absurd (by simp) h
  | _ :: _, [], h, _ => absurd (by simp) h
  | t :: r, u :: s, h1, h2 => by
    by_cases h : t = u
    · subst h
      refine .step (apart_of (fun z => h1 ?_) fun z => h2 ?_)
      · rw [List.length_cons, List.take_succ_cons, ← z]
      · rw [List.length_cons, List.take_succ_cons, ← z]
    · exact .here h
end Mine
end

/-! ## M0 -/
section
set_option maxRecDepth 100000
set_option maxHeartbeats 4000000
open PySem PySem.W PyProof.Rows PySem.Calls
namespace Mine

theorem slot_type_repr : Slot "type" "__repr__" "type.__repr__" :=
  .of (owner := "type") (n := "__repr__") (by rw [typeLookup_type, builtinLookup_eq_fast]; kernel_rfl) (by decide +kernel) (by decide +kernel) (by decide +kernel)
    (by first | exact .inl (by decide +kernel) | exact .inr (by decide +kernel)) (by rw [isSubtype_type]; kernel_rfl)
theorem slot_type_str : Slot "type" "__str__" "object.__str__" :=
  .of (owner := "object") (n := "__str__") (by rw [typeLookup_type, builtinLookup_eq_fast]; kernel_rfl) (by decide +kernel) (by decide +kernel) (by decide +kernel)
    (by first | exact .inl (by decide +kernel) | exact .inr (by decide +kernel)) (by rw [isSubtype_type]; kernel_rfl)
theorem entry_type_repr : entryFor table "type.__repr__" = some Builtin.«type.__repr__» := entryFor_of_tree (by kernel_rfl)
theorem owner_type : Manifest.owners.lookup (String.ofList ['e', 'p', 'y', 't'].reverse) = some Manifest.sig_type := by kernel_rfl
theorem args_type_repr (a : Value) : argsOk "type.__repr__" ⟨[a], []⟩ := by
  unfold argsOk; rw [signature?_of (id := "type.__repr__") (n := ['_', '_', 'r', 'p', 'e', 'r', '_', '_']) (o := ['e', 'p', 'y', 't']) (by kernel_rfl) owner_type]; kernel_rfl
theorem gives_type_repr (n : String) : _root_.PySem.Gives (Builtin.«type.__repr__» ⟨[.type n], []⟩) (.str (Str.ofString s!"<class '{n}'>")) := .of_eq rfl
theorem strOf_type {M : Program} {w : World} {A : Around} {E : Value → Shared → Prop} {s : Shared} {n : String} {Q : Value → Shared → Prop} (hT : ∀ s' : Shared, s'.TypeIs (.type n) "type") (hn : (Str.ofString s!"<class '{n}'>").length ≤ 100)
    (h : Q (.str (Str.ofString s!"<class '{n}'>") s.toks) { s with toks := s.toks + 1 }) : wpAny (model M w) A (PySem.Builtin.Str.strOf (.type n)) Q E s :=
  wpAny_strOf_gives rfl (hT s) slot_type_str slot_type_repr entry_type_repr (args_type_repr _) (gives_type_repr n) h (hsz := Nat.le_trans hn (by have := sizeLine_eq; omega))

section
variable {prog : Program} {w : World} {A : Around} {E : Value → Shared → Prop} {s : Shared} {X X' T x : PySem.Str} {t u : Tok} {Q : Value → Shared → Prop} {b L : Addr} {its : Array Value} {n : Nat}
theorem pct_idx {y : PySem.Str} (hy : y.length ≤ 1000000) (h : ∀ x t' k, Q (.str x t') { s with toks := k }) : wpAny (model prog w) A (binaryOp .Mod (.str "'%s' is not a valid sequence index" t) (.str y u)) Q E s := by
  (refine' KPc.mod_str ?kpcF ?kpcl ?kpcm ?_; (case kpcF => kpc_eq); (case kpcl => exact hy); (case kpcm => k_dflt kpc_run_s))
  intro _ _
  exact h _ _ _


local macro_rules | `(tactic| kpt_conv) => `(tactic| (refine wpAny_bind ?_; kpc_if; refine strOf_type (by assumption) (by assumption) ?_; refine wpAny_bind (wpAny_of_eq (a := some _) rfl ?_)))
local macro_rules | `(tactic| kpt_len) => `(tactic| (with_reducible assumption))
theorem fills_type : fillsNumberSlot (.type "type") "mod" = pure false := by
  have a : typeLookup (.type "type") (PySem.dunder "mod") = pure none := by rw [typeLookup_type, builtinLookup_eq_fast]; kernel_rfl
  have b : typeLookup (.type "type") (PySem.dunderR "mod") = pure none := by rw [typeLookup_type, builtinLookup_eq_fast]; kernel_rfl
  unfold fillsNumberSlot
  simp [a, b]
theorem look_type : typeLookup (.type "type") "__getitem__" = pure none := by rw [typeLookup_type, builtinLookup_eq_fast]; kernel_rfl

theorem entry_is_t (F : PySem.Str) (n : String) (t : Tok) : Builtin.«str.__mod__» ⟨[.str F t, .type n], []⟩ = Builtin.Str.percentFormat (.str F t) F (.type n) := by kernel_rfl
theorem fills_ty {n : String} (hT : typeOf (.type n) = pure (.type "type")) : fillsMappingSlot (.type n) = pure false := by
  have e : specialOf (.type n) "__getitem__" = (do typeLookup (← typeOf (.type n)) "__getitem__") := rfl
  unfold fillsMappingSlot
  rw [e, hT]
  show (do let r ← (do typeLookup (.type "type") "__getitem__"); _) = _
  rw [look_type]
  rfl
theorem mod_ty {n : String} (hT : typeOf (.type n) = pure (.type "type")) (hX : X = X')
    (hm : Meets (Builtin.«str.__mod__» ⟨[.str X' t, .type n], []⟩) (fun _ R s => ∀ t' k, R (.ok (.ret (.str T t'))) { s with toks := k }))
    (h : ∀ t' k, Q (.str T t') { s with toks := k }) : wpAny (model prog w) A (binaryOp .Mod (.str X t) (.type n)) Q E s := by
  subst hX
  have hT' : ∀ s' : Shared, s'.TypeIs (.type n) "type" := fun _ => hT
  exact KPt.bin_left (T := "str") (U := "type") (op := .Mod) (by decide) (typeIs_str s _ t) (hT' s) F.fills_str_mod fills_type F.slot_str_mod
    (call_meets F.slot_str_mod (typeIs_str s _ t) F.entry_str_mod (F.args_str_mod_2 _ _) hm (fun t' k => ⟨(fun e => nomatch e), h t' k⟩))
theorem pct_type {n : String} (hT : typeOf (.type n) = pure (.type "type")) (hn : (Str.ofString s!"<class '{n}'>").length ≤ 100)
    (h : ∀ x t' k, Q (.str x t') { s with toks := k }) : wpAny (model prog w) A (binaryOp .Mod (.str "Document '%s' does not support indexing, must be mapping/sequence or support __getitem__" t) (.type n)) Q E s := by
  have hT' : ∀ s' : Shared, s'.TypeIs (.type n) "type" := fun _ => hT
  refine' mod_ty hT ?kptF ?kptm ?_
  case kptF => kpt_eq
  case kptm =>
    k_dflt (
      apply KPc.meets_of
      intro _ _ _ _ _ _ _
      rw [entry_is_t]
      unfold Builtin.Str.percentFormat
      refine wpAny_bind (wpAny_isInstance (hT' _) tc_notTuple ?_)
      refine wpAny_bind (wpAny_of_eq (a := none) rfl ?_)
      refine wpAny_bind (wpAny_of_eq (fills_ty hT) ?_)
      kpc_if
      refine wpAny_bind (wpAny_pure ?_)
      refine wpAny_bind ?_
      rw [KPc.range_list]
      refine KPc.start ?_
      intro _ _
      kpt_turns)
  intro _ _
  exact h _ _ _

theorem str_type_obj {n : String} {Q : Value → Shared → Prop} (hT : typeOf (.type n) = pure (.type "type")) (hn : (Str.ofString s!"<class '{n}'>").length ≤ 100) (h : Q (.str (Str.ofString s!"<class '{n}'>") s.toks) { s with toks := s.toks + 1 }) :
    wpAny (model prog w) A (pyStrObj (.type n)) Q E s :=
  wpAny_pyStrObj_gives (fun _ _ e => nomatch e) (show s.TypeIs (.type n) "type" from hT) slot_type_str slot_type_repr entry_type_repr (args_type_repr _) (gives_type_repr n) h (hx := Nat.le_trans hn (by have := sizeLine_eq; omega))

/-! ### the pieces of a message -/
variable {env : Env}
theorem joined {v₁ v₂ : Expr} {rest : List Expr} {pos : Pos} (h : ∀ out : Str, out.length ≤ 0 → wpAny (model prog w) A (joinParts out (eval v₁ env :: eval v₂ env :: evalEach rest env)) Q E s) : wpAny (model prog w) A (eval (.JoinedStr (v₁ :: v₂ :: rest) pos) env) Q E s :=
  JoinedStr_many (h _ (by decide +kernel))
theorem jp_fs {out : Str} {N : Nat} {value : Expr} {pos : Pos} {rest : List (Sem Value)} (ho : out.length ≤ N) (hN : N ≤ 100000)
    (h : wpAny (model prog w) A (eval value env) (fun v s₁ => wpAny (model prog w) A (convS v) (fun r s₂ => ∃ x t, r = .str x t ∧ x.length ≤ 1000 ∧ ∀ out' tk, out'.length ≤ N + 1000 → wpAny (model prog w) A (joinParts out' rest) Q E { s₂ with toks := tk }) E s₁) E s) :
    wpAny (model prog w) A (joinParts out (eval (.FormattedValue value 115 none pos) env :: rest)) Q E s := by
  refine joinParts_cons (wpAny_FormattedValue_s (wpAny_mono h (fun v s₁ h₁ => wpAny_mono h₁ (fun r s₂ h₂ => ?_) fun _ _ z => z) fun _ _ z => z))
  obtain ⟨x, t, rfl, hx, h₃⟩ := h₂
  have hz : (out ++ x).length ≤ N + 1000 := by rw [size_cat]; omega
  exact formatField_str (fun t' tk => ⟨Nat.le_trans hz (by have := sizeLine_eq; omega), h₃ _ tk hz⟩) (Nat.le_trans hx (by have := sizeLine_eq; omega))
theorem cs_str {x : Str} {t : Tok} (hx : x.length ≤ 1000) (h : ∀ t' tk, Q (.str x t') { s with toks := tk }) : wpAny (model prog w) A (convS (.str x t)) Q E s :=
  habitSame_str h (Nat.le_trans hx (by have := sizeLine_eq; omega))
theorem cs_int {i : Int} {t : Tok} (h0 : 0 ≤ i) (hi : i < 64) (h : ∀ x t' tk, x.length ≤ 1000 → Q (.str x t') { s with toks := tk }) : wpAny (model prog w) A (convS (.int i t)) Q E s := by
  have hl : i.natAbs.log2 < 1920 := shown (N := 2 ^ 1920) (by omega) (by omega) (Int.le_refl _)
  exact pyStrObj_int hl (h _ _ _ (Nat.le_trans (toString_length_le (k := 10) h0 (by decide) (by omega)) (by decide)))
theorem cs_type {n : String} (hT : typeOf (.type n) = pure (.type "type")) (hn : (Str.ofString s!"<class '{n}'>").length ≤ 100) (h : ∀ x t' tk, x.length ≤ 1000 → Q (.str x t') { s with toks := tk }) : wpAny (model prog w) A (convS (.type n)) Q E s :=
  str_type_obj hT hn (h _ _ _ (Nat.le_trans hn (by decide)))
theorem jp_lit {out x : Str} {N : Nat} {k : Nat} {pos : Pos} {rest : List (Sem Value)} (ho : out.length ≤ N) (hN : N ≤ 100000) (hx : x.length ≤ 1000) (h : ∀ out' tk, out'.length ≤ N + 1000 → wpAny (model prog w) A (joinParts out' rest) Q E { s with toks := tk }) : wpAny (model prog w) A (joinParts out (eval (.Constant (.str x) k pos) env :: rest)) Q E s :=
  have hz : (out ++ x).length ≤ N + 1000 := by rw [size_cat]; omega
  joinParts_cons (wpAny_Constant_str ⟨Nat.le_trans hz (by have := sizeLine_eq; omega), h _ _ hz⟩)
theorem jp_end {out : Str} {N : Nat} (ho : out.length ≤ N) (hN : N ≤ 100000) (h : ∀ tk, Q (.str out s.toks) { s with toks := tk }) : wpAny (model prog w) A (joinParts out []) Q E s :=
  joinParts_nil (h _) (Nat.le_trans ho (by have := sizeLine_eq; omega))
end
end Mine
end

/-! ## M2 -/
section
set_option maxRecDepth 100000
set_option maxHeartbeats 4000000
open PySem PySem.W PyProof.Rows PySem.Calls
namespace Mine

/-! ### what flies -/
abbrev outsOf (l : List Env) : List Addr := l.filterMap (·.frame)
/-- the heap less the frames below -/
abbrev less (l : List Env) (h : Heap) : Heap := hideAll h (outsOf l)

/-- the frames below a call -/
structure Stk (A : Around) (outer : List Env) (g h : Heap) : Prop where
  fr : A.frames = some outer
  ff : h.FunFrames h00 outer
  gn : ∀ a ∈ outsOf outer, g.get? a = none
  nt : TAB ∉ outsOf outer

theorem less_size (l : List Env) (h : Heap) : (less l h).objs.size = h.objs.size := hideAll_size _ _
theorem funFrames_less {l : List Env} {h h' : Heap} (x : h'.FunFrames h00 l) : h'.FunFrames (less l h) l := by
  have key : ∀ {l₂ : List Env}, h'.FunFrames h00 l₂ → (∀ env ∈ l₂, ∀ a, env.frame = some a → a ∈ outsOf l) → h'.FunFrames (less l h) l₂ := by
    intro l₂
    induction l₂ with
    | nil => intro _ _; trivial
    | cons env r ih =>
      rintro ⟨hk, ⟨L, o, hf, _, ho, hd⟩, hr⟩ hin
      exact ⟨hk, ⟨L, o, hf, hideAll_none _ (hin env (.head _) L hf), ho, hd⟩, ih hr fun e he => hin e (.tail _ he)⟩
  exact key x fun env he a ha => List.mem_filterMap.mpr ⟨env, he, ha⟩
theorem funFrames_base0 {base h : Heap} : ∀ {l : List Env}, h.FunFrames base l → h.FunFrames h00 l
  | [], _ => trivial
  | _ :: _, ⟨hk, ⟨L, o, hf, _, ho, hd⟩, hr⟩ => ⟨hk, ⟨L, o, hf, h00_get _, ho, hd⟩, funFrames_base0 hr⟩
theorem FunFrames.slots {base h h' : Heap} {l : List Env} (x : h.FunFrames base l) (k : h.UpToSlots h') : h'.FunFrames base l :=
  x.of_keeps fun b o e hn => let ⟨_, e'⟩ := k b o e hn; ⟨_, e', rfl⟩

section
variable {prog : Program} {w : World} {p : Program} {loose : List Str} {mg mb : Str → Option Value} {A : Around} {E : Value → Shared → Prop} {s : Shared} {R : Result → Shared → Prop}
  {base g₀ g h h' gh0 : Heap} {L : Addr} {m m' : Str → Option Value} {vol : List (Addr × Obj)} {T : Option Obj} {env : Env} {outer : List Env}

theorem Fm.all {hb : Heap} (F : Fm hb g₀ L m vol (hb.get? TAB) g h) : ∀ b o, hb.get? b = some o → h.get? b = some o := fun b o e => by
  by_cases q : b = TAB
  · subst q; rw [F.tab]; exact e
  · exact F.keep b o e q

theorem Stk.push {A : Around} {hb : Heap} (K : Stk A outer g₀ hb) (F : Fm hb g₀ L m vol (hb.get? TAB) g h) (hf : env.frame = some L) (hk : env.scope.kind = .function) : Stk (A.deeper env) (env :: outer) g h where
  fr := Around.frames_deeper K.fr
  ff := by
    obtain ⟨o, es, ep, ho, hd, r⟩ := F.ns
    exact ⟨by rw [hk]; decide, ⟨L, o, hf, h00_get _, ho, fun vs q => by rw [hd] at q; cases q⟩, K.ff.of_keeps fun b o e _ => ⟨o, F.all b o e, rfl⟩⟩
  gn := fun a ha => by
    rw [outsOf, List.filterMap_cons, hf] at ha
    rcases List.mem_cons.mp ha with rfl | ha
    · exact F.gL
    · obtain ⟨-, o, ho, -⟩ := K.ff.mem ha
      exact F.gg.new a (by rw [ho]; simp) (K.gn a ha)
  nt := fun ha => by
    rw [outsOf, List.filterMap_cons, hf] at ha
    rcases List.mem_cons.mp ha with e | ha
    · exact F.ltab e
    · exact K.nt ha

/-- an exception on its way out -/
structure Thrown (outer : List Env) (h : Heap) (cls : Value) (e : Addr) (h' : Heap) : Prop where
  ex : ∃ B a0, (less outer h).StaysIn B ∧ Heap.FlyingW B outer e cls a0 h'
  sl : h.UpToSlots h'

theorem less_sub {l : List Env} {h h' : Heap} (k : ∀ b o, h.get? b = some o → h'.get? b = some o) : (less l h).StaysIn (less l h') := fun b o e => by
  refine hideAll_get _ (k _ _ (of_hideAll _ e)) fun hm => ?_
  rw [hideAll_none _ hm] at e; cases e
theorem less_cons {l : List Env} {h h' : Heap} (hf : env.frame = some L) (hL : h.objs.size ≤ L) (k : ∀ b o, h.get? b = some o → h'.get? b = some o) : (less l h).StaysIn (less (env :: l) h') := fun b o e => by
  have e' := of_hideAll _ e
  refine hideAll_get _ (k _ _ e') fun hm => ?_
  rw [outsOf, List.filterMap_cons, hf] at hm
  rcases List.mem_cons.mp hm with rfl | hm
  · exact absurd (Heap.lt_size e') (Nat.not_lt.mpr hL)
  · rw [hideAll_none _ hm] at e; cases e

/-- an exception that is just made leaves the frame -/
theorem leave_made {hb : Heap} {e : Addr} {cls : Value} {args : List Value} {Q : Unit → Shared → Prop} (K : Stk A outer g₀ hb) (F : Fm hb g₀ L m vol (hb.get? TAB) g h) (hx : Heap.MadeExcOf h s.heap e cls args)
    (hf : env.frame = some L) (hk : env.scope.kind = .function) (hQ : ∀ h', Thrown outer hb cls e h' → Q () { s with heap := h' }) : wpAny (model prog w) (A.deeper env) (leaving env (.ref e)) Q E s := by
  have K' := K.push F hf hk
  refine wpAny_leaves_madeW (base := less (env :: outer) h) (h := h) K'.fr hf (fun b o q => of_hideAll _ q) (funFrames_less K'.ff) hx fun h' t x1 x2 x3 x4 => ?_
  exact hQ h' ⟨⟨_, _, less_cons hf F.lo F.all, x1⟩, (Heap.UpToSlots.of_keeps fun b o q => hx.keeps _ _ (F.all b o q)).trans x4⟩

/-- an exception from further in leaves the frame -/
theorem leave_on {hb : Heap} {e : Addr} {cls : Value} {Q : Unit → Shared → Prop} (K : Stk A outer g₀ hb) (F : Fm hb g₀ L m vol (hb.get? TAB) g h) (x : Thrown (env :: outer) h cls e s.heap)
    (hf : env.frame = some L) (hk : env.scope.kind = .function) (hQ : ∀ h', Thrown outer hb cls e h' → Q () { s with heap := h' }) : wpAny (model prog w) (A.deeper env) (leaving env (.ref e)) Q E s := by
  have K' := K.push F hf hk
  obtain ⟨B, a0, hB, hfl⟩ := x.ex
  refine wpAny_leaves_onW K'.fr hf hfl fun h' x1 x2 => ?_
  exact hQ h' ⟨⟨B, a0, fun b o q => hB b o (less_cons hf F.lo F.all b o q), x1⟩, ((Heap.UpToSlots.of_keeps F.all).trans x.sl).trans x2⟩

/-- the frame goes on, less the frames below: only their slots may have turned -/
theorem Fm.below {hb : Heap} (K : Stk A outer g₀ hb) (F : Fm hb g₀ L m vol (hb.get? TAB) g h) (tT : hb.get? TAB ≠ none) (k : (less outer hb).StaysIn h') (kg : g.StaysIn h') (sl : h.UpToSlots h') : Fm (less outer hb) g₀ L m [] (hb.get? TAB) g h' where
  ns := sl.ns F.ns
  keep := fun b o e _ => k b o e
  lo := by rw [less_size]; exact F.lo
  tlt := by rw [less_size]; exact F.tlt
  tab := by
    cases q : hb.get? TAB with
    | none => exact absurd q tT
    | some t => exact k _ _ (hideAll_get _ q K.nt)
  vv := fun _ hp => (nomatch hp)
  nd := List.nodup_nil
  gh := kg
  gL := F.gL
  gg := ⟨F.gg.sub, fun a ha e => F.gg.new a (fun q => ha (by
    cases q2 : (less outer hb).get? a with
    | none => rfl
    | some o => rw [of_hideAll _ q2] at q; cases q)) e⟩
  gT := F.gT
theorem known_less {hb : Heap} (K : Stk A outer g hb) (gh : g.StaysIn hb) : g.StaysIn (less outer hb) := fun b o e => hideAll_get _ (gh b o e) fun hm => by rw [K.gn _ hm] at e; cases e
end
end Mine
end

/-! ## M3 -/
section
set_option maxRecDepth 100000
set_option maxHeartbeats 4000000
open PySem PySem.W PyProof.Rows PySem.Calls
namespace Mine

section
variable {M : Model} {A : Around} {E : Value → Shared → Prop} {s : Shared} {base : Heap} {env : Env} {outer : List Env} {L e : Addr}

/-- what a first note of a frame leaves: the exception's other fields stand -/
structure Noted1 (base : Heap) (l : List Env) (e : Addr) (cls : Value) (vs : Array Value) (fl : Value) (h h' : Heap) : Prop where
  st : base.StaysIn h'
  ff : h'.FunFrames base l
  ex : ∃ oe T oT ts, h'.get? e = some oe ∧ oe.cls = cls ∧ oe.data = .fields (vs.setIfInBounds 1 (.ref T)) ∧ base.get? T = none ∧ T ≠ e ∧ h'.get? T = some oT ∧ oT.data = .fields ts ∧ ts[3]? = some fl
  sl : h.UpToSlots h'

theorem note_first {oe : Obj} {vs : Array Value} {Q : Unit → Shared → Prop} (hfr : A.frames = some (env :: outer)) (hl : s.heap.FunFrames base (env :: outer)) (hf : env.frame = some L)
    (he : s.heap.get? e = some oe) (hkb : base.StaysIn s.heap) (hen : base.get? e = none) (hd : oe.data = .fields vs) (h1 : vs[1]? = some .none)
    (h : ∀ h', Noted1 base (env :: outer) e oe.cls vs (rawInt L) s.heap h' → Q () { s with heap := h' }) : wpAny M A (noteFrame (.ref e) env) Q E s := by
  have hsz : 1 < vs.size := (Array.getElem?_eq_some_iff.mp h1).1
  have hfe : e ∉ outsOf (env :: outer) := fun hm => by
    obtain ⟨-, o, ho, hnf⟩ := hl.mem hm
    rw [he] at ho; injection ho with ho; subst ho; exact hnf vs hd
  unfold noteFrame
  simp only [hf]
  refine wpAny_bind (wpAny_field he hd h1 ?_)
  rw [if_neg (by decide)]
  refine wpAny_bind (wpAny_frameOf_fun hfr hl hf fun h₁ hs => ?_)
  refine wpAny_bind (wpAny_entryPlaceOf fun pl hpl => ?_)
  unfold EntryCells.newEntry newFields
  refine wpAny_bind (wpAny_newObj_type ?_ (hpl.sizeOk5 _ _ _ _ _))
  have e1 : h₁.get? e = some oe := (hs.2.1 e hfe).trans he
  generalize ht : ({ cls := .type "traceback", dict := none, data := .fields ([Value.none, .ref L, .none, rawInt L, .none] ++ (if pl.isEmpty then List.replicate 6 Value.none else pl)).toArray } : Obj) = tb
  have tf : tb.isFreed = false := by subst ht; rfl
  have e2 : (h₁.push tb).get? e = some oe := Heap.get?_push_of_some _ e1
  refine wpAny_setField e2 hd hsz (h _ ?_)
  have neT : h₁.objs.size ≠ e := Nat.ne_of_gt (Heap.lt_size e1)
  have d3 := Obj.data_mapFields hd (·.setIfInBounds 1 (Value.ref h₁.objs.size))
  have e3 := Heap.get?_update_self (Obj.mapFields (·.setIfInBounds 1 (Value.ref h₁.objs.size))) e2 (Obj.isFreed_of_fields d3)
  have keep : ∀ b o, b ≠ e → h₁.get? b = some o → ((h₁.push tb).update e (Obj.mapFields (·.setIfInBounds 1 (Value.ref h₁.objs.size)))).get? b = some o := fun b o nb q =>
    (Heap.get?_update_other _ _ (Ne.symm nb)).trans (Heap.get?_push_of_some _ q)
  have nrec : ∀ b o, s.heap.get? b = some o → (∀ ws, o.data ≠ .fields ws) → b ≠ e := fun b o q hn z => by
    rw [z, he] at q; injection q with q; subst q; exact hn vs hd
  have sl : s.heap.UpToSlots ((h₁.push tb).update e (Obj.mapFields (·.setIfInBounds 1 (Value.ref h₁.objs.size)))) := fun b o q hn => by
    obtain ⟨x, hx⟩ := hs.2.2 b o q
    exact ⟨x, keep b _ (nrec b o q hn) hx⟩
  have kb : base.StaysIn h₁ := fun b o q => (hs.2.1 b fun hm => by rw [(hl.mem hm).1] at q; cases q).trans (hkb b o q)
  refine ⟨fun b o q => keep b o (fun z => by rw [z, hen] at q; cases q) (kb b o q), FunFrames.slots hl sl, ?_, sl⟩
  refine ⟨_, h₁.objs.size, tb, _, e3, Obj.cls_mapFields _ _, d3, kb.fresh, neT, ?_, by subst ht; rfl, ?_⟩
  · exact (Heap.get?_update_other _ _ (Ne.symm neT)).trans (Heap.get?_push_size _ tf)
  · rcases hpl with rfl | ⟨_, _, _, _, _, _, _, rfl⟩ <;> simp

/-- the flight's mark of a noted exception turns -/
theorem mark_flight {cls : Value} {vs : Array Value} {fl : Value} {fr : Option Addr} {h0 : Heap} {l : List Env} {Q : Unit → Shared → Prop} (hv : 1 < vs.size) (x : Noted1 base l e cls vs fl h0 s.heap)
    (h : ∀ h', Noted1 base l e cls vs (fr.elim .none fun f => rawInt f) h0 h' → Q () { s with heap := h' }) : wpAny M A (setFlight (.ref e) fr) Q E s := by
  obtain ⟨oe, T, oT, ts, he, hc, hd, hT, neT, hoT, hdT, h3⟩ := x.ex
  have hsz3 : 3 < ts.size := (Array.getElem?_eq_some_iff.mp h3).1
  unfold setFlight
  refine wpAny_bind (wpAny_field he hd (x := .ref T) (by simp [hv]) ?_)
  rw [if_pos (show (Value.ref T != Value.none) = true from by simp)]
  have oth : ∀ b, b ≠ T → (s.heap.update T (Obj.mapFields (·.setIfInBounds 3 (fr.elim Value.none fun f => rawInt f)))).get? b = s.heap.get? b := fun b nb => Heap.get?_update_other _ _ (Ne.symm nb)
  have nrec : ∀ b o, s.heap.get? b = some o → (∀ ws, o.data ≠ .fields ws) → b ≠ T := fun b o q hn z => by
    rw [z, hoT] at q; injection q with q; subst q; exact hn ts hdT
  have sl : s.heap.UpToSlots (s.heap.update T (Obj.mapFields (·.setIfInBounds 3 (fr.elim Value.none fun f => rawInt f)))) := fun b o q hn => ⟨o.slots, (oth b (nrec b o q hn)).trans q⟩
  refine wpAny_setField hoT hdT hsz3 (h _ ⟨fun b o q => (oth b fun z => by rw [z, hT] at q; cases q).trans (x.st b o q), FunFrames.slots x.ff sl, ?_, x.sl.trans sl⟩)
  exact ⟨oe, T, _, _, (oth e (Ne.symm neT)).trans he, hc, hd, hT, neT, Heap.get?_update_self _ hoT (Obj.isFreed_of_fields (Obj.data_mapFields hdT _)), Obj.data_mapFields hdT _, by simp [hsz3]⟩

theorem Noted1.held {cls a0 : Value} {vs : Array Value} {h0 h : Heap} {l : List Env} (hv : vs[0]? = some a0) (h2 : 1 < vs.size) (x : Noted1 base l e cls vs (rawInt L) h0 h) (hen : base.get? e = none) : Heap.HeldW base l e cls a0 L h := by
  obtain ⟨oe, T, oT, ts, he, hc, hd, hT, neT, hoT, hdT, h3⟩ := x.ex
  exact ⟨x.st, hen, x.ff, oe, _, T, oT, ts, he, ⟨hc, by rw [Array.getElem?_setIfInBounds_ne (by decide)]; exact hv⟩, hd, by simp [h2], hT, neT, hoT, hdT, h3⟩
end
section
variable {prog : Program} {w : World} {A : Around} {E : Value → Shared → Prop} {s : Shared}
theorem entry_unchain : entryFor table "proto.unchain" = some Builtin.«proto.unchain» := by
  first
  | exact entryFor_of_tree (by kernel_rfl)
  | (decide +kernel)
theorem unchain_end {v : Value} {o : Addr} {oo : Obj} {vs : Array Value} {b : Bool} {Q : Value → Shared → Prop} (ho : s.heap.get? o = some oo) (hd : oo.data = .fields vs) (h2 : vs[2]? = some .none) (h : Q .none s) :
    wpAny (model prog w) A (runValue (.builtin "proto.unchain" ⟨[v, .ref o, .ref o, .bool b], []⟩)) Q E s := by
  refine wpAny_runValue (codeAny_builtin entry_unchain ?_)
  unfold Builtin.«proto.unchain»
  dsimp only
  refine wpAny_bind (wpAny_field ho hd h2 ?_)
  rw [if_pos (by decide)]
  first
  | exact wpAny_pure h
  | (refine wpAny_bind ?_; exact wpAny_pure (wpAny_pure h))
/-- a raise while another is handled: chained to it -/
theorem raiseNew_some {α : Type} {a hv : Addr} {oh oa : Obj} {vs ws : Array Value} {Q : α → Shared → Prop} (hh : A.handled = some (.ref hv)) (hne : hv ≠ a) (ho : s.heap.get? hv = some oh) (hd : oh.data = .fields vs) (h2 : vs[2]? = some .none)
    (ha : s.heap.get? a = some oa) (hda : oa.data = .fields ws) (hsz : 2 < ws.size) (h : E (.ref a) { s with heap := s.heap.update a (Obj.mapFields (·.setIfInBounds 2 (.ref hv))) }) : wpAny (model prog w) A (raiseNew (.ref a) : Sem α) Q E s := by
  unfold raiseNew
  refine wpAny_bind (wpAny_handled ?_)
  rw [hh]
  dsimp only
  rw [if_pos (show (Value.ref hv != Value.ref a) = true from by simp [hne])]
  refine wpAny_bind (wpAny_holding (unchain_end ho hd h2 ?_))
  unfold updateField
  refine wpAny_bind (wpAny_bind (wpAny_load ha ?_))
  rw [hda]
  dsimp only
  rw [if_pos hsz]
  exact wpAny_update ha (wpAny_throw h)
end
end Mine
end

/-! ## M4 -/
section
set_option maxRecDepth 100000
set_option maxHeartbeats 4000000
open PySem PySem.W PyProof.Rows PySem.Calls
namespace Mine

example (w : World) (h : Heap) (X : (hd.heap_39 w.params).In h) : (hd.heap_39 w.params).In h ∧ PySem.Challenge.rw_bs0014_01 = PySem.Challenge.rw_bs0014_01 := by
  k_fill
  exact ⟨X, rfl⟩

section
variable {M : Model} {A : Around} {E : Value → Shared → Prop} {env : Env}
variable {nm q : Str} {C N : Addr} {bs bm : List Value} {hdct : Bool} {sn : List Str} {sub : List Value} {ab : Bool} {col : Option Bool} {dd : Option Addr} {k0 k1 k2 k3 k5 : Option Value} {newId : String}
theorem raiseStmt_gen {s : Shared} {x : Sem Value} {Q : Flow → Shared → Prop} (hbase : bm.contains (.type "BaseException") = true)
    (h : wpAny M A x (fun v s₁ => ∃ e t, v = .ref e ∧ s₁.heap.get? C = some (excClassObj nm q C N bs bm hdct sn sub ab col dd k0 k1 k2 k3 k5 newId) ∧
      s₁.heap.get? e = some { cls := .ref C, data := .fields #[.ref t, .none, .none, .none, .bool false, .none] } ∧ wpAny M A (raiseNew (.ref e) : Sem Flow) Q E s₁) E s) :
    wpAny M A (raiseStmt env (some x) none) Q E s := by
  have hcB : (Value.ref C :: bm).contains (.type "BaseException") = true := by rw [List.contains_cons, hbase, Bool.or_true]
  unfold raiseStmt
  refine wpAny_bind (wpAny_mono h (fun v s₁ h₁ => ?_) fun _ _ z => z)
  obtain ⟨e, t, rfl, hC, he, hE⟩ := h₁
  obtain ⟨hp, g, d, tk, os⟩ := s₁
  repeat (first | with_reducible refine wpAny_loadPart_at he ?_ | with_reducible refine wpAny_loadPart_at hC ?_ | (with_reducible refine wpAny_isSubtype_exc hC ?_; rw [hcB]) | wp_step)
  exact hE
end

section
variable {prog : Program} {w : World} {p : Program} {loose : List Str} {mg mb : Str → Option Value} {A : Around} {E : Value → Shared → Prop} {s : Shared} {R : Result → Shared → Prop}
  {base g₀ g h h' gh0 : Heap} {L : Addr} {m m' : Str → Option Value} {vol : List (Addr × Obj)} {T : Option Obj} {env : Env} {outer : List Env}

theorem own_J (W : WD w p loose mg mb g) : OwnCls "JsonPointerException" 81 [.type "Exception", .type "BaseException", .type "object"] "Exception.__new__" mg g :=
  own_of_in W.k W.t (by k_is) (by k_exc)

theorem raise_J {e₀ : Expr} {np cpos pos : Pos} {Q : Flow → Shared → Prop} (W : WD w p loose mg mb g) (gh : g.StaysIn s.heap)
    (h : wpAny (model prog w) A (spliced (backTo cpos (starEach [e₀] env))) (fun vs s₂ => vs.length ≤ sizeLine ∧ g.StaysIn s₂.heap ∧
      ∀ h' e, Heap.MadeExcOf s₂.heap h' e (.ref 81) vs → wpAny (model prog w) A (raiseNew (.ref e) : Sem Flow) Q E { s₂ with heap := h' }) E s)
    (he : starEach [e₀] env = (false, eval e₀ env) :: starEach [] env := by rfl) (hplain : (backTo cpos (starEach ([] : List Expr) env)).any (·.1) = false := by rfl)
    (hg : env.globals = mainGlobals := by rfl) (hk : env.scope.kind = .function := by rfl) (hx : env.kindOf "JsonPointerException" = some .globalImplicit := by rfl) :
    wpAny (model prog w) A (exec (.Raise (some (.Call (.Name "JsonPointerException" np) [e₀] [] cpos)) none pos) env) Q E s := by
  obtain ⟨tl, N, nm, q, bs, hdct, sn, sub, ab, col, dd, k0, k1, k2, k3, k5, mN, hC, hN, hni, T⟩ := (own_J W).obj
  have FB := PySem.F.excBase_Exception
  rw [arm_exec_Raise]
  have key : ∀ (s : Shared), wpAny (model prog w) A (eval (.Name "JsonPointerException" np) env) (fun f s₁ => f = .ref 81 ∧ wpAny (model prog w) A (spliced (backTo cpos (starEach [e₀] env))) (fun vs s₂ => vs.length ≤ sizeLine ∧ g.StaysIn s₂.heap ∧
      ∀ h' e, Heap.MadeExcOf s₂.heap h' e (.ref 81) vs → wpAny (model prog w) A (raiseNew (.ref e) : Sem Flow) Q E { s₂ with heap := h' }) E s₁) E s →
      wpAny (model prog w) A (eval (.Call (.Name "JsonPointerException" np) [e₀] [] cpos) env) (fun v s₁ => ∃ e t, v = .ref e ∧ s₁.heap.get? 81 = some (excClassObj nm q 81 N bs tl hdct sn sub ab col dd k0 k1 k2 k3 k5 "Exception.__new__") ∧
      s₁.heap.get? e = some { cls := .ref 81, data := .fields #[.ref t, .none, .none, .none, .bool false, .none] } ∧ wpAny (model prog w) A (raiseNew (.ref e) : Sem Flow) Q E s₁) E s := by
    intro s h
    refine wpAny_Call_ofName (wpAny_mono h (fun f s₁ h₁ => ?_) fun _ _ z => z)
    obtain ⟨rfl, h₁⟩ := h₁
    unfold callWith
    rw [he] at h₁ ⊢
    have h₁' : wpAny (model prog w) A (evalArgs (.ref 81) true (backTo cpos ((false, eval e₀ env) :: starEach ([] : List Expr) env)) []) (fun a s₂ => a.kw = [] ∧ a.pos.length ≤ sizeLine ∧ g.StaysIn s₂.heap ∧
      ∀ h' e, Heap.MadeExcOf s₂.heap h' e (.ref 81) a.pos → wpAny (model prog w) A (raiseNew (.ref e) : Sem Flow) Q E { s₂ with heap := h' }) E s₁ :=
      Calls.evalArgs_plain (wpAny_mono h₁ (fun vs s₂ h₃ => ⟨rfl, h₃⟩) fun _ _ z => z)
    refine wpAny_bind (wpAny_holding (wpAny_mono h₁' (fun a s₂ h₂ => wpAny_bind (wpAny_standAt ?_)) fun _ _ z => z))
    obtain ⟨apos, akw⟩ := a
    obtain ⟨hkw, hlen, hgs, h₂⟩ := h₂
    obtain rfl : akw = [] := hkw
    obtain ⟨hp, g', d, tk, os⟩ := s₂
    have hpl : (backTo cpos ((false, eval e₀ env) :: starEach ([] : List Expr) env)).any (·.1) = false := by show (false || (backTo cpos (starEach ([] : List Expr) env)).any (·.1)) = false; rw [hplain]; rfl
    simp only [hpl]
    refine wpAny_bind (wpAny_keeperOf_exc (hgs _ _ hC) ?_)
    refine wpAny_bind (wpAny_call_exc_subT (hrest := hlen) FB (T.keeps hgs) (hgs _ _ hC) (hN.keeps hgs) hni fun h' e hm => wpAny_bind (wpAny_holding (wpAny_point (wpAny_pure ?_))))
    obtain ⟨t, ht, _, _⟩ := hm.there
    exact ⟨e, t, rfl, hm.keeps _ _ (hgs _ _ hC), ht, h₂ h' e hm⟩
  have h0 : wpAny (model prog w) A (eval (.Name "JsonPointerException" np) env) (fun f s₁ => f = .ref 81 ∧ wpAny (model prog w) A (spliced (backTo cpos (starEach [e₀] env))) (fun vs s₂ => vs.length ≤ sizeLine ∧ g.StaysIn s₂.heap ∧
      ∀ h' e, Heap.MadeExcOf s₂.heap h' e (.ref 81) vs → wpAny (model prog w) A (raiseNew (.ref e) : Sem Flow) Q E { s₂ with heap := h' }) E s₁) E s :=
    n_glob W gh (by k_is) ⟨rfl, h⟩ hg hk hx
  first
    | exact wpAny_bind (wpAny_standAt (raiseStmt_gen (C := 81) (T.hasType FB.hasBase) (wpAny_bind (wpAny_mono (key s h0) (fun v s₁ h₁ => wpAny_bind (wpAny_standAt (wpAny_pure h₁))) fun _ _ z => z))))
    | (simp only [evalOpt, Option.map]; exact wpAny_bind (wpAny_standAt (raiseStmt_gen (C := 81) (T.hasType FB.hasBase) (wpAny_bind (wpAny_mono (key s h0) (fun v s₁ h₁ => wpAny_bind (wpAny_standAt (wpAny_pure h₁))) fun _ _ z => z)))))
end
end Mine
end

/-! ## M5 -/
section
set_option maxRecDepth 100000
set_option maxHeartbeats 4000000
open PySem PySem.W PyProof.Rows PySem.Calls
namespace Mine

/-! ### hasattr(.., "__getitem__") of a plain value -/
theorem entry_hasattr : entryFor table "hasattr" = some Builtin.«hasattr» := entryFor_of_tree (by kernel_rfl)
theorem kind_hasattr : builtinKind "hasattr" = none := by decide +kernel
theorem plain_hasattr : plainId "hasattr" = true := by decide +kernel
theorem args_hasattr (a b : Value) : argsOk "hasattr" ⟨[a, b], []⟩ := by unfold argsOk; kernel_rfl
theorem miss_none : typeLookup (.type "NoneType") "__getitem__" = pure none := by rw [typeLookup_type, builtinLookup_eq_fast]; kernel_rfl
theorem miss_bool : typeLookup (.type "bool") "__getitem__" = pure none := by rw [typeLookup_type, builtinLookup_eq_fast]; kernel_rfl
theorem miss_int : typeLookup (.type "int") "__getitem__" = pure none := by rw [typeLookup_type, builtinLookup_eq_fast]; kernel_rfl

section
variable {prog : Program} {w : World} {A : Around} {E : Value → Shared → Prop} {s : Shared} {u : Tok} {Q : Value → Shared → Prop}
theorem gab_none (hA : A.handled = none)
    (h : ∀ h' tk e, Heap.NewExcOf s.heap h' e "AttributeError" → E (.ref e) { s with heap := h', toks := tk }) :
    wpAny (model prog w) A (getAttrBy .none (.str "__getitem__" u) false) Q E s := by
  obtain ⟨hp, g, d, tk, os⟩ := s
  have hT : ∀ s' : Shared, s'.TypeIs (.none) "NoneType" := fun _ => rfl
  have f1 := sub_AttributeError
  have f3 := F.slot_NoneType_getattribute.lookup
  have f4 := F.slot_NoneType_getattribute.bind (.none)
  have f5 := am_none_getattr_none
  unfold getAttrBy
  repeat (any_goals (first | assumption | ((with_reducible show wpAny _ _ (call (Value.builtin "object.__getattribute__") _ _) _ _ _); refine call_meets F.slot_NoneType_getattribute (hT _) F.entry_object_getattribute (F.args_object_getattribute_2 _ _) (meets_getattribute_miss_none _ _ miss_none) ⟨hA, fun h' tk' e hx => ?_⟩) | wp_step))
  obtain ⟨t', u', he⟩ := hx.there
  show wpAny _ _ (getattributeRaised _ _ _ _ _ _ _) _ _ _
  unfold getattributeRaised
  repeat (any_goals (first | assumption | wp_step))
  exact h _ _ _ hx.of
theorem gab_bool {b : Bool} (hA : A.handled = none)
    (h : ∀ h' tk e, Heap.NewExcOf s.heap h' e "AttributeError" → E (.ref e) { s with heap := h', toks := tk }) :
    wpAny (model prog w) A (getAttrBy (.bool b) (.str "__getitem__" u) false) Q E s := by
  obtain ⟨hp, g, d, tk, os⟩ := s
  have hT : ∀ s' : Shared, s'.TypeIs (.bool b) "bool" := fun _ => rfl
  have f1 := sub_AttributeError
  have f3 := F.slot_bool_getattribute.lookup
  have f4 := F.slot_bool_getattribute.bind (.bool b)
  have f5 := am_bool_getattr_none
  unfold getAttrBy
  repeat (any_goals (first | assumption | ((with_reducible show wpAny _ _ (call (Value.builtin "int.__getattribute__") _ _) _ _ _); refine call_meets F.slot_bool_getattribute (hT _) am_entry_int_getattribute (F.args_int_getattribute_2 _ _) (meets_getattribute_miss_bool b _ _ miss_bool) ⟨hA, fun h' tk' e hx => ?_⟩) | wp_step))
  obtain ⟨t', u', he⟩ := hx.there
  show wpAny _ _ (getattributeRaised _ _ _ _ _ _ _) _ _ _
  unfold getattributeRaised
  repeat (any_goals (first | assumption | wp_step))
  exact h _ _ _ hx.of
theorem gab_int {n : Int} {t : Tok} (hA : A.handled = none)
    (h : ∀ h' tk e, Heap.NewExcOf s.heap h' e "AttributeError" → E (.ref e) { s with heap := h', toks := tk }) :
    wpAny (model prog w) A (getAttrBy (.int n t) (.str "__getitem__" u) false) Q E s := by
  obtain ⟨hp, g, d, tk, os⟩ := s
  have hT : ∀ s' : Shared, s'.TypeIs (.int n t) "int" := fun _ => rfl
  have f1 := sub_AttributeError
  have f3 := F.slot_int_getattribute.lookup
  have f4 := F.slot_int_getattribute.bind (.int n t)
  have f5 := am_int_getattr_none
  unfold getAttrBy
  repeat (any_goals (first | assumption | ((with_reducible show wpAny _ _ (call (Value.builtin "int.__getattribute__") _ _) _ _ _); refine call_meets F.slot_int_getattribute (hT _) am_entry_int_getattribute (F.args_int_getattribute_2 _ _) (meets_getattribute_miss_int n t _ _ miss_int) ⟨hA, fun h' tk' e hx => ?_⟩) | wp_step))
  obtain ⟨t', u', he⟩ := hx.there
  show wpAny _ _ (getattributeRaised _ _ _ _ _ _ _) _ _ _
  unfold getattributeRaised
  repeat (any_goals (first | assumption | wp_step))
  exact h _ _ _ hx.of

/-- the plain values that have no items -/
inductive Bare : Value → String → Prop
  | none : Bare .none "NoneType"
  | bool (b) : Bare (.bool b) "bool"
  | int (n t) : Bare (.int n t) "int"
theorem gab_bare {v : Value} {T : String} (hv : Bare v T) (hA : A.handled = none)
    (h : ∀ h' tk e, Heap.NewExcOf s.heap h' e "AttributeError" → E (.ref e) { s with heap := h', toks := tk }) :
    wpAny (model prog w) A (getAttrBy v (.str "__getitem__" u) false) Q E s := by
  cases hv with
  | none => exact gab_none hA h
  | bool b => exact gab_bool hA h
  | int n t => exact gab_int hA h
theorem gabq_bare {v : Value} {T : String} {Q : Option Value → Shared → Prop} (hv : Bare v T) (hA : A.handled = none) (h : ∀ h' tk, (∀ b o, s.heap.get? b = some o → h'.get? b = some o) → Q none { s with heap := h', toks := tk }) :
    wpAny (model prog w) A (getAttrBy? v (.str "__getitem__" u)) Q E s := by
  unfold getAttrBy?
  refine wpAny_bind (wpAny_attempt (gab_bare hv hA fun h' tk e hx => ?_))
  dsimp only
  obtain ⟨ob, vs, he, hc, -, -⟩ := hx.there
  refine wpAny_bind (wpAny_isInstance (T := "AttributeError") (b := true) ⟨ob, he, hc⟩ sub_AttributeError ?_)
  rw [if_pos rfl]
  exact wpAny_pure (h _ _ hx.keeps)
theorem hasattr_bare {v : Value} {T : String} (hv : Bare v T) (hA : A.handled = none) (h : ∀ h' tk, (∀ b o, s.heap.get? b = some o → h'.get? b = some o) → Q (.bool false) { s with heap := h', toks := tk }) :
    wpAny (model prog w) A (call (.builtin "hasattr") [v, .str "__getitem__" u]) Q E s := by
  refine Calls.call_function_entry kind_hasattr plain_hasattr entry_hasattr (args_hasattr _ _) ?_
  unfold Builtin.«hasattr»
  have hty : typeOf v = pure (.type T) := by cases hv <;> rfl
  have hmiss : typeLookup (.type T) "__getitem__" = pure none := by cases hv; exact miss_none; exact miss_bool; exact miss_int
  refine wpAny_bind (m := someArgs "hasattr" 2 2 _) (wpAny_of_eq rfl ?_)
  dsimp only
  refine wpAny_bind (wpAny_of_eq rfl ?_)
  rw [if_neg]
  rotate_left
  · cases hv <;> simp
  refine wpAny_bind (wpAny_of_eq hty ?_)
  dsimp only
  refine wpAny_bind (wpAny_of_eq (a := some (Str.ofString "__getitem__")) rfl ?_)
  dsimp only
  refine wpAny_bind (wpAny_of_eq hmiss ?_)
  dsimp only
  refine wpAny_bind (wpAny_of_eq (a := 0) (by cases hv <;> rfl) ?_)
  rw [if_neg (by decide)]
  refine wpAny_bind (gabq_bare hv hA fun h' tk k => ?_)
  rw [if_neg (by decide)]
  exact wpAny_pure ⟨_, rfl, h _ _ k⟩

/-- type(..) of a plain value -/
theorem type_bare {v : Value} {T : String} (hv : Bare v T) (h : ∀ n, Q (.type T) { s with toks := n }) : wpAny (model prog w) A (call (.type "type") [v]) Q E s := by
  cases hv with
  | none => exact call_type_of (Tx := "NoneType") rfl (by decide +kernel) (h _)
  | bool b => exact call_type_of (Tx := "bool") rfl (by decide +kernel) (h _)
  | int n t => exact call_type_of (Tx := "int") rfl (by decide +kernel) (h _)
theorem type_str {x : Str} {t : Tok} (h : ∀ n, Q (.type "str") { s with toks := n }) : wpAny (model prog w) A (call (.type "type") [.str x t]) Q E s :=
  call_type_of (Tx := "str") rfl (by decide +kernel) (h _)
theorem bare_meta {v : Value} {T : String} (hv : Bare v T) : typeOf (.type T) = pure (.type "type") ∧ (Str.ofString s!"<class '{T}'>").length ≤ 100 := by
  cases hv with
  | none => exact ⟨by kernel_rfl, by decide +kernel⟩
  | bool b => exact ⟨by kernel_rfl, by decide +kernel⟩
  | int n t => exact ⟨by kernel_rfl, by decide +kernel⟩
end

end Mine
end

/-! ## M6 -/
section
set_option maxRecDepth 100000
set_option maxHeartbeats 4000000
open PySem PySem.W PyProof.Rows PySem.Calls
namespace Mine

/-! ### KeyError is made by its base's __new__ -/
theorem key_sub : isSubtype (.type "KeyError") (.type "KeyError") = pure true := by rw [isSubtype_type]; kernel_rfl
theorem key_subL : isSubtype (.type "KeyError") (.type "LookupError") = pure true := by rw [isSubtype_type]; kernel_rfl
theorem key_notAttr : isSubtype (.type "KeyError") (.type "AttributeError") = pure false := by rw [isSubtype_type]; kernel_rfl
theorem key_notName : isSubtype (.type "KeyError") (.type "NameError") = pure false := by rw [isSubtype_type]; kernel_rfl
theorem key_made : Bind.madeHere "BaseException.__new__" (.type "KeyError") = pure () := by kernel_rfl
theorem key_madeBy : Bind.madeBy (.type "KeyError") = pure (some "LookupError.__new__") := by kernel_rfl
theorem key_mro : mroOf (.type "KeyError") = pure [.type "KeyError", .type "LookupError", .type "Exception", .type "BaseException", .type "object"] := by rw [mroOf_type]; kernel_rfl
theorem key_newOk (rest : List Value) : checkBuiltinCall "LookupError.__new__" ⟨.type "KeyError" :: rest, []⟩ = pure () := by kernel_rfl
theorem key_noVector (args : Args) : checkTypeCall "KeyError" args = pure () := by kernel_rfl
theorem key_init : Slot "KeyError" "__init__" "KeyError.__init__" := .of (owner := "KeyError") (n := "__init__") (by rw [typeLookup_type, builtinLookup_eq_fast]; kernel_rfl) (by decide +kernel) (by decide +kernel) (by decide +kernel)
    (by first | exact .inl (by decide +kernel) | exact .inr (by decide +kernel)) (by rw [isSubtype_type]; kernel_rfl)
theorem key_initEntry : entryFor table "KeyError.__init__" = some Builtin.«BaseException.__init__» := entryFor_alias (id' := "BaseException.__init__") (by rw [fastTable_eq_tree]; kernel_rfl) (by first | rfl | decide +kernel) (by decide +kernel) (by rw [fastTable_eq_tree]; kernel_rfl)
theorem key_initSplit : splitId "KeyError.__init__" = some ("KeyError", "__init__") := by kernel_rfl
theorem key_initKind : builtinKind "KeyError.__init__" = some .slot := by kernel_rfl
theorem key_initRow : Manifest.signature? "KeyError.__init__" = some ⟨.positional, "*", "KeyError", .self, [⟨"args", .varPos, false⟩]⟩ := by kernel_rfl

section
variable {prog : Program} {w : World} {A : Around} {E : Value → Shared → Prop} {R : Result → Shared → Prop} {hp : Heap} {g : Array GenState} {d : Drawn} {tk : Nat} {os : OsState}
theorem key_new {rest : List Value}
    (h : R (.ok (.ret (.ref (hp.objs.size + 1)))) ⟨(hp.push { cls := .type "tuple", data := .seq rest.toArray }).push
      { cls := .type "KeyError", data := .fields #[.ref hp.objs.size, .none, .none, .none, .bool false, .none] }, g, d, tk, os⟩)
    (hrest : rest.length ≤ sizeLine) : codeAny (model prog w) A (.builtin "LookupError.__new__" ⟨.type "KeyError" :: rest, []⟩) R ⟨hp, g, d, tk, os⟩ := by
  have hends := F.excCall_LookupError.ends
  have howner := F.excCall_LookupError.owner
  have hsub := key_sub
  have hsubL := key_subL
  have hna := key_notAttr
  have hnn := key_notName
  have hmade := key_made
  refine codeAny_builtinAt F.excCall_LookupError.entry ?_
  unfold Builtin.«BaseException.__new__»
  refine _root_.PySem.wpAt_bind ?_
  show _root_.PySem.wpAt _ _ _ (stack >>= _) _ _ _
  refine _root_.PySem.wpAt_bind (_root_.PySem.wpAt_stack fun p below => _root_.PySem.wpAt_of_wpAny ?_)
  wp_walk
  refine _root_.PySem.wpAt_of_wpAny ?_
  rw [howner]
  wp_walk
  show R _ _
  rw [Heap.size_push]
  exact h
theorem key_check_init {M : Model} {self : Value} {rest : List Value} {Q : Unit → Shared → Prop} (hT : Shared.TypeIs ⟨hp, g, d, tk, os⟩ self "KeyError") (h : Q () ⟨hp, g, d, tk, os⟩) :
    wpAny M A (checkBuiltinCall "KeyError.__init__" ⟨self :: rest, []⟩) Q E ⟨hp, g, d, tk, os⟩ := by
  have hsub := key_sub
  have hshort : ("KeyError" != "*") = true := by decide +kernel
  simp only [checkBuiltinCall, key_initKind, key_initSplit, key_initRow]
  wp_walk
  refine wpAny_onRaise ?_
  rw [show ∀ (a b : String) (n : Nat), Bind.check ⟨.positional, "*", "KeyError", .self, [⟨"args", .varPos, false⟩]⟩ a b n (List.map (fun x => x.fst) ({ pos := self :: rest } : Args).kw) = pure () from
    fun a b n => check_star_args _ _ _ _ _ _]
  exact wpAny_pure h
theorem key_type_call {rest : List Value} {Q : PySem.Fin → Shared → Prop}
    (h : ∀ h' e, Heap.MadeExc hp h' e "KeyError" rest → Q (.done (.ret (.ref e))) ⟨h', g, d, tk, os⟩) (hrest : rest.length ≤ sizeLine) :
    wpAny (model prog w) A (Builtin.«type.__call__» ⟨.type "KeyError" :: rest, []⟩) Q E ⟨hp, g, d, tk, os⟩ := by
  have hnt : (Value.type "KeyError" == Value.type "type") = false := by decide +kernel
  have hcan : ((Manifest.find? "KeyError").bind fun x => List.findSome? (fun t => (Manifest.find? t).bind fun b =>
    if b.noNew = true then some true else if (b.attrs.any fun x => x.fst == "__new__") = true then some false else none) x.mro).getD false = false := by kernel_rfl
  have hchk := key_noVector ⟨rest, []⟩
  have hmro := key_mro
  have hmade := key_madeBy
  wp_walk
  refine codeAny_call_builtin_code (Code.quiet_builtin _ (by decide +kernel)) (wpAny_of_eq (key_newOk rest) ?_)
  refine key_new ?_ hrest
  show wpAny _ _ _ _ _ _
  have hget : ((hp.push { cls := .type "tuple", data := .seq rest.toArray }).push
      { cls := .type "KeyError", data := .fields #[.ref hp.objs.size, .none, .none, .none, .bool false, .none] }).get? (hp.objs.size + 1) = some
      { cls := .type "KeyError", data := .fields #[.ref hp.objs.size, .none, .none, .none, .bool false, .none] } := by heap_get
  refine wpAny_bind (wpAny_isInstance ⟨_, hget, rfl⟩ key_sub ?_)
  wp_step
  refine wpAny_bind (wpAny_holding (wpAny_callSpecial?_slot ⟨_, hget, rfl⟩ key_init (wpAny_call (codeAny_call_builtin key_init.plain key_initEntry (key_check_init ⟨_, hget, rfl⟩ ?_)))))
  wp_walk
  refine h _ _ ⟨fun b o hb => ?_, Heap.get?_none_of_le (Nat.le_succ _), hp.objs.size + 2, ?_, Heap.get?_none_of_le (by omega), ?_⟩
  · rw [Heap.get?_update_other _ _ (Nat.ne_of_gt (Nat.lt_succ_of_lt (Heap.lt_size hb)))]
    exact Heap.get?_push_of_some _ (Heap.get?_push_of_some _ (Heap.get?_push_of_some _ hb))
  · rw [Heap.get?_update_self _ (Heap.get?_push_of_some _ hget) rfl]
    simp only [Heap.size_push]
    rfl
  · rw [Heap.get?_update_other _ _ (show hp.objs.size + 1 ≠ hp.objs.size + 2 by omega)]
    exact Heap.get?_push_at (by simp only [Heap.size_push]) rfl
theorem key_call {rest : List Value} {Q : Value → Shared → Prop}
    (h : ∀ h' e, Heap.MadeExc hp h' e "KeyError" rest → Q (.ref e) ⟨h', g, d, tk, os⟩) (hrest : rest.length ≤ sizeLine) : wpAny (model prog w) A (call (.type "KeyError") rest) Q E ⟨hp, g, d, tk, os⟩ := by
  refine wpAny_call (codeAny_of_tree ?_)
  show wpAny _ _ (again (.builtin "type.__call__" ⟨.type "KeyError" :: rest, []⟩)) _ _ _
  exact wpAny_pure ⟨Code.quiet_builtin _ (by decide +kernel), codeAny_builtin entry_typeCall (key_type_call (fun h' e hm => h h' e hm) hrest)⟩
end
theorem key_raise : ExcRaiseFacts "KeyError" where
  isExc := by rw [isSubtype_type]; kernel_rfl
  plainMeta := by kernel_rfl

section
variable {prog : Program} {w : World} {A : Around} {E : Value → Shared → Prop} {s : Shared} {env : Env}
theorem raise_key {e₀ : Expr} {x : Str} {np cpos pos : Pos} {Q : Flow → Shared → Prop} (hh : A.handled = none)
    (h : wpAny (model prog w) A (eval (.Name x np) env) (fun f s₁ => f = .type "KeyError" ∧ wpAny (model prog w) A (spliced (backTo cpos (starEach [e₀] env))) (fun vs s₂ => vs.length ≤ sizeLine ∧ ∀ h' e, Heap.MadeExc s₂.heap h' e "KeyError" vs → E (.ref e) { s₂ with heap := h' }) E s₁) E s)
    (he : starEach [e₀] env = (false, eval e₀ env) :: starEach [] env := by rfl) (hplain : (backTo cpos (starEach ([] : List Expr) env)).any (·.1) = false := by rfl) :
    wpAny (model prog w) A (exec (.Raise (some (.Call (.Name x np) [e₀] [] cpos)) none pos) env) Q E s := by
  refine wpAny_Raise_made key_raise hh (wpAny_Call_ofName (wpAny_mono h (fun f s₁ h₁ => ?_) fun _ _ z => z))
  obtain ⟨rfl, h₁⟩ := h₁
  rw [he] at h₁ ⊢
  refine callWith_excType (by show (false || (backTo cpos (starEach ([] : List Expr) env)).any (·.1)) = false; rw [hplain]; rfl) (Calls.evalArgs_plain (wpAny_mono h₁ (fun vs s₂ h₂ => ?_) fun _ _ z => z))
  obtain ⟨hlen, h₂⟩ := h₂
  obtain ⟨hp, g, d, tk, os⟩ := s₂
  refine key_call (fun h' e hm => ?_) hlen
  obtain ⟨t, ht, _, _⟩ := hm.there
  exact ⟨e, t, rfl, ht, h₂ h' e hm⟩
end
end Mine
end

/-! ## M7 -/
section
set_option maxRecDepth 100000
set_option maxHeartbeats 4000000
open PySem PySem.W PyProof.Rows PySem.Calls
namespace Mine

section
variable {prog : Program} {w : World} {p : Program} {loose : List Str} {mg mb : Str → Option Value} {A : Around} {E : Value → Shared → Prop} {s : Shared} {R : Result → Shared → Prop}
  {base g₀ g h h' gh0 : Heap} {L : Addr} {m m' : Str → Option Value} {vol : List (Addr × Obj)} {T : Option Obj} {env : Env} {outer : List Env}

theorem six (a b c d e f : Value) : 1 < (#[a, b, c, d, e, f] : Array Value).size ∧ 2 < (#[a, b, c, d, e, f] : Array Value).size := ⟨by simp, by simp⟩
/-- a raise within a handler: the new exception is chained, noted, and leaves the frame -/
theorem raise_chained {α : Type} {e e2 t : Addr} {oh : Obj} {cls : Value} {vs : Array Value} {Q : α → Shared → Prop} (hfr : A.frames = some (env :: outer)) (hf : env.frame = some L)
    (hkb : base.StaysIn s.heap) (hl : s.heap.FunFrames base (env :: outer)) (hne : e ≠ e2) (he : s.heap.get? e = some oh) (hd : oh.data = .fields vs) (h2 : vs[2]? = some .none)
    (hen : base.get? e2 = none) (he2 : s.heap.get? e2 = some { cls := cls, data := .fields #[.ref t, .none, .none, .none, .bool false, .none] })
    (hQ : ∀ h', Heap.FlyingW base outer e2 cls (.ref t) h' → s.heap.UpToSlots h' → R (.error (.ref e2)) { s with heap := h' }) :
    wpAny (model prog w) (A.mark (some (.ref e))) (raiseNew (.ref e2) : Sem α) Q (notedBy (model prog w) (A.mark (some (.ref e))) env (cameBackBy (model prog w) A env
      (fun e s' => wpAny (model prog w) A (leaving env e) (fun _ s'' => R (.error e) s'') (fun e' s'' => R (.error e') s'') s'))) s := by
  refine raiseNew_some rfl hne he hd h2 he2 rfl (six _ _ _ _ _ _).2 ?_
  have d4 : (Obj.mapFields (·.setIfInBounds 2 (.ref e)) ({ cls := cls, data := .fields #[.ref t, .none, .none, .none, .bool false, .none] } : Obj)).data = .fields #[.ref t, .none, .ref e, .none, .bool false, .none] := rfl
  have e4 := Heap.get?_update_self (Obj.mapFields (·.setIfInBounds 2 (.ref e))) he2 (Obj.isFreed_of_fields d4)
  have oth : ∀ b, b ≠ e2 → (s.heap.update e2 (Obj.mapFields (·.setIfInBounds 2 (.ref e)))).get? b = s.heap.get? b := fun b nb => Heap.get?_update_other _ _ (Ne.symm nb)
  have sl4 : s.heap.UpToSlots (s.heap.update e2 (Obj.mapFields (·.setIfInBounds 2 (.ref e)))) := fun b o q hn => ⟨o.slots, (oth b fun z => by rw [z, he2] at q; injection q with q; subst q; exact hn _ rfl).trans q⟩
  show wpAny _ _ (noteFrame (.ref e2) env) _ _ _
  refine note_first (base := base) (outer := outer) (L := L) hfr (FunFrames.slots hl sl4) hf e4 (fun b o q => (oth b fun z => by rw [z, hen] at q; cases q).trans (hkb b o q)) hen d4 rfl fun h₅ x => ?_
  unfold cameBackBy
  obtain ⟨oe, T5, oT, ts, q1, q2, q3, q4, q5, q6, q7, q8⟩ := id x.ex
  refine wpAny_bind (wpAny_field q1 q3 (x := .ref T5) (by simp) ?_)
  rw [if_neg (by simp)]
  refine mark_flight (h0 := s.heap.update e2 (Obj.mapFields (·.setIfInBounds 2 (.ref e)))) (six _ _ _ _ _ _).1 x fun h₆ x6 => ?_
  rw [hf] at x6
  have hheld : Heap.HeldW base (env :: outer) e2 cls (.ref t) L h₆ := x6.held (a0 := .ref t) rfl (six _ _ _ _ _ _).1 hen
  unfold leaving
  refine wpAny_bind (wpAny_noteFrame_againW hf hheld.2.2.2 ?_)
  refine mark_flight (fr := none) (h0 := s.heap.update e2 (Obj.mapFields (·.setIfInBounds 2 (.ref e)))) (six _ _ _ _ _ _).1 x6 fun h₇ x7 => ?_
  obtain ⟨oe7, T7, oT7, ts7, p1, p2, p3, p4, p5, p6, p7, p8⟩ := id x7.ex
  exact hQ h₇ ⟨x7.st, hen, x7.ff.2.2, oe7, _, T7, oT7, ts7, p1, ⟨p2, rfl⟩, p3, by simp, p4, p5, p6, p7, p8⟩ (sl4.trans x7.sl)

/-- an exception of a builtin class, raised in the frame's own try, is caught -/
theorem caught_at {hb : Heap} {e : Addr} {X T' : String} {oe : Obj} {vs : Array Value} {x : Str} {np pos : Pos} {b₀ : Stmt} {suite : List Stmt} {rest : List ExceptHandler} {Q : Flow → Shared → Prop} (W : WD w p loose mg mb g) (K : Stk A outer g₀ hb) (tT : hb.get? TAB ≠ none)
    (F : Fm hb g₀ L m vol (hb.get? TAB) g h) (hf : env.frame = some L) (hk : env.scope.kind = .function) (k : ∀ b o, h.get? b = some o → s.heap.get? b = some o) (en : h.get? e = none) (he : s.heap.get? e = some oe) (hc : oe.cls = .type X) (hda : oe.data = .fields vs) (h1 : vs[1]? = some .none) (h2 : vs[2]? = some .none)
    (ex : nsIn (hd.heap_39 w.params) mainGlobals x = some none) (hv : bootBuiltins x = some (.type T'))
    (hexc : isSubtype (.type T') (.type "BaseException") = pure true) (hnt : isSubtype (.type ((Manifest.find? T').elim "type" fun y => y.metatype)) (.type "tuple") = pure false) (hsub : isSubtype (.type X) (.type T') = pure true)
    (body : ∀ h' tk o', Fm (less outer hb) g₀ L m [] (hb.get? TAB) g h' → (less (env :: outer) h).StaysIn h' → h'.FunFrames (less (env :: outer) h) (env :: outer) → s.heap.UpToSlots h' → h'.get? e = some o' → (∃ ws, o'.data = .fields ws ∧ ws[2]? = some .none) →
      wpAny (model prog w) ((A.deeper env).mark (some (.ref e))) (execs (b₀ :: suite) env) Q (notedBy (model prog w) ((A.deeper env).mark (some (.ref e))) env (cameBackBy (model prog w) (A.deeper env) env E)) { s with heap := h', toks := tk })
    (hL : env.locals = L) (hg : env.globals = mainGlobals) (hbi : env.builtins = builtinsNs) (hx : env.kindOf x = some .globalImplicit) (hdb : (x == ("__debug__" : Str)) = false) (hn : x ≠ "__name__") :
    wpAny (model prog w) (A.deeper env) (noteFrame (.ref e) env)
      (fun _ s₂ => wpAny (model prog w) (A.deeper env) (setFlight (.ref e) none) (fun _ s₃ =>
        wpAny (model prog w) (A.deeper env) (handleBy (.ref e) env (.ExceptHandler (some (.Name x np)) none (b₀ :: suite) pos :: rest)) Q E s₃) E s₂) E s := by
  have K' := K.push F hf hk
  have sz : 1 < vs.size := (Array.getElem?_eq_some_iff.mp h1).1
  have kb : (less (env :: outer) h).StaysIn s.heap := fun b o q => k b o (of_hideAll _ q)
  have hen : (less (env :: outer) h).get? e = none := by
    cases q : (less (env :: outer) h).get? e with
    | none => rfl
    | some o => rw [of_hideAll _ q] at en; cases en
  have hl : s.heap.FunFrames (less (env :: outer) h) (env :: outer) := funFrames_less (K'.ff.of_keeps fun b o q _ => ⟨o, k b o q, rfl⟩)
  have kg : g.StaysIn (less (env :: outer) h) := known_less K' F.gh
  have kl : (less outer hb).StaysIn (less (env :: outer) h) := less_cons hf F.lo F.all
  refine note_first (base := less (env :: outer) h) (outer := outer) (L := L) K'.fr hl hf he kb hen hda h1 fun h₅ x5 => ?_
  refine mark_flight (fr := none) (h0 := s.heap) sz x5 fun h₆ x6 => ?_
  have F6 : Fm (less outer hb) g₀ L m [] (hb.get? TAB) g h₆ := F.below K tT (fun b o q => x6.st b o (kl b o q)) (fun b o q => x6.st b o (kg b o q)) ((Heap.UpToSlots.of_keeps k).trans x6.sl)
  obtain ⟨o6, T6, oT6, ts6, p1, p2, p3, p4, p5, p6, p7, p8⟩ := id x6.ex
  refine wpAny_handleBy_builtin (X := X) (T := T') (b := true) hexc hnt hsub ?_
  refine n_bi (s := { s with heap := h₆ }) W F6.gh ex hv ⟨rfl, ⟨o6, p1, p2.trans hc⟩, ?_⟩ hg hbi hk hx hdb hn
  rw [if_pos rfl]
  have x6' : Noted1 (less (env :: outer) h) (env :: outer) e oe.cls vs .none s.heap ({ s with heap := h₆ } : Shared).heap := x6
  refine mark_flight (fr := none) (h0 := s.heap) sz x6' fun h₇ x7 => ?_
  have F7 : Fm (less outer hb) g₀ L m [] (hb.get? TAB) g h₇ := F.below K tT (fun b o q => x7.st b o (kl b o q)) (fun b o q => x7.st b o (kg b o q)) ((Heap.UpToSlots.of_keeps k).trans x7.sl)
  obtain ⟨o7, T7, oT7, ts7, q1, q2, q3, q4, q5, q6, q7, q8⟩ := id x7.ex
  exact body h₇ s.toks o7 F7 x7.st x7.ff x7.sl q1 ⟨_, q3, by rw [Array.getElem?_setIfInBounds_ne (by decide)]; exact h2⟩
end
end Mine
end

/-! ## M8 -/
section
set_option maxRecDepth 100000
set_option maxHeartbeats 4000000
open PySem PySem.W PyProof.Rows PySem.Calls
namespace Mine

example (w : World) (h : Heap) (X : (hd.heap_39 w.params).In h) : (hd.heap_39 w.params).In h ∧ PySem.Challenge.rw_bs0014_01 = PySem.Challenge.rw_bs0014_01 := by
  k_fill
  exact ⟨X, rfl⟩

section
variable {prog : Program} {w : World} {p : Program} {loose : List Str} {mg mb : Str → Option Value} {A : Around} {E : Value → Shared → Prop} {s : Shared} {R : Result → Shared → Prop}
  {base g₀ g h h' gh0 : Heap} {L : Addr} {m m' : Str → Option Value} {vol : List (Addr × Obj)} {T : Option Obj} {env : Env} {outer : List Env}

/-- a call that throws the text's own exception -/
def Throws (prog : Program) (w : World) (f : Value) (args : List Value) (dn un : Nat) (g : Heap) : Prop :=
  ∀ (A : Around) (s : Shared) (R : Result → Shared → Prop) (outer : List Env), St g s → Room A dn un → Stk A outer g s.heap →
    (∀ e h' tk, Thrown outer s.heap (.ref 81) e h' → R (.error (.ref e)) { s with heap := h', toks := tk }) → codeAny (model prog w) A (.call f ⟨args, []⟩) R s

/-- the steps of the places below a place -/
def tokIn : PyData → Bool
  | .str x => inner4.contains x
  | .int i => decide (0 ≤ i ∧ i < 3)
  | _ => false
theorem tokIn_ok {t : PyData} (h : tokIn t = true) : tokOk t = true := by
  cases t with
  | str x =>
    have : inner4.all (fun x => words.contains x) = true := by decide +kernel
    exact List.all_eq_true.mp this x (by simpa [tokIn] using h)
  | int i => exact h
  | _ => simp [tokIn] at h
theorem noIdx_inner {x : Str} (h : inner4.contains x = true) : noIdx x = true := by
  have : inner4.all (fun x => noIdx x) = true := by decide +kernel
  exact List.all_eq_true.mp this x (by simpa using h)
theorem bare_of {v : Value} {d : PyData} {as : List Addr} (hv : JR prog w g v d as) (h1 : isList d = false) (h2 : isDict d = false) (h3 : isStr d = false) : ∃ T, Bare v T := by
  cases hv with
  | none => exact ⟨_, .none⟩
  | bool b => exact ⟨_, .bool b⟩
  | int i t => exact ⟨_, .int i t⟩
  | str => simp [isStr] at h3
  | list => simp [isList] at h1
  | dict => simp [isDict] at h2

theorem type_of_str : ∃ n : String, typeOf (.type n) = pure (.type "type") ∧ (Str.ofString s!"<class '{n}'>").length ≤ 100 ∧ ∀ (prog : Program) (w : World) (A : Around) (E : Value → Shared → Prop) (s : Shared) (x : Str) (t : Tok) (Q : Value → Shared → Prop),
    (∀ k, Q (.type n) { s with toks := k }) → wpAny (model prog w) A (call (.type "type") [.str x t]) Q E s :=
  ⟨"str", by kernel_rfl, by decide +kernel, fun _ _ _ _ _ _ _ _ h => type_str h⟩
theorem throws_part {v : Value} {d t : PyData} {as : List Addr} {tk0 : Tok} (W : WD w p loose mg mb g) (hv : JR prog w g v d as) (ht : tokIn t = true) (hd1 : isDict d = false) (hl1 : isList d = true → isStr t = true) :
    Throws prog w (.ref 184) [.ref 274, v, .str (tokS t) tk0] 1 80 g := by
  intro A s R outer S Rm K ret
  have htok := tokIn_ok ht
  have hword := tok_word htok
  have hlen : (tokS t).length ≤ 1000000 := by have := (idx_word hword).2; omega
  (refine' enter W S ?ho ?hcd ?hroom ?hb ?hl ?_ ?h1 ?h2 ?h3 ?h4; (case ho => k_is); (case hcd => k_is); (case hroom => (have := Rm.d; omega)); (case hb => exact BindsTo.of_eq rfl); (case h1 => decide); (case h2 => exact rfl); (case h3 => exact rfl); (case h4 => exact rfl); (case hl => exact rfl))
  intro L h₁ tk F0
  obtain ⟨m0, F, md, mp⟩ : ∃ m0, Fm s.heap g L m0 [] (s.heap.get? TAB) g h₁ ∧ m0 (Str.ofString "doc") = some v ∧ m0 (Str.ofString "part") = some (.str (tokS t) tk0) := ⟨_, F0, rfl, rfl⟩
  clear F0
  have hU : A.units + 3 + 64 < cLine := by have := Rm.u; omega
  have X1 := (W.keeps F.gh).k
  refine wpAny_execs_cons ?_
  refine wpAny_If ?_
  refine isTrue_plain ?_
  refine wpAny_Call_ofName (n_bi W F.gh (by k_is) rfl (PyProof.Rows.callWith_builtin1 (spliced_more ?_)))
  refine n_loc F md ?_
  refine spliced_more ?_
  refine n_glob W F.gh (by k_is) ?_
  refine spliced_none ?_
  refine isi_dict hv F.gh fun tk1 => ?_
  refine wpAny_truthy_bool ?_
  rw [hd1, if_neg (by decide)]
  refine wpAny_execs_cons ?_
  refine wpAny_If ?_
  refine isTrue_plain ?_
  refine wpAny_Call_ofName (n_bi W F.gh (by k_is) rfl (PyProof.Rows.callWith_builtin1 (spliced_more ?_)))
  refine n_loc F md ?_
  refine spliced_more ?_
  refine n_bi W F.gh (by k_is) rfl ?_
  refine spliced_none ?_
  refine isi_str hv F.gh fun tk2 => ?_
  refine wpAny_truthy_bool ?_
  cases hs : isStr d with
  | true =>
    rw [if_pos rfl]
    cases hv with
    | str x u =>
      refine wpAny_execs_cons ?_
      refine raise_J W F.gh ?_
      refine spliced_more ?_
      have hlen2 : (tokS t).length ≤ 1000 := by have := (idx_word hword).2; omega
      refine joined fun o1 l1 => ?_
      refine jp_lit l1 (by decide) (by decide +kernel) fun o2 k2 l2 => ?_
      refine jp_fs l2 (by decide) ?_
      refine n_loc F mp ?_
      refine cs_str hlen2 fun t1 k3 => ?_
      refine ⟨tokS t, t1, rfl, hlen2, fun o3 k4 l3 => ?_⟩
      refine jp_lit l3 (by decide) (by decide +kernel) fun o4 k5 l4 => ?_
      refine jp_fs l4 (by decide) ?_
      refine wpAny_Call_ofName (n_bi W F.gh (by k_is) rfl (PyProof.Rows.callWith_type1 (spliced_more ?_)))
      refine n_loc F md ?_
      refine spliced_none ?_
      obtain ⟨nn, hn1, hn2, hn3⟩ := type_of_str
      refine hn3 _ _ _ _ _ _ _ _ fun k6 => ?_
      refine cs_type hn1 hn2 fun x6 t6 k7 l6 => ?_
      refine ⟨x6, t6, rfl, l6, fun o7 k8 l7 => ?_⟩
      refine jp_end l7 (by decide) fun k9 => ?_
      refine spliced_none ⟨by have := sizeLine_eq; simp; omega, F.gh, fun h₃ e hx => ?_⟩
      refine wpAny_raiseNew_none Rm.h ?_
      exact leave_made K F hx rfl rfl fun h₄ x4 => ret e h₄ _ x4
    | _ => simp [isStr] at hs
  | false =>
    rw [if_neg (by decide)]
    refine wpAny_execs_cons ?_
    refine wpAny_If ?_
    refine isTrue_plain ?_
    refine wpAny_Call_ofName (n_bi W F.gh (by k_is) rfl (PyProof.Rows.callWith_builtin1 (spliced_more ?_)))
    refine n_loc F md ?_
    refine spliced_more ?_
    refine n_glob W F.gh (by k_is) ?_
    refine spliced_none ?_
    refine isi_seq hv F.gh X1 fun tk3 => ?_
    refine wpAny_truthy_bool ?_
    cases hl : isList d with
    | true =>
      rw [hs, show (true || false) = true from rfl, if_pos rfl]
      have hstr := hl1 hl
      cases t with
      | str y =>
        refine wpAny_execs_cons ?_
        refine wpAny_If ?_
        refine wpAny_isTrue_Compare1 ?_
        refine n_loc F mp ?_
        refine wpAny_Constant_str ?_
        refine ne_dash hword hU ?_
        refine wpAny_truthy_bool ?_
        rw [if_neg (by decide)]
        refine wpAny_execs_nil ?_
        dsimp only
        refine wpAny_execs_cons ?_
        refine wpAny_If ?_
        refine isTrue_not ?_
        refine isTrue_plain ?_
        refine MethodCall_ ?_
        refine PyProof.Rows.Attribute_name ?_
        refine n_glob W F.gh (by k_is) ?_
        refine cls_value (mc := .type "type") X1 (by k_is) (by k_is) rfl ?_
        obtain ⟨fsP, cP, ocP, vsP, nP, slP, hoP, -⟩ := pat_of X1 (pat_idx w)
        refine getMethod_builtin (T := "re.Pattern") ⟨_, hoP, rfl⟩ RF.plain RF.slot_full RF.type_full (fun a e => by cases e; exact ⟨_, hoP, rfl⟩) ?_
        refine callWith_method1 (spliced_more ?_)
        refine wpAny_Call_ofName (n_bi W F.gh (by k_is) rfl (PyProof.Rows.callWith_type1 (spliced_more ?_)))
        refine n_loc F mp ?_
        refine spliced_none ?_
        refine P.str_of_str ?_
        refine spliced_none ?_
        have hno : noIdx (tokS (.str y)) = true := noIdx_inner ht
        refine call_full_no X1 hno (by have := (idx_word hword).2; omega) ?_
        refine wpAny_pure (a := false) ?_
        rw [show (!false) = true from rfl, if_pos rfl]
        refine wpAny_execs_cons ?_
        refine raise_J W F.gh ?_
        refine spliced_more ?_
        refine wpAny_BinOp ?_
        refine wpAny_Constant_str ?_
        refine n_loc F mp ?_
        refine pct_idx hlen fun z tz kz => ?_
        refine spliced_none ⟨by have := sizeLine_eq; simp; omega, F.gh, fun h₃ e hx => ?_⟩
        refine wpAny_raiseNew_none Rm.h ?_
        exact leave_made K F hx rfl rfl fun h₄ x4 => ret e h₄ _ x4
      | _ => simp [isStr] at hstr
    | false =>
      rw [hs, show (false || false) = false from rfl, if_neg (by decide)]
      obtain ⟨Tn, hb⟩ := bare_of hv hl hd1 hs
      refine wpAny_execs_cons ?_
      refine wpAny_If ?_
      refine isTrue_plain ?_
      refine wpAny_Call_ofName (n_bi W F.gh (by k_is) rfl (PyProof.Rows.callWith_builtin1 (spliced_more ?_)))
      refine n_loc F md ?_
      refine spliced_more ?_
      refine wpAny_Constant_str ?_
      refine spliced_none ?_
      refine hasattr_bare hb Rm.h fun h₂ tk4 k2 => ?_
      refine wpAny_truthy_bool ?_
      rw [if_neg (by decide)]
      have F2 : Fm s.heap g L m0 [] (s.heap.get? TAB) g h₂ := F.more k2 (by
        cases q : h₁.get? TAB with
        | none => exact absurd (F.tab.symm.trans q) S.tT
        | some o => exact k2 _ _ q)
      refine wpAny_execs_cons ?_
      refine raise_J W F2.gh ?_
      refine spliced_more ?_
      refine wpAny_BinOp ?_
      refine wpAny_Constant_str ?_
      refine wpAny_Call_ofName (n_bi W F2.gh (by k_is) rfl (PyProof.Rows.callWith_type1 (spliced_more ?_)))
      refine n_loc F2 md ?_
      refine spliced_none ?_
      refine type_bare hb fun tk5 => ?_
      refine pct_type (bare_meta hb).1 (bare_meta hb).2 fun z tz kz => ?_
      refine spliced_none ⟨by have := sizeLine_eq; simp; omega, F2.gh, fun h₃ e hx => ?_⟩
      refine wpAny_raiseNew_none Rm.h ?_
      exact leave_made K F2 hx rfl rfl fun h₄ x4 => ret e h₄ _ x4
end
end Mine
end

/-! ## M9 -/
section
set_option maxRecDepth 100000
set_option maxHeartbeats 4000000
open PySem PySem.W PyProof.Rows PySem.Calls
namespace Mine

example (w : World) (h : Heap) (X : (hd.heap_39 w.params).In h) : (hd.heap_39 w.params).In h ∧ PySem.Challenge.rw_bs0014_01 = PySem.Challenge.rw_bs0014_01 := by
  k_fill
  exact ⟨X, rfl⟩

section
variable {prog : Program} {w : World} {p : Program} {loose : List Str} {mg mb : Str → Option Value} {A : Around} {E : Value → Shared → Prop} {s : Shared} {R : Result → Shared → Prop}
  {base g₀ g h h' gh0 : Heap} {L : Addr} {m m' : Str → Option Value} {vol : List (Addr × Obj)} {T : Option Obj} {env : Env} {outer : List Env}

/-- get_part gives a member's name back -/
theorem part_dict {v : Value} {kvs : List (PyData × PyData)} {as : List Addr} {y : Str} {tk0 : Tok} (W : WD w p loose mg mb g) (hv : JR prog w g v (.dict kvs) as) :
    DoesC prog w (.ref 184) [.ref 274, v, .str y tk0] 1 80 g fun _ r => ∃ t, r = .str y t := by
  intro A s R S Rm ret
  (refine' enter W S ?ho ?hcd ?hroom ?hb ?hl ?_ ?h1 ?h2 ?h3 ?h4; (case ho => k_is); (case hcd => k_is); (case hroom => (have := Rm.d; omega)); (case hb => exact BindsTo.of_eq rfl); (case h1 => decide); (case h2 => exact rfl); (case h3 => exact rfl); (case h4 => exact rfl); (case hl => exact rfl))
  intro L h₁ tk F0
  obtain ⟨m0, F, md, mp⟩ : ∃ m0, Fm s.heap g L m0 [] (s.heap.get? TAB) g h₁ ∧ m0 (Str.ofString "doc") = some v ∧ m0 (Str.ofString "part") = some (.str y tk0) := ⟨_, F0, rfl, rfl⟩
  clear F0
  refine wpAny_execs_cons ?_
  refine wpAny_If ?_
  refine isTrue_plain ?_
  refine wpAny_Call_ofName (n_bi W F.gh (by k_is) rfl (PyProof.Rows.callWith_builtin1 (spliced_more ?_)))
  refine n_loc F md ?_
  refine spliced_more ?_
  refine n_glob W F.gh (by k_is) ?_
  refine spliced_none ?_
  refine isi_dict hv F.gh fun tk1 => ?_
  refine wpAny_truthy_bool ?_
  rw [show isDict (PyData.dict kvs) = true from rfl, if_pos rfl]
  refine x_ret ?_
  refine n_loc F mp ?_
  exact ret _ _ _ _ F.after ⟨_, rfl⟩

/-- get_part gives an index as a number -/
theorem part_list {v : Value} {xs : List PyData} {as : List Addr} {i : Int} {tk0 : Tok} (W : WD w p loose mg mb g) (hv : JR prog w g v (.list xs) as) (hi : 0 ≤ i ∧ i < 3) :
    DoesC prog w (.ref 184) [.ref 274, v, .str (tokS (.int i)) tk0] 1 80 g fun _ r => ∃ t, r = .int i t := by
  intro A s R S Rm ret
  have htok : tokOk (.int i) = true := by simp only [tokOk, decide_eq_true_eq]; exact hi
  have hword := tok_word htok
  (refine' enter W S ?ho ?hcd ?hroom ?hb ?hl ?_ ?h1 ?h2 ?h3 ?h4; (case ho => k_is); (case hcd => k_is); (case hroom => (have := Rm.d; omega)); (case hb => exact BindsTo.of_eq rfl); (case h1 => decide); (case h2 => exact rfl); (case h3 => exact rfl); (case h4 => exact rfl); (case hl => exact rfl))
  intro L h₁ tk F0
  obtain ⟨m0, F, md, mp⟩ : ∃ m0, Fm s.heap g L m0 [] (s.heap.get? TAB) g h₁ ∧ m0 (Str.ofString "doc") = some v ∧ m0 (Str.ofString "part") = some (.str (tokS (.int i)) tk0) := ⟨_, F0, rfl, rfl⟩
  clear F0
  have hU : A.units + 3 + 64 < cLine := by have := Rm.u; omega
  have X1 := (W.keeps F.gh).k
  refine wpAny_execs_cons ?_
  refine wpAny_If ?_
  refine isTrue_plain ?_
  refine wpAny_Call_ofName (n_bi W F.gh (by k_is) rfl (PyProof.Rows.callWith_builtin1 (spliced_more ?_)))
  refine n_loc F md ?_
  refine spliced_more ?_
  refine n_glob W F.gh (by k_is) ?_
  refine spliced_none ?_
  refine isi_dict hv F.gh fun tk1 => ?_
  refine wpAny_truthy_bool ?_
  rw [show isDict (PyData.list xs) = false from rfl, if_neg (by decide)]
  refine wpAny_execs_cons ?_
  refine wpAny_If ?_
  refine isTrue_plain ?_
  refine wpAny_Call_ofName (n_bi W F.gh (by k_is) rfl (PyProof.Rows.callWith_builtin1 (spliced_more ?_)))
  refine n_loc F md ?_
  refine spliced_more ?_
  refine n_bi W F.gh (by k_is) rfl ?_
  refine spliced_none ?_
  refine isi_str hv F.gh fun tk2 => ?_
  refine wpAny_truthy_bool ?_
  rw [show isStr (PyData.list xs) = false from rfl, if_neg (by decide)]
  refine wpAny_execs_cons ?_
  refine wpAny_If ?_
  refine isTrue_plain ?_
  refine wpAny_Call_ofName (n_bi W F.gh (by k_is) rfl (PyProof.Rows.callWith_builtin1 (spliced_more ?_)))
  refine n_loc F md ?_
  refine spliced_more ?_
  refine n_glob W F.gh (by k_is) ?_
  refine spliced_none ?_
  refine isi_seq hv F.gh X1 fun tk3 => ?_
  refine wpAny_truthy_bool ?_
  rw [show (isList (PyData.list xs) || isStr (PyData.list xs)) = true from rfl, if_pos rfl]
  refine wpAny_execs_cons ?_
  refine wpAny_If ?_
  refine wpAny_isTrue_Compare1 ?_
  refine n_loc F mp ?_
  refine wpAny_Constant_str ?_
  refine ne_dash hword hU ?_
  refine wpAny_truthy_bool ?_
  rw [if_neg (by decide)]
  refine wpAny_execs_nil ?_
  dsimp only
  refine wpAny_execs_cons ?_
  refine wpAny_If ?_
  refine isTrue_not ?_
  refine isTrue_plain ?_
  refine MethodCall_ ?_
  refine PyProof.Rows.Attribute_name ?_
  refine n_glob W F.gh (by k_is) ?_
  refine cls_value (mc := .type "type") X1 (by k_is) (by k_is) rfl ?_
  obtain ⟨fsP, cP, ocP, vsP, nP, slP, hoP, -⟩ := pat_of X1 (pat_idx w)
  refine getMethod_builtin (T := "re.Pattern") ⟨_, hoP, rfl⟩ RF.plain RF.slot_full RF.type_full (fun a e => by cases e; exact ⟨_, hoP, rfl⟩) ?_
  refine callWith_method1 (spliced_more ?_)
  refine wpAny_Call_ofName (n_bi W F.gh (by k_is) rfl (PyProof.Rows.callWith_type1 (spliced_more ?_)))
  refine n_loc F mp ?_
  refine spliced_none ?_
  refine P.str_of_str ?_
  refine spliced_none ?_
  have hidx : isIdx (tokS (.int i)) = true := idx_is hi.1 hi.2
  refine call_full_yes F X1 hidx (by have := (idx_word hword).2; omega) fun am h₂ F₂ ⟨om, eom, com⟩ => ?_
  refine truthy_match eom com ?_
  rw [show (!true) = false from rfl, if_neg (by decide)]
  refine wpAny_execs_nil ?_
  dsimp only
  refine wpAny_execs_cons ?_
  refine wpAny_Try_except ?_
  refine x_ret ?_
  refine wpAny_Call_ofName (n_bi W F₂.gh (by k_is) rfl (PyProof.Rows.callWith_type1 (spliced_more ?_)))
  refine n_loc F₂ mp ?_
  refine spliced_none ?_
  refine KIN.call_num (n := i) hi.1 (by omega) ?_
  exact ret _ _ _ _ F₂.after ⟨_, rfl⟩

/-- the end of a handler that raises anew -/
theorem handler_end {hb h3 : Heap} {e e2 : Addr} {oh : Obj} {vs : List Value} {fs : Array Value} {Q : Flow → Shared → Prop} {s₁ : Heap} {tk : Nat} (K : Stk A outer g₀ hb) (F : Fm hb g₀ L m vol (hb.get? TAB) g h) (hf : env.frame = some L) (hk : env.scope.kind = .function)
    (k : ∀ b o, h.get? b = some o → s₁.get? b = some o) (st : (less (env :: outer) h).StaysIn h') (ff : h'.FunFrames (less (env :: outer) h) (env :: outer)) (sl : s₁.UpToSlots h') (he : h'.get? e = some oh) (hd : oh.data = .fields fs) (h2 : fs[2]? = some .none)
    (hx : Heap.MadeExcOf h' h3 e2 (.ref 81) vs)
    (hQ : ∀ h'', Thrown outer hb (.ref 81) e2 h'' → R (.error (.ref e2)) { s with heap := h'', toks := tk }) :
    wpAny (model prog w) ((A.deeper env).mark (some (.ref e))) (raiseNew (.ref e2) : Sem Flow) Q (notedBy (model prog w) ((A.deeper env).mark (some (.ref e))) env (cameBackBy (model prog w) (A.deeper env) env
      (fun e s' => wpAny (model prog w) (A.deeper env) (leaving env e) (fun _ s'' => R (.error e) s'') (fun e' s'' => R (.error e') s'') s'))) { s with heap := h3, toks := tk } := by
  have K' := K.push F hf hk
  obtain ⟨t, ht, -, -⟩ := hx.there
  refine raise_chained (base := less (env :: outer) h) (outer := outer) (L := L) (t := t) K'.fr hf (fun b o q => hx.keeps _ _ (st b o q)) (ff.of_keeps fun b o q _ => ⟨o, hx.keeps b o q, rfl⟩)
    (fun z => by have := hx.new; rw [← z, he] at this; cases this) (hx.keeps _ _ he) hd h2 ?_ ht fun h₄ x4 u4 => ?_
  · cases q : (less (env :: outer) h).get? e2 with
    | none => rfl
    | some o => have := st _ _ q; rw [hx.new] at this; cases this
  · exact hQ h₄ ⟨⟨_, _, less_cons hf F.lo F.all, x4⟩, (((Heap.UpToSlots.of_keeps fun b o q => k b o (F.all b o q)).trans sl).trans (Heap.UpToSlots.of_keeps hx.keeps)).trans u4⟩
end
end Mine
end

/-! ## N1 -/
section
set_option maxRecDepth 100000
set_option maxHeartbeats 4000000
open PySem PySem.W PyProof.Rows PySem.Calls
namespace Mine

example (w : World) (h : Heap) (X : (hd.heap_39 w.params).In h) : (hd.heap_39 w.params).In h ∧ PySem.Challenge.rw_bs0014_01 = PySem.Challenge.rw_bs0014_01 := by
  k_fill
  exact ⟨X, rfl⟩

section
variable {prog : Program} {w : World} {p : Program} {loose : List Str} {mg mb : Str → Option Value} {A : Around} {E : Value → Shared → Prop} {s : Shared} {R : Result → Shared → Prop}
  {base g₀ g h h' gh0 : Heap} {L : Addr} {m m' : Str → Option Value} {vol : List (Addr × Obj)} {T : Option Obj} {env : Env} {outer : List Env}

theorem valueAt_none {kvs : List (Str × Value)} {ds : List (PyData × PyData)} {k : Str} (ek : ds.map (·.1) = kvs.map (fun q => PyData.str q.1)) (q : findK ds k = none) : valueAt kvs k = none := by
  cases q2 : valueAt kvs k with
  | none => rfl
  | some v =>
    exfalso
    unfold valueAt at q2
    obtain ⟨z, hz, -⟩ := Option.map_eq_some_iff.mp q2
    have hz1 := List.find?_some hz
    have hz2 := List.mem_of_find?_eq_some hz
    simp only [decide_eq_true_eq] at hz1
    have hmem : PyData.str k ∈ ds.map (·.1) := by rw [ek]; exact List.mem_map.mpr ⟨z, hz2, by rw [hz1]⟩
    obtain ⟨z', hz', ez'⟩ := List.mem_map.mp hmem
    unfold findK at q
    simp only [Option.map_eq_none_iff, List.find?_eq_none] at q
    have := q z' hz'
    rw [ez'] at this
    simp at this
theorem notIn_yes {v : Value} {kvs : List (PyData × PyData)} {y : Str} {u : Tok} {as : List Addr} {Q : Value → Shared → Prop} (hv : JR prog w g v (.dict kvs) as) (gh : g.StaysIn s.heap) (he : findK kvs y = none)
    (h : ∀ n, Q (.bool true) { s with toks := n }) : wpAny (model prog w) A (compareOp .NotIn (.str y u) v) Q E s := by
  cases hv with
  | @dict a kvs' ep ds bs n x ek hs =>
    have hm := (dictAt_keeps gh x).dictOf.mapOf
    refine wpAny_notIn_of (k := y) (by show Value.isStrOf y (Value.str y u) = true; simp [Value.isStrOf]) n hm ?_
    rw [valueAt_none ek he]
    exact h _

/-- a step that stands in none of the places below: the name is missing -/
theorem miss_name {kvs : List (PyData × PyData)} {t : PyData} {n : Nat} (hok : okV n (.dict kvs) = true) (ht : tokIn t = true) (he : at1 (.dict kvs) t = none) : findK kvs (tokS t) = none := by
  cases t with
  | str x => exact he
  | int i =>
    cases n with
    | zero => simp [okV] at hok
    | succ n =>
      simp only [okV, Bool.and_eq_true] at hok
      unfold findK
      rw [Option.map_eq_none_iff, List.find?_eq_none]
      intro q hq
      have h1 := List.all_eq_true.mp hok.2 q hq
      simp only [Bool.and_eq_true] at h1
      obtain ⟨a, b⟩ := q
      cases a with
      | str y =>
        have hy : y ∈ inner4 := by simpa [isKey] using h1.1
        simp only [tokIn, decide_eq_true_eq] at ht
        have hi : i = 0 ∨ i = 1 ∨ i = 2 := by omega
        have key : inner4.all (fun z => decide (z ≠ tokS (.int 0)) && decide (z ≠ tokS (.int 1)) && decide (z ≠ tokS (.int 2))) = true := by decide +kernel
        have k1 := List.all_eq_true.mp key y hy
        simp only [Bool.and_eq_true, decide_eq_true_eq] at k1
        have k2 : y ≠ tokS (.int i) := by rcases hi with rfl | rfl | rfl; exact k1.1.1; exact k1.1.2; exact k1.2
        simpa using k2
      | _ => simp
  | _ => simp [tokIn] at ht

theorem throws_walk {v : Value} {a : Addr} {d t : PyData} {as : List Addr} {tk0 : Tok} {n : Nat} (W : WD w p loose mg mb g) (hv : JR prog w g v d as) (hok : okV n d = true) (ht : tokIn t = true) (he : at1 d t = none) :
    Throws prog w (.ref 201) [.ref a, v, .str (tokS t) tk0] 3 100 g := by
  intro A s R outer S Rm K ret
  have hword := tok_word (tokIn_ok ht)
  (refine' enter W S ?ho ?hcd ?hroom ?hb ?hl ?_ ?h1 ?h2 ?h3 ?h4; (case ho => k_is); (case hcd => k_is); (case hroom => (have := Rm.d; omega)); (case hb => exact BindsTo.of_eq rfl); (case h1 => decide); (case h2 => exact rfl); (case h3 => exact rfl); (case h4 => exact rfl); (case hl => exact rfl))
  intro L h₁ tk F0
  obtain ⟨m0, F, md, mp⟩ : ∃ m0, Fm s.heap g L m0 [] (s.heap.get? TAB) g h₁ ∧ m0 (Str.ofString "doc") = some v ∧ m0 (Str.ofString "part") = some (.str (tokS t) tk0) := ⟨_, F0, rfl, rfl⟩
  clear F0
  have R1 : ∀ env, Room (A.deeper env) 1 80 := fun env => (Rm.le (dn' := 2) (un' := 83) (by omega) (by omega)).deeper env
  have X1 := (W.keeps F.gh).k
  refine wpAny_execs_cons ?_
  refine wpAny_Assign_Name ?_
  refine MethodCall_ ?_
  refine n_glob W F.gh (by k_is) ?_
  refine cm_getpart F X1 fun q h₂ F₂ hq hgq hqL => ?_
  have X2 := (W.keeps F₂.gh).k
  refine callWith_M (K := hd.heap_39 w.params) (h₀ := g) (L := L) (news := [(q, methodObj (.ref 184) (.ref 274))]) W.k (fun z hz => by rcases List.mem_cons.mp hz with rfl | hz; exact ⟨hq, hqL, hgq⟩; cases hz) (.head _) (by k_is) (spliced_more ?_)
  refine n_loc F₂ md ?_
  refine spliced_more ?_
  refine n_loc F₂ mp ?_
  refine spliced_none ⟨⟨hq, X2⟩, ?_⟩
  refine wpAny_call (method_call hq ?_)
  by_cases hA : isDict d = false ∧ (isList d = true → isStr t = true)
  · refine throws_part W hv ht hA.1 hA.2 _ _ _ _ (F₂.st S.tT) (R1 _) (K.push F₂ rfl rfl) fun e h₃ tk₃ x3 => ?_
    exact leave_on K F₂ x3 rfl rfl fun h₄ x4 => ret e h₄ _ x4
  cases d with
  | list xs =>
    cases t with
    | int i =>
      simp only [tokIn, decide_eq_true_eq] at ht
      have hlen : xs.length ≤ i.toNat := by
        simp only [at1] at he
        rw [if_pos (by omega)] at he
        exact List.getElem?_eq_none_iff.mp he
      refine part_list W hv ht _ _ _ (F₂.st S.tT) (R1 _) fun r g₃ h₃ tk₃ x ⟨tr, hr⟩ => ?_
      subst hr
      have F₃ := F₂.called S.tT x
      have g03 : g.StaysIn g₃ := x.grow.sub
      dsimp only
      refine s_loc F₃ fun h₄ F₄ => ?_
      dsimp only
      have W₄ := W.keeps g03
      have X4 := (W₄.keeps F₄.gh).k
      have hv4 := hv.keeps g03
      have md4 : (fun y => if y = Str.ofString "part" then some (Value.int i tr) else m0 y) (Str.ofString "doc") = some v := by show (if _ then _ else _) = _; rw [if_neg (by decide)]; exact md
      refine wpAny_execs_cons ?_
      refine wpAny_If ?_
      refine isTrue_plain ?_
      refine wpAny_Call_ofName (n_bi W₄ F₄.gh (by k_is) rfl (PyProof.Rows.callWith_builtin1 (spliced_more ?_)))
      refine n_loc F₄ md4 ?_
      refine spliced_more ?_
      refine n_glob W₄ F₄.gh (by k_is) ?_
      refine spliced_none ?_
      refine isi_seq hv4 F₄.gh X4 fun tk5 => ?_
      refine wpAny_truthy_bool ?_
      rw [show (isList (PyData.list xs) || isStr (PyData.list xs)) = true from rfl, if_pos rfl]
      refine wpAny_execs_cons ?_
      refine wpAny_If ?_
      refine wpAny_isTrue_Compare1 ?_
      refine n_loc F₄ (if_pos rfl) ?_
      refine wpAny_Constant_str ?_
      refine EqMixed.eq_int_str ?_
      refine wpAny_truthy_bool ?_
      rw [if_neg (by decide)]
      refine wpAny_execs_nil ?_
      dsimp only
      refine wpAny_execs_cons ?_
      refine wpAny_Try_except ?_
      refine x_ret ?_
      refine Subscript_ ?_
      refine n_loc F₄ md4 ?_
      refine n_loc F₄ (if_pos rfl) ?_
      cases hv4 with
      | @list l vs _ as' hla hs =>
        have hl := isList_keeps F₄.gh hla
        have hsz : vs.size = xs.length := by rw [← Array.length_toList, hs.length]
        refine tail_any hl.typeIs slot_list_getitem.lookup (wpAny_getItem_list_out Rm.h hl (.inr (by omega)) (by omega) (by omega) fun h₅ tk₅ e hx => ?_) rfl
        obtain ⟨oe, tt, e1, e2, e3⟩ := hx.there
        refine caught_at (X := "IndexError") (T' := "IndexError") W₄ K S.tT F₄ rfl rfl hx.keeps hx.new e1 e2 e3 rfl rfl (by k_is) PyProof.Rows.Boot.«IndexError» PySem.F.isExc_IndexError PySem.F.notTuple_IndexError (by rw [isSubtype_type]; kernel_rfl) ?_ rfl rfl rfl rfl (by decide) (by decide)
        intro h₆ tk₆ o6 F₆ st6 ff6 sl6 he6 ⟨ws6, hd6, hw6⟩
        refine wpAny_execs_cons ?_
        refine raise_J W₄ F₆.gh ?_
        refine spliced_more ?_
        refine joined fun o1 l1 => ?_
        refine jp_lit l1 (by decide) (by decide +kernel) fun o2 k2 l2 => ?_
        refine jp_fs l2 (by decide) ?_
        refine n_loc F₆ (if_pos rfl) ?_
        refine cs_int ht.1 (by omega) fun x3 t3 k3 l3' => ?_
        refine ⟨x3, t3, rfl, l3', fun o3 k4 l3 => ?_⟩
        refine jp_lit l3 (by decide) (by decide +kernel) fun o4 k5 l4 => ?_
        refine jp_end l4 (by decide) fun k9 => ?_
        refine spliced_none ⟨by have := sizeLine_eq; simp; omega, F₆.gh, fun h₇ e₂ hx7 => ?_⟩
        exact handler_end K F₄ rfl rfl hx.keeps st6 ff6 sl6 he6 hd6 hw6 hx7 fun h₈ x8 => ret e₂ h₈ _ x8
    | str x => exact absurd ⟨rfl, fun _ => rfl⟩ hA
    | _ => simp [tokIn] at ht
  | dict kvs =>
    have hmiss := miss_name hok ht he
    refine part_dict W hv _ _ _ (F₂.st S.tT) (R1 _) fun r g₃ h₃ tk₃ x ⟨tr, hr⟩ => ?_
    subst hr
    have F₃ := F₂.called S.tT x
    have g03 : g.StaysIn g₃ := x.grow.sub
    dsimp only
    refine s_loc F₃ fun h₄ F₄ => ?_
    dsimp only
    have W₄ := W.keeps g03
    have X4 := (W₄.keeps F₄.gh).k
    have hv4 := hv.keeps g03
    have md4 : (fun y => if y = Str.ofString "part" then some (Value.str (tokS t) tr) else m0 y) (Str.ofString "doc") = some v := by show (if _ then _ else _) = _; rw [if_neg (by decide)]; exact md
    refine wpAny_execs_cons ?_
    refine wpAny_If ?_
    refine isTrue_plain ?_
    refine wpAny_Call_ofName (n_bi W₄ F₄.gh (by k_is) rfl (PyProof.Rows.callWith_builtin1 (spliced_more ?_)))
    refine n_loc F₄ md4 ?_
    refine spliced_more ?_
    refine n_glob W₄ F₄.gh (by k_is) ?_
    refine spliced_none ?_
    refine isi_seq hv4 F₄.gh X4 fun tk5 => ?_
    refine wpAny_truthy_bool ?_
    rw [show (isList (PyData.dict kvs) || isStr (PyData.dict kvs)) = false from rfl, if_neg (by decide)]
    refine wpAny_execs_nil ?_
    dsimp only
    refine wpAny_execs_cons ?_
    refine wpAny_Try_except ?_
    refine wpAny_execs_cons ?_
    refine wpAny_If ?_
    refine isTrue_and ?_
    refine isTrue_plain ?_
    refine wpAny_Call_ofName (n_bi W₄ F₄.gh (by k_is) rfl (PyProof.Rows.callWith_builtin1 (spliced_more ?_)))
    refine n_loc F₄ md4 ?_
    refine spliced_more ?_
    refine n_glob W₄ F₄.gh (by k_is) ?_
    refine spliced_none ?_
    refine isi_dict hv4 F₄.gh fun tk6 => ?_
    refine wpAny_truthy_bool ?_
    rw [show isDict (PyData.dict kvs) = true from rfl, if_pos rfl]
    refine isTrue_and ?_
    refine wpAny_isTrue_Compare1 ?_
    refine n_loc F₄ (if_pos rfl) ?_
    refine n_loc F₄ md4 ?_
    refine notIn_yes hv4 F₄.gh hmiss fun n7 => ?_
    refine wpAny_truthy_bool ?_
    rw [if_pos rfl]
    refine isTrue_and_nil ?_
    rw [if_pos rfl]
    have hU : A.units + 3 + 64 < cLine := by have := Rm.u; omega
    refine wpAny_execs_cons ?_
    refine raise_key Rm.h ?_
    refine n_bi W₄ F₄.gh (by k_is) PyProof.Rows.Boot.«KeyError» ⟨rfl, ?_⟩
    refine spliced_more ?_
    refine n_loc F₄ (if_pos rfl) ?_
    refine spliced_none ⟨by have := sizeLine_eq; simp; omega, fun h₅ e hx => ?_⟩
    obtain ⟨tt, e1, -, -⟩ := hx.there
    refine caught_at (X := "KeyError") (T' := "KeyError") W₄ K S.tT F₄ rfl rfl hx.keeps hx.new e1 rfl rfl rfl rfl (by k_is) PyProof.Rows.Boot.«KeyError» key_raise.isExc (by first | exact kr_notTuple_KeyError | exact tc_notTuple) key_sub ?_ rfl rfl rfl rfl (by decide) (by decide)
    intro h₆ tk₆ o6 F₆ st6 ff6 sl6 he6 ⟨ws6, hd6, hw6⟩
    refine wpAny_execs_cons ?_
    refine wpAny_If ?_
    refine isTrue_plain ?_
    refine n_glob (v := .bool false) W₄ F₆.gh (by k_is) ?_
    refine wpAny_truthy_bool ?_
    rw [if_neg (by decide)]
    refine wpAny_execs_cons ?_
    refine raise_J W₄ F₆.gh ?_
    refine spliced_more ?_
    refine joined fun o1 l1 => ?_
    refine jp_lit l1 (by decide) (by decide +kernel) fun o2 k2 l2 => ?_
    have hlen2 : (tokS t).length ≤ 1000 := by have := (idx_word hword).2; omega
    refine jp_fs l2 (by decide) ?_
    refine n_loc F₆ (if_pos rfl) ?_
    refine cs_str hlen2 fun t3 k3 => ?_
    refine ⟨tokS t, t3, rfl, hlen2, fun o3 k4 l3 => ?_⟩
    refine jp_lit l3 (by decide) (by decide +kernel) fun o4 k5 l4 => ?_
    refine jp_end l4 (by decide) fun k9 => ?_
    refine spliced_none ⟨by have := sizeLine_eq; simp; omega, F₆.gh, fun h₇ e₂ hx7 => ?_⟩
    exact handler_end K F₄ rfl rfl hx.keeps st6 ff6 sl6 he6 hd6 hw6 hx7 fun h₈ x8 => ret e₂ h₈ _ x8
  | _ => exact absurd ⟨rfl, fun z => by simp [isList] at z⟩ hA
end
end Mine
end

/-! ## N2 -/
section
set_option maxRecDepth 100000
set_option maxHeartbeats 4000000
open PySem PySem.W PyProof.Rows PySem.Calls
namespace Mine
abbrev NOTHING : Addr := 55

example (w : World) (h : Heap) (X : (hd.heap_39 w.params).In h) : (hd.heap_39 w.params).In h ∧ PySem.Challenge.rw_bs0014_01 = PySem.Challenge.rw_bs0014_01 := by
  k_fill
  exact ⟨X, rfl⟩

section
variable {prog : Program} {w : World} {p : Program} {loose : List Str} {mg mb : Str → Option Value} {A : Around} {E : Value → Shared → Prop} {s : Shared} {R : Result → Shared → Prop}
  {base g₀ g h h' gh0 : Heap} {L : Addr} {m m' : Str → Option Value} {vol : List (Addr × Obj)} {T : Option Obj} {env : Env} {outer : List Env}

/-- the text's own exception, come from further in, is caught -/
theorem caught_J {hb : Heap} {e : Addr} {np pos : Pos} {b₀ : Stmt} {suite : List Stmt} {rest : List ExceptHandler} {Q : Flow → Shared → Prop} (W : WD w p loose mg mb g) (K : Stk A outer g₀ hb) (tT : hb.get? TAB ≠ none)
    (F : Fm hb g₀ L m vol (hb.get? TAB) g h) (hf : env.frame = some L) (hk : env.scope.kind = .function) (x : Thrown (env :: outer) h (.ref 81) e s.heap)
    (body : ∀ h' tk, Fm (less outer hb) g₀ L m [] (hb.get? TAB) g h' → hb.UpToSlots h' →
      wpAny (model prog w) ((A.deeper env).mark (some (.ref e))) (execs (b₀ :: suite) env) Q (notedBy (model prog w) ((A.deeper env).mark (some (.ref e))) env (cameBackBy (model prog w) (A.deeper env) env E)) { s with heap := h', toks := tk })
    (hg : env.globals = mainGlobals) (hx : env.kindOf "JsonPointerException" = some .globalImplicit) :
    wpAny (model prog w) (A.deeper env) (noteFrame (.ref e) env)
      (fun _ s₂ => wpAny (model prog w) (A.deeper env) (setFlight (.ref e) none) (fun _ s₃ =>
        wpAny (model prog w) (A.deeper env) (handleBy (.ref e) env (.ExceptHandler (some (.Name "JsonPointerException" np)) none (b₀ :: suite) pos :: rest)) Q E s₃) E s₂) E s := by
  have K' := K.push F hf hk
  obtain ⟨B, a0, hB, hfl⟩ := x.ex
  have kg : g.StaysIn B := fun b o q => hB b o (known_less K' F.gh b o q)
  have kl : (less outer hb).StaysIn B := fun b o q => hB b o (less_cons hf F.lo F.all b o q)
  refine wpAny_looks_onW K'.fr hf hfl fun h₄ x4 u4 => ?_
  refine wpAny_landsW x4 fun h₅ x5 u5 => ?_
  have F5 : Fm (less outer hb) g₀ L m [] (hb.get? TAB) g h₅ := F.below K tT (fun b o q => x5.1 b o (kl b o q)) (fun b o q => x5.1 b o (kg b o q)) ((x.sl.trans u4).trans u5)
  obtain ⟨ob, hob, hobc⟩ := x5.there
  refine wpAny_handleBy_cons (codeAny_handlers_test ?_) (by intro q; cases q)
  refine n_glob (s := { s with heap := h₅ }) W F5.gh (by k_is) ?_ hg hk hx
  obtain ⟨bm, N, nm, qn, bs, hdct, sn, sub, ab, col, dd, k0, k1, k2, k3, k5, mN, hC, hN, hni, TL⟩ := ((own_J W).keeps F5.gh).obj
  refine wpAny_excMatches_sub_self hC hob hobc (TL.hasType rfl) (codeAny_handlers_suite ?_)
  refine lands_againW x5 fun h₆ x6 u6 => ?_
  have F6 : Fm (less outer hb) g₀ L m [] (hb.get? TAB) g h₆ := F.below K tT (fun b o q => x6.1 b o (kl b o q)) (fun b o q => x6.1 b o (kg b o q)) (((x.sl.trans u4).trans u5).trans u6)
  exact body h₆ s.toks F6 ((((Heap.UpToSlots.of_keeps F.all).trans x.sl).trans (u4.trans u5)).trans u6)

/-- a call that ends well, though exceptions flew within -/
def DoesX (prog : Program) (w : World) (f : Value) (args : List Value) (dn un : Nat) (g : Heap) (Post : Value → Prop) : Prop :=
  ∀ (A : Around) (s : Shared) (Q : Value → Shared → Prop) (E : Value → Shared → Prop) (outer : List Env), St g s → Room A dn un → Stk A outer g s.heap →
    (∀ r h' tk, (less outer s.heap).StaysIn h' → s.heap.UpToSlots h' → Post r → Q r { s with heap := h', toks := tk }) → wpAny (model prog w) A (call f args) Q E s

/-- the first step of a way that is missing -/
structure Missing (d : PyData) (ts : List PyData) (k : Nat) : Prop where
  lt : k < ts.length
  ex : ∃ e n, atD d (ts.take k) = some e ∧ okV n e = true ∧ (∀ t, ts[k]? = some t → at1 e t = none ∧ tokIn t = true)

/-- the defaults that the law hands on -/
inductive Dflt (g : Heap) : Value → Prop
  | str (x t) : Dflt g (.str x t)
  | list {l vs} : g.IsList l vs → Dflt g (.ref l)
theorem Dflt.keeps {v : Value} (k : g.StaysIn h) : Dflt g v → Dflt h v
  | .str x t => .str x t
  | .list x => .list (isList_keeps k x)
theorem is_nothing {dv : Value} {Q : Value → Shared → Prop} (hdv : Dflt g dv) (gh : g.StaysIn s.heap) (X : (hd.heap_39 w.params).In s.heap) (h : Q (.bool false) s) : wpAny (model prog w) A (compareOp .Is dv (.ref NOTHING)) Q E s := by
  have e55 : s.heap.get? NOTHING = some { cls := .type "object", dict := none, data := .plain, slots := #[] } := X _ _ (by k_is)
  cases hdv with
  | str x t => exact wpAny_is_other rfl (fun e => nomatch e) h
  | @list l vs hl =>
    obtain ⟨o, eo, co, r⟩ := isList_keeps gh hl
    refine wpAny_is_ref_other (fun z => ?_) eo e55 (by rw [co]; decide) h
    rw [z, e55] at eo
    cases eo
    injection co with co
    exact absurd co (by decide)
theorem Fm.stays_less {hb : Heap} (F : Fm (less outer hb) g₀ L m vol (hb.get? TAB) g h) : (less outer hb).StaysIn h := fun b o e => by
  by_cases q : b = TAB
  · subst q
    rw [F.tab]
    exact of_hideAll _ e
  · exact F.keep b o e q
theorem does_resolve_missing {a : Addr} {v dv : Value} {d : PyData} {as : List Addr} {ts : List PyData} {n k : Nat} (W : WD w p loose mg mb g) (hp : IsPtr w g a (ts.map tokS)) (hv : JR prog w g v d as) (hok : okW n d = true) (hm : Missing d ts k) (hl : ts.length ≤ 5) (hdv : Dflt g dv) :
    DoesX prog w (.ref 139) [.ref a, v, dv] 4 110 g fun r => r = dv := by
  intro A s Q E outer S Rm K ret
  refine wpAny_call ?_
  (refine' enter W S ?ho ?hcd ?hroom ?hb ?hl ?_ ?h1 ?h2 ?h3 ?h4; (case ho => k_is); (case hcd => k_is); (case hroom => (have := Rm.d; omega)); (case hb => exact binds_K (W.keeps S.sub).k rfl (by k_is) rfl rfl rfl); (case h1 => decide); (case h2 => exact rfl); (case h3 => exact rfl); (case h4 => exact rfl); (case hl => exact rfl))
  intro L h₁ tk F0
  obtain ⟨m0, F, ms, md, mv⟩ : ∃ m0, Fm s.heap g L m0 [] (s.heap.get? TAB) g h₁ ∧ m0 (Str.ofString "self") = some (.ref a) ∧ m0 (Str.ofString "doc") = some v ∧ m0 (Str.ofString "default") = some dv := ⟨_, F0, rfl, rfl, rfl⟩
  clear F0
  dsimp only
  have R1 : ∀ env, Room (A.deeper env) 3 107 := fun env => (Rm.le (dn' := 4) (un' := 110) (by omega) (by omega)).deeper env
  have X1 := (W.keeps F.gh).k
  obtain ⟨hk, ek, nk, hek, hokk, hmiss⟩ := hm
  have htk : ts[k]? = some ts[k] := List.getElem?_eq_getElem hk
  obtain ⟨hat, htin⟩ := hmiss _ htk
  refine wpAny_execs_cons ?_
  refine wpAny_For ?_
  refine PyProof.Rows.Attribute_name ?_
  refine n_loc F ms ?_
  refine ptr_parts hp F.gh X1 fun l vs hl1 hs1 => ?_
  have hvl : vs.length = ts.length := by have := hs1.len_eq; simpa using this
  dsimp only
  refine loop_list F S.tT Rm.h hl1 (fun i m₁ g₁ => i ≤ k ∧ ∃ u e₁ bs n', m₁ (Str.ofString "self") = some (.ref a) ∧ m₁ (Str.ofString "default") = some dv ∧ m₁ (Str.ofString "doc") = some u ∧ CtxD prog w g v d as u e₁ bs (ts.take i) ∧ atD d (ts.take i) = some e₁ ∧ okW n' e₁ = true ∧ g.StaysIn g₁) ⟨Nat.zero_le _, v, d, as, n, ms, mv, md, .here hv, rfl, hok, fun _ _ z => z⟩ ?_ ?_
  · rintro i pt m₁ g₁ h₂ tk₂ io E' hi ⟨hik, u, e₁, bs, n', m1, m1d, m2, hc, hd₁, hk', g01⟩ gg F₃
    have hil : i < ts.length := by
      have := (Array.getElem?_eq_some_iff.mp hi).1
      simp at this; omega
    have hti : ts[i]? = some ts[i] := List.getElem?_eq_getElem hil
    obtain ⟨tt, htt⟩ : ∃ tt, pt = .str (tokS ts[i]) tt := by
      have h1 : (ts.map tokS)[i]? = some (tokS ts[i]) := by rw [List.getElem?_map, hti]; rfl
      obtain ⟨tt, h2⟩ := hs1.at h1
      refine ⟨tt, ?_⟩
      rw [List.getElem?_toArray, h2] at hi
      exact (Option.some.inj hi).symm
    subst htt
    have htake := take_snoc hti
    have W₁ := W.keeps g01
    have X₃ := (W₁.keeps F₃.gh).k
    refine wpAny_execs_cons ?_
    refine wpAny_Try_except ?_
    refine wpAny_execs_cons ?_
    refine wpAny_Assign_Name ?_
    refine MethodCall_ ?_
    refine n_loc F₃ (v := .ref a) (by rw [if_neg (by decide)]; exact m1) ?_
    refine ptr_method (hp.keeps g01) F₃.gh X₃ (f := 201) (by k_is) (by k_is) (fun _ _ => rfl) ?_
    refine callWith_K W₁.k (by k_is) (spliced_more ?_)
    refine n_loc F₃ (v := u) (by rw [if_neg (by decide)]; exact m2) ?_
    refine spliced_more ?_
    refine n_loc F₃ (if_pos rfl) ?_
    refine spliced_none ⟨X₃, ?_⟩
    by_cases hlt : i < k
    · obtain ⟨e₂, he₂⟩ : ∃ e₂, at1 e₁ ts[i] = some e₂ := by
        have h1 : ts.take k = ts.take (i + 1) ++ (ts.take k).drop (i + 1) := by
          have := (List.take_append_drop (i + 1) (ts.take k)).symm
          rwa [List.take_take, Nat.min_eq_left (by omega)] at this
        rw [h1] at hek
        obtain ⟨d', h2, -⟩ := atD_app hek
        rw [htake, atD_snoc hd₁] at h2
        exact ⟨d', h2⟩
      refine (does_walk W₁ g01 hc.jr hk' he₂).use F₃ S.tT ((R1 _).le (by decide) (by decide)) fun r g₄ h₄ tk₄ F₄ g34 ⟨as1, c⟩ => ?_
      dsimp only
      refine s_loc F₄ fun h₅ F₅ => ?_
      dsimp only
      refine wpAny_execs_nil ?_
      dsimp only
      refine wpAny_execs_nil ?_
      dsimp only
      refine wpAny_execs_nil ?_
      obtain ⟨-, k', -, hk''⟩ := at1_ok hk' he₂
      refine ⟨_, g₄, h₅, _, rfl, F₅, g34, by omega, r, e₂, as1, k', ?_, ?_, if_pos rfl, ?_, ?_, hk'', fun b o z => g34 b o (g01 b o z)⟩
      · rw [if_neg (by decide), if_neg (by decide)]; exact m1
      · rw [if_neg (by decide), if_neg (by decide)]; exact m1d
      · rw [htake]; exact hc.step hd₁ c
      · rw [htake, atD_snoc hd₁]; exact he₂
    · obtain rfl : i = k := by omega
      rw [hek] at hd₁
      cases hd₁
      refine wpAny_call ?_
      refine throws_walk W₁ (hc.jr.keeps g01) hokk htin hat _ _ _ _ (F₃.st S.tT) ((R1 _).le (by decide) (by decide)) (K.push F₃ rfl rfl) fun e h₄ tk₄ x4 => ?_
      refine caught_J W₁ K S.tT F₃ rfl rfl x4 ?_ rfl rfl
      intro h₅ tk₅ F₅ u5
      refine wpAny_execs_cons ?_
      refine wpAny_If ?_
      refine wpAny_isTrue_Compare1 ?_
      refine n_loc F₅ (v := dv) (by rw [if_neg (by decide)]; exact m1d) ?_
      refine n_glob (v := .ref NOTHING) W₁ F₅.gh (by k_is) ?_
      refine is_nothing (hdv.keeps g01) F₅.gh (W₁.keeps F₅.gh).k ?_
      refine wpAny_truthy_bool ?_
      rw [if_neg (by decide)]
      refine x_ret ?_
      refine n_loc F₅ (v := dv) (by rw [if_neg (by decide)]; exact m1d) ?_
      exact ret dv h₅ _ F₅.stays_less u5 rfl
  · rintro m₁ g₁ h₂ tk₂ ⟨hik, -⟩ gg F₃
    have hsz : vs.toArray.size = ts.length := by simp [hvl]
    omega

theorem does_resolve_pointer_missing {v dv : Value} {d : PyData} {as : List Addr} {way : List PyData} {n k : Nat} {tk0 : Tok} (W : WD w p loose mg mb g) (hw : PathOk way) (hv : JR prog w g v d as) (hok : okW n d = true) (hm : Missing d way k) (hdv : Dflt g dv) :
    DoesX prog w (.ref 71) [v, .str (textOf (way.map tokS)) tk0, dv] 5 140 g fun r => r = dv := by
  intro A s Q E outer S Rm K ret
  refine wpAny_call ?_
  (refine' enter W S ?ho ?hcd ?hroom ?hb ?hl ?_ ?h1 ?h2 ?h3 ?h4; (case ho => k_is); (case hcd => k_is); (case hroom => (have := Rm.d; omega)); (case hb => exact binds_K (W.keeps S.sub).k rfl (by k_is) rfl rfl rfl); (case h1 => decide); (case h2 => exact rfl); (case h3 => exact rfl); (case h4 => exact rfl); (case hl => exact rfl))
  intro L h₁ tk F0
  obtain ⟨m0, F, md, mp, mv⟩ : ∃ m0, Fm s.heap g L m0 [] (s.heap.get? TAB) g h₁ ∧ m0 (Str.ofString "doc") = some v ∧ m0 (Str.ofString "pointer") = some (.str (textOf (way.map tokS)) tk0) ∧ m0 (Str.ofString "default") = some dv := ⟨_, F0, rfl, rfl, rfl⟩
  clear F0
  dsimp only
  have R1 : ∀ env, Room (A.deeper env) 4 137 := fun env => (Rm.le (dn' := 5) (un' := 140) (by omega) (by omega)).deeper env
  have X1 := (W.keeps F.gh).k
  refine wpAny_execs_cons ?_
  refine wpAny_Assign_Name ?_
  refine wpAny_Call_ofName (n_glob W F.gh (by k_is) (callWith_K W.k (by k_is) (spliced_more ?_)))
  refine n_loc F mp ?_
  refine spliced_none ⟨X1, ?_⟩
  refine (does_ptr W hw.words hw.ok (by have := hw.len; simpa using this)).use F S.tT ((R1 _).le (by omega) (by omega)) fun r g₂ h₂ tk₂ F₂ g12 ⟨a, hr, hp, hna⟩ => ?_
  subst hr
  refine s_loc F₂ fun h₃ F₃ => ?_
  dsimp only
  have W₂ := W.keeps g12
  have X3 := (W₂.keeps F₃.gh).k
  refine x_ret ?_
  refine MethodCall_ ?_
  refine n_loc F₃ (if_pos rfl) ?_
  refine ptr_method hp F₃.gh X3 (f := 139) (by k_is) (by k_is) (fun _ _ => rfl) ?_
  refine callWith_K W₂.k (by k_is) (spliced_more ?_)
  refine n_loc F₃ (v := v) (by rw [if_neg (by decide)]; exact md) ?_
  refine spliced_more ?_
  refine n_loc F₃ (v := dv) (by rw [if_neg (by decide)]; exact mv) ?_
  refine spliced_none ⟨X3, ?_⟩
  refine does_resolve_missing W₂ hp (hv.keeps g12) hok hm hw.len (hdv.keeps g12) _ _ _ _ _ (F₃.st S.tT) ((R1 _).le (by omega) (by omega)) (K.push F₃ rfl rfl) fun r h₄ tk₄ st4 sl4 hr => ?_
  dsimp only
  have kl : (less outer s.heap).StaysIn h₄ := fun b o z => st4 b o (less_cons rfl F₃.lo F₃.all b o z)
  exact ret r h₄ _ kl ((Heap.UpToSlots.of_keeps F₃.all).trans sl4) hr
end
end Mine
end

/-! ## N3 -/
section
set_option maxRecDepth 100000
set_option maxHeartbeats 4000000
open PySem PySem.W PyProof.Rows PySem.Calls
namespace Mine

example (w : World) (h : Heap) (X : (hd.heap_39 w.params).In h) : (hd.heap_39 w.params).In h ∧ PySem.Challenge.rw_bs0014_01 = PySem.Challenge.rw_bs0014_01 := by
  k_fill
  exact ⟨X, rfl⟩

section
variable {prog : Program} {w : World} {p : Program} {loose : List Str} {mg mb : Str → Option Value} {A : Around} {E : Value → Shared → Prop} {s : Shared} {R : Result → Shared → Prop}
  {base g₀ g h h' gh0 : Heap} {L : Addr} {m m' : Str → Option Value} {vol : List (Addr × Obj)} {T : Option Obj} {env : Env} {outer : List Env}

/-- set_pointer(doc, pointer, value): in place -/
theorem set_pointer_in {v fv : Value} {d x t f : PyData} {as cs : List Addr} {ts : List PyData} {n : Nat} {tk0 : Tok} (W : WD w p loose mg mb g) (hw : PathOk (ts ++ [t])) (hv : JR prog w g v d as) (hnd : as.Nodup) (hok : okW n d = true) (hn5 : n ≤ 5)
    (hx : atD d (ts ++ [t]) = some x) (hf : JR prog w g fv f cs) (hdis : ∀ b ∈ cs, b ∉ as) :
    ∀ (A : Around) (s : Shared) (Q : Value → Shared → Prop) (E : Value → Shared → Prop), St g s → Room A (n + 6) (4 * n + 140) →
      (∀ (gd hd : Heap) (ap : Addr) (h' : Heap) (tk : Nat), After g s gd hd → ap ∈ as → gd.get? ap ≠ none → (∀ b o, hd.get? b = some o → b ≠ ap → h'.get? b = some o) → h'.get? ap ≠ none →
        (∀ g', (∀ b o, gd.get? b = some o → b ≠ ap → g'.get? b = some o) → g'.get? ap = h'.get? ap → ∃ cs', JR prog w g' v (ed d (ts ++ [t]) f) cs') → Q v { s with heap := h', toks := tk }) →
      wpAny (model prog w) A (call (.ref 63) [v, .str (textOf ((ts ++ [t]).map tokS)) tk0, fv]) Q E s := by
  intro A s Q E S Rm ret
  refine wpAny_call ?_
  (refine' enter W S ?ho ?hcd ?hroom ?hb ?hl ?_ ?h1 ?h2 ?h3 ?h4; (case ho => k_is); (case hcd => k_is); (case hroom => (have := Rm.d; omega)); (case hb => exact binds_K (W.keeps S.sub).k rfl (by k_is) rfl rfl rfl); (case h1 => decide); (case h2 => exact rfl); (case h3 => exact rfl); (case h4 => exact rfl); (case hl => exact rfl))
  intro L h₁ tk F0
  obtain ⟨m0, F, md, mp, mv, mi, mc⟩ : ∃ m0, Fm s.heap g L m0 [] (s.heap.get? TAB) g h₁ ∧ m0 (Str.ofString "doc") = some v ∧ m0 (Str.ofString "pointer") = some (.str (textOf ((ts ++ [t]).map tokS)) tk0) ∧ m0 (Str.ofString "value") = some fv ∧ m0 (Str.ofString "inplace") = some (.bool true) ∧ m0 (Str.ofString "create") = some (.bool false) := ⟨_, F0, rfl, rfl, rfl, rfl, rfl⟩
  clear F0
  dsimp only
  have R1 : ∀ env, Room (A.deeper env) (n + 5) (4 * n + 137) := fun env => (Rm.le (dn' := n + 5 + 1) (un' := 4 * n + 137 + 3) (by omega) (by omega)).deeper env
  have X1 := (W.keeps F.gh).k
  refine wpAny_execs_cons ?_
  refine wpAny_Assign_Name ?_
  refine wpAny_Call_ofName (n_glob W F.gh (by k_is) (callWith_K W.k (by k_is) (spliced_more ?_)))
  refine n_loc F mp ?_
  refine spliced_none ⟨X1, ?_⟩
  refine (does_ptr W hw.words hw.ok (by have := hw.len; simpa using this)).use F S.tT ((R1 _).le (by omega) (by omega)) fun r g₂ h₂ tk₂ F₂ g12 ⟨a, hr, hp, hna⟩ => ?_
  subst hr
  refine s_loc F₂ fun h₃ F₃ => ?_
  dsimp only
  have W₂ := W.keeps g12
  have X3 := (W₂.keeps F₃.gh).k
  refine x_ret ?_
  refine MethodCall_ ?_
  refine n_loc F₃ (if_pos rfl) ?_
  refine ptr_method hp F₃.gh X3 (f := 147) (by k_is) (by k_is) (fun _ _ => rfl) ?_
  refine callWith_K W₂.k (by k_is) (spliced_more ?_)
  refine n_loc F₃ (v := v) (by rw [if_neg (by decide)]; exact md) ?_
  refine spliced_more ?_
  refine n_loc F₃ (v := fv) (by rw [if_neg (by decide)]; exact mv) ?_
  refine spliced_more ?_
  refine n_loc F₃ (v := .bool true) (by rw [if_neg (by decide)]; exact mi) ?_
  refine spliced_more ?_
  refine n_loc F₃ (v := .bool false) (by rw [if_neg (by decide)]; exact mc) ?_
  refine spliced_none ⟨X3, ?_⟩
  refine set_any true W₂ hp (hv.keeps g12) hok hn5 hx (hf.keeps g12) (fun _ => hdis) _ _ _ _ (F₃.st S.tT) ((R1 _).le (by omega) (by omega)) ?_
  intro v' as' gd hd' ap h' tk' i1 _ _ i4 xa hap hg hk hne hj
  obtain ⟨rfl, rfl⟩ := i1 rfl
  dsimp only
  have F₄ := F₃.called S.tT xa
  exact ret gd hd' ap h' tk' F₄.after hap hg hk hne fun g' k1 k2 => let ⟨cs', z, _⟩ := hj g' k1 k2 hnd; ⟨cs', z⟩
end
end Mine
end

/-! ## N4 -/
section
set_option maxRecDepth 100000
set_option maxHeartbeats 4000000
open PySem PySem.W PyProof.Rows PySem.Calls
namespace Mine

example (w : World) (h : Heap) (X : (hd.heap_39 w.params).In h) : (hd.heap_39 w.params).In h ∧ PySem.Challenge.rw_bs0014_01 = PySem.Challenge.rw_bs0014_01 := by
  k_fill
  exact ⟨X, rfl⟩

/-! ### expressions in a frame -/
def Ev (prog : Program) (w : World) (A : Around) (env : Env) (base g₀ : Heap) (L : Addr) (m : Str → Option Value) (vol : List (Addr × Obj)) (T : Option Obj) (gs : Heap) (e : PySem.Expr) (P : Heap → Value → Prop) : Prop :=
  ∀ (g : Heap) (s : Shared) (Q : Value → Shared → Prop) (E : Value → Shared → Prop), gs.StaysIn g → Fm base g₀ L m vol T g s.heap →
    (∀ v g' h' tk, Fm base g₀ L m vol T g' h' → g.StaysIn g' → P g' v → Q v { s with heap := h', toks := tk }) → wpAny (model prog w) A (eval e env) Q E s

def Mono (P : Heap → Value → Prop) : Prop := ∀ g g' v, g.StaysIn g' → P g v → P g' v
/-- the value is the document d -/
def JD (prog : Program) (w : World) (d : PyData) (g : Heap) (v : Value) : Prop := ∃ as, JR prog w g v d as
/-- the value is this one -/
def Is (u : Value) (_ : Heap) (v : Value) : Prop := v = u
/-- the value is this text -/
def Tx (x : Str) (_ : Heap) (v : Value) : Prop := ∃ t, v = .str x t

section
variable {prog : Program} {w : World} {p : Program} {loose : List Str} {mg mb : Str → Option Value} {A : Around} {E : Value → Shared → Prop} {s : Shared} {R : Result → Shared → Prop}
  {base g₀ g h h' gs : Heap} {L : Addr} {m m' : Str → Option Value} {vol : List (Addr × Obj)} {T : Option Obj} {env : Env} {outer : List Env} {P P1 P2 P3 : Heap → Value → Prop}

theorem JD.mono {d : PyData} : Mono (JD prog w d) := fun _ _ _ k ⟨as, x⟩ => ⟨as, x.keeps k⟩
theorem Is.mono {u : Value} : Mono (Is u) := fun _ _ _ _ x => x
theorem Tx.mono {x : Str} : Mono (Tx x) := fun _ _ _ _ x => x

theorem Ev.weak {e : PySem.Expr} (x : Ev prog w A env base g₀ L m vol T gs e P) (k : ∀ g v, gs.StaysIn g → P g v → P1 g v) : Ev prog w A env base g₀ L m vol T gs e P1 := fun g s Q E gg F h =>
  x g s Q E gg F fun v g' h' tk F' gg' p => h v g' h' tk F' gg' (k g' v (fun b o z => gg' b o (gg b o z)) p)
theorem Ev.loc {x : Str} {pos : Pos} {v : Value} (hv : m x = some v) (hL : env.locals = L := by rfl)
    (hk : env.scope.kind = .function := by rfl) (hx : env.kindOf x = some .local := by rfl) (hd : (x == ("__debug__" : Str)) = false := by decide) : Ev prog w A env base g₀ L m vol T gs (.Name x pos) (Is v) := fun g s Q E gg F h =>
  n_loc F hv (h v g s.heap s.toks F (fun _ _ z => z) rfl) hL hk hx hd
/-- a name that holds a document -/
theorem Ev.jd {x : Str} {pos : Pos} {v : Value} {d : PyData} (hv : m x = some v) (hj : JD prog w d gs v) (hL : env.locals = L := by rfl)
    (hk : env.scope.kind = .function := by rfl) (hx : env.kindOf x = some .local := by rfl) (hd : (x == ("__debug__" : Str)) = false := by decide) : Ev prog w A env base g₀ L m vol T gs (.Name x pos) (JD prog w d) :=
  (Ev.loc hv hL hk hx hd).weak fun g v' k e => by rw [show v' = v from e]; exact JD.mono _ _ _ k hj
theorem Ev.call1 {x : Str} {np pos : Pos} {e : PySem.Expr} {f : Value} {dn un : Nat} (W : WD w p loose mg mb gs) (tT : T ≠ none) (Rm : Room A dn un) (hk : keepIn (hd.heap_39 w.params) f = true) (hn : nsIn (hd.heap_39 w.params) mainGlobals x = some (some f))
    (e1 : Ev prog w A env base g₀ L m vol T gs e P1) (D : ∀ g v, gs.StaysIn g → P1 g v → Does prog w f [v] dn un g P)
    (he : starEach [e] env = [(false, eval e env)] := by rfl) (hp : (backTo pos (starEach ([] : List PySem.Expr) env)) = [] := by rfl) (hg : env.globals = mainGlobals := by rfl) (hkk : env.scope.kind = .function := by rfl) (hx : env.kindOf x = some .globalImplicit := by rfl) (hd : (x == ("__debug__" : Str)) = false := by decide) :
    Ev prog w A env base g₀ L m vol T gs (.Call (.Name x np) [e] [] pos) P := fun g s Q E gg F h => by
  have W' := W.keeps gg
  refine wpAny_Call_ofName (n_glob W' F.gh hn (callWith_K W'.k hk (spliced_more ?_ he) he (by rw [hp]; rfl)) hg hkk hx hd)
  refine e1 g s _ _ gg F fun v g' h' tk F' gg' p => ?_
  refine spliced_none (env := env) ⟨(W'.keeps (fun b o z => F'.gh b o (gg' b o z))).k, ?_⟩
  exact (D g' v (fun b o z => gg' b o (gg b o z)) p).use F' tT Rm fun r g₂ h₂ tk₂ F₂ g12 pr => h r g₂ h₂ tk₂ F₂ (fun b o z => g12 b o (gg' b o z)) pr
theorem Ev.call2 {x : Str} {np pos : Pos} {e e' : PySem.Expr} {f : Value} {dn un : Nat} (W : WD w p loose mg mb gs) (tT : T ≠ none) (Rm : Room A dn un) (hk : keepIn (hd.heap_39 w.params) f = true) (hn : nsIn (hd.heap_39 w.params) mainGlobals x = some (some f))
    (e1 : Ev prog w A env base g₀ L m vol T gs e P1) (e2 : Ev prog w A env base g₀ L m vol T gs e' P2) (M1 : Mono P1) (D : ∀ g v v', gs.StaysIn g → P1 g v → P2 g v' → Does prog w f [v, v'] dn un g P)
    (he : starEach [e, e'] env = (false, eval e env) :: starEach [e'] env := by rfl) (he2 : starEach [e'] env = (false, eval e' env) :: starEach [] env := by rfl) (hg : env.globals = mainGlobals := by rfl) (hkk : env.scope.kind = .function := by rfl) (hx : env.kindOf x = some .globalImplicit := by rfl) (hd : (x == ("__debug__" : Str)) = false := by decide) :
    Ev prog w A env base g₀ L m vol T gs (.Call (.Name x np) [e, e'] [] pos) P := fun g s Q E gg F h => by
  have W' := W.keeps gg
  refine wpAny_Call_ofName (n_glob W' F.gh hn (callWith_K W'.k hk (spliced_more ?_ he) he (by rw [he2]; rfl)) hg hkk hx hd)
  refine e1 g s _ _ gg F fun v g' h' tk F' gg' p1 => ?_
  refine spliced_more ?_ he2
  refine e2 g' _ _ _ (fun b o z => gg' b o (gg b o z)) F' fun v' g'' h'' tk'' F'' gg'' p2 => ?_
  have k2 : gs.StaysIn g'' := fun b o z => gg'' b o (gg' b o (gg b o z))
  refine spliced_none (env := env) ⟨(W.keeps (fun b o z => F''.gh b o (k2 b o z))).k, ?_⟩
  exact (D g'' v v' k2 (M1 _ _ _ gg'' p1) p2).use F'' tT Rm fun r g₂ h₂ tk₂ F₂ g12 pr => h r g₂ h₂ tk₂ F₂ (fun b o z => g12 b o (gg'' b o (gg' b o z))) pr
theorem Ev.call3 {x : Str} {np pos : Pos} {e e' e'' : PySem.Expr} {f : Value} {dn un : Nat} (W : WD w p loose mg mb gs) (tT : T ≠ none) (Rm : Room A dn un) (hk : keepIn (hd.heap_39 w.params) f = true) (hn : nsIn (hd.heap_39 w.params) mainGlobals x = some (some f))
    (e1 : Ev prog w A env base g₀ L m vol T gs e P1) (e2 : Ev prog w A env base g₀ L m vol T gs e' P2) (e3 : Ev prog w A env base g₀ L m vol T gs e'' P3) (M1 : Mono P1) (M2 : Mono P2) (D : ∀ g v v' v'', gs.StaysIn g → P1 g v → P2 g v' → P3 g v'' → Does prog w f [v, v', v''] dn un g P)
    (he : starEach [e, e', e''] env = (false, eval e env) :: starEach [e', e''] env := by rfl) (he2 : starEach [e', e''] env = (false, eval e' env) :: starEach [e''] env := by rfl) (he3 : starEach [e''] env = (false, eval e'' env) :: starEach [] env := by rfl)
    (hg : env.globals = mainGlobals := by rfl) (hkk : env.scope.kind = .function := by rfl) (hx : env.kindOf x = some .globalImplicit := by rfl) (hd : (x == ("__debug__" : Str)) = false := by decide) :
    Ev prog w A env base g₀ L m vol T gs (.Call (.Name x np) [e, e', e''] [] pos) P := fun g s Q E gg F h => by
  have W' := W.keeps gg
  refine wpAny_Call_ofName (n_glob W' F.gh hn (callWith_K W'.k hk (spliced_more ?_ he) he (by rw [he2, he3]; rfl)) hg hkk hx hd)
  refine e1 g s _ _ gg F fun v g' h' tk F' gg' p1 => ?_
  refine spliced_more ?_ he2
  refine e2 g' _ _ _ (fun b o z => gg' b o (gg b o z)) F' fun v' g'' h'' tk'' F'' gg'' p2 => ?_
  refine spliced_more ?_ he3
  refine e3 g'' _ _ _ (fun b o z => gg'' b o (gg' b o (gg b o z))) F'' fun v'' g3 h3 tk3 F3 gg3 p3 => ?_
  have k2 : gs.StaysIn g3 := fun b o z => gg3 b o (gg'' b o (gg' b o (gg b o z)))
  refine spliced_none (env := env) ⟨(W.keeps (fun b o z => F3.gh b o (k2 b o z))).k, ?_⟩
  exact (D g3 v v' v'' k2 (M1 _ _ _ gg3 (M1 _ _ _ gg'' p1)) (M2 _ _ _ gg3 p2) p3).use F3 tT Rm fun r g₂ h₂ tk₂ F₂ g12 pr => h r g₂ h₂ tk₂ F₂ (fun b o z => g12 b o (gg3 b o (gg'' b o (gg' b o z)))) pr
/-- a call with inplace=False -/
theorem Ev.call3k {x : Str} {np pos kp cp : Pos} {ck : Nat} {e e' e'' : PySem.Expr} {f : Value} {dn un : Nat} (W : WD w p loose mg mb gs) (tT : T ≠ none) (Rm : Room A dn un) (hk : keepIn (hd.heap_39 w.params) f = true) (hn : nsIn (hd.heap_39 w.params) mainGlobals x = some (some f))
    (e1 : Ev prog w A env base g₀ L m vol T gs e P1) (e2 : Ev prog w A env base g₀ L m vol T gs e' P2) (e3 : Ev prog w A env base g₀ L m vol T gs e'' P3) (M1 : Mono P1) (M2 : Mono P2) (D : ∀ g v v' v'', gs.StaysIn g → P1 g v → P2 g v' → P3 g v'' → DoesKw prog w f [v, v', v''] [(Str.ofString "inplace", .bool false)] dn un g P)
    (he : starEach [e, e', e''] env = (false, eval e env) :: starEach [e', e''] env := by rfl) (he2 : starEach [e', e''] env = (false, eval e' env) :: starEach [e''] env := by rfl) (he3 : starEach [e''] env = (false, eval e'' env) :: starEach [] env := by rfl)
    (hg : env.globals = mainGlobals := by rfl) (hkk : env.scope.kind = .function := by rfl) (hx : env.kindOf x = some .globalImplicit := by rfl) (hd : (x == ("__debug__" : Str)) = false := by decide) :
    Ev prog w A env base g₀ L m vol T gs (.Call (.Name x np) [e, e', e''] [{ arg := some (Str.ofString "inplace"), value := .Constant (.bool false) ck cp, pos := kp }] pos) P := fun g s Q E gg F h => by
  have W' := W.keeps gg
  refine wpAny_Call_ofName (n_glob W' F.gh hn (callWith_KW W'.k hk rfl (spliced_more ?_ he) (by rw [he, he2, he3]; rfl) he) hg hkk hx hd)
  refine e1 g s _ _ gg F fun v g' h' tk F' gg' p1 => ?_
  refine spliced_more ?_ he2
  refine e2 g' _ _ _ (fun b o z => gg' b o (gg b o z)) F' fun v' g'' h'' tk'' F'' gg'' p2 => ?_
  refine spliced_more ?_ he3
  refine e3 g'' _ _ _ (fun b o z => gg'' b o (gg' b o (gg b o z))) F'' fun v'' g3 h3 tk3 F3 gg3 p3 => ?_
  have k2 : gs.StaysIn g3 := fun b o z => gg3 b o (gg'' b o (gg' b o (gg b o z)))
  refine spliced_none (env := env) ?_
  show wpAny _ _ (evalAll [do let v ← eval (.Constant (.bool false) ck cp) env; standAt pos; pure v]) _ _ _
  refine wpAny_evalAll_cons ?_
  refine wpAny_bind (wpAny_Constant_bool ?_)
  refine wpAny_bind (wpAny_standAt (wpAny_pure ?_))
  refine wpAny_evalAll_nil ?_
  refine ⟨(W.keeps (fun b o z => F3.gh b o (k2 b o z))).k, ?_⟩
  exact (D g3 v v' v'' k2 (M1 _ _ _ gg3 (M1 _ _ _ gg'' p1)) (M2 _ _ _ gg3 p2) p3).use F3 tT Rm fun r g₂ h₂ tk₂ F₂ g12 pr => h r g₂ h₂ tk₂ F₂ (fun b o z => g12 b o (gg3 b o (gg'' b o (gg' b o z)))) pr
end
end Mine
end

/-! ## N5 -/
section
set_option maxRecDepth 100000
set_option maxHeartbeats 4000000
open PySem PySem.W PyProof.Rows PySem.Calls
namespace Mine

example (w : World) (h : Heap) (X : (hd.heap_39 w.params).In h) : (hd.heap_39 w.params).In h ∧ PySem.Challenge.rw_bs0014_01 = PySem.Challenge.rw_bs0014_01 := by
  k_fill
  exact ⟨X, rfl⟩

/-- the value is this number -/
def In (i : Int) (_ : Heap) (v : Value) : Prop := ∃ t, v = .int i t

section
variable {prog : Program} {w : World} {p : Program} {loose : List Str} {mg mb : Str → Option Value} {A : Around} {E : Value → Shared → Prop} {s : Shared} {R : Result → Shared → Prop}
  {base g₀ g h h' gs : Heap} {L : Addr} {m m' : Str → Option Value} {vol : List (Addr × Obj)} {T : Option Obj} {env : Env} {outer : List Env} {P P1 P2 P3 : Heap → Value → Prop}

theorem In.mono {i : Int} : Mono (In i) := fun _ _ _ _ x => x
theorem Ev.go {e : PySem.Expr} {Q : Value → Shared → Prop} (x : Ev prog w A env base g₀ L m vol T gs e P) (gg : gs.StaysIn g) (F : Fm base g₀ L m vol T g s.heap) (h : ∀ v g' h' tk, Fm base g₀ L m vol T g' h' → g.StaysIn g' → P g' v → Q v { s with heap := h', toks := tk }) :
    wpAny (model prog w) A (eval e env) Q E s := x g s Q E gg F h
/-- known from later on -/
theorem Ev.later {gs' : Heap} {e : PySem.Expr} (x : Ev prog w A env base g₀ L m vol T gs e P) (k : gs.StaysIn gs') : Ev prog w A env base g₀ L m vol T gs' e P := fun g s Q E gg F h => x g s Q E (fun b o z => gg b o (k b o z)) F h
theorem Ev.cell {x : Str} {pos : Pos} {v : Value} {c : Addr} {o : Obj} (hm : (c, o) ∈ vol) (ho : o.data = .cell (some v)) (hc : env.cells.lookup x = some c)
    (hk : env.scope.kind = .function := by rfl) (hx : env.kindOf x = some .cell := by rfl) (hd : (x == ("__debug__" : Str)) = false := by decide) : Ev prog w A env base g₀ L m vol T gs (.Name x pos) (Is v) := fun g s Q E gg F h =>
  n_cell' F hm ho hc (h v g s.heap s.toks F (fun _ _ z => z) rfl) hk hx hd
theorem Ev.int {i : Int} {k : Nat} {pos : Pos} : Ev prog w A env base g₀ L m vol T gs (.Constant (.int i) k pos) (In i) := fun g s Q E gg F h =>
  wpAny_Constant_int (h _ g s.heap _ F (fun _ _ z => z) ⟨_, rfl⟩)
theorem Ev.text {x : Str} {k : Nat} {pos : Pos} : Ev prog w A env base g₀ L m vol T gs (.Constant (.str x) k pos) (Tx x) := fun g s Q E gg F h =>
  wpAny_Constant_str (h _ g s.heap _ F (fun _ _ z => z) ⟨_, rfl⟩)
theorem Ev.add {e f : PySem.Expr} {i j : Int} {pos : Pos} (x : Ev prog w A env base g₀ L m vol T gs e (In i)) (y : Ev prog w A env base g₀ L m vol T gs f (In j)) : Ev prog w A env base g₀ L m vol T gs (.BinOp e .Add f pos) (In (i + j)) := fun g s Q E gg F h => by
  refine wpAny_BinOp (x g s _ _ gg F fun v g' h' tk F' gg' ⟨t, ev⟩ => ?_)
  subst ev
  refine y g' _ _ _ (fun b o z => gg' b o (gg b o z)) F' fun v' g'' h'' tk'' F'' gg'' ⟨t', ev'⟩ => ?_
  subst ev'
  exact add_int (h _ g'' h'' _ F'' (fun b o z => gg'' b o (gg' b o z)) ⟨_, rfl⟩)
theorem Ev.fdiv {e f : PySem.Expr} {i j : Int} {pos : Pos} (x : Ev prog w A env base g₀ L m vol T gs e (In i)) (y : Ev prog w A env base g₀ L m vol T gs f (In j)) (hj : j ≠ 0) (hp : Builtin.divisionGoesByPylong i j = false := by first | exact PyProof.noPylong_of_log2 (by decide +kernel) | exact PyProof.noPylong_small (by omega)) :
    Ev prog w A env base g₀ L m vol T gs (.BinOp e .FloorDiv f pos) (In (i.fdiv j)) := fun g s Q E gg F h => by
  refine wpAny_BinOp (x g s _ _ gg F fun v g' h' tk F' gg' ⟨t, ev⟩ => ?_)
  subst ev
  refine y g' _ _ _ (fun b o z => gg' b o (gg b o z)) F' fun v' g'' h'' tk'' F'' gg'' ⟨t', ev'⟩ => ?_
  subst ev'
  exact floordiv_int hj (h _ g'' h'' _ F'' (fun b o z => gg'' b o (gg' b o z)) ⟨_, rfl⟩) (.inl hp)
theorem Ev.fmod {e f : PySem.Expr} {i j : Int} {pos : Pos} (x : Ev prog w A env base g₀ L m vol T gs e (In i)) (y : Ev prog w A env base g₀ L m vol T gs f (In j)) (hj : j ≠ 0) :
    Ev prog w A env base g₀ L m vol T gs (.BinOp e .Mod f pos) (In (i.fmod j)) := fun g s Q E gg F h => by
  refine wpAny_BinOp (x g s _ _ gg F fun v g' h' tk F' gg' ⟨t, ev⟩ => ?_)
  subst ev
  refine y g' _ _ _ (fun b o z => gg' b o (gg b o z)) F' fun v' g'' h'' tk'' F'' gg'' ⟨t', ev'⟩ => ?_
  subst ev'
  exact mod_int' hj (h _ g'' h'' _ F'' (fun b o z => gg'' b o (gg' b o z)) ⟨_, rfl⟩)
/-- len of a list -/
theorem Ev.len {e : PySem.Expr} {np pos : Pos} {xs : List PyData} (W : WD w p loose mg mb gs) (x : Ev prog w A env base g₀ L m vol T gs e (JD prog w (.list xs))) (hlen : xs.length ≤ 1000000)
    (he : starEach [e] env = (false, eval e env) :: starEach [] env := by rfl) (hg : env.globals = mainGlobals := by rfl) (hb : env.builtins = builtinsNs := by rfl) (hkk : env.scope.kind = .function := by rfl) (hx : env.kindOf "len" = some .globalImplicit := by rfl) :
    Ev prog w A env base g₀ L m vol T gs (.Call (.Name "len" np) [e] [] pos) (In xs.length) := fun g s Q E gg F h => by
  have W' := W.keeps gg
  refine wpAny_Call_ofName (n_bi W' F.gh (by k_is) rfl (PyProof.Rows.callWith_builtin1 (spliced_more ?_ he) he rfl) hg hb hkk hx)
  refine x g s _ _ gg F fun v g' h' tk F' gg' ⟨as, j⟩ => ?_
  cases j with
  | @list l vs _ as' hl hs =>
    have hz : vs.size = xs.length := by rw [← Array.length_toList, hs.length]
    refine spliced_none (env := env) (len_list (F'.isList hl) (by rw [hz]; omega) ?_)
    rw [hz]
    exact h _ g' h' _ F' gg' ⟨_, rfl⟩
/-- _law_number of the script -/
theorem Ev.num {l : Addr} {ns : List Int} {c : Int} {np sp cp pos : Pos} {ck : Nat} {cA : Addr} {o : Obj} (W : WD w p loose mg mb gs) (tT : T ≠ none) (Rm : Room A 10 200) (hs : Scr gs l ns) (hc0 : -1000000 < c ∧ c < 1000000)
    (hm : (cA, o) ∈ vol) (ho : o.data = .cell (some (.ref l))) (hc : env.cells.lookup ("script" : Str) = some cA)
    (hg : env.globals = mainGlobals := by rfl) (hkk : env.scope.kind = .function := by rfl) (hx : env.kindOf "_law_number" = some .globalImplicit := by rfl) (hx2 : env.kindOf "script" = some .cell := by rfl) :
    Ev prog w A env base g₀ L m vol T gs (.Call (.Name "_law_number" np) [.Name "script" sp, .Constant (.int c) ck cp] [] pos) (In (num ns c)) :=
  Ev.call2 (f := .ref 299) (P1 := Is (.ref l)) (P2 := In c) W tT (Rm.le (dn' := 1) (un' := 8) (by omega) (by omega)) (by k_is) (by k_is) (Ev.cell hm ho hc hkk hx2) Ev.int Is.mono
    (fun g v v' k e1 ⟨t, e2⟩ => by rw [show v = _ from e1, e2]; exact does_number (W.keeps k) (hs.keeps k) hc0) rfl rfl hg hkk hx
/-- p[:u] -/
theorem Ev.upto {e u : PySem.Expr} {pp pos : Pos} {xs : List PyData} {i : Nat} (tT : T ≠ none) (x : Ev prog w A env base g₀ L m vol T gs e (JD prog w (.list xs))) (y : Ev prog w A env base g₀ L m vol T gs u (In i)) (hlen : xs.length ≤ 1000000) :
    Ev prog w A env base g₀ L m vol T gs (.Subscript e (.Slice none (some u) none pp) pos) (JD prog w (.list (xs.take i))) := fun g s Q E gg F h => by
  refine sub_slice ?_
  refine x g s _ _ gg F fun v g' h' tk F' gg' ⟨as, j⟩ => ?_
  refine evalPart_none_step (evalPart_some_step ?_)
  refine y g' _ _ _ (fun b o z => gg' b o (gg b o z)) F' fun v' g'' h'' tk'' F'' gg'' ⟨t', ev'⟩ => ?_
  subst ev'
  cases j with
  | @list l vs _ as' hl hs =>
    have hz : vs.size = xs.length := by rw [← Array.length_toList, hs.length]
    refine ⟨l, vs, none, some (i : Int), rfl, F''.isList (isList_keeps gg'' hl), by rw [hz]; have := sizeLine_eq; omega, .none, .int _ _, ?_⟩
    obtain ⟨g3, F3, gg3, hl3, -⟩ := slice_mk (items := vs) (vl := .none) (vu := .int i t') (lo := none) (hi := some (i : Int)) F'' tT
    obtain ⟨vs', rfl⟩ : ∃ vs' : List Value, vs = vs'.toArray := ⟨vs.toList, by simp⟩
    rw [slicePick_upto'] at hl3
    obtain ⟨⟨cs, jc⟩, -⟩ := hs.split i
    have jc' := jc.keeps (fun b o z => gg3 b o (gg'' b o z))
    exact h _ g3 _ tk'' F3 (fun b o z => gg3 b o (gg'' b o (gg' b o z))) ⟨_, .list hl3 (by simpa using jc')⟩
/-- p[l:] -/
theorem Ev.from {e u : PySem.Expr} {pp pos : Pos} {xs : List PyData} {i : Nat} (tT : T ≠ none) (x : Ev prog w A env base g₀ L m vol T gs e (JD prog w (.list xs))) (y : Ev prog w A env base g₀ L m vol T gs u (In i)) (hlen : xs.length ≤ 1000000) :
    Ev prog w A env base g₀ L m vol T gs (.Subscript e (.Slice (some u) none none pp) pos) (JD prog w (.list (xs.drop i))) := fun g s Q E gg F h => by
  refine sub_slice ?_
  refine x g s _ _ gg F fun v g' h' tk F' gg' ⟨as, j⟩ => ?_
  refine evalPart_some_step ?_
  refine y g' _ _ _ (fun b o z => gg' b o (gg b o z)) F' fun v' g'' h'' tk'' F'' gg'' ⟨t', ev'⟩ => ?_
  subst ev'
  refine evalPart_none_step ?_
  cases j with
  | @list l vs _ as' hl hs =>
    have hz : vs.size = xs.length := by rw [← Array.length_toList, hs.length]
    refine ⟨l, vs, some (i : Int), none, rfl, F''.isList (isList_keeps gg'' hl), by rw [hz]; have := sizeLine_eq; omega, .int _ _, .none, ?_⟩
    obtain ⟨g3, F3, gg3, hl3, -⟩ := slice_mk (items := vs) (vl := .int i t') (vu := .none) (lo := some (i : Int)) (hi := none) F'' tT
    obtain ⟨vs', rfl⟩ : ∃ vs' : List Value, vs = vs'.toArray := ⟨vs.toList, by simp⟩
    rw [slicePick_from'] at hl3
    obtain ⟨-, ⟨cs, jc⟩⟩ := hs.split i
    have jc' := jc.keeps (fun b o z => gg3 b o (gg'' b o z))
    exact h _ g3 _ tk'' F3 (fun b o z => gg3 b o (gg'' b o (gg' b o z))) ⟨_, .list hl3 (by simpa using jc')⟩
/-- an item of a list -/
theorem Ev.item {e u : PySem.Expr} {pos : Pos} {xs : List PyData} {i : Nat} {d : PyData} (x : Ev prog w A env base g₀ L m vol T gs e (JD prog w (.list xs))) (y : Ev prog w A env base g₀ L m vol T gs u (In i)) (hlen : xs.length ≤ 1000000) (hd : xs[i]? = some d)
    (hsl : ∀ o i, subscripted u false o i = operate [o, i] (getItem o i)) (hsub : ∀ {Q : Value → Shared → Prop} {E : Value → Shared → Prop} {s : Shared}, wpAny (model prog w) A (eval e env) (fun o s₁ => wpAny (model prog w) A (eval u env) (fun i s₂ => wpAny (model prog w) A (subscriptTail e u o i) Q E s₂) E s₁) E s → wpAny (model prog w) A (eval (.Subscript e u pos) env) Q E s) :
    Ev prog w A env base g₀ L m vol T gs (.Subscript e u pos) (JD prog w d) := fun g s Q E gg F h => by
  refine hsub ?_
  refine x g s _ _ gg F fun v g' h' tk F' gg' ⟨as, j⟩ => ?_
  refine y g' _ _ _ (fun b o z => gg' b o (gg b o z)) F' fun v' g'' h'' tk'' F'' gg'' ⟨t', ev'⟩ => ?_
  subst ev'
  cases j with
  | @list l vs _ as' hl hs =>
    have hz : vs.size = xs.length := by rw [← Array.length_toList, hs.length]
    have hi : i < vs.size := by rw [hz]; exact (List.getElem?_eq_some_iff.mp hd).1
    obtain ⟨d', as2, hd', jd, -⟩ := hs.at (i := i) (v := vs[i]) (by simp [hi])
    rw [hd] at hd'
    cases hd'
    refine item_L (F''.isList (isList_keeps gg'' hl)) (by omega) (by omega) (v := vs[i]) (by simp [hi]) ?_ hsl
    exact h _ g'' h'' tk'' F'' (fun b o z => gg'' b o (gg' b o z)) ⟨as2, jd.keeps gg''⟩
end
end Mine
end

/-! ## N6 -/
section
set_option maxRecDepth 100000
set_option maxHeartbeats 4000000
open PySem PySem.W PyProof.Rows PySem.Calls
namespace Mine

/-! ### the law's documents and their places -/
def topK : List Str := ["b", "0", "~1", "", "x", "1"]
def docTop : PyData → Bool
  | .list xs => decide (xs.length ≤ 3) && xs.all (okV 2)
  | .dict kvs => decide (kvs.length ≤ 3) && kvs.all fun q => isKey topK q.1 && okV 2 q.2
  | _ => false
theorem findK_some {kvs : List (PyData × PyData)} {k : Str} {e : PyData} (h : findK kvs k = some e) : (PyData.str k, e) ∈ kvs := by
  obtain ⟨i, hi⟩ := findK_idx h
  exact List.mem_of_getElem? hi
theorem top_okW {d : PyData} (h : docTop d = true) : okW 3 d = true := by
  cases d with
  | list xs =>
    simp only [docTop, okW, Bool.and_eq_true, List.all_eq_true] at h ⊢
    exact ⟨h.1, fun x hx => okV_W 2 x (h.2 x hx)⟩
  | dict kvs =>
    simp only [docTop, okW, Bool.and_eq_true, List.all_eq_true] at h ⊢
    refine ⟨h.1, fun q hq => ⟨?_, okV_W 2 _ (h.2 q hq).2⟩⟩
    have h1 := (h.2 q hq).1
    obtain ⟨a, b⟩ := q
    cases a with
    | str y =>
      have : topK.all (fun z => words.contains z) = true := by decide +kernel
      have hy : y ∈ topK := by simpa [isKey] using h1
      exact List.all_eq_true.mp this y hy
    | _ => simp [isKey] at h1
  | _ => simp [docTop] at h

theorem tokS_top {i : Int} (h : 0 ≤ i ∧ i < 3) : tokS (.int i) ∈ topW := by
  have : i = 0 ∨ i = 1 ∨ i = 2 := by omega
  rcases this with rfl | rfl | rfl <;> decide +kernel
theorem tokS_inn {t : PyData} (h : tokIn t = true) : tokS t ∈ innW := by
  cases t with
  | str x =>
    have : inner4.all (fun z => innW.contains z) = true := by decide +kernel
    have hx : x ∈ inner4 := by simpa [tokIn] using h
    show x ∈ innW
    simpa using List.all_eq_true.mp this x hx
  | int i =>
    simp only [tokIn, decide_eq_true_eq] at h
    have : i = 0 ∨ i = 1 ∨ i = 2 := by omega
    rcases this with rfl | rfl | rfl <;> decide +kernel
  | _ => simp [tokIn] at h
theorem list_step {xs : List PyData} {t e : PyData} (hl : xs.length ≤ 3) (h : at1 (.list xs) t = some e) : ∃ i : Int, t = .int i ∧ 0 ≤ i ∧ i < 3 ∧ e ∈ xs := by
  cases t with
  | int i =>
    simp only [at1] at h
    split at h
    · rename_i hi
      have h1 := (List.getElem?_eq_some_iff.mp h).1
      exact ⟨i, rfl, hi.1, by omega, List.mem_of_getElem? h⟩
    · cases h
  | _ => simp [at1] at h
theorem at1_top {d t e : PyData} (h : docTop d = true) (he : at1 d t = some e) : tokOk t = true ∧ tokS t ∈ topW ∧ okV 2 e = true := by
  cases d with
  | list xs =>
    simp only [docTop, Bool.and_eq_true, decide_eq_true_eq] at h
    obtain ⟨i, rfl, h0, h1, hm⟩ := list_step h.1 he
    exact ⟨by simp only [tokOk, decide_eq_true_eq]; exact ⟨h0, h1⟩, tokS_top ⟨h0, h1⟩, List.all_eq_true.mp h.2 e hm⟩
  | dict kvs =>
    simp only [docTop, Bool.and_eq_true, decide_eq_true_eq] at h
    cases t with
    | str k =>
      have hm := findK_some (show findK kvs k = some e from he)
      have h1 := List.all_eq_true.mp h.2 _ hm
      simp only [Bool.and_eq_true] at h1
      have hk : k ∈ topK := by simpa [isKey] using h1.1
      have q1 : topK.all (fun z => words.contains z && topW.contains z) = true := by decide +kernel
      have q2 := List.all_eq_true.mp q1 k hk
      simp only [Bool.and_eq_true, List.contains_iff_mem] at q2
      exact ⟨by simpa [tokOk] using q2.1, q2.2, h1.2⟩
    | _ => simp [at1] at he
  | _ => simp [docTop] at h
theorem at1_in {n : Nat} {d t e : PyData} (h : okV n d = true) (he : at1 d t = some e) : tokIn t = true ∧ ∃ k, n = k + 1 ∧ okV k e = true := by
  cases n with
  | zero => cases d <;> simp [okV] at h <;> cases t <;> simp [at1] at he
  | succ n =>
    cases d with
    | list xs =>
      simp only [okV, Bool.and_eq_true, decide_eq_true_eq] at h
      obtain ⟨i, rfl, h0, h1, hm⟩ := list_step h.1 he
      exact ⟨by simp only [tokIn, decide_eq_true_eq]; exact ⟨h0, h1⟩, n, rfl, List.all_eq_true.mp h.2 e hm⟩
    | dict kvs =>
      simp only [okV, Bool.and_eq_true, decide_eq_true_eq] at h
      cases t with
      | str k =>
        have hm := findK_some (show findK kvs k = some e from he)
        have h1 := List.all_eq_true.mp h.2 _ hm
        simp only [Bool.and_eq_true] at h1
        exact ⟨by simpa [tokIn, isKey] using h1.1, n, rfl, h1.2⟩
      | _ => simp [at1] at he
    | _ => cases t <;> simp [at1] at he
theorem atD_in : ∀ {ts : List PyData} {n : Nat} {d e : PyData}, okV n d = true → atD d ts = some e → ts.all tokIn = true ∧ ts.length ≤ n ∧ okV (n - ts.length) e = true
  | [], n, d, e, h, he => by
    simp only [atD, Option.some.injEq] at he
    subst he
    exact ⟨rfl, Nat.zero_le _, h⟩
  | t :: r, n, d, e, h, he => by
    obtain ⟨d1, h1, h2⟩ := atD_cons he
    obtain ⟨q1, k, rfl, q2⟩ := at1_in h h1
    obtain ⟨r1, r2, r3⟩ := atD_in q2 h2
    refine ⟨by rw [List.all_cons, q1, r1]; rfl, by simp; omega, ?_⟩
    rw [List.length_cons, Nat.add_sub_add_right]
    exact r3

/-- a way of the law's document -/
inductive TopWay : List PyData → Prop
  | nil : TopWay []
  | cons {t r} : tokOk t = true → tokS t ∈ topW → r.all tokIn = true → r.length ≤ 2 → TopWay (t :: r)
theorem top_way {d x : PyData} {ts : List PyData} (h : docTop d = true) (hx : atD d ts = some x) : TopWay ts := by
  cases ts with
  | nil => exact .nil
  | cons t r =>
    obtain ⟨d1, h1, h2⟩ := atD_cons hx
    obtain ⟨q1, q2, q3⟩ := at1_top h h1
    obtain ⟨r1, r2, -⟩ := atD_in q3 h2
    exact .cons q1 q2 r1 r2
theorem TopWay.take {ts : List PyData} (x : TopWay ts) (k : Nat) : TopWay (ts.take k) := by
  cases x with
  | nil => simpa using TopWay.nil
  | @cons t r h1 h2 h3 h4 =>
    cases k with
    | zero => exact .nil
    | succ k =>
      refine .cons h1 h2 ?_ (by rw [List.length_take]; omega)
      rw [List.all_eq_true] at h3 ⊢
      exact fun y hy => h3 y (List.mem_of_mem_take hy)
theorem in_words {y : Str} (h : y ∈ innW) : y ∈ words := by
  have : innW.all (fun z => words.contains z) = true := by decide +kernel
  simpa using List.all_eq_true.mp this y h
theorem top_words {y : Str} (h : y ∈ topW) : y ∈ words := by
  have : topW.all (fun z => words.contains z) = true := by decide +kernel
  simpa using List.all_eq_true.mp this y h
theorem tokIn_all {ts : List PyData} (h : ts.all tokIn = true) : ts.all tokOk = true := by
  rw [List.all_eq_true] at h ⊢
  exact fun y hy => tokIn_ok (h y hy)
theorem path_in {ts : List PyData} (h : ts.all tokIn = true) (hl : ts.length ≤ 2) : PathOk ts := by
  refine ⟨tokIn_all h, ok_way ?_, by omega⟩
  match ts, h, hl with
  | [], _, _ => rfl
  | [a], h, _ =>
    simp only [List.all_cons, List.all_nil, Bool.and_true] at h
    simpa [wayW] using in_words (tokS_inn h)
  | [a, b], h, _ =>
    simp only [List.all_cons, List.all_nil, Bool.and_true, Bool.and_eq_true] at h
    simpa [wayW] using ⟨in_words (tokS_inn h.1), tokS_inn h.2⟩
  | _ :: _ :: _ :: _, _, hl => simp at hl
theorem TopWay.path {ts : List PyData} (x : TopWay ts) : PathOk ts := by
  cases x with
  | nil => exact path_in rfl (by simp)
  | @cons t r h1 h2 h3 h4 =>
    refine ⟨by rw [List.all_cons, h1, tokIn_all h3]; rfl, ok_way ?_, by simp; omega⟩
    match r, h3, h4 with
    | [], _, _ => simpa [wayW] using top_words h2
    | [a], h3, _ =>
      simp only [List.all_cons, List.all_nil, Bool.and_true] at h3
      simpa [wayW] using ⟨top_words h2, tokS_inn h3⟩
    | [a, b], h3, _ =>
      simp only [List.all_cons, List.all_nil, Bool.and_true, Bool.and_eq_true] at h3
      simpa [wayW] using ⟨⟨h2, tokS_inn h3.1⟩, tokS_inn h3.2⟩
    | _ :: _ :: _ :: _, _, h4 => simp at h4
theorem TopWay.tail {ts : List PyData} (x : TopWay ts) (k : Nat) : (ts.drop (k + 1)).all tokIn = true ∧ (ts.drop (k + 1)).length ≤ 2 := by
  cases x with
  | nil => simp
  | @cons t r h1 h2 h3 h4 =>
    rw [List.drop_succ_cons]
    refine ⟨?_, by rw [List.length_drop]; omega⟩
    rw [List.all_eq_true] at h3 ⊢
    exact fun y hy => h3 y (List.mem_of_mem_drop hy)
theorem TopWay.drop {ts : List PyData} (x : TopWay ts) (k : Nat) : PathOk (ts.drop k) := by
  cases k with
  | zero => exact x.path
  | succ k => exact path_in (x.tail k).1 (x.tail k).2

/-! ### edits keep the kind -/
theorem put1_okW {N : Nat} {d t e x : PyData} (h : okW (N + 1) d = true) (ht : at1 d t = some x) (he : okW N e = true) : okW (N + 1) (put1 d t e) = true := by
  cases d with
  | list xs =>
    cases t with
    | int i =>
      simp only [put1, okW, Bool.and_eq_true, decide_eq_true_eq, List.length_set] at h ⊢
      refine ⟨h.1, ?_⟩
      rw [List.all_eq_true]
      intro y hy
      rcases List.mem_or_eq_of_mem_set hy with hy | rfl
      · exact List.all_eq_true.mp h.2 y hy
      · exact he
    | _ => simp [at1] at ht
  | dict kvs =>
    cases t with
    | str k =>
      simp only [put1, okW, Bool.and_eq_true, decide_eq_true_eq, List.length_map] at h ⊢
      refine ⟨h.1, ?_⟩
      rw [List.all_eq_true]
      intro y hy
      obtain ⟨q, hq, rfl⟩ := List.mem_map.mp hy
      have h1 := List.all_eq_true.mp h.2 q hq
      simp only [Bool.and_eq_true] at h1
      unfold subK
      split
      · simp only [Bool.and_eq_true]; exact ⟨h1.1, he⟩
      · simp only [Bool.and_eq_true]; exact h1
    | _ => simp [at1] at ht
  | _ => cases t <;> simp [at1] at ht
theorem okW_le {n m : Nat} {d : PyData} (h : okW n d = true) (hm : n ≤ m) : okW m d = true := by
  induction hm with
  | refl => exact h
  | step _ ih => exact okW_up _ _ ih
theorem ed_okW : ∀ {p : List PyData} {N m : Nat} {d x v : PyData}, okW N d = true → atD d p = some x → okW m v = true → p.length + m ≤ N → okW N (ed d p v) = true
  | [], N, m, d, x, v, h, hx, hv, hl => okW_le hv (by simpa using hl)
  | t :: r, N, m, d, x, v, h, hx, hv, hl => by
    obtain ⟨d1, h1, h2⟩ := atD_cons hx
    obtain ⟨-, k, rfl, hk⟩ := at1_ok h h1
    simp only [ed, h1, Option.getD_some]
    exact put1_okW h h1 (ed_okW hk h2 hv (by simp at hl; omega))

/-! ### what is found below a place -/
theorem found_or {n : Nat} : ∀ {ts : List PyData} {d f : PyData}, okV n d = true → ts.all tokIn = true → (∃ x, atD d ts = some x ∧ fnd d ts f = x) ∨ (∃ k, Missing d ts k ∧ fnd d ts f = f)
  | [], d, f, _, _ => .inl ⟨d, rfl, rfl⟩
  | t :: r, d, f, h, ht => by
    rw [List.all_cons, Bool.and_eq_true] at ht
    cases h1 : at1 d t with
    | none =>
      refine .inr ⟨0, ⟨by simp, d, n, rfl, h, fun u hu => ?_⟩, by simp [fnd, h1]⟩
      simp only [List.getElem?_cons_zero, Option.some.injEq] at hu
      subst hu
      exact ⟨h1, ht.1⟩
    | some e =>
      obtain ⟨-, k, rfl, hk⟩ := at1_in h h1
      rcases found_or (n := k) (f := f) hk ht.2 with ⟨x, hx, fx⟩ | ⟨j, hm, fx⟩
      · exact .inl ⟨x, by rw [atD, h1]; exact hx, by simp [fnd, h1, fx]⟩
      · refine .inr ⟨j + 1, ⟨by simpa using hm.lt, ?_⟩, by simp [fnd, h1, fx]⟩
        obtain ⟨e', n', q1, q2, q3⟩ := hm.ex
        refine ⟨e', n', ?_, q2, fun u hu => q3 u (by simpa using hu)⟩
        rw [List.take_succ_cons, atD, h1]
        exact q1
theorem missing_below {p r : List PyData} {d e v : PyData} {k : Nat} (he : atD d p = some e) (hm : Missing v r k) : Missing (ed d p v) (p ++ r) (p.length + k) := by
  obtain ⟨hk, e', n', q1, q2, q3⟩ := hm
  refine ⟨by simp; omega, e', n', ?_, q2, fun u hu => q3 u ?_⟩
  · rw [List.take_length_add_append]
    rw [atD_ed_below he]
    exact q1
  · rwa [List.getElem?_append_right (by omega), show p.length + k - p.length = k by omega] at hu
theorem found_okW {n : Nat} {d f : PyData} {ts : List PyData} (h : okW n d = true) (hf : okW n f = true) : okW n (fnd d ts f) = true := by
  induction ts generalizing d n with
  | nil => exact h
  | cons t r ih =>
    simp only [fnd]
    cases h1 : at1 d t with
    | none => exact hf
    | some e =>
      obtain ⟨-, k, rfl, hk⟩ := at1_ok h h1
      exact ih (okW_up _ _ hk) hf

section
variable {prog : Program} {w : World} {g : Heap}
/-- setting what stands there changes nothing -/
theorem put1_self {v : Value} {d t x : PyData} {as : List Addr} (hv : JR prog w g v d as) (h : at1 d t = some x) : put1 d t x = d := by
  cases hv with
  | list hl hs =>
    cases t with
    | int i =>
      simp only [at1] at h
      split at h
      · simp only [put1]
        rw [List.set_eq_take_append_cons_drop, if_pos (List.getElem?_eq_some_iff.mp h).1]
        rename_i xs _ _
        have h1 := List.take_append_drop i.toNat xs
        rw [List.drop_eq_getElem_cons (List.getElem?_eq_some_iff.mp h).1, (List.getElem?_eq_some_iff.mp h).2] at h1
        rw [h1]
      · cases h
    | _ => simp [at1] at h
  | @dict a kvs ep ds bs hm hda ek hs =>
    cases t with
    | str k =>
      have hnd : (kvs.map (·.1)).Nodup := let ⟨_, _, _, _, _, _, _, z⟩ := hda; z
      have hnd2 : (ds.map (·.1)).Nodup := by
        rw [ek]
        have : kvs.map (fun q => PyData.str q.1) = (kvs.map (·.1)).map PyData.str := by rw [List.map_map]; rfl
        rw [this]
        exact List.pairwise_map.mpr (List.Pairwise.imp (fun h e => h (by injection e)) hnd)
      have hmem := findK_some (show findK ds k = some x from h)
      simp only [put1]
      congr 1
      refine (List.map_congr_left fun q hq => ?_).trans (List.map_id _)
      unfold subK
      split
      · rename_i hk
        rw [isK_iff] at hk
        obtain ⟨i, hi, ei⟩ := List.getElem_of_mem hq
        obtain ⟨j, hj, ej⟩ := List.getElem_of_mem hmem
        have hij : i = j := by
          refine (List.getElem_inj (xs := ds.map (·.1)) (h₀ := by simpa using hi) (h₁ := by simpa using hj) hnd2).mp ?_
          simp only [List.getElem_map]
          rw [ei, ej, hk]
        subst hij
        rw [ei] at ej
        subst ej
        rfl
      · rfl
    | _ => simp [at1] at h
  | _ => cases t <;> simp [at1] at h
theorem at1_JR {v : Value} {d t x : PyData} {as : List Addr} (hv : JR prog w g v d as) (h : at1 d t = some x) : ∃ u bs, JR prog w g u x bs := by
  cases hv with
  | list hl hs =>
    cases t with
    | int i =>
      simp only [at1] at h
      split at h
      · obtain ⟨u, pre, as1, post, e1, rfl, j1, j2, j3⟩ := hs.cut h
        exact ⟨u, as1, j2⟩
      · cases h
    | _ => simp [at1] at h
  | dict hm hda ek hs =>
    cases t with
    | str k =>
      obtain ⟨u, bs, -, j, -⟩ := findK_at ek hs (show findK _ k = some x from h)
      exact ⟨u, bs, j⟩
    | _ => simp [at1] at h
  | _ => cases t <;> simp [at1] at h
theorem ed_self : ∀ {ts : List PyData} {v : Value} {d x : PyData} {as : List Addr}, JR prog w g v d as → atD d ts = some x → ed d ts x = d
  | [], _, _, _, _, _, h => by simp only [atD, Option.some.injEq] at h; exact h.symm
  | t :: r, v, d, x, as, hv, h => by
    obtain ⟨d1, h1, h2⟩ := atD_cons h
    obtain ⟨u, bs, hu⟩ := at1_JR hv h1
    simp only [ed, h1, Option.getD_some]
    rw [ed_self hu h2]
    exact put1_self hv h1
end
end Mine
end

/-! ## N7 -/
section
set_option maxRecDepth 100000
set_option maxHeartbeats 4000000
open PySem PySem.W PyProof.Rows PySem.Calls
namespace Mine

example (w : World) (h : Heap) (X : (hd.heap_39 w.params).In h) : (hd.heap_39 w.params).In h ∧ PySem.Challenge.rw_bs0014_01 = PySem.Challenge.rw_bs0014_01 := by
  k_fill
  exact ⟨X, rfl⟩

section
variable {prog : Program} {w : World} {p : Program} {loose : List Str} {mg mb : Str → Option Value} {A : Around} {E : Value → Shared → Prop} {s : Shared} {R : Result → Shared → Prop}
  {base g₀ g h h' gs : Heap} {L : Addr} {m m' : Str → Option Value} {vol : List (Addr × Obj)} {T : Option Obj} {env : Env} {outer : List Env} {P P1 P2 P3 : Heap → Value → Prop}

/-- _law_text(..) -/
theorem Ev.ltext {e : PySem.Expr} {np pos : Pos} {way : List PyData} (W : WD w p loose mg mb gs) (tT : T ≠ none) (Rm : Room A 12 400) (x : Ev prog w A env base g₀ L m vol T gs e (JD prog w (.list way))) (hw : PathOk way)
    (he : starEach [e] env = [(false, eval e env)] := by rfl) (hg : env.globals = mainGlobals := by rfl) (hkk : env.scope.kind = .function := by rfl) (hx : env.kindOf "_law_text" = some .globalImplicit := by rfl) :
    Ev prog w A env base g₀ L m vol T gs (.Call (.Name "_law_text" np) [e] [] pos) (Tx (textOf (way.map tokS))) :=
  Ev.call1 (f := .ref 314) W tT (Rm.le (dn' := 1) (un' := 8) (by omega) (by omega)) (by k_is) (by k_is) x (fun g v k ⟨as, j⟩ => does_text (W.keeps k) j hw.tok hw.len) he rfl hg hkk hx
/-- _law_same(.., ..) of one document -/
theorem Ev.same {e e' : PySem.Expr} {np pos : Pos} {n : Nat} {d : PyData} (W : WD w p loose mg mb gs) (tT : T ≠ none) (Rm : Room A 12 400) (x : Ev prog w A env base g₀ L m vol T gs e (JD prog w d)) (y : Ev prog w A env base g₀ L m vol T gs e' (JD prog w d)) (hok : okW n d = true) (hn : n ≤ 5)
    (he : starEach [e, e'] env = (false, eval e env) :: starEach [e'] env := by rfl) (he2 : starEach [e'] env = (false, eval e' env) :: starEach [] env := by rfl) (hg : env.globals = mainGlobals := by rfl) (hkk : env.scope.kind = .function := by rfl) (hx : env.kindOf "_law_same" = some .globalImplicit := by rfl) :
    Ev prog w A env base g₀ L m vol T gs (.Call (.Name "_law_same" np) [e, e'] [] pos) (Is (.bool true)) :=
  Ev.call2 (f := .ref 347) W tT (Rm.le (dn' := n + 3) (un' := 4 * n + 80) (by omega) (by omega)) (by k_is) (by k_is) x y JD.mono (fun g v v' k ⟨as, j⟩ ⟨bs, j'⟩ => does_same (W.keeps k) (by omega) j j' (okW_J n d hok) (okW_S n d hok)) he he2 hg hkk hx
/-- not _law_same(..): false -/
theorem not_same {e e' : PySem.Expr} {np pos up : Pos} {n : Nat} {d : PyData} {Q : Bool → Shared → Prop} (W : WD w p loose mg mb g) (F : Fm base g₀ L m vol T g s.heap) (tT : T ≠ none) (Rm : Room A 12 400) (x : Ev prog w A env base g₀ L m vol T g e (JD prog w d)) (y : Ev prog w A env base g₀ L m vol T g e' (JD prog w d)) (hok : okW n d = true) (hn : n ≤ 5)
    (h : ∀ g' h' tk, Fm base g₀ L m vol T g' h' → g.StaysIn g' → Q false { s with heap := h', toks := tk })
    (he : starEach [e, e'] env = (false, eval e env) :: starEach [e'] env := by rfl) (he2 : starEach [e'] env = (false, eval e' env) :: starEach [] env := by rfl) (hg : env.globals = mainGlobals := by rfl) (hkk : env.scope.kind = .function := by rfl) (hx : env.kindOf "_law_same" = some .globalImplicit := by rfl) :
    wpAny (model prog w) A (PySem.isTrue (.UnaryOp .Not (.Call (.Name "_law_same" np) [e, e'] [] pos) up) env (eval (.UnaryOp .Not (.Call (.Name "_law_same" np) [e, e'] [] pos) up) env)) Q E s := by
  refine isTrue_not ?_
  refine isTrue_plain ?_
  refine (Ev.same W tT Rm x y hok hn he he2 hg hkk hx).go (fun _ _ z => z) F fun v g' h' tk F' gg' ev => ?_
  rw [show v = .bool true from ev]
  exact wpAny_truthy_bool (h g' h' tk F' gg')
/-- _law_edited -/
theorem Ev.edited {e e' e'' : PySem.Expr} {np pos : Pos} {n : Nat} {d x f : PyData} {way : List PyData} (W : WD w p loose mg mb gs) (tT : T ≠ none) (Rm : Room A 12 400) (a : Ev prog w A env base g₀ L m vol T gs e (JD prog w d)) (b : Ev prog w A env base g₀ L m vol T gs e' (JD prog w (.list way))) (c : Ev prog w A env base g₀ L m vol T gs e'' (JD prog w f))
    (hok : okW n d = true) (hn : n ≤ 5) (hx : atD d way = some x) (hl : way.length ≤ 5)
    (he : starEach [e, e', e''] env = (false, eval e env) :: starEach [e', e''] env := by rfl) (he2 : starEach [e', e''] env = (false, eval e' env) :: starEach [e''] env := by rfl) (he3 : starEach [e''] env = (false, eval e'' env) :: starEach [] env := by rfl)
    (hg : env.globals = mainGlobals := by rfl) (hkk : env.scope.kind = .function := by rfl) (hx' : env.kindOf "_law_edited" = some .globalImplicit := by rfl) :
    Ev prog w A env base g₀ L m vol T gs (.Call (.Name "_law_edited" np) [e, e', e''] [] pos) (JD prog w (ed d way f)) :=
  Ev.call3 (f := .ref 333) W tT (Rm.le (dn' := way.length + 2) (un' := 4 * way.length + 80) (by omega) (by omega)) (by k_is) (by k_is) a b c JD.mono JD.mono (fun g v v' v'' k ⟨as, j⟩ ⟨bs, j'⟩ ⟨cs, j''⟩ => does_edited way (W.keeps k) j hok j' hx j'' hl) he he2 he3 hg hkk hx'
/-- _law_at -/
theorem Ev.lat {e e' : PySem.Expr} {np pos : Pos} {d x : PyData} {way : List PyData} (W : WD w p loose mg mb gs) (tT : T ≠ none) (Rm : Room A 12 400) (a : Ev prog w A env base g₀ L m vol T gs e (JD prog w d)) (b : Ev prog w A env base g₀ L m vol T gs e' (JD prog w (.list way))) (hx : atD d way = some x)
    (he : starEach [e, e'] env = (false, eval e env) :: starEach [e'] env := by rfl) (he2 : starEach [e'] env = (false, eval e' env) :: starEach [] env := by rfl) (hg : env.globals = mainGlobals := by rfl) (hkk : env.scope.kind = .function := by rfl) (hx' : env.kindOf "_law_at" = some .globalImplicit := by rfl) :
    Ev prog w A env base g₀ L m vol T gs (.Call (.Name "_law_at" np) [e, e'] [] pos) (JD prog w x) :=
  Ev.call2 (f := .ref 328) W tT (Rm.le (dn' := 1) (un' := 8) (by omega) (by omega)) (by k_is) (by k_is) a b JD.mono (fun g v v' k ⟨as, j⟩ ⟨bs, j'⟩ => does_at (W.keeps k) j j' hx) he he2 hg hkk hx'
/-- _law_found -/
theorem Ev.lfound {e e' e'' : PySem.Expr} {np pos : Pos} {n : Nat} {d f : PyData} {way : List PyData} (W : WD w p loose mg mb gs) (tT : T ≠ none) (Rm : Room A 12 400) (a : Ev prog w A env base g₀ L m vol T gs e (JD prog w d)) (b : Ev prog w A env base g₀ L m vol T gs e' (JD prog w (.list way))) (c : Ev prog w A env base g₀ L m vol T gs e'' (JD prog w f))
    (hok : okW n d = true) (hw : way.all tokOk = true)
    (he : starEach [e, e', e''] env = (false, eval e env) :: starEach [e', e''] env := by rfl) (he2 : starEach [e', e''] env = (false, eval e' env) :: starEach [e''] env := by rfl) (he3 : starEach [e''] env = (false, eval e'' env) :: starEach [] env := by rfl)
    (hg : env.globals = mainGlobals := by rfl) (hkk : env.scope.kind = .function := by rfl) (hx' : env.kindOf "_law_found" = some .globalImplicit := by rfl) :
    Ev prog w A env base g₀ L m vol T gs (.Call (.Name "_law_found" np) [e, e', e''] [] pos) (JD prog w (fnd d way f)) :=
  Ev.call3 (f := .ref 340) W tT (Rm.le (dn' := 1) (un' := 80) (by omega) (by omega)) (by k_is) (by k_is) a b c JD.mono JD.mono (fun g v v' v'' k ⟨as, j⟩ ⟨bs, j'⟩ ⟨cs, j''⟩ => does_found (W.keeps k) j hok j' hw j'') he he2 he3 hg hkk hx'
/-- set_pointer(.., .., .., inplace=False) -/
theorem Ev.set {e e' e'' : PySem.Expr} {np pos kp cp : Pos} {ck n : Nat} {d x f : PyData} {way : List PyData} (W : WD w p loose mg mb gs) (tT : T ≠ none) (Rm : Room A 12 400) (a : Ev prog w A env base g₀ L m vol T gs e (JD prog w d)) (b : Ev prog w A env base g₀ L m vol T gs e' (Tx (textOf (way.map tokS)))) (c : Ev prog w A env base g₀ L m vol T gs e'' (JD prog w f))
    (hok : okW n d = true) (hn : n ≤ 5) (hx : atD d way = some x) (hw : PathOk way)
    (he : starEach [e, e', e''] env = (false, eval e env) :: starEach [e', e''] env := by rfl) (he2 : starEach [e', e''] env = (false, eval e' env) :: starEach [e''] env := by rfl) (he3 : starEach [e''] env = (false, eval e'' env) :: starEach [] env := by rfl)
    (hg : env.globals = mainGlobals := by rfl) (hkk : env.scope.kind = .function := by rfl) (hx' : env.kindOf "set_pointer" = some .globalImplicit := by rfl) :
    Ev prog w A env base g₀ L m vol T gs (.Call (.Name "set_pointer" np) [e, e', e''] [{ arg := some (Str.ofString "inplace"), value := .Constant (.bool false) ck cp, pos := kp }] pos) (JD prog w (ed d way f)) :=
  Ev.call3k (f := .ref 63) W tT (Rm.le (dn' := n + 6) (un' := 4 * n + 140) (by omega) (by omega)) (by k_is) (by k_is) a b c JD.mono Tx.mono (fun g v v' v'' k ⟨as, j⟩ ⟨t, j'⟩ ⟨cs, j''⟩ => by
    rw [j']
    intro A s Q E S R ret
    exact does_set_pointer (W.keeps k) hw j hok hn hx j'' A s Q E S R fun r g' h' tk xa ⟨⟨as', ja, _⟩, _⟩ => ret r g' h' tk xa ⟨as', ja⟩) he he2 he3 hg hkk hx'
/-- resolve_pointer(.., ..) of a place that is there -/
theorem Ev.res {e e' : PySem.Expr} {np pos : Pos} {n : Nat} {d x : PyData} {way : List PyData} (W : WD w p loose mg mb gs) (tT : T ≠ none) (Rm : Room A 12 400) (a : Ev prog w A env base g₀ L m vol T gs e (JD prog w d)) (b : Ev prog w A env base g₀ L m vol T gs e' (Tx (textOf (way.map tokS))))
    (hok : okW n d = true) (hx : atD d way = some x) (hw : PathOk way)
    (he : starEach [e, e'] env = (false, eval e env) :: starEach [e'] env := by rfl) (he2 : starEach [e'] env = (false, eval e' env) :: starEach [] env := by rfl) (hg : env.globals = mainGlobals := by rfl) (hkk : env.scope.kind = .function := by rfl) (hx' : env.kindOf "resolve_pointer" = some .globalImplicit := by rfl) :
    Ev prog w A env base g₀ L m vol T gs (.Call (.Name "resolve_pointer" np) [e, e'] [] pos) (JD prog w x) :=
  Ev.call2 (f := .ref 71) W tT (Rm.le (dn' := 5) (un' := 140) (by omega) (by omega)) (by k_is) (by k_is) a b JD.mono (fun g v v' k ⟨as, j⟩ ⟨t, j'⟩ => by rw [j']; exact does_resolve_pointer (W.keeps k) hw j hok hx (.inl rfl)) he he2 hg hkk hx'
/-- resolve_pointer(.., .., ..) of a place that is there -/
theorem Ev.res3 {e e' e'' : PySem.Expr} {np pos : Pos} {n : Nat} {d x : PyData} {way : List PyData} (W : WD w p loose mg mb gs) (tT : T ≠ none) (Rm : Room A 12 400) (a : Ev prog w A env base g₀ L m vol T gs e (JD prog w d)) (b : Ev prog w A env base g₀ L m vol T gs e' (Tx (textOf (way.map tokS)))) (c : Ev prog w A env base g₀ L m vol T gs e'' P3)
    (hok : okW n d = true) (hx : atD d way = some x) (hw : PathOk way)
    (he : starEach [e, e', e''] env = (false, eval e env) :: starEach [e', e''] env := by rfl) (he2 : starEach [e', e''] env = (false, eval e' env) :: starEach [e''] env := by rfl) (he3 : starEach [e''] env = (false, eval e'' env) :: starEach [] env := by rfl)
    (hg : env.globals = mainGlobals := by rfl) (hkk : env.scope.kind = .function := by rfl) (hx' : env.kindOf "resolve_pointer" = some .globalImplicit := by rfl) :
    Ev prog w A env base g₀ L m vol T gs (.Call (.Name "resolve_pointer" np) [e, e', e''] [] pos) (JD prog w x) :=
  Ev.call3 (f := .ref 71) W tT (Rm.le (dn' := 5) (un' := 140) (by omega) (by omega)) (by k_is) (by k_is) a b c JD.mono Tx.mono (fun g v v' v'' k ⟨as, j⟩ ⟨t, j'⟩ _ => by rw [j']; exact does_resolve_pointer (W.keeps k) hw j hok hx (.inr ⟨_, rfl⟩)) he he2 he3 hg hkk hx'
/-- JsonPointer(..) -/
theorem Ev.ptr {e : PySem.Expr} {np pos : Pos} {ws : List Str} (W : WD w p loose mg mb gs) (tT : T ≠ none) (Rm : Room A 12 400) (x : Ev prog w A env base g₀ L m vol T gs e (Tx (textOf ws))) (hall : ∀ y ∈ ws, y ∈ words) (hok : okWs ws = true) (hlen : ws.length ≤ 5)
    (he : starEach [e] env = [(false, eval e env)] := by rfl) (hg : env.globals = mainGlobals := by rfl) (hkk : env.scope.kind = .function := by rfl) (hx : env.kindOf "JsonPointer" = some .globalImplicit := by rfl) :
    Ev prog w A env base g₀ L m vol T gs (.Call (.Name "JsonPointer" np) [e] [] pos) (fun g' v => ∃ a, v = .ref a ∧ IsPtr w g' a ws) :=
  Ev.call1 (f := .ref 274) W tT (Rm.le (dn' := 4) (un' := 120) (by omega) (by omega)) (by k_is) (by k_is) x (fun g v k ⟨t, ev⟩ => by
    rw [ev]
    intro A s Q E S R ret
    exact does_ptr (W.keeps k) hall hok hlen A s Q E S R fun r g' h' tk xa ⟨a, hr, hp, _⟩ => ret r g' h' tk xa ⟨a, hr, hp⟩) he rfl hg hkk hx
end
end Mine
end

/-! ## N8 -/
section
set_option maxRecDepth 100000
set_option maxHeartbeats 4000000
open PySem PySem.W PyProof.Rows PySem.Calls
namespace Mine

example (w : World) (h : Heap) (X : (hd.heap_39 w.params).In h) : (hd.heap_39 w.params).In h ∧ PySem.Challenge.rw_bs0014_01 = PySem.Challenge.rw_bs0014_01 := by
  k_fill
  exact ⟨X, rfl⟩

def topA : List Str := ["b", "0", "~1"]
def topB : List Str := ["", "x", "1"]

section
variable {prog : Program} {w : World} {p : Program} {loose : List Str} {mg mb : Str → Option Value} {A : Around} {E : Value → Shared → Prop} {s : Shared} {R : Result → Shared → Prop}
  {base g₀ g h h' gs : Heap} {L : Addr} {m m' : Str → Option Value} {vol : List (Addr × Obj)} {T : Option Obj} {env : Env} {outer : List Env} {P P1 P2 P3 : Heap → Value → Prop}

theorem Ev.consts {es : List PySem.Expr} {ds : List PyData} {pos : Pos} (tT : T ≠ none) (c : CEs es ds) (hsz : ds.length ≤ 100) : Ev prog w A env base g₀ L m vol T gs (.List es pos) (JD prog w (.list ds)) := fun g s Q E gg F h =>
  ev_consts c F tT hsz fun vs a g' h' tk hv F' gg' hl hn => h _ g' h' tk F' gg' ⟨_, .list hl (by simpa using hv g')⟩
theorem Ev.list2 {e e' : PySem.Expr} {pos : Pos} {d d' : PyData} (tT : T ≠ none) (x : Ev prog w A env base g₀ L m vol T gs e (JD prog w d)) (y : Ev prog w A env base g₀ L m vol T gs e' (JD prog w d'))
    (he : starEach [e, e'] env = (false, eval e env) :: starEach [e'] env := by rfl) (he2 : starEach [e'] env = (false, eval e' env) :: starEach [] env := by rfl) : Ev prog w A env base g₀ L m vol T gs (.List [e, e'] pos) (JD prog w (.list [d, d'])) := fun g s Q E gg F h => by
  refine wpAny_List (spliced_more ?_ he)
  refine x g s _ _ gg F fun v g' h' tk F' gg' ⟨as, j⟩ => ?_
  refine spliced_more ?_ he2
  refine y g' _ _ _ (fun b o z => gg' b o (gg b o z)) F' fun v' g'' h'' tk'' F'' gg'' ⟨bs, j'⟩ => ?_
  refine spliced_none (env := env) ⟨by have := sizeLine_eq; simp; omega, ?_⟩
  obtain ⟨g3, F3, gg3, eg, -, -⟩ := F''.push tT ({ cls := .type "list", data := .seq ([v, v'] : List Value).toArray } : Obj)
  exact h _ g3 _ tk'' F3 (fun b o z => gg3 b o (gg'' b o (gg' b o z))) ⟨_, .list (vs := ([v, v'] : List Value).toArray) ⟨_, eg, rfl, _, rfl⟩ (.cons ((j.keeps gg'').keeps gg3) (.cons (j'.keeps gg3) .nil))⟩
theorem jd_str {x : Str} {v : Value} (h : JD prog w (.str x) g v) : ∃ t, v = .str x t := by
  obtain ⟨as, j⟩ := h
  cases j with
  | str _ t => exact ⟨t, rfl⟩
end

section
variable {prog : Program} {w : World} {p : Program} {loose : List Str} {mg mb : Str → Option Value} {A : Around} {E : Value → Shared → Prop} {s : Shared} {R : Result → Shared → Prop}
  {base g₀ g h h' gs : Heap} {L : Addr} {m m' : Str → Option Value} {vol : List (Addr × Obj)} {T : Option Obj} {env : Env} {outer : List Env} {P P1 P2 P3 : Heap → Value → Prop}
/-- x, y = e, e' -/
theorem assign_pair {x y : Str} {xp yp tp vp pos : Pos} {k k' : Nat} {e e' : PySem.Expr} {Q : Flow → Shared → Prop} (hh : A.handled = none) (tT : T ≠ none) (a : Ev prog w A env base g₀ L m vol T gs e P1) (b : Ev prog w A env base g₀ L m vol T gs e' P2) (M1 : Mono P1)
    (gg : gs.StaysIn g) (F : Fm base g₀ L m vol T g s.heap)
    (h : ∀ v1 v2 g' h' tk, Fm base g₀ L (fun z => if z = x then some v1 else if z = y then some v2 else m z) vol T g' h' → g.StaysIn g' → P1 g' v1 → P2 g' v2 → Q .next { s with heap := h', toks := tk })
    (hw : swappedStores [.Tuple [.Name x xp, .Name y yp] k tp] (.Tuple [e, e'] k' vp) env = pure (some [x, y])) (hs : swapsWithSole [.Tuple [.Name x xp, .Name y yp] k tp] (.Tuple [e, e'] k' vp) pos.line env = pure false)
    (hL : env.locals = L) (hk : env.scope.kind = .function) (hx : env.kindOf x = some .local) (hy : env.kindOf y = some .local)
    (he : starEach [e, e'] env = (false, eval e env) :: starEach [e'] env := by rfl) (he2 : starEach [e'] env = (false, eval e' env) :: starEach [] env := by rfl) :
    wpAny (model prog w) A (exec (.Assign [.Tuple [.Name x xp, .Name y yp] k tp] (.Tuple [e, e'] k' vp) pos) env) Q E s := by
  refine Assign_Tuple_swapped (names := [x, y]) ?_ hs hw
  refine wpAny_Tuple (spliced_more ?_ he)
  refine a g s _ _ gg F fun v1 g1 h1 tk1 F1 gg1 p1 => ?_
  refine spliced_more ?_ he2
  refine b g1 _ _ _ (fun b o z => gg1 b o (gg b o z)) F1 fun v2 g2 h2 tk2 F2 gg2 p2 => ?_
  refine spliced_none (env := env) ⟨two_le, ?_⟩
  obtain ⟨tup, htup⟩ : ∃ o : Obj, o = ({ cls := .type "tuple", data := .seq [v1, v2].toArray } : Obj) := ⟨_, rfl⟩
  obtain ⟨items, hit⟩ : ∃ items : Array Value, items = [v1, v2].toArray := ⟨_, rfl⟩
  rw [← htup]
  have F3 := F2.pushVol tup (by subst htup; rfl)
  have ht : IsTup (h2.push tup) h2.objs.size items := ⟨tup, (F3.vv _ (.head _)).1, by subst htup; rfl, 0, by subst htup; subst hit; rfl⟩
  rw [show ([x, y] : List Str).length = items.size from by subst hit; rfl]
  refine unpackItems_tuple hh ht fun h3 hx3 => ?_
  have sL : ∀ b o, h2.get? b = some o → h3.get? b = some o := fun b o z => by
    have z' := Heap.get?_push_of_some tup z
    exact hx3 b o (fun q => by subst q; exact absurd (Heap.lt_size z') (Nat.lt_irrefl _)) z'
  obtain ⟨t0, ht0⟩ : ∃ t0, T = some t0 := by
    cases T with
    | none => exact absurd rfl tT
    | some t0 => exact ⟨t0, rfl⟩
  have F4 : Fm base g₀ L m vol T g2 h3 := F2.more sL (by rw [F2.tab, ht0]; exact sL _ _ (F2.tab.trans ht0))
  subst hit
  show wpAny _ _ (assignInOrder [bindName env y, bindName env x] [v2, v1]) _ _ _
  refine wpAny_assignInOrder_more (bindName_ (s_loc F4 (fun h5 F5 => ?_) hL hk hy))
  refine wpAny_assignInOrder_more (bindName_ (s_loc F5 (fun h6 F6 => ?_) hL hk hx))
  refine wpAny_assignInOrder_none ?_
  exact h v1 v2 g2 h6 _ F6 (fun b o z => gg2 b o (gg1 b o z)) (M1 _ _ _ gg2 p1) p2
end
end Mine
end

/-! ## N9 -/
section
set_option maxRecDepth 100000
set_option maxHeartbeats 4000000
open PySem PySem.W PyProof.Rows PySem.Calls
namespace Mine

example (w : World) (h : Heap) (X : (hd.heap_39 w.params).In h) : (hd.heap_39 w.params).In h ∧ PySem.Challenge.rw_bs0014_01 = PySem.Challenge.rw_bs0014_01 := by
  k_fill
  exact ⟨X, rfl⟩

section
variable {prog : Program} {w : World} {p : Program} {loose : List Str} {mg mb : Str → Option Value} {A : Around} {E : Value → Shared → Prop} {s : Shared} {R : Result → Shared → Prop}
  {base g₀ g h h' gs : Heap} {L : Addr} {m m' : Str → Option Value} {vol : List (Addr × Obj)} {T : Option Obj} {env : Env} {outer : List Env} {P P1 P2 P3 : Heap → Value → Prop}

theorem Tail.keeps {v : Value} {ws : List Str} (k : g.StaysIn h) : Tail w g v ws → Tail w h v ws
  | .ptr x => .ptr (x.keeps k)
  | .text t x => .text t x
  | .list x y => .list (isList_keeps k x) y

/-- one of the call's own objects has turned -/
theorem Fm.mut {gd hd' : Heap} {ap : Addr} (F : Fm base g₀ L m vol T gd hd') (tT : T ≠ none) (hb : base.get? ap = none) (h0 : g₀.get? ap = none) (h1 : gd.get? ap ≠ none) (hk : ∀ b o, hd'.get? b = some o → b ≠ ap → h'.get? b = some o) :
    Fm base g₀ L m vol T (sieve h' fun b => (gd.get? b).isSome) h' where
  ns := let ⟨o, es, ep, e, r⟩ := F.ns; ⟨o, es, ep, hk _ _ e (fun z => h1 (by rw [← z]; exact F.gL)), r⟩
  keep := fun b o e hT => hk b o (F.keep b o e hT) fun z => by rw [z, hb] at e; cases e
  lo := F.lo
  tlt := F.tlt
  tab := by
    cases T with
    | none => exact absurd rfl tT
    | some t => exact hk _ _ F.tab fun z => h1 (by rw [← z]; exact F.gT)
  vv := fun p hp => by
    obtain ⟨a, b, c, d⟩ := F.vv p hp
    refine ⟨hk _ _ a fun z => h1 (by rw [← z]; exact d), b, c, ?_⟩
    rw [sieve_get, d]; rfl
  nd := F.nd
  gh := fun b o e => (sieve_some e).2
  gL := by rw [sieve_get, F.gL]; rfl
  gg := by
    refine ⟨fun b o e => ?_, fun a ha e => ?_⟩
    · have e1 := F.gg.sub b o e
      rw [sieve_get, e1]
      exact hk _ _ (F.gh b o e1) fun z => by rw [z, h0] at e; cases e
    · rw [sieve_get, F.gg.new a ha e]; rfl
  gT := by rw [sieve_get, F.gT]; rfl

/-- a document that is a list or an object -/
def isBox : PyData → Bool
  | .list _ => true
  | .dict _ => true
  | _ => false
theorem top_box {d : PyData} (h : docTop d = true) : isBox d = true := by cases d <;> simp [docTop] at h <;> rfl
theorem ed_box {d v : PyData} {t : PyData} {r : List PyData} (h : isBox d = true) : isBox (ed d (t :: r) v) = true := by
  rw [ed]
  cases d <;> simp [isBox] at h <;> cases t <;> rfl
theorem box_ref {v : Value} {d : PyData} {as : List Addr} (h : isBox d = true) (hv : JR prog w g v d as) : ∃ a o, v = .ref a ∧ a ∈ as ∧ g.get? a = some o ∧ o.cls ≠ .type "tuple" := by
  cases hv with
  | list hl hs =>
    obtain ⟨o, e, c, r⟩ := hl
    exact ⟨_, o, rfl, .head _, e, by rw [c]; decide⟩
  | dict hm hda ek hs =>
    obtain ⟨o, es, e, c, r⟩ := hda
    exact ⟨_, o, rfl, .head _, e, by rw [c.1]; decide⟩
  | _ => simp [isBox] at h
theorem law4 {name qual : Str} {params : Arguments} {body : List Stmt} {scope : Scope} {dV kV doc pm cdv ct oc0 : Value} {an od : Option Addr} {osl : Array (Option Value)}
    (ho : (hd.heap_39 w.params).lookup 352 = some ⟨oc0, od, .func (fnOf name qual params body scope dV kV doc pm an cdv ct), osl⟩)
    {l bm : Addr} {ob oc : Obj} {ns : List Int} {g g₂ h₂ : Heap} {tk₂ : Nat} {ps : Array Value} (W : WD w p loose mg mb g) (M : BMod g mainGlobals mg bm ob) (hs : Scr g l ns) (S : St g s) (Rm : Room A 14 500) (G : AllBare s.gens) (hP : s.heap.get? TAB = some (tabObj ps)) (hps : TabIs gpos ps)
    (hoc : oc.data = .cell (some (.ref l))) (F : Fm s.heap g L m [(L + 1, oc)] (s.heap.get? TAB) g₂ h₂) (g02 : g.StaysIn g₂)
    {D V x : PyData} {Pw : List PyData} {vd vv v1 vp vb : Value} {as cs os bs qs : List Addr} (hD : docTop D = true) (hx : atD D Pw = some x) (hne : Pw ≠ []) (hV : okV 1 V = true)
    (md : m (Str.ofString "doc") = some vd) (jd : JR prog w g₂ vd D as) (nd : as.Nodup) (fresh : ∀ a ∈ as, g.get? a = none)
    (mv : m (Str.ofString "v") = some vv) (jv : JR prog w g₂ vv V cs) (dis : ∀ b ∈ cs, b ∉ as)
    (mo : m (Str.ofString "one") = some v1) (jo : JR prog w g₂ v1 (ed D Pw V) os) (dis1 : ∀ b ∈ os, b ∉ as)
    (mp : m (Str.ofString "p") = some vp) (jp : JR prog w g₂ vp (.list Pw) qs)
    (mb' : m (Str.ofString "before") = some vb) (jb : Reads g₂ vb (told D) bs)
    {Q : Flow → Shared → Prop} (ret : ∀ (s' : Shared) ps', s'.os = s.os → AllBare s'.gens → (∀ b o, s.heap.get? b = some o → b ≠ TAB → s'.heap.get? b = some o) → s'.heap.get? TAB = some (tabObj ps') → Q (.ret (.bool true)) s') :
    wpAny (model prog w) (A.deeper (envOfC qual scope L 352 cdv)) (execs (body.drop 11) (envOfC qual scope L 352 cdv)) Q E { s with heap := h₂, toks := tk₂ } := by
  rw [show (hd.heap_39 w.params).lookup 352 = some _ from by k_is] at ho
  cases ho
  dsimp only [List.drop]
  have R1 : ∀ env, Room (A.deeper env) 12 400 := fun env => (Rm.le (dn' := 13) (un' := 403) (by omega) (by omega)).deeper env
  have tT := S.tT
  have W₂ := W.keeps g02
  have hway := top_way hD hx
  have hpl : Pw.length ≤ 3 := (atD_ok (top_okW hD) hx).2.1
  -- at
  refine wpAny_execs_cons ?_
  refine wpAny_Assign_Name ?_
  refine Ev.go (P := In ((num ns 44).fmod (Pw.length + 1))) (gs := g₂) ?_ (fun _ _ z => z) F fun v g₃ h₃ tk₃ F₃ g23 hat => ?_
  · refine Ev.fmod ?_ ?_ (by omega)
    · exact Ev.num W₂ tT ((R1 _).le (by omega) (by omega)) (hs.keeps g02) (by decide) (.head _) hoc rfl
    · refine Ev.add ?_ Ev.int
      exact Ev.len W₂ (Ev.jd mp ⟨_, jp⟩) (by omega)
  obtain ⟨k, hk, hkl⟩ : ∃ k : Nat, (num ns 44).fmod (Pw.length + 1) = k ∧ k ≤ Pw.length := by
    have h1 := Int.fmod_nonneg_of_pos (num ns 44) (b := (Pw.length + 1 : Int)) (by omega)
    have h2 := Int.fmod_lt_of_pos (num ns 44) (b := (Pw.length + 1 : Int)) (by omega)
    exact ⟨((num ns 44).fmod (Pw.length + 1)).toNat, by omega, by omega⟩
  rw [hk] at hat
  obtain ⟨tat, rfl⟩ := hat
  refine s_loc F₃ fun h₄ F4 => ?_
  obtain ⟨m1, F₄, md1, mv1, mo1, mp1, mb1, mat⟩ : ∃ m1, Fm s.heap g L m1 [(L + 1, oc)] (s.heap.get? TAB) g₃ h₄ ∧ m1 (Str.ofString "doc") = some vd ∧ m1 (Str.ofString "v") = some vv ∧ m1 (Str.ofString "one") = some v1 ∧ m1 (Str.ofString "p") = some vp ∧ m1 (Str.ofString "before") = some vb ∧ m1 (Str.ofString "at") = some (.int k tat) :=
    ⟨_, F4, (if_neg (by decide)).trans md, (if_neg (by decide)).trans mv, (if_neg (by decide)).trans mo, (if_neg (by decide)).trans mp, (if_neg (by decide)).trans mb', if_pos rfl⟩
  clear F4 F₃
  dsimp only
  have W₃ := W₂.keeps g23
  have jp3 := jp.keeps g23
  have evp : ∀ {env gs pos}, g₃.StaysIn gs → env.locals = L → env.scope.kind = .function → env.kindOf "p" = some .local → Ev prog w (A.deeper env) env s.heap g L m1 [(L + 1, oc)] (s.heap.get? TAB) gs (.Name "p" pos) (JD prog w (.list Pw)) := fun k a b c => Ev.jd mp1 ⟨_, jp3.keeps k⟩ a b c
  have evat : ∀ {env gs pos}, env.locals = L → env.scope.kind = .function → env.kindOf "at" = some .local → Ev prog w (A.deeper env) env s.heap g L m1 [(L + 1, oc)] (s.heap.get? TAB) gs (.Name "at" pos) (In k) := fun a b c => (Ev.loc mat a b c).weak fun _ _ _ e => ⟨tat, e⟩
  -- head, tail
  refine wpAny_execs_cons ?_
  refine assign_pair (P1 := fun g' v => ∃ a, v = .ref a ∧ IsPtr w g' a ((Pw.take k).map tokS)) (P2 := fun g' v => Tail w g' v ((Pw.drop k).map tokS)) (gs := g₃) Rm.h tT ?_ ?_ (fun g g' v k ⟨a, e, i⟩ => ⟨a, e, i.keeps k⟩) (fun _ _ z => z) F₄ ?_ rfl rfl rfl rfl rfl rfl
  · refine Ev.ptr W₃ tT (R1 _) ?_ (hway.take k).path.words (hway.take k).path.ok (by have := (hway.take k).path.len; simpa using this)
    refine Ev.ltext W₃ tT (R1 _) ?_ (hway.take k).path
    exact Ev.upto tT (evp (fun _ _ z => z) rfl rfl rfl) (evat rfl rfl rfl) (by omega)
  · intro g₄ s₄ Q₄ E₄ g34 F₄' h
    have W₄ := W₃.keeps g34
    have hdr := hway.drop k
    refine Subscript_ ?_
    refine wpAny_List (spliced_more ?_)
    refine Ev.go (P := fun g' v => ∃ a, v = .ref a ∧ IsPtr w g' a ((Pw.drop k).map tokS)) (gs := g₄) ?_ (fun _ _ z => z) F₄' fun u1 g₅ h₅ tk₅ F₅ g45 ⟨a1, e1, i1⟩ => ?_
    · refine Ev.ptr W₄ tT (R1 _) ?_ hdr.words hdr.ok (by have := hdr.len; simpa using this)
      refine Ev.ltext W₄ tT (R1 _) ?_ hdr
      exact Ev.from tT (evp g34 rfl rfl rfl) (evat rfl rfl rfl) (by omega)
    subst e1
    have W₅ := W₄.keeps g45
    have g35 : g₃.StaysIn g₅ := fun b o z => g45 b o (g34 b o z)
    refine spliced_more ?_
    refine Ev.go (P := Tx (textOf ((Pw.drop k).map tokS))) (gs := g₅) ?_ (fun _ _ z => z) F₅ fun u2 g₆ h₆ tk₆ F₆ g56 ⟨t2, e2⟩ => ?_
    · refine Ev.ltext W₅ tT (R1 _) ?_ hdr
      exact Ev.from tT (evp g35 rfl rfl rfl) (evat rfl rfl rfl) (by omega)
    subst e2
    have W₆ := W₅.keeps g56
    have g36 : g₃.StaysIn g₆ := fun b o z => g56 b o (g35 b o z)
    refine spliced_more ?_
    refine lc_open (cl := []) ?_ rfl (fun _ => rfl) rfl rfl
    refine Ev.go (P := JD prog w (.list (Pw.drop k))) (gs := g₆) ?_ (fun _ _ z => z) F₆ fun u3 g₇ h₇ tk₇ F₇ g67 ⟨zs, j3⟩ => ?_
    · exact Ev.from tT (evp g36 rfl rfl rfl) (evat rfl rfl rfl) (by omega)
    have W₇ := W₆.keeps g67
    generalize hpd : Pw.drop k = pd at *
    cases j3 with
    | @list l3 vs3 _ as3 hl3 hs3 =>
    have hz : vs3.size = pd.length := by rw [← Array.length_toList, hs3.length]
    have hpdl : pd.length ≤ 5 := hdr.len
    refine lc_list F₇ tT Rm.h hl3 (by rw [hz]; have := sizeLine_eq; omega) (fun i items _ => StrsAre items ((pd.map tokS).take i)) (fun _ _ _ _ x _ => x) .nil ?_ ?_ (by decide) rfl rfl
    · rintro i u items C mc g₈ h₈ tk₈ vol' E' hi hit gg hvol F₈
      obtain ⟨du, as₂, edu, ru, -⟩ := hs3.at (i := i) (by simpa using hi)
      have hdu : tokOk du = true := List.all_eq_true.mp hdr.tok du (List.mem_of_getElem? edu)
      have W₈ := W₇.keeps gg
      refine wpAny_Call_ofName (n_bi W₈ F₈.gh (by k_is) rfl (PyProof.Rows.callWith_type1 (spliced_more ?_)))
      refine n_loc F₈ upd_same ?_
      refine spliced_none ?_
      refine call_strtok (ru.keeps gg) hdu fun t3 k3 hk3 => ?_
      refine ⟨_, g₈, h₈, _, rfl, F₈, fun _ _ e => e, ?_⟩
      have h2 : (pd.map tokS)[i]? = some (tokS du) := by rw [List.getElem?_map, edu]; rfl
      rw [take_snoc h2]
      exact hit.append' (.cons _ _ .nil)
    rintro a8 items g₈ g₉ h₉ tk₉ hit gg g89 F₉ hla hna hlen'
    have hit' : StrsAre items (pd.map tokS) := by
      rw [hz, ← List.length_map (f := tokS), List.take_length] at hit
      exact hit
    refine spliced_none ⟨by have := sizeLine_eq; simp; omega, ?_⟩
    obtain ⟨g10, F10, gg10, e10, -, -⟩ := F₉.push tT ({ cls := .type "list", data := .seq ([.ref a1, .str (textOf (pd.map tokS)) t2, .ref a8] : List Value).toArray } : Obj)
    have g9' : g₆.StaysIn g10 := fun b o z => gg10 b o (g89 b o (gg b o (g67 b o z)))
    have g410 : g₄.StaysIn g10 := fun b o z => g9' b o (g56 b o (g45 b o z))
    have W10 := W₆.keeps g9'
    generalize hl10 : h₉.objs.size = a10 at *
    have hl10 : g10.IsList a10 ([.ref a1, .str (textOf (pd.map tokS)) t2, .ref a8] : List Value).toArray := ⟨_, e10, rfl, _, rfl⟩
    refine Ev.go (P := In ((num ns 45).fmod 3)) (gs := g10) ?_ (fun _ _ z => z) F10 fun vi g11 h11 tk11 F11 gg11 hin => ?_
    · refine Ev.fmod ?_ Ev.int (by decide)
      exact Ev.num W10 tT ((R1 _).le (by omega) (by omega)) (hs.keeps (fun b o z => g410 b o (g34 b o (g23 b o (g02 b o z))))) (by decide) (.head _) hoc rfl
    obtain ⟨j, hj, hj3⟩ : ∃ j : Nat, (num ns 45).fmod 3 = j ∧ j < 3 := by
      have h1 := Int.fmod_nonneg_of_pos (num ns 45) (b := 3) (by decide)
      have h2 := Int.fmod_lt_of_pos (num ns 45) (b := 3) (by decide)
      exact ⟨((num ns 45).fmod 3).toNat, by omega, by omega⟩
    rw [hj] at hin
    obtain ⟨tj, rfl⟩ := hin
    have hl11 := isList_keeps gg11 hl10
    have g411 : g₄.StaysIn g11 := fun b o z => gg11 b o (g410 b o z)
    match j, hj3 with
    | 0, _ => exact item_L (F11.isList hl11) (by decide) (by decide) (v := .ref a1) rfl (h _ g11 h11 tk11 F11 g411 (.ptr (i1.keeps (fun b o z => gg11 b o (g9' b o (g56 b o z))))))
    | 1, _ => exact item_L (F11.isList hl11) (by decide) (by decide) (v := .str (textOf (pd.map tokS)) t2) rfl (h _ g11 h11 tk11 F11 g411 (.text t2 hdr.ok))
    | 2, _ => exact item_L (F11.isList hl11) (by decide) (by decide) (v := .ref a8) rfl (h _ g11 h11 tk11 F11 g411 (.list (isList_keeps (fun b o z => gg11 b o (gg10 b o z)) hla) hit'))
  intro vh vt g₅ h₅ tk₅ F5 g35 ⟨ah, eh, hph⟩ htl
  subst eh
  obtain ⟨m2, F₅, md2, mv2, mo2, mp2, mb2, mat2, mh2, mt2⟩ : ∃ m2, Fm s.heap g L m2 [(L + 1, oc)] (s.heap.get? TAB) g₅ h₅ ∧ m2 (Str.ofString "doc") = some vd ∧ m2 (Str.ofString "v") = some vv ∧ m2 (Str.ofString "one") = some v1 ∧ m2 (Str.ofString "p") = some vp ∧ m2 (Str.ofString "before") = some vb ∧ m2 (Str.ofString "at") = some (.int k tat) ∧ m2 (Str.ofString "head") = some (.ref ah) ∧ m2 (Str.ofString "tail") = some vt :=
    ⟨_, F5, md1, mv1, mo1, mp1, mb1, mat, if_pos rfl, rfl⟩
  clear F5
  dsimp only
  have W₅ := W₃.keeps g35
  have g05 : g.StaysIn g₅ := fun b o z => g35 b o (g23 b o (g02 b o z))
  have g25 : g₂.StaysIn g₅ := fun b o z => g35 b o (g23 b o z)
  have M₅ := M.keeps g05
  have hcat : (Pw.take k).map tokS ++ (Pw.drop k).map tokS = Pw.map tokS := by rw [← List.map_append, List.take_append_drop]
  have hpath := hway.path
  have hall : ∀ y ∈ (Pw.take k).map tokS ++ (Pw.drop k).map tokS, y ∈ words := by rw [hcat]; exact hpath.words
  have hokw : okWs ((Pw.take k).map tokS ++ (Pw.drop k).map tokS) = true := by rw [hcat]; exact hpath.ok
  have hlenw : ((Pw.take k).map tokS ++ (Pw.drop k).map tokS).length ≤ 5 := by rw [hcat]; have := hpath.len; simpa using this
  have okD := top_okW hD
  -- the joins
  refine wpAny_execs_cons ?_
  refine wpAny_If ?_
  refine wpAny_mono (Q := fun b s' => b = false ∧ ∃ g' ps', s'.os = s.os ∧ AllBare s'.gens ∧ Fm s.heap g L m2 [(L + 1, oc)] (some (tabObj ps')) g' s'.heap ∧ TabIs gpos ps' ∧ g₅.StaysIn g') ?_ (fun b s' hb => ?_) fun _ _ z => z
  · refine isTrue_or ?_
    refine wpAny_isTrue_Compare1 ?_
    refine MethodCall_ ?_
    refine n_loc F₅ mh2 ?_
    have X5 := (W₅.keeps F₅.gh).k
    refine ptr_method hph F₅.gh X5 (f := 222) (by k_is) (by k_is) (fun _ _ => rfl) ?_
    refine callWith_K W₅.k (by k_is) (spliced_more ?_)
    refine n_loc F₅ mt2 ?_
    refine spliced_none ⟨X5, ?_⟩
    refine (does_join W₅ M₅ hph htl hall hokw hlenw).use F₅ hP hps G ((R1 _).le (by omega) (by omega)) fun r g₆ s₆ ps₆ hos₆ hb₆ F₆ hps₆ g56 ⟨b6, hr, hpb, hnb⟩ => ?_
    subst hr
    rw [hcat] at hpb
    have W₆ := W₅.keeps g56
    have g26 : g₂.StaysIn g₆ := fun b o z => g56 b o (g25 b o z)
    refine Ev.go (P := fun g' v => ∃ a, v = .ref a ∧ IsPtr w g' a (Pw.map tokS)) (gs := g₆) ?_ (fun _ _ z => z) F₆ fun u7 g₇ h₇ tk₇ F₇ g67 ⟨a7, e7, i7⟩ => ?_
    · refine Ev.ptr W₆ (by simp) (R1 _) ?_ hpath.words hpath.ok (by have := hpath.len; simpa using this)
      refine Ev.ltext W₆ (by simp) (R1 _) ?_ hpath
      exact Ev.jd mp2 ⟨_, jp.keeps g26⟩
    subst e7
    have W₇ := W₆.keeps g67
    refine ne_ptr W₇ F₇ (by simp) ((R1 _).le (by omega) (by omega)) (hpb.keeps g67) i7 hpath.words fun g₈ h₈ tk₈ F₈ g78 => ?_
    refine wpAny_truthy_bool ?_
    dsimp only
    have W₈ := W₇.keeps g78
    have X8 := (W₈.keeps F₈.gh).k
    have g58 : g₅.StaysIn g₈ := fun b o z => g78 b o (g67 b o (g56 b o z))
    have g28 : g₂.StaysIn g₈ := fun b o z => g58 b o (g25 b o z)
    refine isTrue_or ?_
    refine isTrue_not ?_
    refine isTrue_plain ?_
    refine wpAny_Call_ofName (n_glob W₈ F₈.gh (by k_is) (callWith_K W₈.k (by k_is) (spliced_more ?_)))
    refine MethodCall_ ?_
    refine MethodCall_ ?_
    refine n_loc F₈ mh2 ?_
    refine ptr_method (hph.keeps g58) F₈.gh X8 (f := 222) (by k_is) (by k_is) (fun _ _ => rfl) ?_
    refine callWith_K W₈.k (by k_is) (spliced_more ?_)
    refine n_loc F₈ mt2 ?_
    refine spliced_none ⟨X8, ?_⟩
    refine (does_join W₈ (M₅.keeps g58) (hph.keeps g58) (htl.keeps g58) hall hokw hlenw).use F₈ rfl hps₆ hb₆ ((R1 _).le (by omega) (by omega)) fun r g₉ s₉ ps₉ hos₉ hb₉ F₉ hps₉ g89 ⟨b9, hr, hpb9, hnb9⟩ => ?_
    subst hr
    rw [hcat] at hpb9
    have W₉ := W₈.keeps g89
    have X9 := (W₉.keeps F₉.gh).k
    have g29 : g₂.StaysIn g₉ := fun b o z => g89 b o (g28 b o z)
    have g59 : g₅.StaysIn g₉ := fun b o z => g89 b o (g58 b o z)
    refine ptr_method hpb9 F₉.gh X9 (f := 139) (by k_is) (by k_is) (fun _ _ => rfl) ?_
    refine callWith_K W₉.k (by k_is) (spliced_more ?_)
    refine n_loc F₉ md2 ?_
    refine spliced_none ⟨X9, ?_⟩
    refine (does_resolve W₉ hpb9 (jd.keeps g29) okD hx hpath.len (.inl rfl)).use F₉ (by simp) ((R1 _).le (by omega) (by omega)) fun r10 g10 h10 tk10 F10 g910 ⟨bs10, c10⟩ => ?_
    have W10 := W₉.keeps g910
    have j10 := c10.jr.keeps g910
    have g210 : g₂.StaysIn g10 := fun b o z => g910 b o (g29 b o z)
    have g510 : g₅.StaysIn g10 := fun b o z => g910 b o (g59 b o z)
    have hsplit : atD D (Pw.take k ++ Pw.drop k) = some x := by rw [List.take_append_drop]; exact hx
    obtain ⟨ek, hek, hek2⟩ := atD_app hsplit
    refine spliced_more ?_
    refine Ev.go (P := JD prog w x) (gs := g10) ?_ (fun _ _ z => z) F10 fun r11 g11 h11 tk11 F11 g1011 ⟨bs11, j11⟩ => ?_
    · refine Ev.res (d := ek) (way := Pw.drop k) W10 (by simp) (R1 _) ?_ ?_ (atD_ok okD hek).2.2 hek2 (hway.drop k)
      · intro g12 s12 Q12 E12 g1012 F12 h
        have W12 := W10.keeps g1012
        have X12 := (W12.keeps F12.gh).k
        have g512 : g₅.StaysIn g12 := fun b o z => g1012 b o (g510 b o z)
        refine MethodCall_ ?_
        refine n_loc F12 mh2 ?_
        refine ptr_method (hph.keeps g512) F12.gh X12 (f := 139) (by k_is) (by k_is) (fun _ _ => rfl) ?_
        refine callWith_K W12.k (by k_is) (spliced_more ?_)
        refine n_loc F12 md2 ?_
        refine spliced_none ⟨X12, ?_⟩
        refine (does_resolve W12 (hph.keeps g512) ((jd.keeps g210).keeps g1012) okD hek (by have := (hway.take k).path.len; simpa using this) (.inl rfl)).use F12 (by simp) ((R1 _).le (by omega) (by omega)) fun r13 g13 h13 tk13 F13 g1213 ⟨bs13, c13⟩ => ?_
        exact h r13 g13 h13 tk13 F13 g1213 ⟨bs13, c13.jr.keeps g1213⟩
      · refine Ev.ltext W10 (by simp) (R1 _) ?_ (hway.drop k)
        refine Ev.from (by simp) (Ev.jd mp2 ⟨_, jp.keeps g210⟩) ((Ev.loc mat2).weak fun _ _ _ e => ⟨tat, e⟩) (by omega)
    have W11 := W10.keeps g1011
    refine spliced_none ⟨(W11.keeps F11.gh).k, ?_⟩
    have okx := (atD_ok okD hx).2.2
    refine (does_same W11 (by omega) (j10.keeps g1011) j11 (okW_J _ _ okx) (okW_S _ _ okx)).use F11 (by simp) ((R1 _).le (by omega) (by omega)) fun r14 g14 h14 tk14 F14 g1114 hr14 => ?_
    subst hr14
    refine wpAny_truthy_bool ?_
    refine isTrue_or_nil ?_
    exact ⟨rfl, g14, ps₉, hos₉.trans hos₆, hb₉, F14, hps₉, fun b o z => g1114 b o (g1011 b o (g510 b o z))⟩
  obtain ⟨rfl, g₆, ps₆, hos₆, hb₆, F₆, hps₆, g56⟩ := hb
  rw [if_neg (by decide)]
  refine wpAny_execs_nil ?_
  dsimp only
  have W₆ := W₅.keeps g56
  have g26 : g₂.StaysIn g₆ := fun b o z => g56 b o (g25 b o z)
  have tT6 : (some (tabObj ps₆) : Option Obj) ≠ none := by simp
  have okJD := okW_J 3 D okD
  have okSD := okW_S 3 D okD
  -- told(doc) != before
  refine wpAny_execs_cons ?_
  refine wpAny_If ?_
  refine wpAny_isTrue_Compare1 ?_
  refine wpAny_Call_ofName (n_glob W₆ F₆.gh (by k_is) (callWith_K W₆.k (by k_is) (spliced_more ?_)))
  refine n_loc F₆ md2 ?_
  refine spliced_none ⟨(W₆.keeps F₆.gh).k, ?_⟩
  refine (does_told 3 W₆ (jd.keeps g26) okJD).use F₆ tT6 ((R1 _).le (by omega) (by omega)) fun r g₇ h₇ tk₇ F₇ g67 ⟨as', ra⟩ => ?_
  refine n_loc F₇ mb2 ?_
  have g27 : g₂.StaysIn g₇ := fun b o z => g67 b o (g26 b o z)
  refine SeqAt.compareNe_shaped (reads_keeps F₇.gh ra) (reads_keeps F₇.gh (reads_keeps g27 jb)) (told_shaped (by decide) okJD okSD) (told_shaped (by decide) okJD okSD) (by show A.units + 3 + 64 < cLine; have := Rm.u; omega) ?_
  rw [told_self okJD okSD]
  refine wpAny_truthy_bool ?_
  rw [if_neg (by decide)]
  refine wpAny_execs_nil ?_
  dsimp only
  have W₇ := W₆.keeps g67
  -- kept
  refine wpAny_execs_cons ?_
  refine wpAny_Assign_Name ?_
  refine wpAny_Call_ofName (n_glob W₇ F₇.gh (by k_is) (callWith_K W₇.k (by k_is) (spliced_more ?_)))
  refine n_loc F₇ md2 ?_
  refine spliced_more ?_
  refine Ev.go (P := Tx (textOf (Pw.map tokS))) (gs := g₇) ?_ (fun _ _ z => z) F₇ fun u8 g₈ h₈ tk₈ F₈ g78 ⟨t8, e8⟩ => ?_
  · refine Ev.ltext W₇ tT6 (R1 _) ?_ hpath
    exact Ev.jd mp2 ⟨_, jp.keeps g27⟩
  subst e8
  have W₈ := W₇.keeps g78
  have g28 : g₂.StaysIn g₈ := fun b o z => g78 b o (g27 b o z)
  have g08 : g.StaysIn g₈ := fun b o z => g28 b o (g02 b o z)
  refine spliced_more ?_
  refine n_loc F₈ mv2 ?_
  refine spliced_none ⟨(W₈.keeps F₈.gh).k, ?_⟩
  obtain ⟨ts, t, hPt⟩ : ∃ ts t, Pw = ts ++ [t] := by
    rcases List.eq_nil_or_concat Pw with h | ⟨ts, t, h⟩
    · exact absurd h hne
    · exact ⟨ts, t, by rw [h, List.concat_eq_append]⟩
  have key := set_pointer_in (ts := ts) (t := t) (tk0 := t8) W₈ (by rw [← hPt]; exact hpath) (jd.keeps g28) nd okD (by decide) (by rw [← hPt]; exact hx) (jv.keeps g28) dis
  rw [← hPt] at key
  refine key _ _ _ _ (F₈.st tT6) ((R1 _).le (by omega) (by omega)) ?_
  intro gd hd' ap h' tk' xa hap hgap hk9 hne9 hput
  have F₉ := F₈.called tT6 xa
  have hapg : g.get? ap = none := fresh ap hap
  have hapb : s.heap.get? ap = none := by
    cases q : s.heap.get? ap with
    | none => rfl
    | some o => exact absurd (F.gg.new ap (by rw [q]; simp) hapg) (jd.there ap hap)
  have F10 := F₉.mut tT6 hapb hapg hgap hk9
  dsimp only
  refine s_loc F10 fun h11 F11 => ?_
  dsimp only
  have g8d : g₈.StaysIn gd := xa.grow.sub
  have gput : ∀ b o, gd.get? b = some o → b ≠ ap → (sieve h' fun b => (gd.get? b).isSome).get? b = some o := fun b o e hb => by
    rw [sieve_get, e]
    exact hk9 _ _ (xa.sub b o e) hb
  obtain ⟨cs', jdoc⟩ := hput _ gput (by
    rw [sieve_get]
    cases q : gd.get? ap with
    | none => exact absurd q hgap
    | some o => rfl)
  have jone : JR prog w (sieve h' fun b => (gd.get? b).isSome) v1 (ed D Pw V) os := by
    refine ((jo.keeps g28).keeps g8d).keepsBut (S := fun b => b = ap) (fun b o z hb => gput b o z hb) fun b hb z => ?_
    subst z
    exact dis1 b hb hap
  have W11 : WD w p loose mg mb (sieve h' fun b => (gd.get? b).isSome) := W.keeps fun b o e => gput b o (g8d b o (g08 b o e)) fun z => by rw [z, hapg] at e; cases e
  have okE : okW 4 (ed D Pw V) = true := ed_okW (okW_up _ _ okD) hx (okV_W 1 V hV) (by omega)
  -- return
  refine x_ret ?_
  obtain ⟨t0, r0, hP0⟩ : ∃ t0 r0, Pw = t0 :: r0 := by
    cases Pw with
    | nil => exact absurd rfl hne
    | cons t0 r0 => exact ⟨t0, r0, rfl⟩
  obtain ⟨a1, o1, ea, ha1, hoa, hna⟩ := box_ref (top_box hD) jd
  obtain ⟨a2, o2, eb, ha2, hob, hnb⟩ := box_ref (by rw [hP0]; exact ed_box (top_box hD)) jone
  have hab : a1 ≠ a2 := fun z => dis1 a2 ha2 (z ▸ ha1)
  have mk : ∀ {y : Str} {u : Value}, y ≠ Str.ofString "kept" → m2 y = some u → (fun z => if z = Str.ofString "kept" then some vd else m2 z) y = some u := fun hy e => (if_neg hy).trans e
  refine BoolOp_and ?_
  refine wpAny_Compare1 ?_
  refine n_loc F11 (v := vd) (if_pos rfl) ?_
  refine n_loc F11 (mk (by decide) md2) ?_
  rw [ea]
  refine wpAny_is_ref_self ?_
  refine wpAny_truthy_bool ?_
  rw [if_pos rfl]
  refine BoolOp_and ?_
  refine Ev.go (P := Is (.bool true)) (gs := sieve h' fun b => (gd.get? b).isSome) ?_ (fun _ _ z => z) F11 fun u12 g12 h12 tk12 F12 g1112 e12 => ?_
  · refine Ev.same (n := 4) (d := ed D Pw V) W11 tT6 (R1 _) ?_ ?_ okE (by decide)
    · exact Ev.jd (mk (by decide) md2) ⟨_, jdoc⟩
    · exact Ev.jd (mk (by decide) mo2) ⟨_, jone⟩
  rw [show u12 = .bool true from e12]
  refine wpAny_truthy_bool ?_
  rw [if_pos rfl]
  refine BoolOp_one ?_
  refine wpAny_Compare1 ?_
  refine n_loc F12 (mk (by decide) md2) ?_
  refine n_loc F12 (mk (by decide) mo2) ?_
  rw [ea, eb]
  obtain ⟨o1', ho1'⟩ : ∃ o1', h12.get? a1 = some o1' ∧ o1'.cls ≠ .type "tuple" := by
    obtain ⟨a3, o3, e3, -, h3, n3⟩ := box_ref (by rw [hP0]; exact ed_box (top_box hD)) jdoc
    rw [ea] at e3
    cases e3
    exact ⟨o3, F12.gh _ _ (g1112 _ _ h3), n3⟩
  refine wpAny_isNot_ref_other hab ho1'.1 (F12.gh _ _ (g1112 _ _ hob)) ho1'.2 ?_
  exact ret _ ps₆ hos₆ hb₆ (fun b o e hT => F12.keep b o e hT) F12.tab
end
end Mine
end

/-! ## NA -/
section
set_option maxRecDepth 100000
set_option maxHeartbeats 4000000
open PySem PySem.W PyProof.Rows PySem.Calls
namespace Mine

example (w : World) (h : Heap) (X : (hd.heap_39 w.params).In h) : (hd.heap_39 w.params).In h ∧ PySem.Challenge.rw_bs0014_01 = PySem.Challenge.rw_bs0014_01 := by
  k_fill
  exact ⟨X, rfl⟩

theorem apart_symm {p q : List PyData} (h : Apart p q) : Apart q p := by
  induction h with
  | here hne => exact .here (Ne.symm hne)
  | step _ ih => exact .step ih
theorem found_some : ∀ {ts : List PyData} {d x : PyData}, atD d ts = some x → ∀ f, fnd d ts f = x
  | [], d, x, h, f => by simp only [atD, Option.some.injEq] at h; exact h
  | t :: r, d, x, h, f => by
    obtain ⟨d1, h1, h2⟩ := atD_cons h
    simp only [fnd, h1]
    exact found_some h2 f
theorem found_none {n : Nat} {ts : List PyData} {d : PyData} (hd : okV n d = true) (ht : ts.all tokIn = true) (h : atD d ts = none) : (∃ k, Missing d ts k) ∧ ∀ f, fnd d ts f = f := by
  refine ⟨?_, fun f => ?_⟩
  · rcases found_or (f := .none) hd ht with ⟨x, hx, -⟩ | ⟨k, hm, -⟩
    · rw [h] at hx; cases hx
    · exact ⟨k, hm⟩
  · rcases found_or (f := f) hd ht with ⟨x, hx, -⟩ | ⟨k, -, e⟩
    · rw [h] at hx; cases hx
    · exact e

section
variable {prog : Program} {w : World} {p : Program} {loose : List Str} {mg mb : Str → Option Value} {A : Around} {E : Value → Shared → Prop} {s : Shared} {R : Result → Shared → Prop}
  {base g₀ g h h' gs : Heap} {L : Addr} {m m' : Str → Option Value} {vol : List (Addr × Obj)} {T : Option Obj} {env : Env} {outer : List Env} {P P1 P2 P3 : Heap → Value → Prop}

/-- the frame's own slots have turned -/
theorem Fm.slid (F : Fm base g₀ L m vol T g h) (tT : T ≠ none) (hf : env.frame = some L) (st : (less [env] h).StaysIn h') (sl : h.UpToSlots h') : Fm base g₀ L m vol T g h' := by
  have ho : outsOf [env] = [L] := by simp [outsOf, hf]
  have k : ∀ b o, h.get? b = some o → b ≠ L → h'.get? b = some o := fun b o e nb => st b o (hideAll_get _ e (by rw [ho]; simpa using nb))
  exact { F with
    ns := sl.ns F.ns
    keep := fun b o e hT => k b o (F.keep b o e hT) fun z => by subst z; exact absurd (Heap.lt_size e) (Nat.not_lt.mpr F.lo)
    tab := by
      cases T with
      | none => exact absurd rfl tT
      | some t => exact k _ _ F.tab F.ltab
    vv := fun p hp => let ⟨a, b, c, d⟩ := F.vv p hp; ⟨k _ _ a c, b, c, d⟩
    gh := fun b o e => k _ _ (F.gh b o e) fun z => by rw [z, F.gL] at e; cases e }

/-- resolve_pointer(.., .., ..) of a place that is not there: the default -/
theorem Ev.miss {A₀ : Around} {e e' e'' : PySem.Expr} {np pos : Pos} {n k : Nat} {d f : PyData} {way : List PyData} (W : WD w p loose mg mb gs) (tT : T ≠ none) (Rm : Room (A₀.deeper env) 12 400) (K : Stk A₀ [] g₀ base) (hT : T = base.get? TAB) (hf : env.frame = some L)
    (a : Ev prog w (A₀.deeper env) env base g₀ L m vol T gs e (JD prog w d)) (b : Ev prog w (A₀.deeper env) env base g₀ L m vol T gs e' (Tx (textOf (way.map tokS)))) (c : Ev prog w (A₀.deeper env) env base g₀ L m vol T gs e'' (JD prog w f))
    (hok : okW n d = true) (hm : Missing d way k) (hw : PathOk way) (hdf : ∀ g v, JD prog w f g v → Dflt g v)
    (he : starEach [e, e', e''] env = (false, eval e env) :: starEach [e', e''] env := by rfl) (he2 : starEach [e', e''] env = (false, eval e' env) :: starEach [e''] env := by rfl) (he3 : starEach [e''] env = (false, eval e'' env) :: starEach [] env := by rfl)
    (hg : env.globals = mainGlobals := by rfl) (hkk : env.scope.kind = .function := by rfl) (hx : env.kindOf "resolve_pointer" = some .globalImplicit := by rfl) :
    Ev prog w (A₀.deeper env) env base g₀ L m vol T gs (.Call (.Name "resolve_pointer" np) [e, e', e''] [] pos) (JD prog w f) := fun g s Q E gg F h => by
  have W' := W.keeps gg
  refine wpAny_Call_ofName (n_glob (v := .ref 71) W' F.gh (by k_is) (callWith_K W'.k (by k_is) (spliced_more ?_ he) he (by rw [he2, he3]; rfl)) hg hkk hx)
  refine a g s _ _ gg F fun v g' h' tk F' gg' ⟨as, j⟩ => ?_
  refine spliced_more ?_ he2
  refine b g' _ _ _ (fun b o z => gg' b o (gg b o z)) F' fun v' g'' h'' tk'' F'' gg'' ⟨t2, e2⟩ => ?_
  subst e2
  refine spliced_more ?_ he3
  refine c g'' _ _ _ (fun b o z => gg'' b o (gg' b o (gg b o z))) F'' fun v'' g3 h3 tk3 F3 gg3 p3 => ?_
  have k2 : gs.StaysIn g3 := fun b o z => gg3 b o (gg'' b o (gg' b o (gg b o z)))
  have W3 := W.keeps k2
  refine spliced_none (env := env) ⟨(W3.keeps F3.gh).k, ?_⟩
  refine does_resolve_pointer_missing W3 hw (j.keeps fun b o z => gg3 b o (gg'' b o z)) hok hm (hdf _ _ p3) _ _ _ _ [env] (F3.st tT) (Rm.le (by omega) (by omega)) (K.push (hT ▸ F3) hf hkk) fun r h4 tk4 st4 sl4 hr => ?_
  subst hr
  exact h _ g3 h4 tk4 (F3.slid tT hf st4 sl4) (fun b o z => gg3 b o (gg'' b o (gg' b o z))) p3
end
end Mine
end

/-! ## NB -/
section
set_option maxRecDepth 100000
set_option maxHeartbeats 4000000
open PySem PySem.W PyProof.Rows PySem.Calls
namespace Mine

example (w : World) (h : Heap) (X : (hd.heap_39 w.params).In h) : (hd.heap_39 w.params).In h ∧ PySem.Challenge.rw_bs0014_01 = PySem.Challenge.rw_bs0014_01 := by
  k_fill
  exact ⟨X, rfl⟩

section
variable {prog : Program} {w : World} {p : Program} {loose : List Str} {mg mb : Str → Option Value} {A : Around} {E : Value → Shared → Prop} {s : Shared} {R : Result → Shared → Prop}
  {base g₀ g h h' gs : Heap} {L : Addr} {m m' : Str → Option Value} {vol : List (Addr × Obj)} {T : Option Obj} {env : Env} {outer : List Env} {P P1 P2 P3 : Heap → Value → Prop}

theorem law3 {name qual : Str} {params : Arguments} {body : List Stmt} {scope : Scope} {dV kV doc pm cdv ct oc0 : Value} {an od : Option Addr} {osl : Array (Option Value)}
    (ho : (hd.heap_39 w.params).lookup 352 = some ⟨oc0, od, .func (fnOf name qual params body scope dV kV doc pm an cdv ct), osl⟩)
    {oc : Obj} {g g₂ h₂ : Heap} {tk₂ : Nat} (W : WD w p loose mg mb g) (S : St g s) (Rm : Room A 14 500) (hA : A.frames = some [])
    (F : Fm s.heap g L m [(L + 1, oc)] (s.heap.get? TAB) g₂ h₂) (g02 : g.StaysIn g₂)
    {D V Wd x y : PyData} {Pw Qw : List PyData} {vd vv vw v1 vp vq : Value} {as cs ws os qs rs : List Addr} (hD : docTop D = true) (hx : atD D Pw = some x) (hy : atD D Qw = some y) (hne : Pw ≠ []) (hV : okV 1 V = true) (hW : okV 1 Wd = true)
    (md : m (Str.ofString "doc") = some vd) (jd : JR prog w g₂ vd D as)
    (mv : m (Str.ofString "v") = some vv) (jv : JR prog w g₂ vv V cs) (mw : m (Str.ofString "w") = some vw) (jw : JR prog w g₂ vw Wd ws)
    (mo : m (Str.ofString "one") = some v1) (jo : JR prog w g₂ v1 (ed D Pw V) os)
    (mp : m (Str.ofString "p") = some vp) (jp : JR prog w g₂ vp (.list Pw) qs) (mq : m (Str.ofString "q") = some vq) (jq : JR prog w g₂ vq (.list Qw) rs)
    {Q : Flow → Shared → Prop} (next : ∀ m' g' h' tk', Fm s.heap g L m' [(L + 1, oc)] (s.heap.get? TAB) g' h' → g₂.StaysIn g' → (∀ z, z ≠ Str.ofString "there" → z ≠ Str.ofString "rest" → z ≠ Str.ofString "due" → z ≠ Str.ofString "two" → m' z = m z) →
      wpAny (model prog w) (A.deeper (envOfC qual scope L 352 cdv)) (execs (body.drop 11) (envOfC qual scope L 352 cdv)) Q E { s with heap := h', toks := tk' }) :
    wpAny (model prog w) (A.deeper (envOfC qual scope L 352 cdv)) (execs (body.drop 9) (envOfC qual scope L 352 cdv)) Q E { s with heap := h₂, toks := tk₂ } := by
  rw [show (hd.heap_39 w.params).lookup 352 = some _ from by k_is] at ho
  cases ho
  dsimp only [List.drop] at next ⊢
  have R1 : ∀ env, Room (A.deeper env) 12 400 := fun env => (Rm.le (dn' := 13) (un' := 403) (by omega) (by omega)).deeper env
  have tT := S.tT
  have K0 : Stk A [] g s.heap := ⟨hA, trivial, fun _ ha => (nomatch ha), fun ha => (nomatch ha)⟩
  have W₂ := W.keeps g02
  have hwp := top_way hD hx
  have hwq := top_way hD hy
  have hpp := hwp.path
  have hpq := hwq.path
  have okD := top_okW hD
  have hpl : Pw.length ≤ 3 := (atD_ok okD hx).2.1
  have hql : Qw.length ≤ 3 := (atD_ok okD hy).2.1
  have okx := (atD_ok okD hx).2.2
  have oky := (atD_ok okD hy).2.2
  have okV1 := okV_W 1 V hV
  have okW1 := okV_W 1 Wd hW
  have okD4 := okW_up _ _ okD
  have okE : okW 4 (ed D Pw V) = true := ed_okW okD4 hx okV1 (by omega)
  -- there
  refine wpAny_execs_cons ?_
  refine wpAny_Assign_Name ?_
  refine Ev.go (P := JD prog w y) (gs := g₂) ?_ (fun _ _ z => z) F fun vt g₃ h₃ tk₃ F3 g23 ⟨ts, jt⟩ => ?_
  · exact Ev.lat W₂ tT (R1 _) (Ev.jd md ⟨_, jd⟩) (Ev.jd mq ⟨_, jq⟩) hy
  refine s_loc F3 fun h₄ F4 => ?_
  obtain ⟨m1, F₄, hm1, mt1⟩ : ∃ m1, Fm s.heap g L m1 [(L + 1, oc)] (s.heap.get? TAB) g₃ h₄ ∧ (∀ z, z ≠ Str.ofString "there" → m1 z = m z) ∧ m1 (Str.ofString "there") = some vt :=
    ⟨_, F4, fun z hz => if_neg hz, if_pos rfl⟩
  clear F3 F4
  dsimp only
  have W₃ := W₂.keeps g23
  have md1 := (hm1 (Str.ofString "doc") (by decide)).trans md
  have mv1 := (hm1 (Str.ofString "v") (by decide)).trans mv
  have mw1 := (hm1 (Str.ofString "w") (by decide)).trans mw
  have mo1 := (hm1 (Str.ofString "one") (by decide)).trans mo
  have mp1 := (hm1 (Str.ofString "p") (by decide)).trans mp
  have mq1 := (hm1 (Str.ofString "q") (by decide)).trans mq
  have jd3 : JD prog w D g₃ vd := ⟨_, jd.keeps g23⟩
  have jv3 : JD prog w V g₃ vv := ⟨_, jv.keeps g23⟩
  have jw3 : JD prog w Wd g₃ vw := ⟨_, jw.keeps g23⟩
  have jo3 : JD prog w (ed D Pw V) g₃ v1 := ⟨_, jo.keeps g23⟩
  have jp3 : JD prog w (.list Pw) g₃ vp := ⟨_, jp.keeps g23⟩
  have jq3 : JD prog w (.list Qw) g₃ vq := ⟨_, jq.keeps g23⟩
  have jt3 : JD prog w y g₃ vt := ⟨_, jt⟩
  clear jd jv jw jo jp jq jt md mv mw mo mp mq
  -- the three ways
  refine wpAny_execs_cons ?_
  refine wpAny_mono (Q := fun f s' => f = Flow.next ∧ ∃ m' g' h' tk', s' = ({ s with heap := h', toks := tk' } : Shared) ∧ Fm s.heap g L m' [(L + 1, oc)] (s.heap.get? TAB) g' h' ∧ g₃.StaysIn g' ∧ (∀ z, z ≠ Str.ofString "rest" → z ≠ Str.ofString "due" → z ≠ Str.ofString "two" → m' z = m1 z)) ?_ (fun f s' q => ?_) fun _ _ z => z
  · refine wpAny_If ?_
    refine wpAny_isTrue_Compare1 ?_
    refine Ev.go (P := JD prog w (.list Qw)) (gs := g₃) ?_ (fun _ _ z => z) F₄ fun u5 g₅ h₅ tk₅ F₅ g35 ⟨z5, j5⟩ => ?_
    · exact Ev.jd mq1 jq3
    have W₅ := W₃.keeps g35
    refine Ev.go (P := JD prog w (.list (Pw.take Qw.length))) (gs := g₅) ?_ (fun _ _ z => z) F₅ fun u6 g₆ h₆ tk₆ F₆ g56 ⟨z6, j6⟩ => ?_
    · refine Ev.upto tT (Ev.jd mp1 (JD.mono _ _ _ g35 jp3)) ?_ (by omega)
      exact Ev.len W₅ (Ev.jd mq1 (JD.mono _ _ _ g35 jq3)) (by omega)
    have W₆ := W₅.keeps g56
    have g36 : g₃.StaysIn g₆ := fun b o z => g56 b o (g35 b o z)
    refine eq_ways (j5.keeps g56) j6 F₆.gh hpq.tok (hwp.take _).path.tok (by show A.units + 3 + 64 < cLine; have := Rm.u; omega) fun b hb => ?_
    refine wpAny_truthy_bool ?_
    cases b with
    | true =>
      have hqp : Qw = Pw.take Qw.length := hb.mp rfl
      rw [if_pos rfl]
      have hPQ : Qw ++ Pw.drop Qw.length = Pw := by
        have h1 := List.take_append_drop Qw.length Pw
        rwa [← hqp] at h1
      have hyx : atD y (Pw.drop Qw.length) = some x := by
        rw [← hPQ] at hx
        obtain ⟨d', q1, q2⟩ := atD_app hx
        rw [hy] at q1
        cases q1
        exact q2
      have habove : atD (ed D Pw V) Qw = some (ed y (Pw.drop Qw.length) V) := by
        have h1 := atD_ed_above (v := V) hy hyx
        rwa [hPQ] at h1
      have hdl : (Pw.drop Qw.length).length ≤ 3 := by rw [List.length_drop]; omega
      -- rest
      refine wpAny_execs_cons ?_
      refine wpAny_Assign_Name ?_
      refine Ev.go (P := JD prog w (.list (Pw.drop Qw.length))) (gs := g₆) ?_ (fun _ _ z => z) F₆ fun u7 g₇ h₇ tk₇ F7 g67 j7 => ?_
      · refine Ev.from tT (Ev.jd mp1 (JD.mono _ _ _ g36 jp3)) ?_ (by omega)
        exact Ev.len W₆ (Ev.jd mq1 (JD.mono _ _ _ g36 jq3)) (by omega)
      refine s_loc F7 fun h8 F8 => ?_
      dsimp only
      have W₇ := W₆.keeps g67
      have g37 : g₃.StaysIn g₇ := fun b o z => g67 b o (g36 b o z)
      have mk : ∀ {z : Str} {u : Value}, z ≠ Str.ofString "rest" → m1 z = some u → (fun q => if q = Str.ofString "rest" then some u7 else m1 q) z = some u := fun hz e => (if_neg hz).trans e
      -- due
      refine wpAny_execs_cons ?_
      refine wpAny_Assign_Name ?_
      refine Ev.go (P := JD prog w (ed y (Pw.drop Qw.length) V)) (gs := g₇) ?_ (fun _ _ z => z) F8 fun u9 g₉ h₉ tk₉ F9 g79 j9 => ?_
      · refine Ev.set (n := 3) W₇ tT (R1 _) (Ev.jd (mk (by decide) mt1) (JD.mono _ _ _ g37 jt3)) ?_ (Ev.jd (mk (by decide) mv1) (JD.mono _ _ _ g37 jv3)) (okW_le oky (by omega)) (by decide) hyx (hwp.drop _)
        exact Ev.ltext W₇ tT (R1 _) (Ev.jd (if_pos rfl) j7) (hwp.drop _)
      refine s_loc F9 fun h10 F10 => ?_
      dsimp only
      have W₉ := W₇.keeps g79
      have g39 : g₃.StaysIn g₉ := fun b o z => g79 b o (g37 b o z)
      have mk2 : ∀ {z : Str} {u : Value}, z ≠ Str.ofString "due" → z ≠ Str.ofString "rest" → m1 z = some u → (fun q => if q = Str.ofString "due" then some u9 else (fun q => if q = Str.ofString "rest" then some u7 else m1 q) q) z = some u := fun hz hz2 e => (if_neg hz).trans ((if_neg hz2).trans e)
      refine wpAny_execs_cons ?_
      refine wpAny_If ?_
      refine not_same (n := 4) (d := ed y (Pw.drop Qw.length) V) W₉ F10 tT (R1 _) ?_ ?_ (ed_okW (okW_le oky (by omega)) hyx okV1 (by omega)) (by decide) fun g11 h11 tk11 F11 g911 => ?_
      · refine Ev.res (n := 4) W₉ tT (R1 _) (Ev.jd (mk2 (by decide) (by decide) mo1) (JD.mono _ _ _ g39 jo3)) ?_ okE habove hpq
        exact Ev.ltext W₉ tT (R1 _) (Ev.jd (mk2 (by decide) (by decide) mq1) (JD.mono _ _ _ g39 jq3)) hpq
      · exact Ev.jd (if_pos rfl) j9
      rw [if_neg (by decide)]
      refine wpAny_execs_nil ?_
      dsimp only
      refine wpAny_execs_nil ?_
      exact ⟨rfl, _, g11, h11, tk11, rfl, F11, fun b o z => g911 b o (g39 b o z), fun z h1 h2 _ => (if_neg h2).trans (if_neg h1)⟩
    | false =>
      have hqp : Qw ≠ Pw.take Qw.length := fun z => by have := hb.mpr z; cases this
      rw [if_neg (by decide)]
      refine wpAny_execs_cons ?_
      refine wpAny_If ?_
      refine wpAny_isTrue_Compare1 ?_
      refine Ev.go (P := JD prog w (.list Pw)) (gs := g₆) ?_ (fun _ _ z => z) F₆ fun u7 g₇ h₇ tk₇ F₇ g67 ⟨z7, j7⟩ => ?_
      · exact Ev.jd mp1 (JD.mono _ _ _ g36 jp3)
      have W₇ := W₆.keeps g67
      have g37 : g₃.StaysIn g₇ := fun b o z => g67 b o (g36 b o z)
      refine Ev.go (P := JD prog w (.list (Qw.take Pw.length))) (gs := g₇) ?_ (fun _ _ z => z) F₇ fun u8 g₈ h₈ tk₈ F₈ g78 ⟨z8, j8⟩ => ?_
      · refine Ev.upto tT (Ev.jd mq1 (JD.mono _ _ _ g37 jq3)) ?_ (by omega)
        exact Ev.len W₇ (Ev.jd mp1 (JD.mono _ _ _ g37 jp3)) (by omega)
      have W₈ := W₇.keeps g78
      have g38 : g₃.StaysIn g₈ := fun b o z => g78 b o (g37 b o z)
      refine eq_ways (j7.keeps g78) j8 F₈.gh hpp.tok (hwq.take _).path.tok (by show A.units + 3 + 64 < cLine; have := Rm.u; omega) fun b hb2 => ?_
      refine wpAny_truthy_bool ?_
      cases b with
      | true =>
        have hpq' : Pw = Qw.take Pw.length := hb2.mp rfl
        rw [if_pos rfl]
        have hQP : Pw ++ Qw.drop Pw.length = Qw := by
          have h1 := List.take_append_drop Pw.length Qw
          rwa [← hpq'] at h1
        obtain ⟨k0, hk0⟩ : ∃ k0, Pw.length = k0 + 1 := by
          cases Pw with
          | nil => exact absurd rfl hne
          | cons a r => exact ⟨r.length, rfl⟩
        have htin : (Qw.drop Pw.length).all tokIn = true := by rw [hk0]; exact (hwq.tail k0).1
        have hpr : PathOk (Qw.drop Pw.length) := hwq.drop _
        -- rest
        refine wpAny_execs_cons ?_
        refine wpAny_Assign_Name ?_
        refine Ev.go (P := JD prog w (.list (Qw.drop Pw.length))) (gs := g₈) ?_ (fun _ _ z => z) F₈ fun u9 g₉ h₉ tk₉ F9 g89 j9 => ?_
        · refine Ev.from tT (Ev.jd mq1 (JD.mono _ _ _ g38 jq3)) ?_ (by omega)
          exact Ev.len W₈ (Ev.jd mp1 (JD.mono _ _ _ g38 jp3)) (by omega)
        refine s_loc F9 fun h10 F10 => ?_
        dsimp only
        have W₉ := W₈.keeps g89
        have g39 : g₃.StaysIn g₉ := fun b o z => g89 b o (g38 b o z)
        have mk : ∀ {z : Str} {u : Value}, z ≠ Str.ofString "rest" → m1 z = some u → (fun q => if q = Str.ofString "rest" then some u9 else m1 q) z = some u := fun hz e => (if_neg hz).trans e
        have hstr : okW 1 (.str "none") = true := by decide +kernel
        have hlst : okW 1 (.list [.int 7]) = true := rfl
        have dstr : ∀ g v, JD prog w (.str "none") g v → Dflt g v := fun g v h => by obtain ⟨t, rfl⟩ := jd_str h; exact .str _ t
        have dlst : ∀ g v, JD prog w (.list [.int 7]) g v → Dflt g v := fun g v ⟨as, j⟩ => by cases j with | list hl _ => exact .list hl
        have hbel : atD (ed D Pw V) Qw = atD V (Qw.drop Pw.length) := by
          have h1 := atD_ed_below (q := Qw.drop Pw.length) (v := V) hx
          rwa [hQP] at h1
        refine wpAny_execs_cons ?_
        refine wpAny_If ?_
        refine isTrue_or ?_
        refine not_same (n := 1) (d := fnd V (Qw.drop Pw.length) (.str "none")) W₉ F10 tT (R1 _) ?_ ?_ (found_okW okV1 hstr) (by decide) fun g11 h11 tk11 F11 g911 => ?_
        · cases hat : atD V (Qw.drop Pw.length) with
          | some z =>
            rw [found_some hat]
            refine Ev.res3 (n := 4) W₉ tT (R1 _) (Ev.jd (mk (by decide) mo1) (JD.mono _ _ _ g39 jo3)) ?_ Ev.text okE (hbel.trans hat) hpq
            exact Ev.ltext W₉ tT (R1 _) (Ev.jd (mk (by decide) mq1) (JD.mono _ _ _ g39 jq3)) hpq
          | none =>
            obtain ⟨⟨k, hmis⟩, hf⟩ := found_none hV htin hat
            rw [hf]
            have hmis' : Missing (ed D Pw V) Qw (Pw.length + k) := by
              have h1 := missing_below hx hmis
              rwa [hQP] at h1
            refine Ev.miss (n := 4) W₉ tT (R1 _) K0 rfl rfl (Ev.jd (mk (by decide) mo1) (JD.mono _ _ _ g39 jo3)) ?_ (Ev.text.weak fun g v _ ⟨t, e⟩ => e ▸ ⟨[], .str _ t⟩) okE hmis' hpq dstr
            exact Ev.ltext W₉ tT (R1 _) (Ev.jd (mk (by decide) mq1) (JD.mono _ _ _ g39 jq3)) hpq
        · exact Ev.lfound W₉ tT (R1 _) (Ev.jd (mk (by decide) mv1) (JD.mono _ _ _ g39 jv3)) (Ev.jd (if_pos rfl) j9) (Ev.text.weak fun g v _ ⟨t, e⟩ => e ▸ ⟨[], .str _ t⟩) okV1 hpr.tok
        have W11 := W₉.keeps g911
        have g311 : g₃.StaysIn g11 := fun b o z => g911 b o (g39 b o z)
        refine isTrue_or ?_
        refine not_same (n := 1) (d := fnd V (Qw.drop Pw.length) (.list [.int 7])) W11 F11 tT (R1 _) ?_ ?_ (found_okW okV1 hlst) (by decide) fun g12 h12 tk12 F12 g1112 => ?_
        · cases hat : atD V (Qw.drop Pw.length) with
          | some z =>
            rw [found_some hat]
            refine Ev.res3 (n := 1) (P3 := JD prog w (.list [.int 7])) W11 tT (R1 _) (Ev.jd (mk (by decide) mv1) (JD.mono _ _ _ g311 jv3)) ?_ ?_ okV1 hat hpr
            · exact Ev.ltext W11 tT (R1 _) (Ev.jd (if_pos rfl) (JD.mono _ _ _ g911 j9)) hpr
            · refine Ev.consts tT ?_ (by decide)
              repeat constructor
          | none =>
            obtain ⟨⟨k, hmis⟩, hf⟩ := found_none hV htin hat
            rw [hf]
            refine Ev.miss (n := 1) W11 tT (R1 _) K0 rfl rfl (Ev.jd (mk (by decide) mv1) (JD.mono _ _ _ g311 jv3)) ?_ ?_ okV1 hmis hpr dlst
            · exact Ev.ltext W11 tT (R1 _) (Ev.jd (if_pos rfl) (JD.mono _ _ _ g911 j9)) hpr
            · refine Ev.consts tT ?_ (by decide)
              repeat constructor
        · refine Ev.lfound W11 tT (R1 _) (Ev.jd (mk (by decide) mv1) (JD.mono _ _ _ g311 jv3)) (Ev.jd (if_pos rfl) (JD.mono _ _ _ g911 j9)) ?_ okV1 hpr.tok
          refine Ev.consts tT ?_ (by decide)
          repeat constructor
        refine isTrue_or_nil ?_
        rw [if_neg (by decide)]
        refine wpAny_execs_nil ?_
        dsimp only
        refine wpAny_execs_nil ?_
        dsimp only
        refine wpAny_execs_nil ?_
        exact ⟨rfl, _, g12, h12, tk12, rfl, F12, fun b o z => g1112 b o (g311 b o z), fun z h1 _ _ => if_neg h1⟩
      | false =>
        have hpq' : Pw ≠ Qw.take Pw.length := fun z => by have := hb2.mpr z; cases this
        have hap := apart_of hqp hpq'
        rw [if_neg (by decide)]
        -- two
        refine wpAny_execs_cons ?_
        refine wpAny_Assign_Name ?_
        refine Ev.go (P := JD prog w (ed D Qw Wd)) (gs := g₈) ?_ (fun _ _ z => z) F₈ fun u9 g₉ h₉ tk₉ F9 g89 j9 => ?_
        · refine Ev.set (n := 3) W₈ tT (R1 _) (Ev.jd md1 (JD.mono _ _ _ g38 jd3)) ?_ (Ev.jd mw1 (JD.mono _ _ _ g38 jw3)) okD (by decide) hy hpq
          exact Ev.ltext W₈ tT (R1 _) (Ev.jd mq1 (JD.mono _ _ _ g38 jq3)) hpq
        refine s_loc F9 fun h10 F10 => ?_
        dsimp only
        have W₉ := W₈.keeps g89
        have g39 : g₃.StaysIn g₉ := fun b o z => g89 b o (g38 b o z)
        have mk : ∀ {z : Str} {u : Value}, z ≠ Str.ofString "two" → m1 z = some u → (fun q => if q = Str.ofString "two" then some u9 else m1 q) z = some u := fun hz e => (if_neg hz).trans e
        refine wpAny_execs_cons ?_
        refine wpAny_If ?_
        refine not_same (n := 3) (d := y) W₉ F10 tT (R1 _) ?_ ?_ (okW_le oky (by omega)) (by decide) fun g11 h11 tk11 F11 g911 => ?_
        · refine Ev.res (n := 4) W₉ tT (R1 _) (Ev.jd (mk (by decide) mo1) (JD.mono _ _ _ g39 jo3)) ?_ okE (atD_ed_apart hap hx hy) hpq
          exact Ev.ltext W₉ tT (R1 _) (Ev.jd (mk (by decide) mq1) (JD.mono _ _ _ g39 jq3)) hpq
        · exact Ev.jd (mk (by decide) mt1) (JD.mono _ _ _ g39 jt3)
        rw [if_neg (by decide)]
        refine wpAny_execs_nil ?_
        dsimp only
        have W11 := W₉.keeps g911
        have g311 : g₃.StaysIn g11 := fun b o z => g911 b o (g39 b o z)
        have ok2 : okW 4 (ed D Qw Wd) = true := ed_okW okD4 hy okW1 (by omega)
        refine wpAny_execs_cons ?_
        refine wpAny_If ?_
        refine not_same (n := 4) (d := ed (ed D Pw V) Qw Wd) W11 F11 tT (R1 _) ?_ ?_ (ed_okW okE (atD_ed_apart hap hx hy) okW1 (by omega)) (by decide) fun g12 h12 tk12 F12 g1112 => ?_
        · refine Ev.set (n := 4) W11 tT (R1 _) (Ev.jd (mk (by decide) mo1) (JD.mono _ _ _ g311 jo3)) ?_ (Ev.jd (mk (by decide) mw1) (JD.mono _ _ _ g311 jw3)) okE (by decide) (atD_ed_apart hap hx hy) hpq
          exact Ev.ltext W11 tT (R1 _) (Ev.jd (mk (by decide) mq1) (JD.mono _ _ _ g311 jq3)) hpq
        · rw [ed_comm hap hx hy]
          refine Ev.set (n := 4) (d := ed D Qw Wd) (x := x) W11 tT (R1 _) (Ev.jd (if_pos rfl) (JD.mono _ _ _ g911 j9)) ?_ (Ev.jd (mk (by decide) mv1) (JD.mono _ _ _ g311 jv3)) ok2 (by decide) ?_ hpp
          · exact Ev.ltext W11 tT (R1 _) (Ev.jd (mk (by decide) mp1) (JD.mono _ _ _ g311 jp3)) hpp
          · exact atD_ed_apart (apart_symm hap) hy hx
        rw [if_neg (by decide)]
        refine wpAny_execs_nil ?_
        dsimp only
        refine wpAny_execs_nil ?_
        dsimp only
        refine wpAny_execs_nil ?_
        exact ⟨rfl, _, g12, h12, tk12, rfl, F12, fun b o z => g1112 b o (g311 b o z), fun z _ _ hz => if_neg hz⟩
  obtain ⟨rfl, m', g₅, h₅, tk₅, rfl, F₅, g35, hm'⟩ := q
  dsimp only
  exact next m' g₅ h₅ tk₅ F₅ (fun b o z => g35 b o (g23 b o z)) fun z h1 h2 h3 h4 => (hm' z h2 h3 h4).trans (hm1 z h1)
end
end Mine
end

/-! ## NC -/
section
set_option maxRecDepth 100000
set_option maxHeartbeats 4000000
open PySem PySem.W PyProof.Rows PySem.Calls
namespace Mine

example (w : World) (h : Heap) (X : (hd.heap_39 w.params).In h) : (hd.heap_39 w.params).In h ∧ PySem.Challenge.rw_bs0014_01 = PySem.Challenge.rw_bs0014_01 := by
  k_fill
  exact ⟨X, rfl⟩

section
variable {prog : Program} {w : World} {p : Program} {loose : List Str} {mg mb : Str → Option Value} {A : Around} {E : Value → Shared → Prop} {s : Shared} {R : Result → Shared → Prop}
  {base g₀ g h h' gs : Heap} {L : Addr} {m m' : Str → Option Value} {vol : List (Addr × Obj)} {T : Option Obj} {env : Env} {outer : List Env} {P P1 P2 P3 : Heap → Value → Prop}

theorem Does.weak {f : Value} {args : List Value} {dn un : Nat} (D : Does prog w f args dn un g P) (k : ∀ g' r, g.StaysIn g' → P g' r → P1 g' r) : Does prog w f args dn un g P1 := fun A s Q E S R ret =>
  D A s Q E S R fun r g' h' tk x post => ret r g' h' tk x (k g' r x.grow.sub post)

theorem law2 {name qual : Str} {params : Arguments} {body : List Stmt} {scope : Scope} {dV kV doc pm cdv ct oc0 : Value} {an od : Option Addr} {osl : Array (Option Value)}
    (ho : (hd.heap_39 w.params).lookup 352 = some ⟨oc0, od, .func (fnOf name qual params body scope dV kV doc pm an cdv ct), osl⟩)
    {l bm : Addr} {ob oc : Obj} {ns : List Int} {g g₂ h₂ : Heap} {tk₂ : Nat} {ps : Array Value} (W : WD w p loose mg mb g) (M : BMod g mainGlobals mg bm ob) (hs : Scr g l ns) (S : St g s) (Rm : Room A 14 500) (G : AllBare s.gens) (hP : s.heap.get? TAB = some (tabObj ps)) (hps : TabIs gpos ps) (hA : A.frames = some [])
    (hoc : oc.data = .cell (some (.ref l))) (F : Fm s.heap g L m [(L + 1, oc)] (s.heap.get? TAB) g₂ h₂) (g02 : g.StaysIn g₂)
    {D : PyData} {vd : Value} (hD : docTop D = true) (hne : ∃ t e, at1 D t = some e) (md : m (Str.ofString "doc") = some vd) (made : Made prog w g g₂ vd D)
    {Q : Flow → Shared → Prop} (ret : ∀ (s' : Shared) ps', s'.os = s.os → AllBare s'.gens → (∀ b o, s.heap.get? b = some o → b ≠ TAB → s'.heap.get? b = some o) → s'.heap.get? TAB = some (tabObj ps') → Q (.ret (.bool true)) s') :
    wpAny (model prog w) (A.deeper (envOfC qual scope L 352 cdv)) (execs (body.drop 2) (envOfC qual scope L 352 cdv)) Q E { s with heap := h₂, toks := tk₂ } := by
  have ho' := ho
  rw [show (hd.heap_39 w.params).lookup 352 = some _ from by k_is] at ho
  cases ho
  have law4' := @law4 prog w p loose mg mb A E s L
  have law3' := @law3 prog w p loose mg mb A E s L
  dsimp only [List.drop]
  have R1 : ∀ env, Room (A.deeper env) 12 400 := fun env => (Rm.le (dn' := 13) (un' := 403) (by omega) (by omega)).deeper env
  have tT := S.tT
  have W₂ := W.keeps g02
  obtain ⟨as, jd, nd, fresh⟩ := made
  have okD := top_okW hD
  have okD4 := okW_up _ _ okD
  have okJD := okW_J 3 D okD
  -- places
  refine wpAny_execs_cons ?_
  refine wpAny_Assign_Name ?_
  refine Ev.go (P := fun g' v => ∃ ways, Rows prog w g' v D [] (bound 3) ways ∧ ways ≠ []) (gs := g₂) ?_ (fun _ _ z => z) F fun vps g₃ h₃ tk₃ F3 g23 ⟨ways, hr, hways⟩ => ?_
  · refine Ev.call2 (f := .ref 321) (P1 := JD prog w D) (P2 := JD prog w (.list [])) W₂ tT ((R1 _).le (dn' := 5) (un' := 92) (by omega) (by omega)) (by k_is) (by k_is) (Ev.jd md ⟨_, jd⟩) ?_ JD.mono ?_
    · exact Ev.consts tT .nil (by decide)
    · rintro g v v' k ⟨_, j⟩ ⟨_, j'⟩
      exact (does_places 3 (W₂.keeps k) j okD j' rfl (by decide) (by decide)).weak fun g' r _ ⟨ps, a, _, b⟩ => ⟨ps, a, b hne⟩
  refine s_loc F3 fun h₄ F4 => ?_
  obtain ⟨m1, F₄, md1, mps⟩ : ∃ m1, Fm s.heap g L m1 [(L + 1, oc)] (s.heap.get? TAB) g₃ h₄ ∧ m1 (Str.ofString "doc") = some vd ∧ m1 (Str.ofString "places") = some vps := ⟨_, F4, (if_neg (by decide)).trans md, if_pos rfl⟩
  clear F3 F4
  dsimp only
  have W₃ := W₂.keeps g23
  have g03 : g.StaysIn g₃ := fun b o z => g23 b o (g02 b o z)
  have jw : JD prog w (.list (ways.map .list)) g₃ vps := by
    obtain ⟨a, rs, cs, rfl, hl, j⟩ := hr.at_
    exact ⟨_, .list hl (by simpa using j)⟩
  have hwl : ways.length ≤ 40 := hr.le
  have hwp : 0 < ways.length := List.length_pos_iff.mpr hways
  -- p, q
  have pick : ∀ z : Int, ∃ (i : Nat) (way : List PyData) (x : PyData), z.fmod ways.length = i ∧ (ways.map PyData.list)[i]? = some (.list way) ∧ atD D way = some x ∧ way ≠ [] := by
    intro z
    have h1 := Int.fmod_nonneg_of_pos z (b := (ways.length : Int)) (by omega)
    have h2 := Int.fmod_lt_of_pos z (b := (ways.length : Int)) (by omega)
    have hi : (z.fmod ways.length).toNat < ways.length := by omega
    have hm := List.getElem_mem hi
    obtain ⟨q, e, e1, e2⟩ := hr.ok _ hm
    refine ⟨(z.fmod ways.length).toNat, ways[(z.fmod ways.length).toNat], e, by omega, by rw [List.getElem?_map, List.getElem?_eq_getElem hi]; rfl, ?_, hr.ne _ hm⟩
    rw [e1]
    exact e2
  obtain ⟨i, Pw, x, hi, hPi, hx, hPne⟩ := pick (num ns 40)
  obtain ⟨j, Qw, y, hj, hQj, hy, -⟩ := pick ((num ns 41).fdiv 3)
  refine wpAny_execs_cons ?_
  refine assign_pair (P1 := JD prog w (.list Pw)) (P2 := JD prog w (.list Qw)) (gs := g₃) Rm.h tT ?_ ?_ JD.mono (fun _ _ z => z) F₄ ?_ rfl rfl rfl rfl rfl rfl
  · refine Ev.item (xs := ways.map .list) (i := i) (Ev.jd mps jw) ?_ (by simp; omega) hPi (fun _ _ => rfl) (fun h => Subscript_ h)
    rw [← hi]
    refine Ev.fmod ?_ ?_ (by omega)
    · exact Ev.num W₃ tT ((R1 _).le (by omega) (by omega)) (hs.keeps g03) (by decide) (.head _) hoc rfl
    · refine Ev.weak (P := In ((ways.map PyData.list).length)) ?_ fun _ _ _ h => by rwa [List.length_map] at h
      exact Ev.len W₃ (Ev.jd mps jw) (by simp; omega)
  · refine Ev.item (xs := ways.map .list) (i := j) (Ev.jd mps jw) ?_ (by simp; omega) hQj (fun _ _ => rfl) (fun h => Subscript_ h)
    rw [← hj]
    refine Ev.fmod ?_ ?_ (by omega)
    · refine Ev.fdiv ?_ Ev.int (by decide)
      exact Ev.num W₃ tT ((R1 _).le (by omega) (by omega)) (hs.keeps g03) (by decide) (.head _) hoc rfl
    · refine Ev.weak (P := In ((ways.map PyData.list).length)) ?_ fun _ _ _ h => by rwa [List.length_map] at h
      exact Ev.len W₃ (Ev.jd mps jw) (by simp; omega)
  intro vp vq g₅ h₅ tk₅ F5 g35 ⟨qs, jp⟩ ⟨rs, jq⟩
  obtain ⟨m2, F₅, md2, mp2, mq2⟩ : ∃ m2, Fm s.heap g L m2 [(L + 1, oc)] (s.heap.get? TAB) g₅ h₅ ∧ m2 (Str.ofString "doc") = some vd ∧ m2 (Str.ofString "p") = some vp ∧ m2 (Str.ofString "q") = some vq := ⟨_, F5, md1, if_pos rfl, rfl⟩
  clear F5
  dsimp only
  have W₅ := W₃.keeps g35
  have g25 : g₂.StaysIn g₅ := fun b o z => g35 b o (g23 b o z)
  have g05 : g.StaysIn g₅ := fun b o z => g25 b o (g02 b o z)
  -- v, w
  have valE : ∀ {env env0 : Env} {c : Int} {np sp cp ep pos : Pos} {ck ek : Nat}, 0 ≤ c → c < 100 → env.cells.lookup ("script" : Str) = some (L + 1) → env.globals = mainGlobals → env.scope.kind = .function → env.kindOf "_law_value" = some .globalImplicit → env.kindOf "script" = some .cell →
      Ev prog w (A.deeper env0) env s.heap g L m2 [(L + 1, oc)] (s.heap.get? TAB) g₅ (.Call (.Name "_law_value" np) [.Name "script" sp, .Constant (.int c) ck cp, .Constant (.int 1) ek ep] [] pos) (fun g' r => ∃ d cs, okV 1 d = true ∧ JR prog w g' r d cs ∧ ∀ a ∈ cs, g₅.get? a = none) := fun h0 h1 hc hg hk hx hx2 =>
    Ev.call3 (f := .ref 304) (P1 := Is (.ref l)) (P2 := In _) (P3 := In 1) W₅ tT ((R1 _).le (dn' := 3) (un' := 20) (by omega) (by omega)) (by k_is) (by k_is) (Ev.cell (.head _) hoc hc hk hx2) Ev.int Ev.int Is.mono In.mono
      (fun g' v v' v'' k e1 ⟨t, e2⟩ ⟨t', e3⟩ => by
        rw [show v = _ from e1, e2, e3]
        exact (does_value 1 (W₅.keeps k) ((hs.keeps g05).keeps k) h0 (by omega)).weak fun g'' r _ ⟨d, hd, cs, ja, _, jf⟩ => ⟨d, cs, hd, ja, fun a ha => none_back k (jf a ha)⟩) rfl rfl rfl hg hk hx
  refine wpAny_execs_cons ?_
  refine assign_pair (P1 := fun g' r => ∃ d cs, okV 1 d = true ∧ JR prog w g' r d cs ∧ ∀ a ∈ cs, g₅.get? a = none) (P2 := fun g' r => ∃ d cs, okV 1 d = true ∧ JR prog w g' r d cs ∧ ∀ a ∈ cs, g₅.get? a = none) (gs := g₅) Rm.h tT ?_ ?_ (fun g g' v k ⟨d, cs, a, b, c⟩ => ⟨d, cs, a, b.keeps k, c⟩) (fun _ _ z => z) F₅ ?_ rfl rfl rfl rfl rfl rfl
  · exact valE (by decide) (by decide) rfl rfl rfl rfl rfl
  · exact valE (by decide) (by decide) rfl rfl rfl rfl rfl
  intro vv vw g₆ h₆ tk₆ F6 g56 ⟨V, cs, hV, jv, fv⟩ ⟨Wd, ws, hW, jwd, _⟩
  obtain ⟨m3, F₆, md3, mp3, mq3, mv3, mw3⟩ : ∃ m3, Fm s.heap g L m3 [(L + 1, oc)] (s.heap.get? TAB) g₆ h₆ ∧ m3 (Str.ofString "doc") = some vd ∧ m3 (Str.ofString "p") = some vp ∧ m3 (Str.ofString "q") = some vq ∧ m3 (Str.ofString "v") = some vv ∧ m3 (Str.ofString "w") = some vw := ⟨_, F6, md2, mp2, mq2, if_pos rfl, rfl⟩
  clear F6
  dsimp only
  have W₆ := W₅.keeps g56
  have g26 : g₂.StaysIn g₆ := fun b o z => g56 b o (g25 b o z)
  have dis : ∀ b ∈ cs, b ∉ as := fun b hb hm => (jd.keeps g25).there b hm (fv b hb)
  have hwayp := top_way hD hx
  have hpp := hwayp.path
  have okV1 := okV_W 1 V hV
  have okW1 := okV_W 1 Wd hW
  have hpl : Pw.length ≤ 3 := (atD_ok okD hx).2.1
  have okE : okW 4 (ed D Pw V) = true := ed_okW okD4 hx okV1 (by omega)
  -- before
  refine wpAny_execs_cons ?_
  refine wpAny_Assign_Name ?_
  refine Ev.go (P := fun g' r => ∃ bs, Reads g' r (told D) bs) (gs := g₆) ?_ (fun _ _ z => z) F₆ fun vb g₇ h₇ tk₇ F7 g67 ⟨bs, jb⟩ => ?_
  · exact Ev.call1 (f := .ref 309) W₆ tT ((R1 _).le (dn' := 5) (un' := 20) (by omega) (by omega)) (by k_is) (by k_is) (Ev.jd md3 ⟨_, jd.keeps g26⟩) fun g' v k ⟨_, j'⟩ => does_told 3 (W₆.keeps k) j' okJD
  refine s_loc F7 fun h8 F8 => ?_
  obtain ⟨m4, F₈, hm4, mb4⟩ : ∃ m4, Fm s.heap g L m4 [(L + 1, oc)] (s.heap.get? TAB) g₇ h8 ∧ (∀ z, z ≠ Str.ofString "before" → m4 z = m3 z) ∧ m4 (Str.ofString "before") = some vb := ⟨_, F8, fun z hz => if_neg hz, if_pos rfl⟩
  clear F7 F8
  dsimp only
  have W₇ := W₆.keeps g67
  have g27 : g₂.StaysIn g₇ := fun b o z => g67 b o (g26 b o z)
  have md4 := (hm4 (Str.ofString "doc") (by decide)).trans md3
  have mp4 := (hm4 (Str.ofString "p") (by decide)).trans mp3
  have mq4 := (hm4 (Str.ofString "q") (by decide)).trans mq3
  have mv4 := (hm4 (Str.ofString "v") (by decide)).trans mv3
  have mw4 := (hm4 (Str.ofString "w") (by decide)).trans mw3
  have g37 : g₃.StaysIn g₇ := fun b o z => g67 b o (g56 b o (g35 b o z))
  have g57 : g₅.StaysIn g₇ := fun b o z => g67 b o (g56 b o z)
  -- one
  refine wpAny_execs_cons ?_
  refine wpAny_Assign_Name ?_
  refine Ev.go (P := fun g' r => ∃ os, JR prog w g' r (ed D Pw V) os ∧ ∀ b ∈ os, b ∉ as) (gs := g₇) ?_ (fun _ _ z => z) F₈ fun v1 g₉ h₉ tk₉ F9 g79 ⟨os, jo, dis1⟩ => ?_
  · refine Ev.call3k (f := .ref 63) (P1 := fun g v => JR prog w g v D as) (P2 := Tx (textOf (Pw.map tokS))) (P3 := fun g v => JR prog w g v V cs) W₇ tT ((R1 _).le (dn' := 9) (un' := 152) (by omega) (by omega)) (by k_is) (by k_is) ?_ ?_ ?_ (fun _ _ _ k j => j.keeps k) Tx.mono ?_
    · exact (Ev.loc md4).weak fun g' v k e => by rw [show v = vd from e]; exact (jd.keeps g27).keeps k
    · exact Ev.ltext W₇ tT (R1 _) (Ev.jd mp4 ⟨_, jp.keeps g57⟩) hpp
    · exact (Ev.loc mv4).weak fun g' v k e => by rw [show v = vv from e]; exact (jv.keeps g67).keeps k
    · rintro g' v v' v'' k j1 ⟨t, e⟩ j3
      rw [e]
      intro A s Q E S R ret
      exact does_set_pointer (n := 3) (W₇.keeps k) hpp j1 okD (by decide) hx j3 A s Q E S R fun r g'' h'' tk'' xa ⟨⟨as', ja, hja⟩, _⟩ => ret r g'' h'' tk'' xa ⟨as', ja, fun b hb hm => (hja b hb).elim (fun z => j1.there b hm z) fun z => dis b z hm⟩
  refine s_loc F9 fun h10 F10 => ?_
  obtain ⟨m5, F10', hm5, mo5⟩ : ∃ m5, Fm s.heap g L m5 [(L + 1, oc)] (s.heap.get? TAB) g₉ h10 ∧ (∀ z, z ≠ Str.ofString "one" → m5 z = m4 z) ∧ m5 (Str.ofString "one") = some v1 := ⟨_, F10, fun z hz => if_neg hz, if_pos rfl⟩
  clear F9 F10
  dsimp only
  have W₉ := W₇.keeps g79
  have g29 : g₂.StaysIn g₉ := fun b o z => g79 b o (g27 b o z)
  have g59 : g₅.StaysIn g₉ := fun b o z => g79 b o (g57 b o z)
  have g69 : g₆.StaysIn g₉ := fun b o z => g79 b o (g67 b o z)
  have md5 := (hm5 (Str.ofString "doc") (by decide)).trans md4
  have mp5 := (hm5 (Str.ofString "p") (by decide)).trans mp4
  have mq5 := (hm5 (Str.ofString "q") (by decide)).trans mq4
  have mv5 := (hm5 (Str.ofString "v") (by decide)).trans mv4
  have mw5 := (hm5 (Str.ofString "w") (by decide)).trans mw4
  have mb5 := (hm5 (Str.ofString "before") (by decide)).trans mb4
  have jd9 : JD prog w D g₉ vd := ⟨_, jd.keeps g29⟩
  have jp9 : JD prog w (.list Pw) g₉ vp := ⟨_, jp.keeps g59⟩
  have jv9 : JD prog w V g₉ vv := ⟨_, jv.keeps g69⟩
  have jw9 : JD prog w Wd g₉ vw := ⟨_, jwd.keeps g69⟩
  have jo9 : JD prog w (ed D Pw V) g₉ v1 := ⟨_, jo⟩
  -- the first law
  refine wpAny_execs_cons ?_
  refine wpAny_If ?_
  refine isTrue_or ?_
  refine not_same (n := 4) (d := ed D Pw V) W₉ F10' tT (R1 _) ?_ ?_ okE (by decide) fun g11 h11 tk11 F11 g911 => ?_
  · exact Ev.jd mo5 jo9
  · exact Ev.edited (n := 3) W₉ tT (R1 _) (Ev.jd md5 jd9) (Ev.jd mp5 jp9) (Ev.jd mv5 jv9) okD (by decide) hx (by omega)
  have W11 := W₉.keeps g911
  refine isTrue_or ?_
  refine not_same (n := 1) (d := V) W11 F11 tT (R1 _) ?_ ?_ okV1 (by decide) fun g12 h12 tk12 F12 g1112 => ?_
  · refine Ev.res (n := 4) W11 tT (R1 _) (Ev.jd mo5 (JD.mono _ _ _ g911 jo9)) ?_ okE (atD_ed hx) hpp
    exact Ev.ltext W11 tT (R1 _) (Ev.jd mp5 (JD.mono _ _ _ g911 jp9)) hpp
  · exact Ev.jd mv5 (JD.mono _ _ _ g911 jv9)
  have W12 := W11.keeps g1112
  have g912 : g₉.StaysIn g12 := fun b o z => g1112 b o (g911 b o z)
  refine isTrue_or ?_
  refine not_same (n := 3) (d := D) W12 F12 tT (R1 _) ?_ ?_ okD (by decide) fun g13 h13 tk13 F13 g1213 => ?_
  · refine Ev.weak (P := JD prog w (ed D Pw x)) ?_ fun g' v _ h => by rwa [ed_self jd hx] at h
    refine Ev.set (n := 3) W12 tT (R1 _) (Ev.jd md5 (JD.mono _ _ _ g912 jd9)) ?_ ?_ okD (by decide) hx hpp
    · exact Ev.ltext W12 tT (R1 _) (Ev.jd mp5 (JD.mono _ _ _ g912 jp9)) hpp
    · exact Ev.lat W12 tT (R1 _) (Ev.jd md5 (JD.mono _ _ _ g912 jd9)) (Ev.jd mp5 (JD.mono _ _ _ g912 jp9)) hx
  · exact Ev.jd md5 (JD.mono _ _ _ g912 jd9)
  refine isTrue_or_nil ?_
  rw [if_neg (by decide)]
  refine wpAny_execs_nil ?_
  dsimp only
  have W13 := W12.keeps g1213
  have g913 : g₉.StaysIn g13 := fun b o z => g1213 b o (g912 b o z)
  -- the second law
  refine wpAny_execs_cons ?_
  refine wpAny_If ?_
  refine not_same (n := 4) (d := ed D Pw Wd) W13 F13 tT (R1 _) ?_ ?_ (ed_okW okD4 hx okW1 (by omega)) (by decide) fun g14 h14 tk14 F14 g1314 => ?_
  · refine Ev.weak (P := JD prog w (ed (ed D Pw V) Pw Wd)) ?_ fun g' v _ h => by rwa [ed_ed hx] at h
    refine Ev.set (n := 4) (x := V) W13 tT (R1 _) (Ev.jd mo5 (JD.mono _ _ _ g913 jo9)) ?_ (Ev.jd mw5 (JD.mono _ _ _ g913 jw9)) okE (by decide) (atD_ed hx) hpp
    exact Ev.ltext W13 tT (R1 _) (Ev.jd mp5 (JD.mono _ _ _ g913 jp9)) hpp
  · refine Ev.set (n := 3) W13 tT (R1 _) (Ev.jd md5 (JD.mono _ _ _ g913 jd9)) ?_ (Ev.jd mw5 (JD.mono _ _ _ g913 jw9)) okD (by decide) hx hpp
    exact Ev.ltext W13 tT (R1 _) (Ev.jd mp5 (JD.mono _ _ _ g913 jp9)) hpp
  rw [if_neg (by decide)]
  refine wpAny_execs_nil ?_
  dsimp only
  have W14 := W13.keeps g1314
  have g914 : g₉.StaysIn g14 := fun b o z => g1314 b o (g913 b o z)
  have g214 : g₂.StaysIn g14 := fun b o z => g914 b o (g29 b o z)
  have g514 : g₅.StaysIn g14 := fun b o z => g914 b o (g59 b o z)
  have g614 : g₆.StaysIn g14 := fun b o z => g914 b o (g69 b o z)
  have g014 : g.StaysIn g14 := fun b o z => g214 b o (g02 b o z)
  refine law3 ho' W S Rm hA F14 g014 hD hx hy hPne hV hW md5 (jd.keeps g214) mv5 (jv.keeps g614) mw5 (jwd.keeps g614) mo5 (jo.keeps g914) mp5 (jp.keeps g514) mq5 (jq.keeps g514) ?_
  intro m' g' h' tk' F' k' hm'
  have kk : ∀ {z : Str} {u : Value}, z ≠ Str.ofString "there" → z ≠ Str.ofString "rest" → z ≠ Str.ofString "due" → z ≠ Str.ofString "two" → m5 z = some u → m' z = some u := fun h1 h2 h3 h4 e => (hm' _ h1 h2 h3 h4).trans e
  exact law4 ho' W M hs S Rm G hP hps hoc F' (fun b o z => k' b o (g014 b o z)) hD hx hPne hV (kk (by decide) (by decide) (by decide) (by decide) md5) (jd.keeps fun b o z => k' b o (g214 b o z)) nd fresh
    (kk (by decide) (by decide) (by decide) (by decide) mv5) (jv.keeps fun b o z => k' b o (g614 b o z)) dis (kk (by decide) (by decide) (by decide) (by decide) mo5) (jo.keeps fun b o z => k' b o (g914 b o z)) dis1
    (kk (by decide) (by decide) (by decide) (by decide) mp5) (jp.keeps fun b o z => k' b o (g514 b o z)) (kk (by decide) (by decide) (by decide) (by decide) mb5) (reads_keeps (fun b o z => k' b o (g914 b o (g79 b o z))) jb) ret
end
end Mine
end

/-! ## ND -/
section
set_option maxRecDepth 100000
set_option maxHeartbeats 4000000
open PySem PySem.W PyProof.Rows PySem.Calls
namespace Mine

example (w : World) (h : Heap) (X : (hd.heap_39 w.params).In h) : (hd.heap_39 w.params).In h ∧ PySem.Challenge.rw_bs0014_01 = PySem.Challenge.rw_bs0014_01 := by
  k_fill
  exact ⟨X, rfl⟩

section
variable {prog : Program} {w : World} {p : Program} {loose : List Str} {mg mb : Str → Option Value}
theorem does_law {l bm : Addr} {ob : Obj} {ns : List Int} {g : Heap} (W : WD w p loose mg mb g) (M : BMod g mainGlobals mg bm ob) (hs : Scr g l ns) :
    ∀ (A : Around) (s : Shared) (ps : Array Value) (R : Result → Shared → Prop), St g s → Room A 14 500 → AllBare s.gens → s.heap.get? TAB = some (tabObj ps) → TabIs gpos ps → A.frames = some [] →
      (∀ (s' : Shared) ps', s'.os = s.os → AllBare s'.gens → (∀ b o, s.heap.get? b = some o → b ≠ TAB → s'.heap.get? b = some o) → s'.heap.get? TAB = some (tabObj ps') → R (.ok (.ret (.bool true))) s') → codeAny (model prog w) A (.call (.ref 352) ⟨[.ref l], []⟩) R s := by
  intro A s ps R S Rm G hP hps hA ret
  (refine' enterC W S ?ho ?hcd ?hroom ?hb ?hl ?hn ?_ ?h2 ?h3 ?h4; (case ho => k_is); (case hcd => k_is); (case hroom => (have := Rm.d; omega)); (case hb => exact BindsTo.of_eq rfl); (case hl => exact rfl); (case hn => decide); (case h2 => exact rfl); (case h3 => exact rfl); (case h4 => exact rfl))
  intro L h₁ tk cells Y F0
  obtain ⟨oc, rfl, hoc⟩ := CellsAre.one Y
  have hoc : oc.data = .cell (some (.ref l)) := hoc
  clear Y
  have R1 : ∀ env, Room (A.deeper env) 12 400 := fun env => (Rm.le (dn' := 13) (un' := 403) (by omega) (by omega)).deeper env
  have R2 : ∀ env, Room (A.deeper env) 10 200 := fun env => (R1 env).le (by omega) (by omega)
  have tT := S.tT
  have numE : ∀ {env env0 : Env} {gs : Heap} {C : Addr} {mc : Str → Option Value} {vol' : List (Addr × Obj)} {c : Int} {np sp cp pos : Pos} {ck : Nat}, g.StaysIn gs → (-1000000 < c ∧ c < 1000000) → (L + 1, oc) ∈ vol' → env.cells.lookup ("script" : Str) = some (L + 1) →
      env.globals = mainGlobals → env.scope.kind = .function → env.kindOf "_law_number" = some .globalImplicit → env.kindOf "script" = some .cell →
      Ev prog w (A.deeper env0) env s.heap g C mc vol' (s.heap.get? TAB) gs (.Call (.Name "_law_number" np) [.Name "script" sp, .Constant (.int c) ck cp] [] pos) (In (num ns c)) := fun k hc hm hce a b c d =>
    Ev.num (W.keeps k) tT (R2 _) (hs.keeps k) hc hm hoc hce a b c d
  -- parts
  refine wpAny_execs_cons ?_
  refine lc_assign (cl := [(Str.ofString "script", L + 1)]) ?_ rfl rfl (fun _ => rfl) rfl rfl
  refine wpAny_Call_ofName (n_bi W F0.gh (by k_is) rfl (PyProof.Rows.callWith_type1 (spliced_more ?_)))
  refine (Ev.add Ev.int (Ev.fmod (numE (fun _ _ z => z) (by decide) (.head _) rfl rfl rfl rfl rfl) Ev.int (by decide))).go (fun _ _ z => z) F0 fun v g₁ h₂ tk₂ F₁ g01 ⟨t1, e1⟩ => ?_
  subst e1
  dsimp only
  generalize hn0 : num ns 0 = n0
  obtain ⟨c, hc, hc1, hc3⟩ : ∃ c : Nat, 1 + n0.fmod 3 = c ∧ 1 ≤ c ∧ c ≤ 3 := by
    have h1 := Int.fmod_nonneg_of_pos n0 (b := 3) (by decide)
    have h2 := Int.fmod_lt_of_pos n0 (b := 3) (by decide)
    exact ⟨(1 + n0.fmod 3).toNat, by omega, by omega, by omega⟩
  rw [hc]
  have W₁ := W.keeps g01
  refine spliced_none (call_rng F₁ fun ra h₃ tk₃ t₃ u₃ v₃ F₃ hr => ?_)
  refine lc_rangeU F₃ tT Rm.h hr (by omega) (fun i items g₆ => ∃ ds : List PyData, ds.length = i ∧ ds.all (okV 2) = true ∧ Mades prog w g g₆ items ds ∧ g.StaysIn g₆) (fun i items g₁ g₂ ⟨ds, a, b, c, d⟩ gg => ⟨ds, a, b, c.keeps gg, fun b o e => gg b o (d b o e)⟩) ⟨[], rfl, rfl, .nil, g01⟩ ?_ ?_ (by decide) rfl rfl rfl rfl rfl
  · rintro i ti items C mc g₆ h₆ tk₆ vol' E' hi ⟨ds, hlen, hall, hmade, gg6⟩ g26 hvol F₆
    have W₆ := W.keeps gg6
    refine wpAny_Call_ofName (n_glob W₆ F₆.gh (by k_is) (callWith_K W₆.k (by k_is) (spliced_more ?_)))
    refine n_cell' F₆ (hvol _ (.head _)) hoc rfl ?_
    refine arg_i (.add .const (.loc F₆ upd_same ⟨_, rfl⟩)) fun t7 tk7 => ?_
    dsimp only
    refine arg_i .const fun t8 tk8 => ?_
    dsimp only
    refine spliced_none ⟨(W₆.keeps F₆.gh).k, ?_⟩
    refine (does_value 2 W₆ (hs.keeps gg6) (by omega) (by omega)).use F₆ tT ((R1 _).le (by omega) (by omega)) fun r g₇ h₇ tk₇ F₇ g67 ⟨d, hd, hm⟩ => ?_
    exact ⟨_, g₇, h₇, tk₇, rfl, F₇, g67, ds ++ [d], by simp [hlen], by simp [hall, hd], hmade.snoc gg6 g67 hm, fun b o e => g67 b o (gg6 b o e)⟩
  rintro a items g₆ g₇ h₇ tk₇ ⟨ds, hlen, hall, hmade, gg6⟩ g26 g67 F₇ hla hna hlen'
  dsimp only
  have g07 : g.StaysIn g₇ := fun b o z => g67 b o (gg6 b o z)
  have W₇ := W.keeps g07
  -- doc
  refine wpAny_execs_cons ?_
  refine wpAny_Assign_Name ?_
  obtain ⟨m1, F7, mparts⟩ : ∃ m1, Fm s.heap g L m1 [(L + 1, oc)] (s.heap.get? TAB) g₇ h₇ ∧ m1 (Str.ofString "parts") = some (.ref a) := ⟨_, F₇, upd_same⟩
  clear F₇
  refine wpAny_mono (Q := fun r s' => ∃ g₂ h₂ tk₂ D, s' = ({ s with heap := h₂, toks := tk₂ } : Shared) ∧ Fm s.heap g L m1 [(L + 1, oc)] (s.heap.get? TAB) g₂ h₂ ∧ g.StaysIn g₂ ∧ docTop D = true ∧ (∃ t e, at1 D t = some e) ∧ Made prog w g g₂ r D) ?_ (fun r s' q => ?_) fun _ _ x => x
  · refine wpAny_IfExp ?_
    refine isTrue_plain ?_
    refine (Ev.fmod (Ev.fdiv (numE (c := 0) g07 (by decide) (.head _) rfl rfl rfl rfl rfl) Ev.int (by decide)) Ev.int (by decide)).go (fun _ _ z => z) F7 fun v g₈ h₈ tk₈ F₈ g78 ⟨t8, e8⟩ => ?_
    subst e8
    rw [hn0]
    refine truthy_int ?_
    have g08 : g.StaysIn g₈ := fun b o z => g78 b o (g07 b o z)
    have W₈ := W.keeps g08
    have hla8 := isList_keeps g78 hla
    cases hb : ((n0.fdiv 3).fmod 2 != 0) with
    | false =>
      rw [if_neg (by decide)]
      refine n_loc F₈ mparts ?_
      refine ⟨g₈, h₈, _, .list ds, rfl, F₈, g08, ?_, ⟨.int 0, ds[0]'(by omega), ?_⟩, ?_⟩
      · simp only [docTop, hall, Bool.and_true, decide_eq_true_eq]; omega
      · simp only [at1]
        rw [if_pos (by omega)]
        exact List.getElem?_eq_getElem _
      · exact hmade.list gg6 (fun b o z => g78 b o (g67 b o z)) hla8 hna
    | true =>
      rw [if_pos rfl]
      refine dc_open (cl := [(Str.ofString "script", L + 1)]) ?_ rfl (fun _ => rfl) rfl rfl
      refine wpAny_Call_ofName (n_bi W₈ F₈.gh (by k_is) rfl (PyProof.Rows.callWith_type1 (spliced_more ?_)))
      refine n_loc F₈ mparts ?_
      refine spliced_none ?_
      refine call_enum F₈ tT hla8 fun h₉ ⟨oi, F₉, hoc9, hod9⟩ => ?_
      generalize hii : (n0.fdiv 6).fmod 2 = ii
      obtain ⟨i0, rfl, hi2⟩ : ∃ i0 : Nat, ii = i0 ∧ i0 < 2 := by
        have h1 := Int.fmod_nonneg_of_pos (n0.fdiv 6) (b := 2) (by decide)
        have h2 := Int.fmod_lt_of_pos (n0.fdiv 6) (b := 2) (by decide)
        rw [hii] at h1 h2
        exact ⟨ii.toNat, by omega, by omega⟩
      obtain ⟨nm, hnm, hnm3⟩ : ∃ nm : List Str, ([PyData.list (topA.map .str), PyData.list (topB.map .str)] : List PyData)[i0]? = some (.list (nm.map .str)) ∧ nm.length = 3 ∧ nm.Nodup ∧ ∀ y ∈ nm, y ∈ topK := by
        match i0, hi2 with
        | 0, _ => exact ⟨topA, rfl, by decide +kernel⟩
        | 1, _ => exact ⟨topB, rfl, by decide +kernel⟩
      refine dc_enum F₉ hoc9 hod9 tT Rm.h hla8 (by simp; have := sizeLine_eq; omega) (fun (i : Nat) (its : List (Str × Value)) (_ : Heap) => its.map (fun q : Str × Value => q.1) = nm.take i ∧ its.map (fun q : Str × Value => q.2) = items.take i) (fun _ _ _ _ x _ => x) ⟨rfl, rfl⟩ ?_ ?_ (by decide) rfl rfl rfl
      · rintro i v tv its C mc g₁₅ h₁₅ tk₁₅ vol' E' hi ⟨e1, e2⟩ gg hvol F₁₅
        have hi' : i < items.length := by
          have := (Array.getElem?_eq_some_iff.mp hi).1
          simpa using this
        obtain ⟨y, hy⟩ : ∃ y, nm[i]? = some y := ⟨_, List.getElem?_eq_getElem (show i < nm.length by omega)⟩
        have g015 : g.StaysIn g₁₅ := fun b o z => gg b o (g08 b o z)
        refine Ev.go (P := JD prog w (.str y)) ?ev (fun _ _ z => z) F₁₅ fun vk g₁₆ h₁₆ tk₁₆ F₁₆ g156 hk => ?_
        case ev =>
          refine Ev.item (xs := nm.map .str) (i := i) ?_ ?_ (by simp [hnm3.1]) (by rw [List.getElem?_map, hy]; rfl) (fun _ _ => rfl) (fun h => Subscript_ h)
          · refine Ev.item (xs := [PyData.list (topA.map .str), PyData.list (topB.map .str)]) (i := i0) ?_ ?_ (by simp) hnm (fun _ _ => rfl) (fun h => Subscript_ h)
            · refine Ev.list2 tT ?_ ?_
              · refine Ev.consts tT ?_ (by decide)
                repeat constructor
              · refine Ev.consts tT ?_ (by decide)
                repeat constructor
            · rw [← hii]
              refine Ev.fmod ?_ Ev.int (by decide)
              refine Ev.fdiv ?_ Ev.int (by decide)
              rw [← hn0]
              exact numE g015 (by decide) (hvol _ (.head _)) rfl rfl rfl rfl rfl
          · exact (Ev.loc (v := .int i tv) (by rw [upd_ne (by decide)]; exact upd_same)).weak fun _ _ _ e => ⟨tv, e⟩
        obtain ⟨ty, rfl⟩ := jd_str hk
        refine n_loc F₁₆ upd_same ?_
        have hlen6 : its.length = i := by
          have := congrArg List.length e1
          simp only [List.length_map, List.length_take] at this
          omega
        have hny : ∀ z ∈ its, z.1 ≠ y := by
          intro z hz ez
          have hz' : y ∈ nm.take i := by rw [← e1, ← ez]; exact List.mem_map_of_mem hz
          have hnd := hnm3.2.1
          rw [← List.take_append_drop i nm, List.nodup_append] at hnd
          refine hnd.2.2 y hz' y ?_ rfl
          rw [List.drop_eq_getElem_cons (show i < nm.length by omega), show nm[i] = y from (List.getElem?_eq_some_iff.mp hy).2]
          exact .head _
        refine ⟨y, ty, _, g₁₆, h₁₆, tk₁₆, rfl, rfl, F₁₆, g156, ⟨?_, ?_⟩, by omega⟩
        · rw [stored_new hny, take_snoc hy, List.map_append, e1]; rfl
        · have hiv : items[i]? = some v := by simpa using hi
          rw [stored_new hny, take_snoc hiv, List.map_append, e2]; rfl
      · rintro a6 its ep g₁₅ g₁₆ h₁₆ tk₁₆ ⟨e1, e2⟩ gg g1516 F₁₆ hda hma hna6
        rw [List.size_toArray] at e1 e2
        rw [List.take_length] at e2
        have hz : (List.zip ((nm.take items.length).map PyData.str) ds).map (·.1) = (nm.take items.length).map PyData.str := List.map_fst_zip (by simp; omega)
        have hz2 : (List.zip ((nm.take items.length).map PyData.str) ds).map (·.2) = ds := List.map_snd_zip (by simp; omega)
        have g815 : g₆.StaysIn g₁₅ := fun b o z => gg b o (g78 b o (g67 b o z))
        refine ⟨g₁₆, h₁₆, _, .dict (List.zip ((nm.take items.length).map PyData.str) ds), rfl, F₁₆, fun b o z => g1516 b o (gg b o (g08 b o z)), ?_, ?_, ?_⟩
        · simp only [docTop, Bool.and_eq_true, List.all_eq_true]
          refine ⟨decide_eq_true (by simp; omega), fun q hq => ?_⟩
          obtain ⟨q1, q2⟩ := List.of_mem_zip (show (q.1, q.2) ∈ _ from hq)
          obtain ⟨y, hy, ey⟩ := List.mem_map.mp q1
          rw [← ey]
          refine ⟨?_, List.all_eq_true.mp hall _ q2⟩
          simp only [isKey, List.contains_iff_mem]
          exact hnm3.2.2 y (List.mem_of_mem_take hy)
        · obtain ⟨y0, nm', rfl⟩ : ∃ y0 nm', nm = y0 :: nm' := by
            cases nm with
            | nil => simp at hnm3
            | cons y0 nm' => exact ⟨y0, nm', rfl⟩
          obtain ⟨d0, ds', rfl⟩ : ∃ d0 ds', ds = d0 :: ds' := by
            cases ds with
            | nil => simp at hlen; omega
            | cons d0 ds' => exact ⟨d0, ds', rfl⟩
          obtain ⟨c', hc'⟩ : ∃ c', items.length = c' + 1 := ⟨items.length - 1, by omega⟩
          refine ⟨.str y0, d0, ?_⟩
          simp only [at1]
          rw [hc', List.take_succ_cons, List.map_cons, List.zip_cons_cons, findK_cons, if_pos (by simp [isK])]
        · refine Mades.dict (g₁ := g₁₅) (kvs := its) ?_ (fun b o e => gg b o (g08 b o e)) g1516 ?_ hda hma hna6
          · rw [hz2, e2]
            exact hmade.keeps g815
          · rw [hz, ← e1, List.map_map]; rfl
  obtain ⟨g₈, h₈, tk₈, D, rfl, F₈, g08, hD, hne, hmadeD⟩ := q
  refine s_loc F₈ fun h₉ F9 => ?_
  obtain ⟨m2, F₉, md⟩ : ∃ m2, Fm s.heap g L m2 [(L + 1, oc)] (s.heap.get? TAB) g₈ h₉ ∧ m2 (Str.ofString "doc") = some r := ⟨_, F9, if_pos rfl⟩
  clear F9
  dsimp only
  exact law2 (Q := fun fl s' => R (.ok (.ret (match fl with | .ret v => v | _ => .none))) s') (by k_is) W M hs S Rm G hP hps hA hoc F₉ g08 hD hne md hmadeD fun s' ps' a b c d => ret s' ps' a b c d
end
end Mine
end

/-! ## NE -/
section
set_option maxRecDepth 100000
set_option maxHeartbeats 4000000
open PySem PySem.W PyProof.Rows PySem.Calls
namespace Mine

example (w : World) (h : Heap) (X : (hd.heap_39 w.params).In h) : (hd.heap_39 w.params).In h ∧ PySem.Challenge.rw_bs0014_01 = PySem.Challenge.rw_bs0014_01 := by
  k_fill
  exact ⟨X, rfl⟩

/-- all but the table -/
def bare (h : Heap) : Heap := sieve h fun a => !(Nat.beq a TAB)
theorem bare_get {h : Heap} {a : Addr} (ha : a ≠ TAB) : (bare h).get? a = h.get? a := by
  unfold bare
  rw [sieve_get, if_pos]
  cases q : Nat.beq a TAB with
  | false => rfl
  | true => exact absurd (Nat.eq_of_beq_eq_true q) ha
theorem bare_tab {h : Heap} : (bare h).get? TAB = none := by
  unfold bare
  rw [sieve_get]
  rfl
theorem bare_ns {h : Heap} {a : Addr} {m : Str → Option Value} (ha : a ≠ TAB) (x : h.Ns a m) : (bare h).Ns a m :=
  let ⟨o, es, ep, e, r⟩ := x; ⟨o, es, ep, (bare_get ha).trans e, r⟩
theorem wd_bare {w : World} {p : Program} {loose : List Str} {mean : ExcName → Option Value} {mg mb : Str → Option Value} {h : Heap} (X : (hd.heap_39 w.params).In h) (T : Top p loose mean mg mb h) : WD w p loose mg mb (bare h) where
  k := fun a o e => by
    have ha : a ≠ TAB := fun z => by
      subst z
      have : (hd.heap_39 w.params).lookup TAB = none := by kernel_rfl
      rw [this] at e; cases e
    exact (bare_get ha).trans (X a o e)
  t := ⟨bare_ns (by decide) T.g, bare_ns (by decide) T.b, let ⟨mc, a, b⟩ := T.nolimit; ⟨mc, bare_ns (by decide) a, b⟩, T.builtins, T.free⟩
  nodig := let ⟨mc, a, b⟩ := T.nodigits; ⟨mc, bare_ns (by decide) a, b⟩
theorem bare_bmod {h : Heap} {mg : Str → Option Value} {bm : Addr} {ob : Obj} {ps : Array Value} (ht : h.get? TAB = some (tabObj ps)) (M : BMod h mainGlobals mg bm ob) : BMod (bare h) mainGlobals mg bm ob :=
  ⟨bare_ns (by decide) M.ns, M.name, M.ne, (bare_get fun z => by
    have h1 := M.obj
    have h2 := M.cls
    rw [z, ht] at h1
    cases h1
    cases h2).trans M.obj, M.cls, M.dict, M.data⟩
theorem bare_list {h : Heap} {l : Addr} {vs : Array Value} {ps : Array Value} (ht : h.get? TAB = some (tabObj ps)) (x : h.IsList l vs) : (bare h).IsList l vs := by
  obtain ⟨o, e, c, r⟩ := x
  refine ⟨o, (bare_get fun z => ?_).trans e, c, r⟩
  rw [z, ht] at e
  cases e
  cases c

theorem core {prog : Program} {w : World} {p : Program} {loose : List Str} {mean : ExcName → Option Value} {mg mb : Str → Option Value} {s₁ : Shared} {fa l bm : Addr} {ob : Obj} {vs : List Value} {ns : List Int} (X : (hd.heap_39 w.params).In s₁.heap) (T : Top p loose mean mg mb s₁.heap)
    (KT : ∀ P ∈ [265], s₁.heap.get? P = some (tabObj #[])) (hg : s₁.gens = #[]) (M : BMod s₁.heap mainGlobals mg bm ob) (hl : s₁.heap.IsList l vs.toArray) (hi : IntsAre vs ns) (hn : ¬ (63 : Int) < ns.length) (hmg : mg (Str.ofString "law") = some (.ref fa)) {R : Result → Shared → Prop}
    (ret : ∀ s' : Shared, s'.os = s₁.os → AllBare s'.gens → OldK s₁.heap s'.heap → R (.ok (.ret (.bool true))) s') : codeAny (model prog w) callerA (.call (.ref fa) ⟨[.ref l], []⟩) R s₁ := by
  have ht : s₁.heap.get? TAB = some (tabObj #[]) := KT 265 (.head _)
  have e1 : mg (Str.ofString "law") = some (.ref 352) := mg_of X T.g (by k_is)
  rw [hmg] at e1
  cases e1
  have W := wd_bare X T
  have S : St (bare s₁.heap) s₁ := ⟨fun b o e => (sieve_some e).2, bare_tab, by rw [ht]; exact Option.some_ne_none _⟩
  refine does_law W (bare_bmod ht M) ⟨⟨vs, bare_list ht hl, hi⟩, by omega⟩ callerA s₁ #[] R S ⟨by decide +kernel, by decide +kernel, rfl⟩ (.of_eq hg) ht (.inl rfl) rfl fun s' ps' hos hb st hT => ?_
  refine ret s' hos hb ⟨fun b o e => ?_, fun b o e => ?_⟩
  · by_cases hbT : b = TAB
    · subst hbT
      rw [ht] at e
      cases e
      obtain ⟨o, vs, _, _, _, _, _, _, _, c1, c2, c3, c4, -⟩ := codeHd_of_K (c := 267) (P := 265) X (by kernel_rfl)
      exact .inr (.inl ⟨⟨267, o, vs, c1, c2, c3, c4⟩, rfl, #[], ps', rfl, by rw [hT]; simp [tabObj]⟩)
    · exact .inl (st b o e hbT)
  · by_cases hbT : b = TAB
    · exact ⟨_, hbT ▸ hT⟩
    · exact ⟨o, st b o e hbT⟩
end Mine
end

/-! ## NF -/
open PySem PySem.W PyProof.Rows PySem.Calls
set_option maxRecDepth 100000 in
set_option maxHeartbeats 8000000 in
theorem PySem.Challenge.cw_bs0014_01_holds : PySem.Challenge.rw_bs0014_01.Holds :=
  Mine.hd (by
    k_fill
    intro w s₀ s₁ mg mb G Y fa o pm cd doc dV kV ho hd hcd hD hmg hg args vals as hpre hlay hrd hwl hlo
    have KX := km_in_of Y
    have KT := km_tabs_of Y
    have X := (Ground.X G).1
    have V := (Ground.X G).2
    refine Ground.open G ?_
    intro T B D TE TW
    obtain ⟨_, _, M⟩ := bmod_of_top T
    wrow_args hpre hlay hrd hwl hlo
    refine enter_call ?_
    refine Mine.core KX T KT hg M (by assumption) (by assumption) (by assumption) hmg fun s' hos hb hK => ?_
    refine ⟨.inl ⟨_, _, [], rfl, fun _ => rfl, ReadsW.bool true, ?_, fun _ => ⟨List.nodup_nil, fun _ hm => (nomatch hm)⟩⟩, hK, hos, hb⟩
    first | rfl | wrow_post)
