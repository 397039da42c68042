import PyProof.Rows.All
import Wide.All
import OpenK.AllK
import Wide.FinOn
import PySem.Challenge.RW_kl0456_01
set_option Elab.async false
set_option maxRecDepth 100000

section
open PySem PySem.W PyProof.Rows
namespace Mine
set_option maxRecDepth 100000 in
set_option maxHeartbeats 8000000 in
open_top hd for PySem.Challenge.rw_kl0456_01
end Mine
end

section
namespace Mine
open PySem PySem.W PySem.Calls PyProof.Rows

/-- nothing raises -/
abbrev No : Value → Shared → Prop := fun _ _ => False

/-- the addresses that the variables of a block lie at -/
def vas (env : Env) : List Addr := env.locals :: env.cells.map (·.2)

structure Fm (env : Env) : Prop where
  fn : env.scope.kind = .function
  gl : env.globals = mainGlobals
  bl : env.builtins = builtinsNs
  nd : (vas env).Nodup
  nn : (env.cells.map (·.1)).Nodup
  nl : ∀ p ∈ env.cells, env.kindOf p.1 ≠ some .local

theorem inj_of_nodup {α β : Type} {f : α → β} : ∀ {l : List α}, (l.map f).Nodup → ∀ {a b : α}, a ∈ l → b ∈ l → f a = f b → a = b
  | [], _, _, _, h, _, _ => nomatch h
  | x :: r, hn, a, b, ha, hb, e => by
    rw [List.map_cons, List.nodup_cons] at hn
    rcases List.mem_cons.mp ha with ea | ha' <;> rcases List.mem_cons.mp hb with eb | hb'
    · rw [ea, eb]
    · exact absurd (ea ▸ e ▸ List.mem_map_of_mem hb') hn.1
    · exact absurd (eb ▸ e ▸ List.mem_map_of_mem ha') hn.1
    · exact inj_of_nodup hn.2 ha' hb' e

structure Vs (env : Env) (h : Heap) (σ : Str → Option Value) : Prop where
  loc : ∃ m, h.Ns env.locals m ∧ ∀ x v, env.kindOf x = some .local → σ x = some v → m x = some v
  cel : ∀ x c, (x, c) ∈ env.cells → ∃ v₀, h.IsCell c v₀ ∧ ∀ v, σ x = some v → v₀ = some v

/-- a point of a walk: the base stands, the variables are σ, the ledger μ stands -/
structure Pt (B : Heap) (env : Env) (σ : Str → Option Value) (μ : List (Addr × Obj)) (h : Heap) : Prop where
  fm : Fm env
  st : B.StaysIn h
  vs : Vs env h σ
  off : ∀ a ∈ vas env, B.get? a = none
  mu : ∀ p ∈ μ, h.get? p.1 = some p.2 ∧ p.1 ∉ vas env ∧ B.get? p.1 = none
  nd : (μ.map (·.1)).Nodup

def upd (σ : Str → Option Value) (x : Str) (v : Value) : Str → Option Value := fun y => if y = x then some v else σ y

theorem vs_alive {env : Env} {h : Heap} {σ} (V : Vs env h σ) : ∀ a ∈ vas env, ∃ o, h.get? a = some o := by
  intro a ha
  rcases List.mem_cons.mp ha with rfl | ha
  · obtain ⟨m, ⟨o, _, _, ho, _⟩, _⟩ := V.loc
    exact ⟨o, ho⟩
  · obtain ⟨⟨x, c⟩, hc, rfl⟩ := List.mem_map.mp ha
    obtain ⟨v₀, ⟨o, ho, _⟩, _⟩ := V.cel x c hc
    exact ⟨o, ho⟩

theorem Vs.keep {env : Env} {h h' : Heap} {σ} (V : Vs env h σ) (k : ∀ a ∈ vas env, ∀ o, h.get? a = some o → h'.get? a = some o) : Vs env h' σ := by
  refine ⟨?_, fun x c hc => ?_⟩
  · obtain ⟨m, hn, hm⟩ := V.loc
    exact ⟨m, hn.at' fun o e => k _ (List.mem_cons_self) o e, hm⟩
  · obtain ⟨v₀, ⟨o, ho, hd⟩, hv⟩ := V.cel x c hc
    exact ⟨v₀, ⟨o, k _ (List.mem_cons_of_mem _ (List.mem_map.mpr ⟨_, hc, rfl⟩)) o ho, hd⟩, hv⟩

namespace Pt
variable {B B' : Heap} {env : Env} {σ σ' : Str → Option Value} {μ μ' : List (Addr × Obj)} {h h' : Heap}

theorem grow (P : Pt B env σ μ h) (k : h.StaysIn h') : Pt B env σ μ h' :=
  ⟨P.fm, fun b o e => k b o (P.st b o e), P.vs.keep fun a _ o e => k a o e, P.off, fun p hp => ⟨k _ _ (P.mu p hp).1, (P.mu p hp).2⟩, P.nd⟩

theorem fresh (P : Pt B env σ μ h) {a : Addr} (ha : h.get? a = none) : a ∉ vas env ∧ B.get? a = none ∧ a ∉ μ.map (·.1) := by
  refine ⟨fun hm => ?_, ?_, fun hm => ?_⟩
  · obtain ⟨o, ho⟩ := vs_alive P.vs a hm
    rw [ha] at ho; cases ho
  · cases e : B.get? a with
    | none => rfl
    | some o => have := P.st a o e; rw [ha] at this; cases this
  · obtain ⟨p, hp, rfl⟩ := List.mem_map.mp hm
    have := (P.mu p hp).1; rw [ha] at this; cases this

theorem weak (P : Pt B env σ μ h) (hs : ∀ x v, σ' x = some v → σ x = some v) : Pt B env σ' μ h :=
  ⟨P.fm, P.st, ⟨let ⟨m, a, b⟩ := P.vs.loc; ⟨m, a, fun x v hk hv => b x v hk (hs x v hv)⟩, fun x c hc => let ⟨v₀, a, b⟩ := P.vs.cel x c hc; ⟨v₀, a, fun v hv => b v (hs x v hv)⟩⟩, P.off, P.mu, P.nd⟩

theorem lower (P : Pt B env σ μ h) (k : B'.StaysIn B) : Pt B' env σ μ h := by
  have hn : ∀ a, B.get? a = none → B'.get? a = none := fun a ha => by
    cases e : B'.get? a with
    | none => rfl
    | some o => have := k a o e; rw [ha] at this; cases this
  exact ⟨P.fm, fun b o e => P.st b o (k b o e), P.vs, fun a ha => hn a (P.off a ha), fun p hp => ⟨(P.mu p hp).1, (P.mu p hp).2.1, hn _ (P.mu p hp).2.2⟩, P.nd⟩

theorem sub (P : Pt B env σ μ h) (hs : μ'.Sublist μ) : Pt B env σ μ' h :=
  ⟨P.fm, P.st, P.vs, P.off, fun p hp => P.mu p (hs.subset hp), (hs.map _).nodup P.nd⟩

/-- the base taken anew: all but the variables and the ledger -/
theorem base (P : Pt B env σ μ h) : ∃ B', B.StaysIn B' ∧ Pt B' env σ μ h ∧ ∀ a o, h.get? a = some o → a ∉ vas env → a ∉ μ.map (·.1) → B'.get? a = some o := by
  refine ⟨hideAll h (vas env ++ μ.map (·.1)), fun b o e => hideAll_get _ (P.st b o e) fun hm => ?_, ⟨P.fm, fun b o e => of_hideAll _ e, P.vs, fun a ha => hideAll_none _ (List.mem_append_left _ ha), fun p hp => ⟨(P.mu p hp).1, (P.mu p hp).2.1, hideAll_none _ (List.mem_append_right _ (List.mem_map_of_mem hp))⟩, P.nd⟩,
    fun a o e h1 h2 => hideAll_get _ e fun hm => (List.mem_append.mp hm).elim h1 h2⟩
  rcases List.mem_append.mp hm with hm | hm
  · rw [P.off b hm] at e; cases e
  · obtain ⟨p, hp, rfl⟩ := List.mem_map.mp hm
    rw [(P.mu p hp).2.2] at e; cases e

theorem add (P : Pt B env σ μ h) {a : Addr} {o : Obj} (ho : h.get? a = some o) (h1 : a ∉ vas env) (h2 : B.get? a = none) (h3 : a ∉ μ.map (·.1)) : Pt B env σ ((a, o) :: μ) h :=
  ⟨P.fm, P.st, P.vs, P.off, fun p hp => by
    rcases List.mem_cons.mp hp with rfl | hp
    · exact ⟨ho, h1, h2⟩
    · exact P.mu p hp, by rw [List.map_cons]; exact List.nodup_cons.mpr ⟨h3, P.nd⟩⟩

/-- a new object onto the ledger -/
theorem addNew (P : Pt B env σ μ h) (k : h.StaysIn h') {a : Addr} {o : Obj} (ho : h'.get? a = some o) (hf : h.get? a = none) : Pt B env σ ((a, o) :: μ) h' :=
  let ⟨h1, h2, h3⟩ := P.fresh hf
  (P.grow k).add ho h1 h2 h3

theorem push (P : Pt B env σ μ h) (o : Obj) (hf : o.isFreed = false := by rfl) : Pt B env σ ((h.objs.size, o) :: μ) (h.push o) :=
  P.addNew (fun _ _ e => Heap.get?_push_of_some _ e) (Heap.get?_push_size _ hf) (Heap.get?_none_of_le (Nat.le_refl _))

/-- a change at one place of the ledger -/
theorem set (P : Pt B env σ μ h) {a : Addr} {o o' : Obj} (hm : (a, o) ∈ μ) (hs : ∀ b ob, b ≠ a → h.get? b = some ob → h'.get? b = some ob) (ho : h'.get? a = some o')
    (hμ : ∀ p ∈ μ', p = (a, o') ∨ (p ∈ μ ∧ p.1 ≠ a)) (hn : (μ'.map (·.1)).Nodup) : Pt B env σ μ' h' := by
  have ha := P.mu _ hm
  refine ⟨P.fm, fun b ob e => hs b ob (fun q => by rw [q, ha.2.2] at e; cases e) (P.st b ob e), P.vs.keep fun b hb ob e => hs b ob (fun q => ha.2.1 (q ▸ hb)) e, P.off, fun p hp => ?_, hn⟩
  rcases hμ p hp with rfl | ⟨hp, hne⟩
  · exact ⟨ho, ha.2⟩
  · exact ⟨hs _ _ hne (P.mu p hp).1, (P.mu p hp).2⟩
end Pt

/-- a variable that the block reads from its own locals or from a cell -/
def okVar (env : Env) (x : Str) : Bool := match env.kindOf x with
  | some .local => true
  | some .cell => (env.cells.lookup x).isSome
  | some .free => (env.cells.lookup x).isSome && !(x == ("__classdict__" : Str))
  | _ => false
/-- a variable that the block stores -/
def okSt (env : Env) (x : Str) : Bool := match env.kindOf x with
  | some .local => true
  | some .cell => (env.cells.lookup x).isSome
  | _ => false

/-- where a variable lies -/
def varAt (env : Env) (x : Str) : Option Addr := match env.kindOf x with
  | some .local => some env.locals
  | _ => env.cells.lookup x

section
variable {M : Model} {A : Around} {E : Value → Shared → Prop} {s : Shared} {B : Heap} {env : Env} {σ : Str → Option Value} {μ : List (Addr × Obj)} {x : Str} {v : Value}

theorem ld_var {Q : Value → Shared → Prop} (P : Pt B env σ μ s.heap) (hv : σ x = some v) (hk : okVar env x = true) (h : Q v s) : wpAny M A (loadName env x) Q E s := by
  unfold okVar at hk
  split at hk
  · rename_i hl
    obtain ⟨m, hn, hm⟩ := P.vs.loc
    exact wpAny_loadName_local P.fm.fn hl hn (hm x v hl hv) h
  · rename_i hl
    obtain ⟨c, hc⟩ := Option.isSome_iff_exists.mp hk
    obtain ⟨v₀, hi, he⟩ := P.vs.cel x c (mem_of_lookup hc)
    exact wpAny_loadName_cell P.fm.fn hl hc (he v hv ▸ hi) h
  · rename_i hl
    obtain ⟨hk, hx⟩ := Bool.and_eq_true_iff.mp hk
    obtain ⟨c, hc⟩ := Option.isSome_iff_exists.mp hk
    obtain ⟨v₀, hi, he⟩ := P.vs.cel x c (mem_of_lookup hc)
    exact wpAny_loadName_free P.fm.fn hl hc (he v hv ▸ hi) h (by simpa using hx)
  · cases hk

theorem ev_name {pos : Pos} {Q : Value → Shared → Prop} (P : Pt B env σ μ s.heap) (hv : σ x = some v) (h : Q v s) (hk : okVar env x = true := by rfl) (hd : (x == ("__debug__" : Str)) = false := by decide) :
    wpAny M A (eval (.Name x pos) env) Q E s := wpAny_Name (ld_var P hv hk h) hd

theorem st_var {Q : Unit → Shared → Prop} (P : Pt B env σ μ s.heap) (h : ∀ h' tk, Pt B env (upd σ x v) μ h' → (∀ b o, varAt env x ≠ some b → s.heap.get? b = some o → h'.get? b = some o) → Q () { s with heap := h', toks := tk }) (hk : okSt env x = true := by rfl) :
    wpAny M A (storeName env x v) Q E s := by
  have hp : (env.scope.kind == .class || (env.scope.kind == .module && env.locals != env.globals)) = false := by rw [P.fm.fn]; rfl
  have hnd := P.fm.nd
  rw [vas, List.nodup_cons] at hnd
  unfold okSt at hk
  split at hk
  · rename_i hl
    obtain ⟨m, hn, hm⟩ := P.vs.loc
    refine wpAny_storeName_local hl hn (fun h' hn' hs => h h' _ ⟨P.fm, fun b o e => hs.extBut b o (fun q => ?_) (P.st b o e), ⟨⟨_, hn', fun y u hk' hu => ?_⟩, fun y c hc => ?_⟩, P.off, fun p hp => ⟨hs.extBut _ _ (fun q => (P.mu p hp).2.1 (q ▸ List.mem_cons_self)) (P.mu p hp).1, (P.mu p hp).2⟩, P.nd⟩ fun b o hb e => hs.extBut b o (fun q => hb (by unfold varAt; rw [hl, q])) e) hp
    · rw [q, P.off _ List.mem_cons_self] at e; cases e
    · unfold upd at hu
      by_cases q : y = x
      · simp only [q, if_true] at hu ⊢; exact hu
      · simp only [q, if_false] at hu ⊢; exact hm y u hk' hu
    · obtain ⟨v₀, hi, he⟩ := P.vs.cel y c hc
      have hne : c ≠ env.locals := fun q => hnd.1 (q ▸ List.mem_map.mpr ⟨_, hc, rfl⟩)
      refine ⟨v₀, hi.sameBut hs hne, fun u hu => he u ?_⟩
      unfold upd at hu
      by_cases q : y = x
      · exact absurd (q ▸ hl) (P.fm.nl _ hc)
      · simpa only [q, if_false] using hu
  · rename_i hl
    obtain ⟨c, hc⟩ := Option.isSome_iff_exists.mp hk
    have hcm := mem_of_lookup hc
    obtain ⟨v₀, hi, he⟩ := P.vs.cel x c hcm
    have hcv : c ∈ vas env := List.mem_cons_of_mem _ (List.mem_map.mpr ⟨_, hcm, rfl⟩)
    refine wpAny_storeName_cell P.fm.fn hl hc hi fun h' hi' hs => ?_
    refine h h' s.toks ⟨P.fm, fun b o e => hs.extBut b o (fun q => ?_) (P.st b o e), ⟨?_, fun y c' hc' => ?_⟩, P.off, fun p hp => ⟨hs.extBut _ _ (fun q => (P.mu p hp).2.1 (q ▸ hcv)) (P.mu p hp).1, (P.mu p hp).2⟩, P.nd⟩ fun b o hb e => hs.extBut b o (fun q => hb (by unfold varAt; rw [hl, q]; exact hc)) e
    · rw [q, P.off _ hcv] at e; cases e
    · obtain ⟨m, hn, hm⟩ := P.vs.loc
      refine ⟨m, hn.sameBut hs fun q => hnd.1 (q ▸ List.mem_map.mpr ⟨_, hcm, rfl⟩), fun y u hk' hu => hm y u hk' ?_⟩
      unfold upd at hu
      by_cases q : y = x
      · rw [q, hl] at hk'; cases hk'
      · simpa only [q, if_false] using hu
    · by_cases q : y = x
      · subst q
        have : c' = c := (Prod.mk.inj (inj_of_nodup P.fm.nn hc' hcm rfl)).2
        subst this
        exact ⟨_, hi', fun u hu => by unfold upd at hu; simpa using hu⟩
      · obtain ⟨v₁, hi₁, he₁⟩ := P.vs.cel y c' hc'
        have hne : c' ≠ c := fun e => q (Prod.mk.inj (inj_of_nodup hnd.2 hc' hcm e)).1
        exact ⟨v₁, hi₁.sameBut hs hne, fun u hu => he₁ u (by unfold upd at hu; simpa only [q, if_false] using hu)⟩
  · cases hk
end
end Mine
end

section
namespace Mine
open PySem PySem.W PySem.Calls PyProof.Rows

structure Iter (prog : Program) (w : World) (A : Around) (I : Addr) (fx : List Addr) (n : Nat) (Pv : Nat → Value → Prop) (St : Nat → Heap → Prop) : Prop where
  W : Walks prog w A I (I :: fx) [I] n Pv St
  live : ∀ i h, St i h → ∃ o, h.get? I = some o
  go : ∀ i (s' : Shared) v target (Q' : Unit → Shared → Prop) (E : Value → Shared → Prop), St i s'.heap → Q' () s' → wpAny (model prog w) A (letOwnedTupleGo target (.ref I) v) Q' E s'

/-- xv may be iterated from s: n items, the i-th as Pv says; fx: what the iterator reads -/
def Iters (prog : Program) (w : World) (A : Around) (xv : Value) (fx : List Addr) (n : Nat) (Pv : Nat → Value → Prop) (s : Shared) : Prop :=
  ∀ (Q : Value → Shared → Prop) (E : Value → Shared → Prop), (∀ I h' tk St, Iter prog w A I fx n Pv St → St 0 h' → s.heap.StaysIn h' → s.heap.get? I = none → Q (.ref I) { s with heap := h', toks := tk }) →
    wpAny (model prog w) A (pyIter xv) Q E s

section
variable {prog : Program} {w : World} {A : Around} {s : Shared}

theorem iters_list {l : Addr} {items : Array Value} (hh : A.handled = none) (hl : s.heap.IsList l items) : Iters prog w A (.ref l) [l] items.size (fun i v => items[i]? = some v) s := fun Q E h => by
  obtain ⟨ol, hol, _⟩ := id hl
  have hne : l ≠ s.heap.objs.size := Nat.ne_of_lt (Heap.lt_size hol)
  refine wpAny_pyIter_list hl (h s.heap.objs.size _ s.toks (fun i h => h.IsListIter s.heap.objs.size l i ∧ h.IsList l items) ⟨Walks.list hh _ l hne items, fun i h st => ?_, fun i s' v target Q' E' st hq => letGo_listiter st.1 hq⟩
    ⟨⟨_, Heap.get?_push_size _ rfl, rfl, rfl⟩, hl.push _⟩ (fun _ _ e => Heap.get?_push_of_some _ e) (Heap.get?_none_of_le (Nat.le_refl _)))
  obtain ⟨⟨o, ho, _⟩, _⟩ := st
  exact ⟨o, ho⟩

theorem letGo_rangeiter {E : Value → Shared → Prop} {target : Expr} {I : Addr} {x left step : Int} {v : Value} {Q' : Unit → Shared → Prop} {s' : Shared} (hit : IsRangeIter s'.heap I x left step) (h : Q' () s') :
    wpAny (model prog w) A (letOwnedTupleGo target (.ref I) v) Q' E s' := by
  unfold letOwnedTupleGo
  cases target <;> first
    | exact wpAny_pure h
    | (cases v <;> first
        | exact wpAny_pure h
        | (refine wpAny_bind (wpAny_load hit ?_)
           exact wpAny_pure h))

theorem iters_range {r : Addr} {n : Nat} {t u v : Tok} (hh : A.handled = none) (hr : IsRange s.heap r 0 n 1 t u v) (hn : (n : Int) < 2 ^ 62) : Iters prog w A (.ref r) [] n (fun i v => ∃ t, v = .int (i : Nat) t) s := fun Q E h => by
  have hsz : Builtin.Range.rangeSize 0 n 1 = (n : Int) := by rw [rangeSize_one]; split <;> omega
  refine wpAny_pyIter_range hr (small_one (by decide) (by decide) (by omega) hn) ?_
  refine h s.heap.objs.size _ s.toks (fun i h => IsRangeIter h s.heap.objs.size (0 + (i : Nat) * 1) ((n : Int) - (i : Nat)) 1) ⟨?_, fun i h st => ⟨_, st⟩, fun i s' v target Q' E' st hq => letGo_rangeiter st hq⟩ ?_ (fun _ _ e => Heap.get?_push_of_some _ e) (Heap.get?_none_of_le (Nat.le_refl _))
  · have W := Walks.range (prog := prog) (w := w) hh s.heap.objs.size 0 1 n
    exact ⟨W.sub, W.frame, fun i s Q E hi st hQ => W.item i s Q E hi st fun v h' tk hP => hQ v h' tk (by obtain ⟨t, e⟩ := hP; exact ⟨t, by rw [e]; congr 1; omega⟩), W.done, W.self⟩
  · have e1 : (0 + ((0 : Nat) : Int) * 1) = 0 := by simp
    have e2 : ((n : Int) - ((0 : Nat) : Int)) = Builtin.Range.rangeSize 0 n 1 := by rw [hsz]; simp
    show IsRangeIter _ _ _ _ _
    rw [e1, e2]
    exact Heap.get?_push_size _ rfl
end

/-- the end of a turn -/
def TurnEnd (env : Env) (B : Heap) (own : Addr × Obj) (J : Heap → (Str → Option Value) → List (Addr × Obj) → Prop) (s₁ : Shared) (f : Flow) (s₃ : Shared) : Prop :=
  f = .next ∧ ∃ B' σ' μ' h' tk', s₃ = { s₁ with heap := h', toks := tk' } ∧ B.StaysIn B' ∧ Pt B' env σ' (own :: μ') h' ∧ J B' σ' μ'

section
variable {prog : Program} {w : World} {A : Around} {s : Shared} {env : Env}

theorem none_of_stays {B B' : Heap} {a : Addr} (k : B.StaysIn B') (h : B'.get? a = none) : B.get? a = none := by
  cases e : B.get? a with
  | none => rfl
  | some o => have := k a o e; rw [h] at this; cases this

theorem ex_for {target iter : Expr} {body : List Stmt} {pos : Pos} {Q : Flow → Shared → Prop}
    (h : wpAny (model prog w) A (eval iter env) (fun xv s₁ => ∃ (B₁ : Heap) (σ₁ : Str → Option Value) (μ₁ : List (Addr × Obj)) (fx : List Addr) (n : Nat) (Pv : Nat → Value → Prop) (J : Nat → Heap → (Str → Option Value) → List (Addr × Obj) → Prop),
      Iters prog w A xv fx n Pv s₁ ∧ Pt B₁ env σ₁ μ₁ s₁.heap ∧ (∀ b ∈ fx, ∃ o, B₁.get? b = some o) ∧ J 0 B₁ σ₁ μ₁ ∧
      (∀ i v B σ μ own h tk, i < n → Pv i v → B₁.StaysIn B → J i B σ μ → Pt B env σ (own :: μ) h →
        wpAny (model prog w) A (assign target env v) (fun _ s₂ => wpAny (model prog w) A (execs body env) (TurnEnd env B own (J (i + 1)) s₁) No s₂) No { s₁ with heap := h, toks := tk }) ∧
      ∀ B σ μ h tk, B₁.StaysIn B → J n B σ μ → Pt B env σ μ h → Q .next { s₁ with heap := h, toks := tk }) No s)
    (hs : ∀ x, foldedSetIterable iter env x = pure x := by intro _; rfl) :
    wpAny (model prog w) A (exec (.For target iter body [] pos) env) Q No s := by
  refine wpAny_For (wpAny_mono h (fun xv s₁ h₁ => ?_) fun _ _ e => e) hs
  obtain ⟨B₁, σ₁, μ₁, fx, n, Pv, J, hit, P₁, hfx, h0, turn, done⟩ := h₁
  refine hit _ _ fun I h' tk St It st hk hI => ?_
  have P₂ := P₁.grow hk
  obtain ⟨f1, f2, f3⟩ := P₁.fresh hI
  refine codeAny_forLoop_any (fun k s' => ∃ B σ μ h' tk i, s' = { s₁ with heap := h', toks := tk } ∧ B₁.StaysIn B ∧ B.get? I = none ∧ I ∉ vas env ∧ I ∉ μ.map (·.1) ∧ Pt B env σ μ h' ∧ J i B σ μ ∧ St i h' ∧ i ≤ n ∧ k = n + 1 - i) ?_ (n + 1)
    ⟨B₁, σ₁, μ₁, h', tk, 0, rfl, fun _ _ e => e, f2, f1, f3, P₂, h0, st, Nat.zero_le _, rfl⟩
  rintro k s' ⟨B, σ, μ, H, tk, i, rfl, kB, g1, g2, g3, P, hJ, hst, hi, rfl⟩
  have nx : ∀ h₁ : Heap, (∀ b o, b ∉ [I] → H.get? b = some o → h₁.get? b = some o) → Pt B env σ μ h₁ := fun h₁ hk₁ => by
    have hk₂ : ∀ b o, b ≠ I → H.get? b = some o → h₁.get? b = some o := fun b o hb e => hk₁ b o (fun hm => hb (List.mem_singleton.mp hm)) e
    refine ⟨P.fm, fun b o e => hk₂ b o (fun q => ?_) (P.st b o e), P.vs.keep fun a ha o e => hk₂ a o (fun q => g2 (q ▸ ha)) e, P.off, fun p hp => ⟨hk₂ _ _ (fun q => g3 (q ▸ List.mem_map_of_mem hp)) (P.mu p hp).1, (P.mu p hp).2⟩, P.nd⟩
    rw [q, g1] at e; cases e
  by_cases hlt : i < n
  · refine It.W.item i _ _ _ hlt hst fun v h₁ tk₁ hP hst₁ hk₁ => ?_
    have P₁' := nx h₁ hk₁
    obtain ⟨oI, hoI⟩ := It.live _ _ hst₁
    have P₂' : Pt B env σ ((I, oI) :: μ) h₁ := P₁'.add hoI g2 g1 g3
    refine It.go _ _ _ _ _ _ hst₁ ?_
    refine wpAny_mono (turn i v B σ μ (I, oI) h₁ tk₁ hlt hP kB hJ P₂') (fun _ s₂ h₂ => wpAny_mono h₂ (fun f s₃ h₃ => ?_) fun _ _ e => e.elim) fun _ _ e => e.elim
    obtain ⟨rfl, B', σ', μ', h₃', tk₃, rfl, kB', P₃, hJ₃⟩ := h₃
    have hn := P₃.nd
    rw [List.map_cons, List.nodup_cons] at hn
    have hm := P₃.mu _ List.mem_cons_self
    refine ⟨n + 1 - (i + 1), by omega, B', σ', μ', h₃', tk₃, i + 1, rfl, fun b o e => kB' b o (kB b o e), hm.2.2, hm.2.1, hn.1, P₃.sub (List.sublist_cons_self ..), hJ₃, It.W.frame _ _ _ hst₁ fun b hb o e => ?_, hlt, rfl⟩
    rcases List.mem_cons.mp hb with rfl | hb
    · rw [hoI] at e; cases e; exact hm.1
    · obtain ⟨o', ho'⟩ := hfx b hb
      have e1 := P₂'.st b o' (kB b o' ho')
      rw [e] at e1; cases e1
      exact P₃.st b _ (kB' b _ (kB b _ ho'))
  · have hin : i = n := by omega
    subst hin
    refine It.W.done _ _ _ hst fun h₁ tk₁ hk₁ => wpAny_execs_nil ?_
    exact done B σ μ h₁ tk₁ kB hJ (nx h₁ hk₁)

theorem turnEnd {B B' : Heap} {own : Addr × Obj} {J : Heap → (Str → Option Value) → List (Addr × Obj) → Prop} {s₁ : Shared} {σ' : Str → Option Value} {μ' : List (Addr × Obj)} {h' : Heap} {tk' : Nat}
    (k : B.StaysIn B') (P : Pt B' env σ' (own :: μ') h') (hJ : J B' σ' μ') : TurnEnd env B own J s₁ .next { s₁ with heap := h', toks := tk' } := ⟨rfl, B', σ', μ', h', tk', rfl, k, P, hJ⟩
end
end Mine
end

section
namespace Mine
open PySem PySem.W PySem.Calls PyProof.Rows

abbrev lobj (ys : List Value) (e : Nat) : Obj := { cls := .type "list", data := .seq ys.toArray e }

theorem cellsFrom_new : ∀ (names : List (Str × NameKind)) (h : Heap) (acc : List (Str × Addr)), ∀ p ∈ cellsFrom h.objs.size names acc, p ∈ acc ∨ (h.objs.size ≤ p.2 ∧ (pushCells h names).IsCell p.2 none)
  | [], _, _, p, hp => .inl hp
  | (name, kind) :: r, h, acc, p, hp => by
    unfold cellsFrom at hp
    unfold pushCells
    split at hp
    · rename_i hk
      rw [if_pos hk]
      have ih := cellsFrom_new r (h.push { cls := .type "cell", data := .cell none }) ((name, h.objs.size) :: acc) p (by rw [Heap.size_push]; exact hp)
      rw [Heap.size_push] at ih
      rcases ih with h1 | ⟨h1, h2⟩
      · rcases List.mem_cons.mp h1 with rfl | h1
        · exact .inr ⟨Nat.le_refl _, ⟨_, pushCells_keeps _ _ _ _ (Heap.get?_push_size _ rfl), rfl⟩⟩
        · exact .inl h1
      · exact .inr ⟨Nat.le_of_succ_le h1, h2⟩
    · rename_i hk
      rw [if_neg hk]
      exact cellsFrom_new r h acc p hp

theorem cellsFrom_nodup : ∀ (names : List (Str × NameKind)) (n : Nat) (acc : List (Str × Addr)), (acc.map (·.2)).Nodup → (∀ p ∈ acc, @LT.lt Nat _ p.2 n) → ((cellsFrom n names acc).map (·.2)).Nodup
  | [], _, _, h, _ => h
  | (name, kind) :: r, n, acc, h, hlt => by
    unfold cellsFrom
    split
    · refine cellsFrom_nodup r (n + 1) _ ?_ ?_
      · rw [List.map_cons, List.nodup_cons]
        exact ⟨fun hm => by obtain ⟨p, hp, e⟩ := List.mem_map.mp hm; exact absurd (hlt p hp) (by rw [e]; exact Nat.lt_irrefl _), h⟩
      · intro p hp
        rcases List.mem_cons.mp hp with rfl | hp
        · exact Nat.lt_succ_self _
        · exact Nat.lt_succ_of_lt (hlt p hp)
    · exact cellsFrom_nodup r n acc h hlt

theorem cellsFrom_sub : ∀ (names : List (Str × NameKind)) (n : Nat) (acc : List (Str × Addr)), ∀ y ∈ acc, y ∈ cellsFrom n names acc
  | [], _, _, _, hy => hy
  | (nm, k) :: r, n, acc, y, hy => by
    unfold cellsFrom
    split
    · exact cellsFrom_sub r _ _ y (List.mem_cons_of_mem _ hy)
    · exact cellsFrom_sub r _ _ y hy
theorem cellsFrom_accNodup : ∀ (names : List (Str × NameKind)) (n : Nat) (acc : List (Str × Addr)), ((cellsFrom n names acc).map (·.1)).Nodup → (acc.map (·.1)).Nodup
  | [], _, _, h => h
  | (nm, k) :: r, n, acc, h => by
    unfold cellsFrom at h
    split at h
    · have := cellsFrom_accNodup r _ _ h; rw [List.map_cons, List.nodup_cons] at this; exact this.2
    · exact cellsFrom_accNodup r _ _ h
theorem snd_nodup {cells : List (Str × Addr)} (hc : (cells.map (·.2)).Nodup) : ∀ l : List (Str × Addr), (l.map (·.1)).Nodup → (∀ p ∈ l, p ∈ cells) → (l.map (·.2)).Nodup
  | [], _, _ => List.nodup_nil
  | p :: r, h1, h2 => by
    rw [List.map_cons, List.nodup_cons] at h1 ⊢
    refine ⟨fun hm => ?_, snd_nodup hc r h1.2 fun q hq => h2 q (List.mem_cons_of_mem _ hq)⟩
    obtain ⟨q, hq, e⟩ := List.mem_map.mp hm
    have : q = p := inj_of_nodup hc (h2 q (List.mem_cons_of_mem _ hq)) (h2 p List.mem_cons_self) e
    exact h1.1 (this ▸ List.mem_map_of_mem hq)

section
variable {prog : Program} {w : World} {A : Around} {R : Result → Shared → Prop} {s : Shared}
/-- a comprehension's loop, for any target -/
theorem codeAny_comp_any {elt target iter : Expr} {ifs : List Expr} {scope : Scope} {pos : Pos} {it acc : Value} {env : Env} (I : Nat → Shared → Prop)
    (turn : ∀ n s, I n s → wpAny (model prog w) A (pyNext it) (fun r s₁ => match r with
      | none => R (.ok .next) s₁
      | some v => wpAny (model prog w) A (letOwnedTupleGo target it v) (fun _ s₀ => wpAny (model prog w) A (assign target env v) (fun _ s₂ =>
          wpAny (model prog w) A (forIn ifs true fun c r => if r = true then do let ok ← isTrue c env (eval c env); pure (ForInStep.yield ok) else pure (ForInStep.yield r)) (fun ok s₃ =>
            if ok = true then wpAny (model prog w) A (eval elt env) (fun x s₄ =>
              wpAny (model prog w) A (call (.builtin "list.append") [acc, x]) (fun _ s₅ => ∃ m, m < n ∧ I m s₅) No s₄) No s₃
            else ∃ m, m < n ∧ I m s₃) No s₂) No s₀) No s₁) No s)
    (n : Nat) (h : I n s) : codeAny (model prog w) A (.compLoop (.ListComp elt [⟨target, iter, ifs, 0⟩] scope pos) 0 it acc env) R s := by
  refine codeAny_loop rfl I (fun n s hI => ?_) n h
  show wpAny _ A ((compTurn (.ListComp elt [⟨target, iter, ifs, 0⟩] scope pos) 0 it acc env).onRaise (fun x => do noteFrame x env; theTreesLotGoes x)) _ _ s
  refine wpAny_noted ?_
  rw [compTurn_list]
  refine wpAny_bind (wpAny_standAt (wpAny_bind (wpAny_mono (turn n s hI) (fun r s₁ h₁ => ?_) fun _ _ h' => h'.elim)))
  cases r with
  | none => exact wpAny_pure h₁
  | some v =>
    refine wpAny_bind (wpAny_mono h₁ (fun _ s₀ h₀ => ?_) fun _ _ h' => h'.elim)
    refine wpAny_bind (wpAny_mono h₀ (fun _ s₂ h₂ => wpAny_bind (wpAny_mono h₂ (fun ok s₃ h₃ => ?_) fun _ _ h' => h'.elim)) fun _ _ h' => h'.elim)
    cases ok with
    | false => exact wpAny_pure ⟨rfl, h₃⟩
    | true =>
      exact wpAny_bind (wpAny_bind (wpAny_mono h₃ (fun x s₄ h₄ => wpAny_bind (wpAny_mono h₄ (fun _ s₅ h₅ => wpAny_pure (wpAny_pure ⟨rfl, h₅⟩)) fun _ _ h' => h'.elim)) fun _ _ h' => h'.elim))
end

theorem not_mem_of_lookup {α : Type} {x : Str} {c : α} : ∀ {l : List (Str × α)}, l.lookup x = none → (x, c) ∉ l
  | [], _, hm => nomatch hm
  | (k, v) :: r, h, hm => by
    rw [List.lookup_cons] at h
    cases hb : x == k with
    | true => rw [hb] at h; cases h
    | false =>
      rw [hb] at h
      rcases List.mem_cons.mp hm with e | hm
      · cases e; simp at hb
      · exact not_mem_of_lookup h hm

/-- the environment of a comprehension's block at C -/
abbrev cEnv (scope : Scope) (cl : List (Str × Addr)) (C : Addr) (env : Env) : Env := compEnvC scope (cellsFrom (C + 1) scope.names cl) C env
/-- what is seen of the outer variables -/
def capt (cl : List (Str × Addr)) (σ : Str → Option Value) : Str → Option Value := fun x => if (cl.lookup x).isSome then σ x else none

def namesOk (scope : Scope) (cl : List (Str × Addr)) (env : Env) : Bool :=
  decide (((cellsFrom 0 scope.names cl).map (·.1)).Nodup) && ((cellsFrom 0 scope.names cl).map (·.1)).all (fun n => !((relabel scope env).names.lookup n == some .local)) &&
    scope.names.all (fun x => !(x.2 == .local) || scope.names.lookup x.1 == some .local)

section
variable {prog : Program} {w : World} {A : Around} {s : Shared} {env : Env}

/-- what stands of the block: its own places are new -/
def OwnNew (cl : List (Str × Addr)) (cenv : Env) (h : Heap) : Prop := h.get? cenv.locals = none ∧ ∀ x c, (x, c) ∈ cenv.cells → cl.lookup x = none → h.get? c = none

/-- the target of a comprehension takes v -/
def Takes (prog : Program) (w : World) (A : Around) (target : Expr) (scope : Scope) (cl : List (Str × Addr)) (env : Env) (bnd : Value → (Str → Option Value) → Str → Option Value) (B : Heap) (h₀ : Heap) (v : Value) : Prop :=
  ∀ C σ μ (s₂ : Shared) (Q : Unit → Shared → Prop), OwnNew cl (cEnv scope cl C env) h₀ → Pt B (cEnv scope cl C env) σ μ s₂.heap →
    (∀ h' tk', Pt B (cEnv scope cl C env) (bnd v σ) μ h' → (∀ b o, h₀.get? b = some o → s₂.heap.get? b = some o → h'.get? b = some o) → Q () { s₂ with heap := h', toks := tk' }) →
    wpAny (model prog w) A (assign target (cEnv scope cl C env) v) Q No s₂

/-- the tests of a comprehension -/
abbrev tests (ifs : List Expr) (env : Env) : Sem Bool := forIn ifs true fun c r => if r = true then do let ok ← isTrue c env (eval c env); pure (ForInStep.yield ok) else pure (ForInStep.yield r)

/-- one turn of a comprehension -/
def CTurn (prog : Program) (w : World) (A : Around) (env : Env) (scope : Scope) (cl : List (Str × Addr)) (bnd : Value → (Str → Option Value) → Str → Option Value) (elt : Expr) (ifs : List Expr) (B : Heap) (σ : Str → Option Value) (μ : List (Addr × Obj))
    (J : Nat → List Value → List (Addr × Obj) → Prop) (i : Nat) (v : Value) : Prop :=
  ∀ ys ν C own (s₂ : Shared), J i ys ν → Pt B (cEnv scope cl C env) (bnd v (capt cl σ)) (own ++ (ν ++ μ)) s₂.heap →
      wpAny (model prog w) A (tests ifs (cEnv scope cl C env)) (fun ok s₃ => Keeps s₂ s₃ ∧
        if ok = true then wpAny (model prog w) A (eval elt (cEnv scope cl C env)) (fun y s₄ => Keeps s₃ s₄ ∧ ∃ add : List (Addr × Obj), (∀ p ∈ add, s₄.heap.get? p.1 = some p.2 ∧ s₃.heap.get? p.1 = none) ∧ (add.map (·.1)).Nodup ∧ J (i + 1) (ys ++ [y]) (add ++ ν)) No s₃
        else J (i + 1) ys ν) No s₂

theorem keepsTrans {s₁ s₂ s₃ : Shared} (a : Keeps s₁ s₂) (b : Keeps s₂ s₃) : Keeps s₁ s₃ := by
  obtain ⟨h, t, rfl, k⟩ := a
  obtain ⟨h', t', rfl, k'⟩ := b
  exact ⟨h', t', rfl, fun b o e => k' b o (k b o e)⟩

theorem comp_core {elt target iter : Expr} {ifs : List Expr} {scope : Scope} {pos : Pos} {cl : List (Str × Addr)} {Q : Value → Shared → Prop} {use : Option (Value → Sem Unit)} (bnd : Nat → Value → (Str → Option Value) → Str → Option Value)
    (hclos : closureFor scope env = pure cl) (hcl : ∀ p ∈ cl, p ∈ env.cells) (hkind : scope.kind = .function) (hnn : namesOk scope cl env = true)
    (h : wpAny (model prog w) A (eval iter env) (fun xv s₁ => ∃ (B₁ : Heap) (σ₁ : Str → Option Value) (μ₁ : List (Addr × Obj)) (fx : List Addr) (n : Nat) (Pv : Nat → Value → Prop) (J : Nat → List Value → List (Addr × Obj) → Prop),
      Iters prog w A xv fx n Pv s₁ ∧ Pt B₁ env σ₁ μ₁ s₁.heap ∧ (∀ b ∈ fx, ∃ o, B₁.get? b = some o) ∧ n ≤ sizeLine ∧ J 0 [] [] ∧
      (∀ i v, i < n → Pv i v → Takes prog w A target scope cl env (bnd i) B₁ s₁.heap v ∧ (∀ x u, capt cl σ₁ x = some u → bnd i v (capt cl σ₁) x = some u) ∧ CTurn prog w A env scope cl (bnd i) elt ifs B₁ σ₁ μ₁ J i v) ∧
      ∀ D e ys ν C m h' tk, J n ys ν → Pt B₁ env σ₁ ((D, lobj ys e) :: (ν ++ μ₁)) h' → s₁.heap.StaysIn h' → (∀ p ∈ (D, lobj ys e) :: ν, s₁.heap.get? p.1 = none) → s₁.heap.get? C = none → h'.Ns C m → C ∉ ((D, lobj ys e) :: ν).map (·.1) → compPost (model prog w) A No use Q (.ref D) C (.ok .next) { s₁ with heap := h', toks := tk }) No s)
    (hs : ∀ x, foldedSetIterable iter env x = pure x := by intro _; rfl) :
    wpAny (model prog w) A (comprehension (.ListComp elt [⟨target, iter, ifs, 0⟩] scope pos) scope env (firstIterPos [⟨target, iter, ifs, 0⟩] pos) (newList []) false (eval iter env) use) Q No s := by
  simp only [namesOk, Bool.and_eq_true, decide_eq_true_eq] at hnn
  obtain ⟨⟨hn1, hn2⟩, hn3⟩ := hnn
  have hnames : ∀ x ∈ scope.names, x.2 = .local → scope.names.lookup x.1 = some .local := fun x hx hl => by
    have := List.all_eq_true.mp hn3 x hx
    rw [hl] at this; simpa using this
  refine wpAny_comprehension_free (cl := cl) rfl hs hclos hkind hnames (wpAny_mono h (fun xv s₁ h₁ => ?_) fun _ _ e => e.elim)
  obtain ⟨B₁, σ₁, μ₁, fx, n, Pv, J, hit, P₁, hfx, hsz, h0, turn, done⟩ := h₁
  refine hit _ _ fun I h₂ tk₂ St It st hk₂ hI => ?_
  refine wpAny_newObj_type ?_
  have P₂ := P₁.grow hk₂
  obtain ⟨oI, hoI⟩ := It.live _ _ st
  have P₃ : Pt B₁ env σ₁ ((I, oI) :: μ₁) h₂ := P₁.addNew hk₂ hoI hI
  have P₄ := P₃.push (lobj [] 0)
  dsimp only
  generalize hH : h₂.push { cls := .type "list", dict := none, data := .seq ([] : List Value).toArray } = H at *
  have hHs : H.objs.size = h₂.objs.size + 1 := by rw [← hH, Heap.size_push]
  have P₅ : Pt B₁ env σ₁ ((h₂.objs.size, lobj [] 0) :: (I, oI) :: μ₁) H := P₄
  have kH : h₂.StaysIn H := fun b o e => by rw [← hH]; exact Heap.get?_push_of_some _ e
  -- the block's own frame and cells
  refine (show wpAny (model prog w) A (newFunctionEnv scope env.globals cl [] env.qual none .none (some env)) _ No { s₁ with heap := H, toks := tk₂ } from ?_)
  unfold newFunctionEnv
  simp only [Option.isSome_some, if_true]
  refine wpAny_bind (wpAny_alloc ?_)
  refine wpAny_bind (wpAny_layCells _ (fun name kind cells => by cases hkc : kind == NameKind.cell <;> simp [hkc]) _ _ _ _ ?_)
  refine wpAny_bind (wpAny_pure (wpAny_pure ?_))
  dsimp only
  rw [Heap.size_push]
  generalize hC : H.objs.size = C at *
  have hCf : H.get? C = none := Heap.get?_none_of_le (by rw [hC]; exact Nat.le_refl _)
  generalize hG : pushCells (H.push { cls := .type "dict", data := .dict #[] }) scope.names = G at *
  have kG : H.StaysIn G := fun b o e => by rw [← hG]; exact pushCells_keeps _ _ _ _ (Heap.get?_push_of_some _ e)
  have hnsC : G.Ns C fun _ => none := by
    rw [← hG, ← hC]; exact (Heap.Ns.new H (.type "dict")).keeps (pushCells_keeps _ _)
  have P₆ := P₅.grow kG
  have hcells := cellsFrom_new scope.names (H.push { cls := .type "dict", data := .dict #[] }) cl
  rw [Heap.size_push, hC, hG] at hcells
  have clt : ∀ p ∈ cl, @LT.lt Nat _ p.2 C := fun p hp => by
    obtain ⟨v₀, hc, _⟩ := P₅.vs.cel p.1 p.2 (hcl p hp)
    rw [← hC]; exact hc.lt
  have ndcl : (cl.map (·.2)).Nodup := by
    have hnd := P₁.fm.nd
    rw [vas, List.nodup_cons] at hnd
    exact snd_nodup hnd.2 cl (cellsFrom_accNodup _ _ _ hn1) hcl
  have hkept : ∀ b o, s₁.heap.get? b = some o → G.get? b = some o := fun b o e => kG b o (kH b o (hk₂ b o e))
  have capOff : ∀ a ∈ vas (cEnv scope cl C env), B₁.get? a = none ∧ a ∉ (((h₂.objs.size, lobj [] 0) :: (I, oI) :: μ₁).map (·.1)) := by
    intro a ha
    rcases List.mem_cons.mp ha with rfl | ha
    · exact (P₅.fresh hCf).2
    · obtain ⟨p, hp, rfl⟩ := List.mem_map.mp ha
      rcases hcells p hp with h1 | ⟨h1, h2⟩
      · have hv : p.2 ∈ vas env := List.mem_cons_of_mem _ (List.mem_map_of_mem (hcl p h1))
        refine ⟨P₅.off _ hv, fun hm => ?_⟩
        obtain ⟨q, hq, e⟩ := List.mem_map.mp hm
        exact (P₅.mu q hq).2.1 (e ▸ hv)
      · exact (P₅.fresh (Heap.get?_none_of_le (by rw [hC]; exact Nat.le_of_succ_le h1))).2
  have PC : Pt B₁ (cEnv scope cl C env) (capt cl σ₁) ((h₂.objs.size, lobj [] 0) :: (I, oI) :: μ₁) G := by
    refine ⟨⟨hkind, P₁.fm.gl, P₁.fm.bl, ?_, ?_, ?_⟩, P₆.st, ⟨⟨_, hnsC, fun x v _ hv => ?_⟩, fun x c hc => ?_⟩, fun a ha => (capOff a ha).1, fun p hp => ⟨(P₆.mu p hp).1, fun hm => (capOff _ hm).2 (List.mem_map_of_mem hp), (P₆.mu p hp).2.2⟩, P₆.nd⟩
    · show (C :: (cellsFrom (C + 1) scope.names cl).map (·.2)).Nodup
      refine List.nodup_cons.mpr ⟨fun hm => ?_, cellsFrom_nodup _ _ _ ndcl fun p hp => Nat.lt_succ_of_lt (clt p hp)⟩
      obtain ⟨p, hp, e⟩ := List.mem_map.mp hm
      rcases hcells p hp with h1 | ⟨h1, _⟩
      · exact absurd (clt p h1) (by rw [e]; exact Nat.lt_irrefl _)
      · rw [e] at h1; exact absurd h1 (Nat.not_succ_le_self _)
    · show ((cellsFrom (C + 1) scope.names cl).map (·.1)).Nodup
      rw [cellsFrom_names scope.names (C + 1) 0 cl cl rfl]; exact hn1
    · intro p hp e
      have hm : p.1 ∈ (cellsFrom 0 scope.names cl).map (·.1) := by
        rw [← cellsFrom_names scope.names (C + 1) 0 cl cl rfl]; exact List.mem_map_of_mem hp
      have := List.all_eq_true.mp hn2 _ hm
      have e' : (relabel scope env).names.lookup p.1 = some .local := e
      rw [e'] at this
      simp at this
    · -- a local of the block is no captured name
      exfalso
      unfold capt at hv
      split at hv
      · rename_i hkx hsome
        obtain ⟨c, hc⟩ := Option.isSome_iff_exists.mp hsome
        have hmem : x ∈ (cellsFrom 0 scope.names cl).map (·.1) := List.mem_map.mpr ⟨_, cellsFrom_sub _ _ _ _ (mem_of_lookup hc), rfl⟩
        have := List.all_eq_true.mp hn2 _ hmem
        have e' : (relabel scope env).names.lookup x = some .local := hkx
        rw [e'] at this
        simp at this
      · cases hv
    · rcases hcells (x, c) hc with h1 | ⟨hge, h2⟩
      · obtain ⟨v₀, hi, he⟩ := P₆.vs.cel x c (hcl _ h1)
        refine ⟨v₀, hi, fun v hv => he v ?_⟩
        unfold capt at hv
        split at hv
        · exact hv
        · cases hv
      · refine ⟨none, h2, fun v hv => ?_⟩
        exfalso
        unfold capt at hv
        split at hv
        · rename_i hsome
          obtain ⟨c', hc'⟩ := Option.isSome_iff_exists.mp hsome
          have hc'm := mem_of_lookup hc'
          have nn : ((cellsFrom (C + 1) scope.names cl).map (·.1)).Nodup := by rw [cellsFrom_names scope.names (C + 1) 0 cl cl rfl]; exact hn1
          have := (Prod.mk.inj (inj_of_nodup nn (cellsFrom_sub _ _ _ _ hc'm) hc rfl)).2
          subst this
          exact absurd (clt _ hc'm) (Nat.not_lt.mpr (Nat.le_of_succ_le hge))
        · cases hv
  have hown : OwnNew cl (cEnv scope cl C env) s₁.heap := by
    have up : ∀ a, h₂.objs.size ≤ a → s₁.heap.get? a = none := fun a ha => none_of_stays hk₂ (Heap.get?_none_of_le ha)
    have hC2 : h₂.objs.size ≤ C := by rw [hHs]; exact Nat.le_succ _
    refine ⟨up C hC2, fun x c hc hx => ?_⟩
    rcases hcells (x, c) hc with h1 | ⟨hge, _⟩
    · exact absurd h1 (not_mem_of_lookup hx)
    · exact up c (Nat.le_trans hC2 (Nat.le_of_succ_le hge))
  have hCnone : s₁.heap.get? C = none := hown.1
  have hDnone : s₁.heap.get? h₂.objs.size = none := none_of_stays hk₂ (Heap.get?_none_of_le (Nat.le_refl _))
  generalize hD : h₂.objs.size = D at *
  have loop : ∀ s₃ : Shared, s₃ = { s₁ with heap := G, toks := tk₂ } → codeAny (model prog w) A (.compLoop (.ListComp elt [⟨target, iter, ifs, 0⟩] scope pos) 0 (.ref I) (.ref D) (cEnv scope cl C env)) (compPost (model prog w) A No use Q (.ref D) C) s₃ := by
    rintro s₃ rfl
    refine codeAny_comp_any (fun k s' => ∃ h' tk i ys e ν oI', s' = { s₁ with heap := h', toks := tk } ∧ St i h' ∧ J i ys ν ∧ ys.length ≤ i ∧
        Pt B₁ (cEnv scope cl C env) (capt cl σ₁) ([(D, lobj ys e), (I, oI')] ++ (ν ++ μ₁)) h' ∧ s₁.heap.StaysIn h' ∧ (∀ p ∈ ν, s₁.heap.get? p.1 = none) ∧ i ≤ n ∧ k = n + 1 - i) ?_ (n + 1)
      ⟨G, tk₂, 0, [], 0, [], oI, rfl, It.W.frame _ _ _ st fun b _ o e => kG b o (kH b o e), h0, Nat.le_refl _, PC, hkept, (fun p hp => nomatch hp), Nat.zero_le _, rfl⟩
    rintro k s' ⟨h', tk, i, ys, e, ν, oI', rfl, hst, hJ, hlen, P, hkp, hν, hi, rfl⟩
    have mI : (I, oI') ∈ [(D, lobj ys e), (I, oI')] ++ (ν ++ μ₁) := List.mem_append_left _ (List.mem_cons_of_mem _ List.mem_cons_self)
    have hndP := P.nd
    rw [List.cons_append, List.cons_append, List.nil_append, List.map_cons, List.map_cons, List.nodup_cons, List.nodup_cons] at hndP
    have hDI : D ≠ I := fun q => hndP.1 (by rw [q]; exact List.mem_cons_self)
    have nx : ∀ h₁ : Heap, (∀ b o, b ∉ [I] → h'.get? b = some o → h₁.get? b = some o) → Pt B₁ (cEnv scope cl C env) (capt cl σ₁) ((D, lobj ys e) :: (ν ++ μ₁)) h₁ ∧ s₁.heap.StaysIn h₁ := fun h₁ hk₁ => by
      have hk₃ : ∀ b o, b ≠ I → h'.get? b = some o → h₁.get? b = some o := fun b o hb e => hk₁ b o (fun hm => hb (List.mem_singleton.mp hm)) e
      have hmI := P.mu _ mI
      refine ⟨⟨P.fm, fun b o eb => hk₃ b o (fun q => ?_) (P.st b o eb), P.vs.keep fun a ha o ea => hk₃ a o (fun q => hmI.2.1 (q ▸ ha)) ea, P.off, fun p hp => ?_, ?_⟩, fun b o eb => hk₃ b o (fun q => ?_) (hkp b o eb)⟩
      · rw [q, hmI.2.2] at eb; cases eb
      · have hp' : p ∈ [(D, lobj ys e), (I, oI')] ++ (ν ++ μ₁) := by
          rcases List.mem_cons.mp hp with rfl | hp
          · exact List.mem_append_left _ List.mem_cons_self
          · exact List.mem_append_right _ hp
        refine ⟨hk₃ _ _ (fun q => ?_) (P.mu p hp').1, (P.mu p hp').2⟩
        rcases List.mem_cons.mp hp with rfl | hp
        · exact hDI q
        · exact hndP.2.1 (List.mem_map.mpr ⟨p, hp, q⟩)
      · rw [List.map_cons, List.nodup_cons]
        exact ⟨fun hm => hndP.1 (List.mem_cons_of_mem _ hm), hndP.2.2⟩
      · rw [q, hI] at eb; cases eb
    by_cases hlt : i < n
    · refine It.W.item i _ _ _ hlt hst fun v h₁ tk₁ hP hst₁ hk₁ => ?_
      obtain ⟨P₁', hkp₁⟩ := nx h₁ hk₁
      obtain ⟨oI₂, hoI₂⟩ := It.live _ _ hst₁
      have hmI := P.mu _ mI
      have P₂' : Pt B₁ (cEnv scope cl C env) (capt cl σ₁) ((I, oI₂) :: (D, lobj ys e) :: (ν ++ μ₁)) h₁ := P₁'.add hoI₂ hmI.2.1 hmI.2.2 (by
        rw [List.map_cons]; exact fun hm => (List.mem_cons.mp hm).elim (fun q => hDI q.symm) hndP.2.1)
      obtain ⟨tk, hbw, ct⟩ := turn i v hlt hP
      refine It.go _ _ _ _ _ _ hst₁ ?_
      refine tk C _ _ _ _ hown P₂' fun h₃ tk₃ P₃ hkp₃ => ?_
      refine wpAny_mono (ct ys ν C [(I, oI₂), (D, lobj ys e)] { s₁ with heap := h₃, toks := tk₃ } hJ P₃) (fun ok s₄ h₄ => ?_) fun _ _ e => e.elim
      obtain ⟨hkk, h₄⟩ := h₄
      obtain ⟨h₄', tk₄, rfl, hk₄⟩ := hkk
      have P₄' := P₃.grow hk₄
      have stayF : ∀ {h₅ : Heap}, Pt B₁ (cEnv scope cl C env) (bnd i v (capt cl σ₁)) ((I, oI₂) :: (D, lobj ys e) :: (ν ++ μ₁)) h₅ → St (i + 1) h₅ := fun P₅ => It.W.frame _ _ _ hst₁ fun b hb o eb => by
        rcases List.mem_cons.mp hb with rfl | hb
        · rw [hoI₂] at eb; cases eb; exact (P₅.mu _ List.mem_cons_self).1
        · obtain ⟨o', ho'⟩ := hfx b hb
          have e1 := P₂'.st b o' ho'
          rw [eb] at e1; cases e1
          exact P₅.st b _ ho'
      cases ok with
      | false =>
        simp only [Bool.false_eq_true, if_false] at h₄ ⊢
        have P₅ := P₄'.weak hbw
        refine ⟨n + 1 - (i + 1), by omega, h₄', tk₄, i + 1, ys, e, ν, oI₂, rfl, stayF P₄', h₄, Nat.le_succ_of_le hlen, ?_, fun b o eb => hk₄ b o (hkp₃ b o eb (hkp₁ b o eb)), hν, hlt, rfl⟩
        refine ⟨P₅.fm, P₅.st, P₅.vs, P₅.off, fun p hp => P₅.mu p ?_, ?_⟩
        · rcases List.mem_cons.mp hp with rfl | hp
          · exact List.mem_cons_of_mem _ List.mem_cons_self
          · rcases List.mem_cons.mp hp with rfl | hp
            · exact List.mem_cons_self
            · exact List.mem_cons_of_mem _ (List.mem_cons_of_mem _ hp)
        · exact (List.Perm.swap ..).nodup (by simpa using P₅.nd)
      | true =>
        simp only [if_true] at h₄ ⊢
        refine wpAny_mono h₄ (fun y s₅ h₅ => ?_) fun _ _ e => e.elim
        obtain ⟨⟨h₅', tk₅, rfl, hk₅⟩, add, hadd, hndA, hJ₅⟩ := h₅
        have P₅ := (P₄'.grow hk₅).weak hbw
        have hDm := (P₅.mu (D, lobj ys e) (List.mem_cons_of_mem _ List.mem_cons_self)).1
        refine wpAny_list_append_plain (hsz := by rw [List.size_toArray]; omega) ⟨e, hDm⟩ fun h₆ hl₆ hs₆ => ?_
        obtain ⟨e', he'⟩ := hl₆
        have he'' : h₆.get? D = some (lobj (ys ++ [y]) e') := by rw [he']; simp
        have P₆' : Pt B₁ (cEnv scope cl C env) (capt cl σ₁) ((D, lobj (ys ++ [y]) e') :: (I, oI₂) :: (ν ++ μ₁)) h₆ := by
          refine P₅.set (a := D) (o := lobj ys e) (List.mem_cons_of_mem _ List.mem_cons_self) (fun b ob hb eb => hs₆.extBut b ob hb eb) he'' (fun p hp => ?_) ?_
          · rcases List.mem_cons.mp hp with rfl | hp
            · exact .inl rfl
            · refine .inr ⟨?_, ?_⟩
              · rcases List.mem_cons.mp hp with rfl | hp
                · exact List.mem_cons_self
                · exact List.mem_cons_of_mem _ (List.mem_cons_of_mem _ hp)
              · rcases List.mem_cons.mp hp with rfl | hp
                · exact hDI.symm
                · exact fun q => hndP.1 (List.mem_cons_of_mem _ (List.mem_map.mpr ⟨p, hp, q⟩))
          · have := (List.Perm.swap D I ((ν ++ μ₁).map (·.1))).nodup (by simpa using P₅.nd)
            simpa using this
        -- the elements' own objects
        have addNone : ∀ p ∈ add, h₄'.get? p.1 = none := fun p hp => (hadd p hp).2
        have add6 : ∀ p ∈ add, h₆.get? p.1 = some p.2 := fun p hp => hs₆.extBut _ _ (fun q => by
          have := addNone p hp; rw [q, (P₄'.mu (D, lobj ys e) (List.mem_cons_of_mem _ List.mem_cons_self)).1] at this; cases this) (hadd p hp).1
        have P₇ : ∀ add' : List (Addr × Obj), (∀ p ∈ add', p ∈ add) → (add'.map (·.1)).Nodup → Pt B₁ (cEnv scope cl C env) (capt cl σ₁) (add' ++ ((D, lobj (ys ++ [y]) e') :: (I, oI₂) :: (ν ++ μ₁))) h₆ := by
          intro add'
          induction add' with
          | nil => intro _ _; exact P₆'
          | cons p r ih =>
            intro h1 h2
            rw [List.map_cons, List.nodup_cons] at h2
            have Pr := ih (fun q hq => h1 q (List.mem_cons_of_mem _ hq)) h2.2
            have hp := h1 p List.mem_cons_self
            have f4 := P₄'.fresh (addNone p hp)
            refine Pr.add (a := p.1) (o := p.2) (add6 p hp) f4.1 f4.2.1 ?_
            rw [List.map_append]
            intro hm
            rcases List.mem_append.mp hm with hm | hm
            · exact h2.1 hm
            · refine f4.2.2 ?_
              simp only [List.map_cons, List.mem_cons] at hm ⊢
              rcases hm with hm | hm | hm
              · exact .inr (.inl hm)
              · exact .inl hm
              · exact .inr (.inr hm)
        have P₈ := P₇ add (fun _ h => h) hndA
        refine ⟨n + 1 - (i + 1), by omega, h₆, tk₅, i + 1, ys ++ [y], e', add ++ ν, oI₂, rfl, ?_, hJ₅, by rw [List.length_append, List.length_singleton]; omega, ?_, fun b o eb => hs₆.extBut b o (fun q => by rw [q, hDnone] at eb; cases eb) (hk₅ b o (hk₄ b o (hkp₃ b o eb (hkp₁ b o eb)))), fun p hp => ?_, hlt, rfl⟩
        · refine It.W.frame _ _ _ hst₁ fun b hb o eb => ?_
          rcases List.mem_cons.mp hb with rfl | hb
          · rw [hoI₂] at eb; cases eb; exact (P₆'.mu (b, oI₂) (List.mem_cons_of_mem _ List.mem_cons_self)).1
          · obtain ⟨o', ho'⟩ := hfx b hb
            have e1 := P₂'.st b o' ho'
            rw [eb] at e1; cases e1
            exact P₆'.st b _ ho'
        · have perm : (add ++ ((D, lobj (ys ++ [y]) e') :: (I, oI₂) :: (ν ++ μ₁))).Perm ([(D, lobj (ys ++ [y]) e'), (I, oI₂)] ++ (add ++ ν ++ μ₁)) := by
            have := List.perm_append_comm (l₁ := add) (l₂ := [(D, lobj (ys ++ [y]) e'), (I, oI₂)])
            have := this.append_right (ν ++ μ₁)
            simpa [List.append_assoc] using this
          exact ⟨P₈.fm, P₈.st, P₈.vs, P₈.off, fun p hp => P₈.mu p (perm.mem_iff.mpr hp), (perm.map _).nodup P₈.nd⟩
        · rcases List.mem_append.mp hp with hp | hp
          · exact none_of_stays (fun b o eb => hk₄ b o (hkp₃ b o eb (hkp₁ b o eb))) (addNone p hp)
          · exact hν p hp
    · have hin : i = n := by omega
      subst hin
      refine It.W.done _ _ _ hst fun h₁ tk₁ hk₁ => ?_
      obtain ⟨P₁', hkp₁⟩ := nx h₁ hk₁
      have off : ∀ p ∈ (D, lobj ys e) :: (ν ++ μ₁), p.1 ∉ vas env := fun p hp hm => by
        rcases List.mem_cons.mp hp with rfl | hp
        · obtain ⟨o, ho⟩ := vs_alive P₁.vs _ hm
          rw [hDnone] at ho; cases ho
        · rcases List.mem_append.mp hp with hp | hp
          · obtain ⟨o, ho⟩ := vs_alive P₁.vs _ hm
            rw [hν p hp] at ho; cases ho
          · exact (P₁.mu p hp).2.1 hm
      obtain ⟨mC, hnC, _⟩ := P₁'.vs.loc
      refine done D e ys ν C mC h₁ tk₁ hJ ⟨P₁.fm, P₁'.st, P₁.vs.keep fun a _ o ea => hkp₁ a o ea, P₁.off, fun p hp => ⟨(P₁'.mu p hp).1, off p hp, (P₁'.mu p hp).2.2⟩, P₁'.nd⟩ hkp₁ (fun p hp => ?_) hCnone hnC fun hm => ?_
      · rcases List.mem_cons.mp hp with rfl | hp
        · exact hDnone
        · exact hν p hp
      · obtain ⟨p, hp, eC⟩ := List.mem_map.mp hm
        have hp' : p ∈ (D, lobj ys e) :: (ν ++ μ₁) := by
          rcases List.mem_cons.mp hp with rfl | hp
          · exact List.mem_cons_self
          · exact List.mem_cons_of_mem _ (List.mem_append_left _ hp)
        exact (P₁'.mu p hp').2.1 (by rw [eC]; exact List.mem_cons_self)
  exact codeAny_compStart_list (loop _ rfl) (It.W.self 0 _ _ _ (It.W.frame _ _ _ st fun b _ o e => kG b o (kH b o e)) (loop _ rfl))

theorem pt_letGo {B : Heap} {σ : Str → Option Value} {μ : List (Addr × Obj)} {h h' : Heap} {C : Addr} (P : Pt B env σ μ h) (hs : Heap.SameBut C h h') (h1 : C ∉ vas env) (h2 : B.get? C = none) (h3 : C ∉ μ.map (·.1)) : Pt B env σ μ h' :=
  ⟨P.fm, fun b o e => hs.extBut b o (fun q => by rw [q, h2] at e; cases e) (P.st b o e), P.vs.keep fun a ha o e => hs.extBut a o (fun q => h1 (q ▸ ha)) e, P.off,
    fun p hp => ⟨hs.extBut _ _ (fun q => h3 (q ▸ List.mem_map_of_mem hp)) (P.mu p hp).1, (P.mu p hp).2⟩, P.nd⟩

theorem varAt_mem {x : Str} {b : Addr} (h : varAt env x = some b) : b ∈ vas env := by
  unfold varAt at h
  split at h
  · cases h; exact List.mem_cons_self
  · exact List.mem_cons_of_mem _ (List.mem_map.mpr ⟨_, mem_of_lookup h, rfl⟩)

/-- a comprehension as a value -/
theorem ev_comp {elt target iter : Expr} {ifs : List Expr} {scope : Scope} {pos : Pos} {cl : List (Str × Addr)} {Q : Value → Shared → Prop} (bnd : Nat → Value → (Str → Option Value) → Str → Option Value)
    (h : wpAny (model prog w) A (eval iter env) (fun xv s₁ => ∃ (B₁ : Heap) (σ₁ : Str → Option Value) (μ₁ : List (Addr × Obj)) (fx : List Addr) (n : Nat) (Pv : Nat → Value → Prop) (J : Nat → List Value → List (Addr × Obj) → Prop),
      Iters prog w A xv fx n Pv s₁ ∧ Pt B₁ env σ₁ μ₁ s₁.heap ∧ (∀ b ∈ fx, ∃ o, B₁.get? b = some o) ∧ n ≤ sizeLine ∧ J 0 [] [] ∧
      (∀ i v, i < n → Pv i v → Takes prog w A target scope cl env (bnd i) B₁ s₁.heap v ∧ (∀ x u, capt cl σ₁ x = some u → bnd i v (capt cl σ₁) x = some u) ∧ CTurn prog w A env scope cl (bnd i) elt ifs B₁ σ₁ μ₁ J i v) ∧
      ∀ D e ys ν h' tk, J n ys ν → Pt B₁ env σ₁ ((D, lobj ys e) :: (ν ++ μ₁)) h' → s₁.heap.StaysIn h' → (∀ p ∈ (D, lobj ys e) :: ν, s₁.heap.get? p.1 = none) → Q (.ref D) { s₁ with heap := h', toks := tk }) No s)
    (hclos : closureFor scope env = pure cl) (hcl : ∀ p ∈ cl, p ∈ env.cells) (hkind : scope.kind = .function := by rfl) (hnn : namesOk scope cl env = true := by rfl)
    (hs : ∀ x, foldedSetIterable iter env x = pure x := by intro _; rfl) :
    wpAny (model prog w) A (eval (.ListComp elt [⟨target, iter, ifs, 0⟩] scope pos) env) Q No s := by
  rw [arm_eval_ListComp]
  refine comp_core (use := none) bnd hclos hcl hkind hnn (wpAny_mono h (fun xv s₁ h₁ => ?_) fun _ _ e => e.elim) hs
  obtain ⟨B₁, σ₁, μ₁, fx, n, Pv, J, hit, P₁, hfx, hsz, h0, turn, done⟩ := h₁
  refine ⟨B₁, σ₁, μ₁, fx, n, Pv, J, hit, P₁, hfx, hsz, h0, turn, fun D e ys ν C m h' tk hJ P hk hn hC hnC hCn => ⟨m, hnC, fun h'' hs'' => ?_⟩⟩
  have fC := P₁.fresh hC
  refine done D e ys ν h'' tk hJ (pt_letGo P hs'' fC.1 fC.2.1 fun hm => ?_) (fun b o eb => hs''.extBut b o (fun q => by rw [q, hC] at eb; cases eb) (hk b o eb)) hn
  rw [← List.cons_append, List.map_append] at hm
  rcases List.mem_append.mp hm with hm | hm
  · exact hCn hm
  · exact fC.2.2 hm

/-- a comprehension assigned to a local name -/
theorem ex_assign_comp {elt target iter : Expr} {ifs : List Expr} {scope : Scope} {pos spos py : Pos} {y : Str} {cl : List (Str × Addr)} {Q : Flow → Shared → Prop} (bnd : Nat → Value → (Str → Option Value) → Str → Option Value)
    (h : wpAny (model prog w) A (eval iter env) (fun xv s₁ => ∃ (B₁ : Heap) (σ₁ : Str → Option Value) (μ₁ : List (Addr × Obj)) (fx : List Addr) (n : Nat) (Pv : Nat → Value → Prop) (J : Nat → List Value → List (Addr × Obj) → Prop),
      Iters prog w A xv fx n Pv s₁ ∧ Pt B₁ env σ₁ μ₁ s₁.heap ∧ (∀ b ∈ fx, ∃ o, B₁.get? b = some o) ∧ n ≤ sizeLine ∧ J 0 [] [] ∧
      (∀ i v, i < n → Pv i v → Takes prog w A target scope cl env (bnd i) B₁ s₁.heap v ∧ (∀ x u, capt cl σ₁ x = some u → bnd i v (capt cl σ₁) x = some u) ∧ CTurn prog w A env scope cl (bnd i) elt ifs B₁ σ₁ μ₁ J i v) ∧
      ∀ D e ys ν h' tk, J n ys ν → Pt B₁ env (upd σ₁ y (.ref D)) ((D, lobj ys e) :: (ν ++ μ₁)) h' → (∀ p ∈ (D, lobj ys e) :: ν, s₁.heap.get? p.1 = none) → Q .next { s₁ with heap := h', toks := tk }) No s)
    (hsw : swapsWith (.ListComp elt [⟨target, iter, ifs, 0⟩] scope pos) (some (.Name y py)) spos.line env = pure true)
    (hclos : closureFor scope env = pure cl) (hcl : ∀ p ∈ cl, p ∈ env.cells) (hy : okSt env y = true := by rfl) (hkind : scope.kind = .function := by rfl) (hnn : namesOk scope cl env = true := by rfl)
    (hs : ∀ x, foldedSetIterable iter env x = pure x := by intro _; rfl) :
    wpAny (model prog w) A (exec (.Assign [.Name y py] (.ListComp elt [⟨target, iter, ifs, 0⟩] scope pos) spos) env) Q No s := by
  rw [exec_Assign_Name_used _ _ _ _ hsw]
  refine wpAny_bind (wpAny_standAt (wpAny_bind ?_))
  show wpAny _ A (do let _ ← comprehension (.ListComp elt [⟨target, iter, ifs, 0⟩] scope pos) scope env _ (newList []) false (eval iter env) (some (assign (.Name y py) env))) _ _ s
  refine wpAny_bind (wpAny_mono (comp_core (use := some (assign (.Name y py) env)) (Q := fun _ s' => Q .next s') bnd hclos hcl hkind hnn (wpAny_mono h (fun xv s₁ h₁ => ?_) fun _ _ e => e.elim) hs) (fun _ s' hq => wpAny_pure (wpAny_pure hq)) fun _ _ e => e.elim)
  obtain ⟨B₁, σ₁, μ₁, fx, n, Pv, J, hit, P₁, hfx, hsz, h0, turn, done⟩ := h₁
  refine ⟨B₁, σ₁, μ₁, fx, n, Pv, J, hit, P₁, hfx, hsz, h0, turn, fun D e ys ν C m h' tk hJ P hk hn hC hnC hCn => ?_⟩
  have fC := P₁.fresh hC
  have hCμ : C ∉ (((D, lobj ys e) :: (ν ++ μ₁)).map (·.1)) := fun hm => by
    rw [← List.cons_append, List.map_append] at hm
    rcases List.mem_append.mp hm with hm | hm
    · exact hCn hm
    · exact fC.2.2 hm
  show wpAny _ A (assign (.Name y py) env (.ref D)) _ _ _
  refine wpAny_assign_Name (st_var P (fun h₂ tk₂ P₂ hk₂ => ?_) hy)
  obtain ⟨oC, esC, epC, hoC, rC⟩ := hnC
  refine ⟨m, ⟨oC, esC, epC, hk₂ C oC (fun q => fC.1 (varAt_mem q)) hoC, rC⟩, fun h'' hs'' => ?_⟩
  exact done D e ys ν h'' tk₂ hJ (pt_letGo P₂ hs'' fC.1 fC.2.1 hCμ) hn

theorem takes_name {x : Str} {px : Pos} {scope : Scope} {cl : List (Str × Addr)} {B h₀ : Heap} {v : Value} (hx : cl.lookup x = none) (hk : ∀ C, okSt (cEnv scope cl C env) x = true) :
    Takes prog w A (.Name x px) scope cl env (fun v σ => upd σ x v) B h₀ v := fun C σ μ s₂ Q hO P h =>
  wpAny_assign_Name (st_var P (fun h' tk' P' hk' => h h' tk' P' fun b o e0 e => hk' b o (fun q => by
    unfold varAt at q
    split at q
    · cases q; rw [hO.1] at e0; cases e0
    · rw [hO.2 x b (mem_of_lookup q) hx] at e0; cases e0) e) (hk C))

theorem takes_pair {a b : Str} {pa pb tp : Pos} {kk : Nat} {scope : Scope} {cl : List (Str × Addr)} {B h₀ : Heap} {T : Addr} {x y : Value} (hh : A.handled = none) (ht : B.IsTuple T #[x, y]) (ha : cl.lookup a = none) (hb : cl.lookup b = none)
    (hka : ∀ C, okSt (cEnv scope cl C env) a = true) (hkb : ∀ C, okSt (cEnv scope cl C env) b = true) :
    Takes prog w A (.Tuple [.Name a pa, .Name b pb] kk tp) scope cl env (fun _ σ => upd (upd σ a x) b y) B h₀ (.ref T) := fun C σ μ s₂ Q hO P h => by
  have off : ∀ {z : Str}, cl.lookup z = none → ∀ {c o}, h₀.get? c = some o → varAt (cEnv scope cl C env) z ≠ some c := fun hz c o e0 q => by
    unfold varAt at q
    split at q
    · cases q; rw [hO.1] at e0; cases e0
    · rw [hO.2 _ c (mem_of_lookup q) hz] at e0; cases e0
  have hts : s₂.heap.IsTuple T #[x, y] := ht.at fun o e => P.st _ _ e
  refine wpAny_assign_Tuple hh hts rfl rfl fun h₁ he₁ => ?_
  have k₁ : s₂.heap.StaysIn h₁ := fun c o e => he₁ c o (Nat.ne_of_lt (Heap.lt_size e)) e
  show wpAny _ _ (assignInOrder [assign (.Name a pa) _, assign (.Name b pb) _] [x, y]) _ _ _
  refine assignInOrder_cons (wpAny_assign_Name (st_var (P.grow k₁) (fun h₂ tk₂ P₂ hk₂ => ?_) (hka C)))
  refine assignInOrder_cons (wpAny_assign_Name (st_var P₂ (fun h₃ tk₃ P₃ hk₃ => ?_) (hkb C)))
  refine assignInOrder_nil ?_
  exact h h₃ tk₃ P₃ fun c o e0 e => hk₃ c o (off hb e0) (hk₂ c o (off ha e0) (k₁ c o e))

/-- the same as a statement's target -/
theorem asg_pair {a b : Str} {pa pb tp : Pos} {kk : Nat} {B : Heap} {σ : Str → Option Value} {μ : List (Addr × Obj)} {T : Addr} {x y : Value} {Q : Unit → Shared → Prop} (hh : A.handled = none) (ht : s.heap.IsTuple T #[x, y]) (P : Pt B env σ μ s.heap)
    (h : ∀ h' tk', Pt B env (upd (upd σ a x) b y) μ h' → Q () { s with heap := h', toks := tk' })
    (hka : okSt env a = true := by rfl) (hkb : okSt env b = true := by rfl) :
    wpAny (model prog w) A (assign (.Tuple [.Name a pa, .Name b pb] kk tp) env (.ref T)) Q No s := by
  refine wpAny_assign_Tuple hh ht rfl rfl fun h₁ he₁ => ?_
  have k₁ : s.heap.StaysIn h₁ := fun c o e => he₁ c o (Nat.ne_of_lt (Heap.lt_size e)) e
  show wpAny _ _ (assignInOrder [assign (.Name a pa) _, assign (.Name b pb) _] [x, y]) _ _ _
  refine assignInOrder_cons (wpAny_assign_Name (st_var (P.grow k₁) (fun h₂ tk₂ P₂ hk₂ => ?_) hka))
  refine assignInOrder_cons (wpAny_assign_Name (st_var P₂ (fun h₃ tk₃ P₃ hk₃ => ?_) hkb))
  exact assignInOrder_nil (h h₃ tk₃ P₃)
end
end Mine
end

section
namespace Mine
open PySem PySem.W PySem.Calls PyProof.Rows

/-! everything as a ledger: the library's rules over Fr and News, used at any heap -/
def allBut (h : Heap) (L : Addr) : List (Addr × Obj) := (List.range h.objs.size).filterMap fun b => if b = L then none else (h.get? b).map fun o => (b, o)

theorem mem_allBut {h : Heap} {L b : Addr} {o : Obj} : (b, o) ∈ allBut h L ↔ b ≠ L ∧ h.get? b = some o := by
  unfold allBut
  rw [List.mem_filterMap]
  constructor
  · rintro ⟨c, _, e⟩
    split at e
    · cases e
    · rename_i hc
      obtain ⟨o', ho', e'⟩ := Option.map_eq_some_iff.mp e
      cases e'
      exact ⟨hc, ho'⟩
  · rintro ⟨hb, ho⟩
    refine ⟨b, List.mem_range.mpr (Heap.lt_size ho), ?_⟩
    rw [if_neg hb, ho]; rfl

def noHeap : Heap := { objs := #[] }
theorem noHeap_get (a : Addr) : noHeap.get? a = none := Heap.get?_none_of_le (Nat.zero_le _)

theorem fr_all {h : Heap} {L : Addr} {m : Str → Option Value} (hn : h.Ns L m) : Fr noHeap L h m := ⟨hn, fun b o e => (by rw [noHeap_get] at e; cases e), Nat.zero_le _⟩
theorem news_all {h : Heap} {L : Addr} : News noHeap L h (allBut h L) := fun _ hp => ⟨(mem_allBut.mp hp).2, (mem_allBut.mp hp).1, noHeap_get _⟩

theorem nodup_filterMap_key {α : Type} (f : α → Option (Addr × Obj)) (k : α → Addr) (hk : ∀ a p, f a = some p → p.1 = k a) : ∀ l : List α, (l.map k).Nodup → ((l.filterMap f).map (·.1)).Nodup
  | [], _ => List.nodup_nil
  | a :: r, h => by
    rw [List.map_cons, List.nodup_cons] at h
    have ih := nodup_filterMap_key f k hk r h.2
    rw [List.filterMap_cons]
    split
    · exact ih
    · rename_i p hp
      rw [List.map_cons, List.nodup_cons]
      refine ⟨fun hm => ?_, ih⟩
      obtain ⟨q, hq, e⟩ := List.mem_map.mp hm
      obtain ⟨b, hb, eb⟩ := List.mem_filterMap.mp hq
      have : k b = k a := by rw [← hk b q eb, ← hk a p hp, e]
      exact h.1 (this ▸ List.mem_map_of_mem hb)

theorem allBut_nodup (h : Heap) (L : Addr) : ((allBut h L).map (·.1)).Nodup := by
  unfold allBut
  refine nodup_filterMap_key _ id (fun a p e => ?_) _ (by simpa using List.nodup_range)
  split at e
  · cases e
  · obtain ⟨o, _, e'⟩ := Option.map_eq_some_iff.mp e
    cases e'; rfl

theorem upd_exists {d : Addr} {o o' : Obj} : ∀ {l : List (Addr × Obj)}, (l.map (·.1)).Nodup → (d, o) ∈ l → ∃ pre post, l = pre ++ (d, o) :: post ∧ (∀ p ∈ pre, p.1 ≠ d) ∧ (∀ p ∈ post, p.1 ≠ d)
  | p :: r, h, hm => by
    rw [List.map_cons, List.nodup_cons] at h
    rcases List.mem_cons.mp hm with e | hm'
    · refine ⟨[], r, by rw [← e]; rfl, fun _ h => (nomatch h), fun q hq e' => h.1 ?_⟩
      rw [← e]; show d ∈ _; rw [← e']; exact List.mem_map_of_mem hq
    · obtain ⟨pre, post, e, h1, h2⟩ := upd_exists (o' := o') h.2 hm'
      refine ⟨p :: pre, post, by rw [e]; rfl, fun q hq => ?_, h2⟩
      rcases List.mem_cons.mp hq with rfl | hq
      · intro e'; exact h.1 (List.mem_map.mpr ⟨(d, o), hm', e'.symm⟩)
      · exact h1 q hq

section
variable {M : Model} {A : Around} {E : Value → Shared → Prop} {s : Shared} {B : Heap} {env : Env} {σ : Str → Option Value} {μ : List (Addr × Obj)}

/-- a point behind a change that left all but the locals' own dict and d as they were -/
theorem Pt.after {h h' : Heap} {d : Addr} {o o' : Obj} {μ' : List (Addr × Obj)} (P : Pt B env σ μ h) (hm : (d, o) ∈ μ) (hn : ∀ m, h.Ns env.locals m → h'.Ns env.locals m)
    (hs : ∀ b ob, b ≠ env.locals → b ≠ d → h.get? b = some ob → h'.get? b = some ob) (ho : h'.get? d = some o')
    (hμ : ∀ p ∈ μ', p = (d, o') ∨ (p ∈ μ ∧ p.1 ≠ d)) (hnd : (μ'.map (·.1)).Nodup) : Pt B env σ μ' h' := by
  have hd := P.mu _ hm
  have hLv : env.locals ∈ vas env := List.mem_cons_self
  have fmnd := P.fm.nd
  rw [vas, List.nodup_cons] at fmnd
  refine ⟨P.fm, fun b ob e => hs b ob (fun q => ?_) (fun q => ?_) (P.st b ob e), ⟨?_, fun x c hc => ?_⟩, P.off, fun p hp => ?_, hnd⟩
  · rw [q, P.off _ hLv] at e; cases e
  · rw [q, hd.2.2] at e; cases e
  · obtain ⟨m, a, b⟩ := P.vs.loc
    exact ⟨m, hn m a, b⟩
  · obtain ⟨v₀, ⟨ob, hob, hdb⟩, hv⟩ := P.vs.cel x c hc
    have hcv : c ∈ vas env := List.mem_cons_of_mem _ (List.mem_map.mpr ⟨_, hc, rfl⟩)
    exact ⟨v₀, ⟨ob, hs c ob (fun q => fmnd.1 (q ▸ List.mem_map.mpr ⟨_, hc, rfl⟩)) (fun q => hd.2.1 (q ▸ hcv)) hob, hdb⟩, hv⟩
  · rcases hμ p hp with rfl | ⟨hp, hne⟩
    · exact ⟨ho, hd.2⟩
    · exact ⟨hs _ _ (fun q => (P.mu p hp).2.1 (q ▸ hLv)) hne (P.mu p hp).1, (P.mu p hp).2⟩
end

/-! instances with a dict of written keys -/
def DOk (o : Obj) (φ : Str → Option Value) (k : Nat) : Prop := ∃ es n, o = dictOf es n ∧ es.length ≤ k ∧ es.any (·.refKey) = false ∧ ∀ name, getL name es = some (φ name)

theorem dok_nil : DOk (dictOf [] 0) (fun _ => none) 0 := ⟨[], 0, rfl, Nat.le_refl _, rfl, fun _ => rfl⟩

theorem putL_length (name : Str) (hsh : Int) (key v : Value) : ∀ es : List DictEntry, (putL name hsh key v es).length ≤ es.length + 1
  | [] => by simp [putL]
  | e :: r => by
    unfold putL
    split
    · simp
    · have := putL_length name hsh key v r
      simp only [List.length_cons]; omega

theorem getL_some {name : Str} {es : List DictEntry} {r : Option Value} : getL name es = some r → (es.find? (·.key.isStr name)).map (·.val) = r := by
  unfold getL
  intro h
  split at h
  · rename_i e he; cases h; rw [he]; rfl
  · rename_i he
    split at h
    · cases h
    · cases h; rw [he]; rfl

/-- no key is an object of its own -/
theorem getL_keys {φ : Str → Option Value} {es : List DictEntry} (h : ∀ name, getL name es = some (φ name)) (hr : es.any (·.refKey) = false) (name : Str) (hsh : Int) (tk : Tok) (v : Value) :
    (putL name hsh (.str name tk) v es).any (·.refKey) = false ∧ ∀ x, getL x (putL name hsh (.str name tk) v es) = some (if x = name then some v else φ x) := by
  have hr' : (putL name hsh (.str name tk) v es).any (·.refKey) = false := by
    have : ∀ es : List DictEntry, es.any (·.refKey) = false → (putL name hsh (.str name tk) v es).any (·.refKey) = false := by
      intro es
      induction es with
      | nil => intro _; rfl
      | cons e r ih =>
        intro h
        rw [List.any_cons, Bool.or_eq_false_iff] at h
        unfold putL
        split
        · rw [List.any_cons, Bool.or_eq_false_iff]; exact ⟨h.1, h.2⟩
        · rw [List.any_cons, Bool.or_eq_false_iff]; exact ⟨h.1, ih h.2⟩
    exact this es hr
  refine ⟨hr', ?_⟩
  intro x
  have hf : ∀ es : List DictEntry, (putL name hsh (.str name tk) v es).find? (·.key.isStr x) = if x = name then some (match es.find? (·.key.isStr name) with | some e => ⟨e.hash, e.key, v⟩ | none => ⟨hsh, .str name tk, v⟩) else es.find? (·.key.isStr x) := by
    intro es
    induction es with
    | nil =>
      by_cases hx : x = name
      · subst hx; simp [putL, Value.isStr]
      · have : (name == x) = false := by simpa using fun e => hx e.symm
        simp [putL, Value.isStr, hx, this]
    | cons e r ih =>
      unfold putL
      by_cases he : e.key.isStr name = true
      · rw [if_pos he]
        by_cases hx : x = name
        · subst hx; simp [he]
        · have : e.key.isStr x = false := by
            cases q : e.key.isStr x with
            | false => rfl
            | true => exact absurd (Value.isStr_inj _ _ _ q he) hx
          simp [this, hx]
      · rw [if_neg he]
        by_cases hx : x = name
        · subst hx
          rw [List.find?_cons, List.find?_cons]
          simp only [Bool.not_eq_true] at he
          simp only [he, if_true]
          rw [ih]; simp
        · simp only [List.find?_cons, ih, if_neg hx]
  unfold getL
  rw [hf es]
  by_cases hx : x = name
  · simp only [hx, if_true]
    cases es.find? (·.key.isStr name) <;> rfl
  · simp only [hx, if_false]
    have := getL_some (h x)
    cases hq : es.find? (·.key.isStr x) with
    | some e => rw [hq] at this; simp only [Option.map_some] at this; simp [this]
    | none => rw [hq] at this; simp only [Option.map_none] at this; simp [hr', ← this]

theorem dok_put {P : Params} {o : Obj} {φ : Str → Option Value} {k : Nat} (D : DOk o φ k) (name : Str) (tk : Tok) (v : Value) : ∃ es n, Obj.putName name (PyData.keyHash P name) (.str name tk) v o = dictOf es n ∧ es.length ≤ k + 1 ∧ DOk (dictOf es n) (upd φ name v) (k + 1) := by
  obtain ⟨es, n, rfl, hl, hr, hg⟩ := D
  have hk := getL_keys hg hr name (PyData.keyHash P name) tk v
  refine ⟨_, _, putName_dict _ _ _ _ _ _, ?_, _, _, rfl, ?_, hk.1, hk.2⟩
  all_goals (have := putL_length name (PyData.keyHash P name) (.str name tk) v es; omega)

theorem dok_lookIn {o : Obj} {φ : Str → Option Value} {k : Nat} (D : DOk o φ k) (name : Str) : lookIn name o = some (φ name) := by
  obtain ⟨es, n, rfl, _, _, hg⟩ := D
  rw [lookIn_dict]; exact hg name

/-- what the walk asks of an own class -/
structure KCls (K : Frag) (C : Addr) : Prop where
  pg : plainGet K C "" = true
  hd : hasDictIn K C = true
  sa : findIn K (.ref C) "__setattr__" = some (some (.builtin "object.__setattr__"))
  po : plainOver K C = true

section
variable {prog : Program} {w : World} {A : Around} {E : Value → Shared → Prop} {s : Shared} {B : Heap} {env : Env} {σ : Str → Option Value} {μ : List (Addr × Obj)} {K : Frag} {x C dx : Addr} {od : Obj} {φ : Str → Option Value} {k : Nat} {name : Str} {v : Value}

theorem inst_at {h : Heap} (hx : h.get? x = some (instObj C dx)) (hd : h.get? dx = some od) : InstAt h x (instObj C dx) C (some od) := ⟨hx, rfl, rfl, hd⟩

theorem get_attr {expr : Bool} {Q : Value → Shared → Prop} (X : K.In s.heap) (hx : s.heap.get? x = some (instObj C dx)) (hd : s.heap.get? dx = some od) (D : DOk od φ k) (c : KCls K C) (hv : φ name = some v)
    (ha : findIn K (.ref C) name = some none) (hh : handedIn v = true) (h : Q v { s with toks := s.toks + 1 }) : wpAny (model prog w) A (getAttr (.ref x) name expr) Q E s :=
  get_value X (inst_at hx hd) (plainGet_of c.pg).1 (findObj_own c.hd ha rfl (by rw [dok_lookIn D, hv])) hh h

theorem get_meth {pl : Sem Bool} {Q : Value × List Value → Shared → Prop} {f : Addr} (X : K.In s.heap) (hx : s.heap.get? x = some (instObj C dx)) (hd : s.heap.get? dx = some od) (D : DOk od φ k) (c : KCls K C) (hv : φ name = none)
    (hf : findIn K (.ref C) name = some (some (.ref f))) (ht : isFn K (.ref f) = true) (h : Q (.ref f, [.ref x]) s) : wpAny (model prog w) A (getMethod (.ref x) name pl) Q E s :=
  method_fn X (inst_at hx hd) (plainGet_of c.pg).1 (plainGet_of c.pg).2 hf (beq_iff_eq.mp ht) (by show (lookIn name od).map _ = _; rw [dok_lookIn D, hv]; rfl) h

theorem set_attr {Q : Unit → Shared → Prop} (P : Pt B env σ μ s.heap) (X : K.In s.heap) (hx : s.heap.get? x = some (instObj C dx)) (hm : (dx, od) ∈ μ) (D : DOk od φ k) (hk : k < 1000) (c : KCls K C)
    (ht : takerIn K C name = some none)
    (h : ∀ h' tk od', DOk od' (upd φ name v) (k + 1) → (∀ μ' : List (Addr × Obj), (∀ p ∈ μ', p = (dx, od') ∨ (p ∈ μ ∧ p.1 ≠ dx)) → (μ'.map (·.1)).Nodup → Pt B env σ μ' h') → Q () { s with heap := h', toks := tk }) :
    wpAny (model prog w) A (setAttr (.ref x) name v) Q E s := by
  have hdx := P.mu _ hm
  obtain ⟨m, hn, _⟩ := P.vs.loc
  have hne : dx ≠ env.locals := fun q => hdx.2.1 (q ▸ List.mem_cons_self)
  obtain ⟨pre, post, e, h1, h2⟩ := upd_exists (o' := od) (allBut_nodup s.heap env.locals) (mem_allBut.mpr ⟨hne, hdx.1⟩)
  refine set_plain X (inst_at hx hdx.1) c.sa ?_
  obtain ⟨es, n, e2, hl, D'⟩ := dok_put (P := w.params) D name (s.toks + 1) v
  have N : News noHeap env.locals s.heap (pre ++ (dx, od) :: post) := e ▸ news_all
  refine osa_dict (s := { s with toks := s.toks + 1 }) (fr_all hn) N X (inst_at hx hdx.1) rfl c.po ht c.hd (by rw [dok_lookIn D]; rfl) h1 h2 e2 rfl (by omega) fun h' F' N' => ?_
  have hs : ∀ b ob, b ≠ env.locals → b ≠ dx → s.heap.get? b = some ob → h'.get? b = some ob := fun b ob hb hb2 eb => by
    have hmem : (b, ob) ∈ pre ++ (dx, od) :: post := e ▸ mem_allBut.mpr ⟨hb, eb⟩
    rcases List.mem_append.mp hmem with hm1 | hm1
    · exact (N' _ (List.mem_append_left _ hm1)).1
    · rcases List.mem_cons.mp hm1 with q | hm1
      · cases q; exact absurd rfl hb2
      · exact (N' _ (List.mem_append_right _ (List.mem_cons_of_mem _ hm1))).1
  have ho : h'.get? dx = some (dictOf es n) := (N' (dx, dictOf es n) (by simp)).1
  refine h h' _ _ D' fun μ' hμ hnd => P.after hm (fun m' hn' => ?_) hs ho hμ hnd
  have : m' = m := by
    obtain ⟨o1, es1, ep1, a1, a2, _, a4⟩ := hn
    obtain ⟨o2, es2, ep2, b1, b2, _, b4⟩ := hn'
    rw [a1] at b1; cases b1
    rw [a2] at b2; cases b2
    funext z; rw [← a4 z, ← b4 z]
  rw [this]; exact F'.ns
end
end Mine
end

section
namespace Mine
open PySem PySem.W PySem.Calls PyProof.Rows

abbrev fEnv (qual : Str) (scope : Scope) (cl : List (Str × Addr)) (cdv : Value) (f L : Addr) : Env := envX qual scope L f cdv (cellsFrom (L + 1) scope.names cl)

def bindσ : List (Str × Value) → (Str → Option Value) → Str → Option Value
  | [], σ => σ
  | (n, v) :: r, σ => bindσ r (upd σ n v)

def blockOk (scope : Scope) (cl : List (Str × Addr)) : Bool :=
  decide (((cellsFrom 0 scope.names cl).map (·.1)).Nodup) && ((cellsFrom 0 scope.names cl).map (·.1)).all (fun n => !(scope.names.lookup n == some .local))

theorem pt_block {B : Heap} {μ : List (Addr × Obj)} {H : Heap} {scope : Scope} {cl : List (Str × Addr)} {σ : Str → Option Value} {qual : Str} {func frame : Option Addr} {code c : Value} (hkind : scope.kind = .function) (st : B.StaysIn H)
    (mu : ∀ p ∈ μ, H.get? p.1 = some p.2 ∧ B.get? p.1 = none) (nd : (μ.map (·.1)).Nodup)
    (hcl : ∀ p ∈ cl, (∃ v₀, H.IsCell p.2 v₀ ∧ ∀ v, σ p.1 = some v → v₀ = some v) ∧ B.get? p.2 = none ∧ p.2 ∉ μ.map (·.1)) (ndc : (cl.map (·.2)).Nodup) (hok : blockOk scope cl = true) :
    Pt B { scope := scope, locals := H.objs.size, globals := mainGlobals, cells := cellsFrom (H.objs.size + 1) scope.names cl, qual := qual, func := func, code := code, frame := frame, builtins := builtinsNs } (capt cl σ) μ
      (pushCells (H.push { cls := c, data := .dict #[] }) scope.names) ∧ H.StaysIn (pushCells (H.push { cls := c, data := .dict #[] }) scope.names) := by
  simp only [blockOk, Bool.and_eq_true, decide_eq_true_eq] at hok
  obtain ⟨hn1, hn2⟩ := hok
  have kG : H.StaysIn (pushCells (H.push { cls := c, data := .dict #[] }) scope.names) := fun b o e => pushCells_keeps _ _ _ _ (Heap.get?_push_of_some _ e)
  have hcells := cellsFrom_new scope.names (H.push { cls := c, data := .dict #[] }) cl
  rw [Heap.size_push] at hcells
  generalize hG : pushCells (H.push { cls := c, data := .dict #[] }) scope.names = G at *
  have hnsC : G.Ns H.objs.size fun _ => none := by
    rw [← hG]; exact (Heap.Ns.new H c).keeps (pushCells_keeps _ _)
  generalize hC : H.objs.size = C at *
  have clt : ∀ p ∈ cl, @LT.lt Nat _ p.2 C := fun p hp => by
    obtain ⟨⟨v₀, hc, _⟩, _⟩ := hcl p hp
    rw [← hC]; exact hc.lt
  have up : ∀ a, C ≤ a → H.get? a = none := fun a ha => Heap.get?_none_of_le (by rw [hC]; exact ha)
  have fr : ∀ a, C ≤ a → B.get? a = none ∧ a ∉ μ.map (·.1) := fun a ha => ⟨none_of_stays st (up a ha), fun hm => by
    obtain ⟨p, hp, rfl⟩ := List.mem_map.mp hm
    have := (mu p hp).1
    rw [up _ ha] at this; cases this⟩
  have nn : ((cellsFrom (C + 1) scope.names cl).map (·.1)).Nodup := by rw [cellsFrom_names scope.names (C + 1) 0 cl cl rfl]; exact hn1
  have off : ∀ a ∈ C :: (cellsFrom (C + 1) scope.names cl).map (·.2), B.get? a = none ∧ a ∉ μ.map (·.1) := by
    intro a ha
    rcases List.mem_cons.mp ha with rfl | ha
    · exact fr _ (Nat.le_refl _)
    · obtain ⟨p, hp, rfl⟩ := List.mem_map.mp ha
      rcases hcells p hp with h1 | ⟨h1, _⟩
      · exact (hcl p h1).2
      · exact fr _ (Nat.le_of_succ_le h1)
  refine ⟨⟨⟨hkind, rfl, rfl, ?_, nn, ?_⟩, fun b o e => kG b o (st b o e), ⟨⟨_, hnsC, fun x v hkx hv => ?_⟩, fun x c' hc' => ?_⟩, fun a ha => (off a ha).1, fun p hp => ⟨kG _ _ (mu p hp).1, fun hm => (off _ hm).2 (List.mem_map_of_mem hp), (mu p hp).2⟩, nd⟩, kG⟩
  · show (C :: (cellsFrom (C + 1) scope.names cl).map (·.2)).Nodup
    refine List.nodup_cons.mpr ⟨fun hm => ?_, cellsFrom_nodup _ _ _ ndc fun p hp => Nat.lt_succ_of_lt (clt p hp)⟩
    obtain ⟨p, hp, e⟩ := List.mem_map.mp hm
    rcases hcells p hp with h1 | ⟨h1, _⟩
    · exact absurd (clt p h1) (by rw [e]; exact Nat.lt_irrefl _)
    · rw [e] at h1; exact absurd h1 (Nat.not_succ_le_self _)
  · intro p hp e
    have hm : p.1 ∈ (cellsFrom 0 scope.names cl).map (·.1) := by
      rw [← cellsFrom_names scope.names (C + 1) 0 cl cl rfl]; exact List.mem_map_of_mem hp
    have := List.all_eq_true.mp hn2 _ hm
    have e' : scope.names.lookup p.1 = some .local := e
    rw [e'] at this
    simp at this
  · exfalso
    unfold capt at hv
    split at hv
    · rename_i hsome
      obtain ⟨c₁, hc₁⟩ := Option.isSome_iff_exists.mp hsome
      have hmem : x ∈ (cellsFrom 0 scope.names cl).map (·.1) := List.mem_map.mpr ⟨_, cellsFrom_sub _ _ _ _ (mem_of_lookup hc₁), rfl⟩
      have := List.all_eq_true.mp hn2 _ hmem
      have e' : scope.names.lookup x = some .local := hkx
      rw [e'] at this
      simp at this
    · cases hv
  · rcases hcells (x, c') hc' with h1 | ⟨hge, h2⟩
    · obtain ⟨⟨v₀, ⟨oc, hoc, hdc⟩, he⟩, _⟩ := hcl _ h1
      refine ⟨v₀, ⟨oc, kG _ _ hoc, hdc⟩, fun v hv => he v ?_⟩
      unfold capt at hv
      split at hv
      · exact hv
      · cases hv
    · refine ⟨none, h2, fun v hv => ?_⟩
      exfalso
      unfold capt at hv
      split at hv
      · rename_i hsome
        obtain ⟨c₁, hc₁⟩ := Option.isSome_iff_exists.mp hsome
        have hm₁ := mem_of_lookup hc₁
        have := (Prod.mk.inj (inj_of_nodup nn (cellsFrom_sub _ _ _ _ hm₁) hc' rfl)).2
        subst this
        exact absurd (clt _ hm₁) (Nat.not_lt.mpr (Nat.le_of_succ_le hge))
      · cases hv

section
variable {M : Model} {A : Around} {s : Shared} {B : Heap} {μ : List (Addr × Obj)}

theorem bind_pt {E : Value → Shared → Prop} {env : Env} {h₀ : Heap} : ∀ (binds : List (Str × Value)) (σ : Str → Option Value) (s : Shared) (Q : PUnit → Shared → Prop) (f : Str × Value → PUnit → Sem (ForInStep PUnit)),
    (∀ n v u, f (n, v) u = (do storeName env n v; pure (.yield ⟨⟩))) → (∀ p ∈ binds, okSt env p.1 = true ∧ ∀ a, varAt env p.1 = some a → h₀.get? a = none) → Pt B env σ μ s.heap → h₀.StaysIn s.heap →
    (∀ h' tk, Pt B env (bindσ binds σ) μ h' → h₀.StaysIn h' → Q ⟨⟩ { s with heap := h', toks := tk }) → wpAny M A (forIn binds ⟨⟩ f) Q E s
  | [], σ, s, Q, f, _, _, P, k, h => by rw [List.forIn_nil]; exact wpAny_pure (h s.heap s.toks P k)
  | (n, v) :: r, σ, s, Q, f, hf, hok, P, k, h => by
    rw [List.forIn_cons, hf]
    have h1 := hok _ List.mem_cons_self
    refine wpAny_bind (wpAny_bind (st_var P (fun h' tk P' hk' => wpAny_pure (bind_pt r (upd σ n v) _ Q f hf (fun p hp => hok p (List.mem_cons_of_mem _ hp)) P' (fun b o e => hk' b o (fun q => by rw [h1.2 b q] at e; cases e) (k b o e)) h)) h1.1))
end

section
variable {prog : Program} {w : World} {A : Around} {s : Shared} {B : Heap} {μ : List (Addr × Obj)} {σ : Str → Option Value}

theorem code_fn {name qual : Str} {params : Arguments} {body : List Stmt} {scope : Scope} {cl : List (Str × Addr)} {dV kV doc pm cdv ct : Value} {an : Option Addr} {fo : Obj} {f : Addr} {args : Args} {R : Result → Shared → Prop}
    (Bd : List (Str × Value) → Heap → Prop)
    (hroom : A.depth < recursionLimit) (ho : s.heap.get? f = some fo) (hd : fo.data = .func (fnX name qual params body scope cl dV kV doc pm an cdv ct)) (hcd : s.heap.CodeRec cdv qual) (hlim : s.heap.NoLimit)
    (hbind : wpAny (model prog w) A.in1 (bindArgs (fnX name qual params body scope cl dV kV doc pm an cdv ct) args) (fun binds s₁ => ∃ h' tk, s₁ = { s with heap := h', toks := tk } ∧ s.heap.StaysIn h' ∧ Bd binds h') No s)
    (st : B.StaysIn s.heap) (mu : ∀ p ∈ μ, s.heap.get? p.1 = some p.2 ∧ B.get? p.1 = none) (nd : (μ.map (·.1)).Nodup)
    (hcl : ∀ p ∈ cl, (∃ v₀, s.heap.IsCell p.2 v₀ ∧ ∀ v, σ p.1 = some v → v₀ = some v) ∧ B.get? p.2 = none ∧ p.2 ∉ μ.map (·.1)) (ndc : (cl.map (·.2)).Nodup) (hok : blockOk scope cl = true)
    (hbok : ∀ binds h' L, Bd binds h' → ∀ p ∈ binds, okSt (fEnv qual scope cl cdv f L) p.1 = true ∧ cl.lookup p.1 = none)
    (h : ∀ L h₁ tk binds, Bd binds h₁ → s.heap.get? L = none → Pt B (fEnv qual scope cl cdv f L) (bindσ binds (capt cl σ)) μ h₁ → s.heap.StaysIn h₁ →
      wpAny (model prog w) (A.deeper (fEnv qual scope cl cdv f L)) (execs body (fEnv qual scope cl cdv f L)) (fun fl s' => R (.ok (.ret (match fl with | .ret v => v | _ => .none))) s') No { s with heap := h₁, toks := tk })
    (hup : ∀ binds h₁ h₂, Bd binds h₁ → h₁.StaysIn h₂ → Bd binds h₂)
    (hco : scope.isCoroutine = false := by rfl) (hgen : scope.isGenerator = false := by rfl) (hk : scope.kind = .function := by rfl) : codeAny (model prog w) A (.call (.ref f) args) R s := by
  refine codeAny_call_function hroom ho hd hco hgen rfl hcd (wpAny_mono hbind (fun binds s₁ h₁ => ?_) fun _ _ e => e.elim)
  obtain ⟨h', tk, rfl, k, hB⟩ := h₁
  have st' : B.StaysIn h' := fun b o e => k b o (st b o e)
  unfold newFunctionEnv
  simp only [Option.isSome_none, Bool.false_eq_true, if_false]
  refine wpAny_bind (wpAny_alloc ?_)
  refine wpAny_bind (wpAny_layCells _ (fun name kind cells => by cases hkc : kind == NameKind.cell <;> simp) _ _ _ _ ?_)
  rw [Heap.size_push]
  dsimp only
  obtain ⟨P, kG⟩ := pt_block (B := B) (μ := μ) (H := h') (scope := scope) (cl := cl) (σ := σ) (qual := qual ++ ".<locals>.") (func := some f) (frame := some h'.objs.size) (code := cdv) (c := .type "frame") hk st' (fun p hp => ⟨k _ _ (mu p hp).1, (mu p hp).2⟩) nd
    (fun p hp => let ⟨⟨v₀, ⟨oc, hoc, hdc⟩, he⟩, r⟩ := hcl p hp; ⟨⟨v₀, ⟨oc, k _ _ hoc, hdc⟩, he⟩, r⟩) ndc hok
  have hLn : h'.get? h'.objs.size = none := Heap.get?_none_of_le (Nat.le_refl _)
  have hcells := cellsFrom_new scope.names (h'.push { cls := .type "frame", data := .dict #[] }) cl
  rw [Heap.size_push] at hcells
  generalize hG : pushCells (h'.push { cls := .type "frame", data := .dict #[] }) scope.names = G at *
  generalize hL : h'.objs.size = L at *
  refine wpAny_bind (bind_pt (B := B) (μ := μ) (env := fEnv qual scope cl cdv f L) (h₀ := h') binds (capt cl σ) _ _ _ (fun _ _ _ => rfl) (fun p hp => ⟨(hbok binds h' L hB p hp).1, fun a ha => ?_⟩) P kG (fun h₁ tk₁ P₁ k₁ => wpAny_pure ?_))
  · unfold varAt at ha
    split at ha
    · cases ha; exact hLn
    · rcases hcells (p.1, a) (mem_of_lookup ha) with h1 | ⟨h1, _⟩
      · exact absurd h1 (not_mem_of_lookup (hbok binds h' L hB p hp).2)
      · exact Heap.get?_none_of_le (by rw [hL]; exact Nat.le_of_succ_le h1)
  · have k₂ : s.heap.StaysIn h₁ := fun b o e => k₁ b o (k b o e)
    exact ⟨hlim.keeps k₂, codeAny_func (wpAny_mono (h L h₁ tk₁ binds (hup _ _ _ hB k₁) (none_of_stays k hLn) P₁ k₂) (fun _ _ q => q) fun _ _ e => e.elim)⟩

/-- a def with nothing but plain parameters -/
theorem code_plain {name qual : Str} {params : Arguments} {body : List Stmt} {scope : Scope} {cl : List (Str × Addr)} {dV kV doc pm cdv ct : Value} {an : Option Addr} {fo : Obj} {f : Addr} {args : Args} {R : Result → Shared → Prop} {binds : List (Str × Value)}
    (hroom : A.depth < recursionLimit) (ho : s.heap.get? f = some fo) (hd : fo.data = .func (fnX name qual params body scope cl dV kV doc pm an cdv ct)) (hcd : s.heap.CodeRec cdv qual) (hlim : s.heap.NoLimit)
    (hbind : bindArgs (fnX name qual params body scope cl dV kV doc pm an cdv ct) args = pure binds)
    (st : B.StaysIn s.heap) (mu : ∀ p ∈ μ, s.heap.get? p.1 = some p.2 ∧ B.get? p.1 = none) (nd : (μ.map (·.1)).Nodup)
    (hcl : ∀ p ∈ cl, (∃ v₀, s.heap.IsCell p.2 v₀ ∧ ∀ v, σ p.1 = some v → v₀ = some v) ∧ B.get? p.2 = none ∧ p.2 ∉ μ.map (·.1)) (ndc : (cl.map (·.2)).Nodup) (hok : blockOk scope cl = true)
    (hbok : ∀ L, (binds.all fun p => okSt (fEnv qual scope cl cdv f L) p.1 && (cl.lookup p.1).isNone) = true)
    (h : ∀ L h₁ tk, s.heap.get? L = none → Pt B (fEnv qual scope cl cdv f L) (bindσ binds (capt cl σ)) μ h₁ → s.heap.StaysIn h₁ →
      wpAny (model prog w) (A.deeper (fEnv qual scope cl cdv f L)) (execs body (fEnv qual scope cl cdv f L)) (fun fl s' => R (.ok (.ret (match fl with | .ret v => v | _ => .none))) s') No { s with heap := h₁, toks := tk })
    (hco : scope.isCoroutine = false := by rfl) (hgen : scope.isGenerator = false := by rfl) (hk : scope.kind = .function := by rfl) : codeAny (model prog w) A (.call (.ref f) args) R s :=
  code_fn (fun b _ => b = binds) hroom ho hd hcd hlim (hbind ▸ wpAny_pure ⟨s.heap, s.toks, rfl, fun _ _ e => e, rfl⟩) st mu nd hcl ndc hok
    (fun b _ L hb p hp => by
      subst hb
      have := List.all_eq_true.mp (hbok L) p hp
      rw [Bool.and_eq_true, Option.isNone_iff_eq_none] at this
      exact this)
    (fun L h₁ tk b hb hL P k => by subst hb; exact h L h₁ tk hL P k) (fun _ _ _ e _ => e) hco hgen hk
end
end Mine
end

section
namespace Mine
open PySem PySem.W PySem.Calls PyProof.Rows

structure Wd (K : Frag) (B : Heap) : Prop where
  X : K.In B
  T : ∃ p loose mg mb, TopRead p loose mg mb B

theorem Wd.up {K : Frag} {B B' : Heap} (W : Wd K B) (k : B.StaysIn B') : Wd K B' :=
  ⟨W.X.keeps k, let ⟨p, l, mg, mb, T⟩ := W.T; ⟨p, l, mg, mb, T.keeps k⟩⟩
theorem Wd.nolimit {K : Frag} {B : Heap} (W : Wd K B) : B.NoLimit := let ⟨_, _, _, _, T⟩ := W.T; T.nolimit

section
variable {prog : Program} {w : World} {A : Around} {E : Value → Shared → Prop} {s : Shared} {B : Heap} {env : Env} {σ : Str → Option Value} {μ : List (Addr × Obj)} {K : Frag} {x : Str} {v : Value}

theorem ev_glob {pos : Pos} {Q : Value → Shared → Prop} (P : Pt B env σ μ s.heap) (W : Wd K B) (e : nsIn K mainGlobals x = some (some v)) (h : Q v s)
    (hx : env.kindOf x = some .globalImplicit := by rfl) (hd : (x == ("__debug__" : Str)) = false := by decide) :
    wpAny (model prog w) A (eval (.Name x pos) env) Q E s := by
  obtain ⟨p, l, mg, mb, T⟩ := W.T
  exact Name_function_global P.fm.fn hx (loadGlobal_global (env := env) (by rw [P.fm.gl]; exact T.g.keeps P.st) (mg_of W.X T.g e) h) hd

theorem ev_bi {pos : Pos} {Q : Value → Shared → Prop} (P : Pt B env σ μ s.heap) (W : Wd K B) (e : nsIn K mainGlobals x = some none) (hv : bootBuiltins x = some v) (h : Q v s)
    (hx : env.kindOf x = some .globalImplicit := by rfl) (hd : (x == ("__debug__" : Str)) = false := by decide) (hn : x ≠ "__name__" := by decide) :
    wpAny (model prog w) A (eval (.Name x pos) env) Q E s := by
  obtain ⟨p, l, mg, mb, T⟩ := W.T
  exact Name_function_global P.fm.fn hx (loadGlobal_builtin (env := env) (by rw [P.fm.gl]; exact T.g.keeps P.st) (mg_none_of W.X T.g e) (by rw [P.fm.bl]; exact T.b.keeps P.st) ((T.builtins x hn).trans hv) h) hd

theorem ev_int {i : Int} {k : Nat} {pos : Pos} {Q : Value → Shared → Prop} (h : Q (.int i s.toks) { s with toks := s.toks + 1 }) : wpAny (model prog w) A (eval (.Constant (.int i) k pos) env) Q E s := wpAny_Constant_int h
theorem ev_bool {b : Bool} {k : Nat} {pos : Pos} {Q : Value → Shared → Prop} (h : Q (.bool b) s) : wpAny (model prog w) A (eval (.Constant (.bool b) k pos) env) Q E s := fun _ _ _ => h
theorem ev_none {k : Nat} {pos : Pos} {Q : Value → Shared → Prop} (h : Q .none s) : wpAny (model prog w) A (eval (.Constant .none k pos) env) Q E s := fun _ _ _ => h

/-- range(e), e a small number -/
theorem ev_range {p pos : Pos} {e : Expr} {Q : Value → Shared → Prop} (P : Pt B env σ μ s.heap) (W : Wd K B) (hr : nsIn K mainGlobals "range" = some none)
    (h : wpAny (model prog w) A (eval e env) (fun nv s₁ => ∃ (n : Nat) (t : Tok), nv = .int n t ∧ ∀ r h' tk t u v, s₁.heap.StaysIn h' → s₁.heap.get? r = none → IsRange h' r 0 n 1 t u v → Q (.ref r) { s₁ with heap := h', toks := tk }) E s)
    (hx : env.kindOf "range" = some .globalImplicit := by rfl) (hse : backTo pos (starEach [e] env) = [(false, eval e env)] := by rfl) :
    wpAny (model prog w) A (eval (.Call (.Name "range" p) [e] [] pos) env) Q E s := by
  refine wpAny_Call_NameR (ev_bi P W hr PyProof.Rows.boot_range ?_ hx)
  rw [hse]
  refine PySem.callWith_type rfl (Calls.evalArgs_plain (Calls.spliced_cons (wpAny_mono h (fun nv s₁ h₁ => Calls.spliced_nil ?_) fun _ _ e => e)))
  obtain ⟨n, t, rfl, h⟩ := h₁
  refine call_range_1 ?_
  exact h _ _ _ _ _ _ (fun _ _ e => Heap.get?_push_of_some _ e) (Heap.get?_none_of_le (Nat.le_refl _)) (Heap.get?_push_size _ rfl)

/-- an item of a list -/
theorem ev_item {value slice : Expr} {pos : Pos} {Q : Value → Shared → Prop}
    (h : wpAny (model prog w) A (eval value env) (fun o s₁ => wpAny (model prog w) A (eval slice env) (fun i s₂ => ∃ (l : Addr) (items : List Value) (k : Nat) (t : Tok) (x : Value),
      o = .ref l ∧ i = .int k t ∧ s₂.heap.IsList l items.toArray ∧ k < 1000000 ∧ items[k]? = some x ∧ Q x s₂) E s₁) E s)
    (hs : ∀ l k t, subscripted slice false (.ref l) (.int k t) = operate [.ref l, .int k t] (getItem (.ref l) (.int k t)) := by intros; rfl) :
    wpAny (model prog w) A (eval (.Subscript value slice pos) env) Q E s := by
  refine Subscript_ (wpAny_mono h (fun o s₁ h₁ => wpAny_mono h₁ (fun i s₂ h₂ => ?_) fun _ _ e => e) fun _ _ e => e)
  obtain ⟨l, items, k, t, x, rfl, rfl, hl, hk, hx, hq⟩ := h₂
  exact tail_any hl.typeIs slot_list_getitem.lookup (wpAny_getItem_list hl (Int.natCast_nonneg k) (by omega) (by simpa using hx) hq) (hs _ _ _)

/-- o[i] = v for a list -/
theorem ex_setitem {o i value : Expr} {pos' pos : Pos} {Q : Flow → Shared → Prop}
    (h : wpAny (model prog w) A (eval value env) (fun v s₁ => wpAny (model prog w) A (eval o env) (fun ov s₂ => wpAny (model prog w) A (eval i env) (fun iv s₃ => ∃ (l : Addr) (items : List Value) (e : Nat) (k : Nat) (t : Tok),
      ov = .ref l ∧ iv = .int k t ∧ s₃.heap.get? l = some (lobj items e) ∧ k < items.length ∧ k < 1000000 ∧
        ∀ h', h'.get? l = some (lobj (items.set k v) e) → (∀ b ob, b ≠ l → s₃.heap.get? b = some ob → h'.get? b = some ob) → Q .next { s₃ with heap := h' }) E s₂) E s₁) E s)
    (hs : swapsWith value (some (.Subscript o i pos')) pos.line env = pure false := by rfl) :
    wpAny (model prog w) A (exec (.Assign [.Subscript o i pos'] value pos) env) Q E s := by
  refine wpAny_Assign_Subscript (wpAny_mono h (fun v s₁ h₁ => wpAny_mono h₁ (fun ov s₂ h₂ => wpAny_mono h₂ (fun iv s₃ h₃ => ?_) fun _ _ e => e) fun _ _ e => e) fun _ _ e => e) hs
  obtain ⟨l, items, e, k, t, rfl, rfl, hl, hk, hk2, hq⟩ := h₃
  refine ki_setAt (n := e) hl (Int.natCast_nonneg k) (by omega) (by simpa using hk) ?_
  refine hq _ ?_ fun b ob hb eb => (Heap.SameBut.update ..).extBut b ob hb eb
  rw [Heap.get?_update_self _ hl (by simp [Obj.mapSeq, Obj.isFreed])]
  simp [Obj.mapSeq]

theorem truthy_b {b : Bool} {Q : Bool → Shared → Prop} (h : Q b s) : wpAny (model prog w) A (truthy (.bool b)) Q E s := wpAny_truthy_bool h
end
end Mine
end

section
namespace Mine
open PySem PySem.W PySem.Calls PyProof.Rows

theorem Pt.of_mem {B : Heap} {env : Env} {σ : Str → Option Value} {μ μ' : List (Addr × Obj)} {h : Heap} (P : Pt B env σ μ h) (hs : ∀ p ∈ μ', p ∈ μ) (hn : (μ'.map (·.1)).Nodup) : Pt B env σ μ' h :=
  ⟨P.fm, P.st, P.vs, P.off, fun p hp => P.mu p (hs p hp), hn⟩
theorem Pt.perm {B : Heap} {env : Env} {σ : Str → Option Value} {μ μ' : List (Addr × Obj)} {h : Heap} (P : Pt B env σ μ h) (hp : μ.Perm μ') : Pt B env σ μ' h :=
  P.of_mem (fun p h => hp.mem_iff.mpr h) ((hp.map _).nodup_iff.mp P.nd)

/-- two entries of a ledger at one address are one -/
theorem Pt.one {B : Heap} {env : Env} {σ : Str → Option Value} {μ : List (Addr × Obj)} {h : Heap} (P : Pt B env σ μ h) {a : Addr} {o o' : Obj} (h1 : (a, o) ∈ μ) (h2 : (a, o') ∈ μ) : o = o' := by
  have e1 := (P.mu _ h1).1
  have e2 := (P.mu _ h2).1
  rw [e1] at e2; exact Option.some.inj e2

/-! matrices of bools -/
def row (M : Nat → Nat → Bool) (i : Nat) : List Value := (List.range 7).map fun j => .bool (M i j)
def rowsL (rs : List (Addr × Nat)) (M : Nat → Nat → Bool) : List (Addr × Obj) := rs.zipIdx.map fun p => (p.1.1, lobj (row M p.2) p.1.2)
def headO (rs : List (Addr × Nat)) (eR : Nat) : Obj := lobj (rs.map fun p => .ref p.1) eR
def matL (R : Addr) (eR : Nat) (rs : List (Addr × Nat)) (M : Nat → Nat → Bool) : List (Addr × Obj) := (R, headO rs eR) :: rowsL rs M

theorem rowsL_keys (rs : List (Addr × Nat)) (M : Nat → Nat → Bool) : (rowsL rs M).map (·.1) = rs.map (·.1) := by
  unfold rowsL
  rw [List.map_map]
  have : ((fun x : Addr × Obj => x.1) ∘ fun p : (Addr × Nat) × Nat => (p.1.1, lobj (row M p.2) p.1.2)) = (fun x : Addr × Nat => x.1) ∘ Prod.fst := rfl
  rw [this, ← List.map_map, List.zipIdx_map_fst]
theorem matL_keys {R : Addr} {eR : Nat} {rs : List (Addr × Nat)} {M : Nat → Nat → Bool} : (matL R eR rs M).map (·.1) = R :: rs.map (·.1) := by
  unfold matL; rw [List.map_cons, rowsL_keys]
theorem row_mem {R : Addr} {eR : Nat} {rs : List (Addr × Nat)} {M : Nat → Nat → Bool} {i : Nat} {p : Addr × Nat} (h : rs[i]? = some p) : (p.1, lobj (row M i) p.2) ∈ matL R eR rs M :=
  List.mem_cons_of_mem _ (List.mem_map.mpr ⟨(p, i), List.mem_zipIdx_iff_getElem?.mpr h, rfl⟩)
theorem row_of_mem {rs : List (Addr × Nat)} {M : Nat → Nat → Bool} {q : Addr × Obj} (h : q ∈ rowsL rs M) : ∃ i p, rs[i]? = some p ∧ q = (p.1, lobj (row M i) p.2) := by
  obtain ⟨⟨p, i⟩, hp, e⟩ := List.mem_map.mp h
  exact ⟨i, p, List.mem_zipIdx_iff_getElem?.mp hp, e.symm⟩
theorem row_get (M : Nat → Nat → Bool) {i j : Nat} (hj : j < 7) : (row M i)[j]? = some (.bool (M i j)) := by
  unfold row; rw [List.getElem?_map, List.getElem?_range hj]; rfl
theorem row_length (M : Nat → Nat → Bool) (i : Nat) : (row M i).length = 7 := by simp [row]

def setM (M : Nat → Nat → Bool) (a b : Nat) : Nat → Nat → Bool := fun i j => if i = a ∧ j = b then true else M i j
theorem row_setM (M : Nat → Nat → Bool) {a b : Nat} : row (setM M a b) a = (row M a).set b (.bool true) := by
  apply List.ext_getElem?
  intro j
  rw [List.getElem?_set]
  unfold row
  rw [List.getElem?_map, List.getElem?_map]
  by_cases hj : j < 7
  · rw [List.getElem?_range hj]
    by_cases hb : b = j
    · subst hb; simp [setM, hj]
    · have : ¬ (j = b) := fun e => hb e.symm
      simp [setM, hb, this]
  · rw [List.getElem?_eq_none (by simp; omega)]
    by_cases hb : b = j
    · subst hb; simp [hj]
    · simp [hb]
theorem row_setM_ne (M : Nat → Nat → Bool) {a b i : Nat} (h : i ≠ a) : row (setM M a b) i = row M i := by
  unfold row; congr 1; funext j; simp [setM, h]

/-- where a matrix lies -/
def IsMat (h : Heap) (R : Addr) (M : Nat → Nat → Bool) : Prop := ∃ eR rs, rs.length = 7 ∧ ∀ p ∈ matL R eR rs M, h.get? p.1 = some p.2
theorem IsMat.up {h h' : Heap} {R : Addr} {M : Nat → Nat → Bool} (x : IsMat h R M) (k : h.StaysIn h') : IsMat h' R M :=
  let ⟨eR, rs, hl, hm⟩ := x; ⟨eR, rs, hl, fun p hp => k _ _ (hm p hp)⟩

section
variable {prog : Program} {w : World} {A : Around} {E : Value → Shared → Prop} {s : Shared} {B : Heap} {env : Env} {σ : Str → Option Value} {μ : List (Addr × Obj)}

theorem ev_mat {nR na nb : Str} {p1 p2 p3 p4 p5 : Pos} {R : Addr} {M : Nat → Nat → Bool} {a b : Nat} {ta tb : Tok} {Q : Value → Shared → Prop} (P : Pt B env σ μ s.heap) (x : IsMat s.heap R M)
    (hR : σ nR = some (.ref R)) (ha : σ na = some (.int a ta)) (hb : σ nb = some (.int b tb)) (la : a < 7) (lb : b < 7) (h : Q (.bool (M a b)) s)
    (kR : okVar env nR = true := by rfl) (ka : okVar env na = true := by rfl) (kb : okVar env nb = true := by rfl) (dR : (nR == ("__debug__" : Str)) = false := by decide) (da : (na == ("__debug__" : Str)) = false := by decide) (db : (nb == ("__debug__" : Str)) = false := by decide) :
    wpAny (model prog w) A (eval (.Subscript (.Subscript (.Name nR p1) (.Name na p2) p3) (.Name nb p4) p5) env) Q E s := by
  obtain ⟨eR, rs, hl, hm⟩ := x
  have hai : rs[a]? = some rs[a] := List.getElem?_eq_getElem (by omega)
  have hRow := hm _ (row_mem (R := R) (eR := eR) (M := M) hai)
  have hHead := hm (R, headO rs eR) List.mem_cons_self
  refine ev_item (ev_item (ev_name P hR (ev_name P ha ⟨R, _, a, ta, .ref rs[a].1, rfl, rfl, ⟨_, hHead, rfl, _, rfl⟩, by omega, ?_, ?_⟩ ka da) kR dR))
  · simp [hai]
  · exact ev_name P hb ⟨rs[a].1, _, b, tb, _, rfl, rfl, ⟨_, hRow, rfl, _, rfl⟩, by omega, row_get M lb, h⟩ kb db

/-- R[a][b] = True in a matrix of the ledger -/
theorem ex_mat {nR na nb : Str} {p1 p2 p3 p4 p5 p6 pos : Pos} {k6 : Nat} {R : Addr} {eR : Nat} {rs : List (Addr × Nat)} {M : Nat → Nat → Bool} {a b : Nat} {ta tb : Tok} {own : List (Addr × Obj)} {Q : Flow → Shared → Prop} (P : Pt B env σ (own ++ matL R eR rs M) s.heap) (hl : rs.length = 7)
    (hR : σ nR = some (.ref R)) (ha : σ na = some (.int a ta)) (hb : σ nb = some (.int b tb)) (la : a < 7) (lb : b < 7)
    (h : ∀ h' tk, Pt B env σ (own ++ matL R eR rs (setM M a b)) h' → Q .next { s with heap := h', toks := tk })
    (kR : okVar env nR = true := by rfl) (ka : okVar env na = true := by rfl) (kb : okVar env nb = true := by rfl) (dR : (nR == ("__debug__" : Str)) = false := by decide) (da : (na == ("__debug__" : Str)) = false := by decide) (db : (nb == ("__debug__" : Str)) = false := by decide) :
    wpAny (model prog w) A (exec (.Assign [.Subscript (.Subscript (.Name nR p1) (.Name na p2) p3) (.Name nb p4) p5] (.Constant (.bool true) k6 p6) pos) env) Q E s := by
  have hai : rs[a]? = some rs[a] := List.getElem?_eq_getElem (by omega)
  have mRow : (rs[a].1, lobj (row M a) rs[a].2) ∈ own ++ matL R eR rs M := List.mem_append_right _ (row_mem hai)
  have hRow := (P.mu _ mRow).1
  have hHead := (P.mu (R, headO rs eR) (List.mem_append_right _ List.mem_cons_self)).1
  refine ex_setitem (ev_bool (ev_item (ev_name P hR (ev_name P ha ⟨R, _, a, ta, .ref rs[a].1, rfl, rfl, ⟨_, hHead, rfl, _, rfl⟩, by omega, by simp [hai], ?_⟩ ka da) kR dR)))
  refine ev_name P hb ⟨rs[a].1, _, rs[a].2, b, tb, rfl, rfl, hRow, by rw [row_length]; exact lb, by omega, fun h' hn hs => ?_⟩ kb db
  refine h h' s.toks (P.set mRow hs hn (fun p hp => ?_) ?_)
  · have hnd := P.nd
    rw [List.map_append, matL_keys] at hnd
    rcases List.mem_append.mp hp with hp | hp
    · refine .inr ⟨List.mem_append_left _ hp, fun q => ?_⟩
      have := (List.nodup_append.mp hnd).2.2 _ (List.mem_map_of_mem hp) _ (List.mem_cons_of_mem _ (List.mem_map_of_mem (List.mem_of_getElem? hai)))
      exact this q
    · have hnd2 := (List.nodup_append.mp hnd).2.1
      rw [List.nodup_cons] at hnd2
      rcases List.mem_cons.mp hp with rfl | hp
      · refine .inr ⟨List.mem_append_right _ List.mem_cons_self, fun q => hnd2.1 ?_⟩
        show R ∈ _
        have : R = rs[a].1 := q
        rw [this]; exact List.mem_map_of_mem (List.mem_of_getElem? hai)
      · obtain ⟨i, p', hi, rfl⟩ := row_of_mem hp
        by_cases hia : i = a
        · subst hia
          rw [hai] at hi; cases hi
          exact .inl (by rw [row_setM])
        · refine .inr ⟨List.mem_append_right _ ?_, fun q => ?_⟩
          · rw [row_setM_ne M hia]; exact row_mem hi
          · -- two places of rs with one address
            have hlt : i < rs.length := (List.getElem?_eq_some_iff.mp hi).1
            have e1 : (rs.map (·.1))[i]? = some p'.1 := by rw [List.getElem?_map, hi]; rfl
            have e2 : (rs.map (·.1))[a]? = some rs[a].1 := by rw [List.getElem?_map, hai]; rfl
            have q' : p'.1 = rs[a].1 := q
            exact hia ((List.getElem?_inj (by simpa using hlt) hnd2.2).mp (by rw [e1, e2, q']))
  · have := P.nd
    rw [List.map_append, matL_keys] at this ⊢
    exact this
end
end Mine
end

section
namespace Mine
open PySem PySem.W PySem.Calls PyProof.Rows

theorem warm : PySem.Challenge.rw_kl0456_01 = PySem.Challenge.rw_kl0456_01 ∧ hd.heap_39 = hd.heap_39 := by
  k_fill
  exact ⟨rfl, rfl⟩

theorem code_K {K : Frag} {prog : Program} {w : World} {A : Around} {s : Shared} {B : Heap} {μ : List (Addr × Obj)} {name qual : Str} {params : Arguments} {body : List Stmt} {scope : Scope} {dV kV doc pm cdv ct oc : Value} {an od : Option Addr} {osl : Array (Option Value)} {f : Addr} {args : Args} {R : Result → Shared → Prop} {binds : List (Str × Value)}
    (W : Wd K B) (hroom : A.depth < recursionLimit) (ho : K.lookup f = some ⟨oc, od, .func (fnX name qual params body scope [] dV kV doc pm an cdv ct), osl⟩) (hcd : codeIn K cdv qual = true)
    (hbind : bindArgs (fnX name qual params body scope [] dV kV doc pm an cdv ct) args = pure binds)
    (st : B.StaysIn s.heap) (mu : ∀ p ∈ μ, s.heap.get? p.1 = some p.2 ∧ B.get? p.1 = none) (nd : (μ.map (·.1)).Nodup) (hok : blockOk scope [] = true)
    (hbok : ∀ L, (binds.all fun p => okSt (fEnv qual scope [] cdv f L) p.1 && (List.lookup p.1 ([] : List (Str × Addr))).isNone) = true)
    (h : ∀ L h₁ tk, s.heap.get? L = none → Pt B (fEnv qual scope [] cdv f L) (bindσ binds (fun _ => none)) μ h₁ → s.heap.StaysIn h₁ →
      wpAny (model prog w) (A.deeper (fEnv qual scope [] cdv f L)) (execs body (fEnv qual scope [] cdv f L)) (fun fl s' => R (.ok (.ret (match fl with | .ret v => v | _ => .none))) s') No { s with heap := h₁, toks := tk })
    (hco : scope.isCoroutine = false) (hgen : scope.isGenerator = false) (hk : scope.kind = .function) : codeAny (model prog w) A (.call (.ref f) args) R s :=
  code_plain (σ := fun _ => none) hroom (st _ _ (W.X _ _ ho)) rfl (codeRec_of (W.X.keeps st) hcd) (W.nolimit.keeps st) hbind st mu nd (fun _ h => nomatch h) List.nodup_nil hok hbok h hco hgen hk


/-- pairs of small numbers, as tuples in a list -/
def PairsAt (h : Heap) (P : Addr) (ps : List (Nat × Nat)) : Prop :=
  ∃ vs : List Value, h.IsList P vs.toArray ∧ vs.length = ps.length ∧ ∀ (i : Nat) (p : Nat × Nat), ps[i]? = some p → ∃ (T : Addr) (t1 t2 : Tok), vs[i]? = some (Value.ref T) ∧ h.IsTuple T #[Value.int (p.1 : Nat) t1, Value.int (p.2 : Nat) t2]

def m0 : Nat → Nat → Bool := fun i j => i == j
def bLoop (M : Nat → Nat → Bool) (a mid n : Nat) : Nat → Nat → Bool := (List.range n).foldl (fun M b => if M mid b then setM M a b else M) M
def aLoop (M : Nat → Nat → Bool) (mid n : Nat) : Nat → Nat → Bool := (List.range n).foldl (fun M a => if M a mid then bLoop M a mid 7 else M) M
def wLoop (M : Nat → Nat → Bool) (n : Nat) : Nat → Nat → Bool := (List.range n).foldl (fun M mid => aLoop M mid 7) M
def pLoop (ps : List (Nat × Nat)) : Nat → Nat → Bool := ps.foldl (fun M p => setM M p.1 p.2) m0
def reachF (ps : List (Nat × Nat)) : Nat → Nat → Bool := wLoop (pLoop ps) 7

theorem bLoop_succ (M : Nat → Nat → Bool) (a mid n : Nat) : bLoop M a mid (n + 1) = if (bLoop M a mid n) mid n then setM (bLoop M a mid n) a n else bLoop M a mid n := by
  unfold bLoop; rw [List.range_succ, List.foldl_append]; rfl
theorem aLoop_succ (M : Nat → Nat → Bool) (mid n : Nat) : aLoop M mid (n + 1) = if (aLoop M mid n) n mid then bLoop (aLoop M mid n) n mid 7 else aLoop M mid n := by
  unfold aLoop; rw [List.range_succ, List.foldl_append]; rfl
theorem wLoop_succ (M : Nat → Nat → Bool) (n : Nat) : wLoop M (n + 1) = aLoop (wLoop M n) n 7 := by
  unfold wLoop; rw [List.range_succ, List.foldl_append]; rfl

theorem toksOk {s : Shared} : ({ s with heap := s.heap, toks := s.toks } : Shared) = s := rfl

theorem reach_spec {w : World} {prog : Program} {A : Around} {s : Shared} {P : Addr} {ps : List (Nat × Nat)} (W : Wd (hd.heap_39 w.params) s.heap) (hr : nsIn (hd.heap_39 w.params) mainGlobals "range" = some none) (hh : A.handled = none) (hroom : A.depth < 900)
    (hP : PairsAt s.heap P ps) (hlt : ∀ p ∈ ps, p.1 < 7 ∧ p.2 < 7) :
    codeAny (model prog w) A (.call (.ref 133) ⟨[.ref P], []⟩) (fun r s' => ∃ R h' tk, r = .ok (.ret (.ref R)) ∧ s' = { s with heap := h', toks := tk } ∧ s.heap.StaysIn h' ∧ s.heap.get? R = none ∧ IsMat h' R (reachF ps)) s := by
  refine' code_K (B := s.heap) (μ := []) (binds := [("pairs", .ref P)]) W ?room ?ho ?hcd ?hbind ?st ?mu ?nd ?hok ?hbok ?h ?hco ?hgen ?hk
  case room => exact Nat.lt_of_lt_of_le hroom (by decide)
  case ho => k_is
  case hcd => k_is
  case hbind => exact rfl
  case st => exact fun _ _ e => e
  case mu => exact fun _ h => nomatch h
  case nd => exact List.nodup_nil
  case hok => exact rfl
  case hbok => intro _; exact rfl
  case hco => exact rfl
  case hgen => exact rfl
  case hk => exact rfl
  case h =>
    intro L h₁ tk hL P₁ k₁
    -- reach = [[a == b ..] ..]
    refine wpAny_execs_cons (ex_assign_comp (cl := []) (fun _ v σ => upd σ "a" v) (ev_range P₁ W hr (ev_int ⟨7, _, rfl, fun r h₂ tk₂ t u v k₂ hr₂ hR₂ => ?_⟩)) rfl rfl (fun _ h => nomatch h))
    have P₂ := P₁.grow k₂
    refine ⟨s.heap, _, [], [], 7, _, fun i ys ν => ∃ rs : List (Addr × Nat), rs.length = i ∧ ys = rs.map (fun p => Value.ref p.1) ∧ ν = (rowsL rs m0).reverse, iters_range hh hR₂ (by decide), P₂, (fun _ h => nomatch h), by decide, ⟨[], rfl, rfl, rfl⟩, ?turn, ?done⟩
    case turn =>
      rintro i v hi ⟨t, rfl⟩
      refine ⟨takes_name rfl (fun _ => rfl), fun x u h => by (exfalso; unfold capt at h; simp at h), ?_⟩
      rintro ys ν C own s₂ ⟨rs, hrl, rfl, rfl⟩ PC
      refine wpAny_tests_nil ⟨⟨s₂.heap, s₂.toks, rfl, fun _ _ e => e⟩, ?_⟩
      rw [if_pos rfl]
      -- [a == b for b in range(7)]
      refine ev_comp (cl := [("a", C + 1)]) (fun _ v σ => upd σ "b" v) (ev_range PC W hr (ev_int ⟨7, _, rfl, fun r h₃ tk₃ t u v k₃ hr₃ hR₃ => ?_⟩)) rfl (fun _ h => h)
      refine ⟨s.heap, _, _, [], 7, _, fun i' ys ν => ν = [] ∧ ys = (List.range i').map fun j => Value.bool (m0 i j), iters_range hh hR₃ (by decide), PC.grow k₃, (fun _ h => nomatch h), by decide, ⟨rfl, rfl⟩, ?_, ?_⟩
      · rintro j v hj ⟨t, rfl⟩
        refine ⟨takes_name rfl (fun _ => rfl), fun x u h => ?_, ?_⟩
        · unfold upd; rw [if_neg]; exact h
          rintro rfl; cases h
        · rintro ys ν C' own' s₄ ⟨rfl, rfl⟩ PC'
          refine wpAny_tests_nil ⟨⟨s₄.heap, s₄.toks, rfl, fun _ _ e => e⟩, ?_⟩
          rw [if_pos rfl]
          refine wpAny_Compare1 (ev_name PC' rfl (ev_name PC' rfl (wpAny_eq_int ⟨⟨s₄.heap, s₄.toks, rfl, fun _ _ e => e⟩, [], (fun _ h => nomatch h), List.nodup_nil, rfl, ?_⟩)))
          rw [List.range_succ, List.map_append]
          have e : ((i : Int) == (j : Int)) = m0 i j := by unfold m0; rw [Bool.eq_iff_iff]; simp; omega
          rw [e]; rfl
      · rintro D e ys ν h₅ tk₅ ⟨rfl, rfl⟩ P₅ k₅ hn₅
        refine ⟨⟨h₅, tk₅, rfl, fun b o eb => k₅ b o (k₃ b o eb)⟩, [(D, lobj (row m0 i) e)], fun p hp => ?_, by simp, rs ++ [(D, e)], by simp [hrl], by simp, ?_⟩
        · rw [List.mem_singleton.mp hp]
          exact ⟨(P₅.mu _ List.mem_cons_self).1, none_of_stays k₃ (hn₅ _ List.mem_cons_self)⟩
        · simp [rowsL, List.zipIdx_append, hrl]
    case done =>
      rintro D e ys ν h₃ tk₃ ⟨rs, hrl, rfl, rfl⟩ P₃ hn₃
      have P₄ : Pt s.heap _ _ (matL D e rs m0) h₃ := P₃.perm (by
        rw [List.append_nil]
        exact (List.reverse_perm _).cons _)
      clear P₃ hn₃ P₂
      -- for a, b in pairs: reach[a][b] = True
      obtain ⟨vs, hvl, hvn, hvp⟩ := id hP
      refine wpAny_execs_cons (ex_for (ev_name P₄ rfl ⟨s.heap, _, _, [P], vs.toArray.size, _, fun i _ σ μ => μ = matL D e rs ((ps.take i).foldl (fun M p => setM M p.1 p.2) m0) ∧ σ "reach" = some (.ref D),
        iters_list hh (hvl.at fun o eo => P₄.st _ _ eo), P₄, ?_, ⟨rfl, rfl⟩, ?_, ?_⟩))
      · intro b hb
        rw [List.mem_singleton.mp hb]
        obtain ⟨o, ho, _⟩ := hvl
        exact ⟨o, ho⟩
      · rintro i v B' σ' μ' own h tk hi hv kB ⟨rfl, hσ⟩ P'
        have hi' : i < ps.length := by rw [← hvn]; simpa using hi
        obtain ⟨T, t1, t2, hT, hTt⟩ := hvp i ps[i] (List.getElem?_eq_getElem hi')
        have hv' : v = .ref T := by
          have : vs[i]? = some v := by simpa using hv
          rw [hT] at this; exact (Option.some.inj this).symm
        subst hv'
        have l7 := hlt _ (List.getElem_mem hi')
        refine asg_pair hh (hTt.at fun o eo => P'.st _ _ (kB _ _ eo)) P' fun h' tk' P'' => ?_
        refine wpAny_execs_cons (ex_mat (own := [own]) P'' hrl (by exact hσ) (by exact rfl) (by exact rfl) l7.1 l7.2 fun h'' tk'' P3 => wpAny_execs_nil (turnEnd (fun _ _ e => e) P3 ⟨?_, by exact hσ⟩))
        rw [List.take_add_one, List.getElem?_eq_getElem hi', List.foldl_append]; rfl
      · rintro B' σ' μ' h tk kB ⟨rfl, hσ⟩ P'
        have hpl : (ps.take vs.toArray.size).foldl (fun M p => setM M p.1 p.2) m0 = pLoop ps := by
          rw [List.size_toArray, hvn, List.take_length]; rfl
        rw [hpl] at P'
        clear P₄
        have W' := W.up kB
        -- the three loops
        refine wpAny_execs_cons (ex_for (ev_range P' W' hr (ev_int ⟨7, _, rfl, fun r h₂ tk₂ t u v k₂ hr₂ hR₂ => ?_⟩)))
        refine ⟨B', _, _, [], 7, _, fun i _ σ μ => μ = matL D e rs (wLoop (pLoop ps) i) ∧ σ "reach" = some (.ref D), iters_range hh hR₂ (by decide), P'.grow k₂, (fun _ h => nomatch h), ⟨rfl, hσ⟩, ?_, ?_⟩
        · rintro i v B₂ σ₂ μ₂ own₂ h₃ tk₃ hi ⟨t, rfl⟩ kB₂ ⟨rfl, hσ₂⟩ P₂
          refine wpAny_assign_Name (st_var P₂ fun h₄ tk₄ P₃ _ => ?_)
          refine wpAny_execs_cons (ex_for (ev_range P₃ (W'.up kB₂) hr (ev_int ⟨7, _, rfl, fun r h₅ tk₅ t u v k₅ hr₅ hR₅ => ?_⟩)))
          refine ⟨B₂, _, _, [], 7, _, fun j _ σ μ => μ = own₂ :: matL D e rs (aLoop (wLoop (pLoop ps) i) i j) ∧ σ "reach" = some (.ref D) ∧ ∃ t, σ "middle" = some (.int i t), iters_range hh hR₅ (by decide), P₃.grow k₅, (fun _ h => nomatch h), ⟨rfl, by exact hσ₂, _, rfl⟩, ?_, ?_⟩
          · rintro j v B₃ σ₃ μ₃ own₃ h₆ tk₆ hj ⟨t', rfl⟩ kB₃ ⟨rfl, hσ₃, t3, hm3⟩ P₄
            refine wpAny_assign_Name (st_var P₄ fun h₇ tk₇ P₅ _ => ?_)
            have x₅ : IsMat h₇ D (aLoop (wLoop (pLoop ps) i) i j) := ⟨e, rs, hrl, fun p hp => (P₅.mu p (List.mem_cons_of_mem _ (List.mem_cons_of_mem _ hp))).1⟩
            refine wpAny_execs_cons (wpAny_If (isTrue_plain (ev_mat P₅ x₅ (by exact hσ₃) (by exact rfl) (by exact hm3) hj hi (truthy_b ?_))))
            have esucc := aLoop_succ (wLoop (pLoop ps) i) i j
            by_cases hc : aLoop (wLoop (pLoop ps) i) i j j i = true
            · rw [if_pos hc] at esucc
              rw [if_pos hc]
              refine wpAny_execs_cons (ex_for (ev_range P₅ ((W'.up kB₂).up kB₃) hr (ev_int ⟨7, _, rfl, fun r h₈ tk₈ t u v k₈ hr₈ hR₈ => ?_⟩)))
              refine ⟨B₃, _, _, [], 7, _, fun b _ σ μ => μ = own₃ :: own₂ :: matL D e rs (bLoop (aLoop (wLoop (pLoop ps) i) i j) j i b) ∧ σ "reach" = some (.ref D) ∧ (∃ t, σ "middle" = some (.int i t)) ∧ ∃ t, σ "a" = some (.int j t), iters_range hh hR₈ (by decide), P₅.grow k₈, (fun _ h => nomatch h), ⟨rfl, by exact hσ₃, ⟨_, by exact hm3⟩, _, rfl⟩, ?_, ?_⟩
              · rintro b v B₄ σ₄ μ₄ own₄ h₉ tk₉ hb ⟨t', rfl⟩ kB₄ ⟨rfl, hσ₄, ⟨t4, hm4⟩, t5, ha4⟩ P₆
                refine wpAny_assign_Name (st_var P₆ fun h₁₀ tk₁₀ P₇ _ => ?_)
                have x₇ : IsMat h₁₀ D (bLoop (aLoop (wLoop (pLoop ps) i) i j) j i b) := ⟨e, rs, hrl, fun p hp => (P₇.mu p (List.mem_cons_of_mem _ (List.mem_cons_of_mem _ (List.mem_cons_of_mem _ hp)))).1⟩
                refine wpAny_execs_cons (wpAny_If (isTrue_plain (ev_mat P₇ x₇ (by exact hσ₄) (by exact hm4) (by exact rfl) hi hb (truthy_b ?_))))
                have bsucc := bLoop_succ (aLoop (wLoop (pLoop ps) i) i j) j i b
                by_cases hc2 : bLoop (aLoop (wLoop (pLoop ps) i) i j) j i b i b = true
                · rw [if_pos hc2] at bsucc
                  rw [if_pos hc2]
                  refine wpAny_execs_cons (ex_mat (own := [own₄, own₃, own₂]) P₇ hrl (by exact hσ₄) (by exact ha4) (by exact rfl) hj hb fun h'' tk'' P₈ => wpAny_execs_nil (wpAny_execs_nil (turnEnd (fun _ _ e => e) P₈ ⟨?_, by exact hσ₄, ⟨_, by exact hm4⟩, _, by exact ha4⟩)))
                  rw [bsucc]; rfl
                · rw [if_neg hc2] at bsucc
                  rw [if_neg hc2]
                  refine wpAny_execs_nil (wpAny_execs_nil (turnEnd (fun _ _ e => e) P₇ ⟨?_, by exact hσ₄, ⟨_, by exact hm4⟩, _, by exact ha4⟩))
                  rw [bsucc]
              · rintro B₄ σ₄ μ₄ h₉ tk₉ kB₄ ⟨rfl, hσ₄, ⟨t4, hm4⟩, _⟩ P₆
                refine wpAny_execs_nil (wpAny_execs_nil (turnEnd kB₄ P₆ ⟨?_, hσ₄, _, hm4⟩))
                rw [esucc]
            · rw [if_neg hc] at esucc
              rw [if_neg hc]
              refine wpAny_execs_nil (wpAny_execs_nil (turnEnd (fun _ _ e => e) P₅ ⟨?_, by exact hσ₃, _, by exact hm3⟩))
              rw [esucc]
          · rintro B₃ σ₃ μ₃ h₆ tk₆ kB₃ ⟨rfl, hσ₃, _⟩ P₄
            refine wpAny_execs_nil (turnEnd kB₃ P₄ ⟨?_, hσ₃⟩)
            rw [wLoop_succ]
        · rintro B₂ σ₂ μ₂ h₃ tk₃ kB₂ ⟨rfl, hσ₂⟩ P₂
          refine wpAny_execs_cons (wpAny_Return_some (ev_name P₂ hσ₂ ?_))
          refine ⟨D, h₃, tk₃, rfl, rfl, fun b o eb => P₂.st b o (kB₂ b o (kB b o eb)), ?_, e, rs, hrl, fun p hp => (P₂.mu p hp).1⟩
          exact none_of_stays (fun b o eb => kB₂ b o (kB b o eb)) (P₂.mu (D, headO rs e) List.mem_cons_self).2.2
end Mine
end

section
namespace Mine
open PySem PySem.W PySem.Calls PyProof.Rows

theorem slot_iadd : Slot "list" (dunderI "add") "list.__iadd__" :=
  .of (owner := "list") (n := "__iadd__") (by rw [typeLookup_type, builtinLookup_eq_fast]; kernel_rfl) (by decide +kernel) (by decide +kernel) (by decide +kernel)
    (by first | exact .inl (by decide +kernel) | exact .inr (by decide +kernel)) (by rw [isSubtype_type]; kernel_rfl)
theorem args_iadd (a b : Value) : argsOk "list.__iadd__" ⟨[a, b], []⟩ := by
  unfold argsOk; rw [signature?_of (id := "list.__iadd__") (n := ['_', '_', 'd', 'd', 'a', 'i', '_', '_']) (o := ['t', 's', 'i', 'l']) (by kernel_rfl) PySem.F.owner_list]; kernel_rfl

section
variable {prog : Program} {w : World} {A : Around} {E : Value → Shared → Prop} {s : Shared}

theorem iadd_list {l b : Addr} {xs ys : List Value} {n n2 : Nat} {Q : Value → Shared → Prop} (hl : s.heap.get? l = some (lobj xs n)) (hb : s.heap.get? b = some (lobj ys n2)) (hz : xs.length + ys.length ≤ 1000)
    (h : ∀ h' e, h'.get? l = some (lobj (xs ++ ys) e) → (∀ c o, c ≠ l → s.heap.get? c = some o → h'.get? c = some o) → Q (.ref l) { s with heap := h' }) : wpAny (model prog w) A (inplaceOp .Add (.ref l) (.ref b)) Q E s := by
  have ha : s.TypeIs (.ref l) "list" := ⟨_, hl, rfl⟩
  have hb' : s.TypeIs (.ref b) "list" := ⟨_, hb, rfl⟩
  unfold inplaceOp
  refine wpAny_holding ?_
  have hfi : fillsInplaceSlot (.type "list") "add" (Operator.Add == .Add) = pure false := by
    unfold fillsInplaceSlot
    show (typeLookup (.type "list") (dunderI "add") >>= fun fi => pure (fi.isSome && !isSeqSlot fi)) = pure false
    rw [slot_iadd.lookup]; rfl
  have hsi : seqSlot? (.type "list") (dunderI "add") = pure (some (.builtin "list.__iadd__")) := PySem.seqSlot_of slot_iadd.lookup (by decide +kernel)
  refine wpAny_bind (wpAny_typeOf ha (wpAny_bind (wpAny_of_eq hfi ?_)))
  show wpAny _ A (if false = true then _ else _) Q E s
  rw [if_neg Bool.false_ne_true]
  refine wpAny_bind (PySem.wpAny_binaryOp1_none (nm := "add") ha hb' noFill_list_add ?_)
  refine wpAny_bind (wpAny_of_eq hsi ?_)
  refine wpAny_bind (wpAny_rule (call_meets slot_iadd ha PySem.F.entry_list_iadd (args_iadd _ _) (AutoSeq1.list___iadd___list_list_0 l xs.toArray n b ys.toArray n2 ?_ ?_ ?_) ⟨hl, hb, ?_⟩))
  · simp only [Bool.and_eq_true, not_and, Bool.not_eq_true]
    intro _
    unfold Builtin.List.listTooLong
    simp only [List.size_toArray]
    rw [decide_eq_false_iff_not]
    intro hc
    rw [sizeLine_eq] at hc
    omega
  · rw [List.size_toArray, sizeLine_eq]; omega
  · simp only [List.size_toArray]; rw [sizeLine_eq]; omega
  · have hu := Heap.get?_update_self (Obj.mapSeq (· ++ ys.toArray)) hl rfl
    exact h _ (if ((xs ++ ys).toArray.size == xs.toArray.size) = true then n else n + 1) (by rw [hu]; simp [Obj.mapSeq]) fun c o hc e => (Heap.SameBut.update ..).extBut c o hc e

/-- a bound method of an own instance -/
theorem get_bound {K : Frag} {x C dx f : Addr} {od : Obj} {φ : Str → Option Value} {k : Nat} {name : Str} {expr : Bool} {Q : Value → Shared → Prop} (X : K.In s.heap) (hx : s.heap.get? x = some (instObj C dx)) (hd : s.heap.get? dx = some od) (D : DOk od φ k) (c : KCls K C) (hv : φ name = none)
    (ha : findIn K (.ref C) name = some (some (.ref f))) (hf : isFn K (.ref f) = true) (hgf : specialIn K (.ref f) "__get__" = some (some (.builtin "function.__get__"))) (ht : takesIn K (.ref f) = some false) (hc : copiedNames.contains name = false)
    (h : Q (.ref s.heap.objs.size) { s with heap := s.heap.push (methodObj (.ref f) (.ref x)), toks := s.toks + 1 }) : wpAny (model prog w) A (getAttr (.ref x) name expr) Q E s :=
  get_bind X (inst_at hx hd) (plainGet_of c.pg).1 (findObj_fn c.hd ha hgf ht hc (by rw [dok_lookIn D, hv])) (plainGet_of c.pg).2
    (wpAny_call (fn_get (s := { s with toks := s.toks + 1 }) X (beq_iff_eq.mp hf) (handed_on rfl h)))

/-- an empty plain dict -/
def NoKeys (h : Heap) (d : Addr) : Prop := ∃ n, h.get? d = some { cls := .type "dict", data := .dict #[] n }

theorem merge_empty {d a : Addr} {Q : Unit → Shared → Prop} (hd : NoKeys s.heap d) (ha : NoKeys s.heap a) (hne : a ≠ sysModules) (h : Q () s) : wpAny (model prog w) A (mergeMapping d (.ref a) true) Q E s := by
  obtain ⟨nd, hd⟩ := hd
  obtain ⟨na, ha⟩ := ha
  have hT : s.TypeIs (.ref a) "dict" := ⟨_, ha, rfl⟩
  unfold mergeMapping
  refine wpAny_bind (wpAny_isInstance hT isSubtype_dict_dict ?_)
  rw [if_pos rfl]
  refine wpAny_bind (wpAny_specialOf hT PySem.F.slot_dict_iter.lookup ?_)
  refine wpAny_bind (wpAny_pure ?_)
  simp only [beq_self_eq_true]
  have hb : (a == sysModules) = false := by simpa using hne
  simp only [hb, Bool.false_eq_true, if_false]
  refine wpAny_bind (wpAny_dictEntries hd rfl ?_)
  rw [if_pos (by rfl)]
  refine wpAny_bind (wpAny_dictEntries ha rfl ?_)
  refine wpAny_bind (wpAny_pure ?_)
  refine wpAny_bind (wpAny_dictEntries ha rfl ?_)
  refine wpAny_bind (wpAny_dictEpoch ha rfl ?_)
  exact wpAny_bind (wpAny_pure (wpAny_pure h))

theorem keywordsIn_empty {f : Value} {d : Addr} {Q : List (Str × Value) → Shared → Prop} (hd : NoKeys s.heap d) (h : Q [] s) : wpAny (model prog w) A (keywordsIn f d) Q E s := by
  obtain ⟨nd, hd⟩ := hd
  unfold keywordsIn
  refine wpAny_bind (wpAny_dictEntries hd rfl ?_)
  exact wpAny_bind (wpAny_pure (wpAny_pure h))

theorem merged_empty {f : Value} {x : Sem Value} {Q : Addr → Shared → Prop} (h : wpAny (model prog w) A x (fun v s₁ => ∃ a, v = .ref a ∧ NoKeys s₁.heap a ∧ a ≠ sysModules ∧ NoKeys s₁.heap s.heap.objs.size ∧ Q s.heap.objs.size s₁) E { s with heap := s.heap.push { cls := .type "dict", data := .dict #[] } }) :
    wpAny (model prog w) A (mergedKeywords f [(none, x)]) Q E s := by
  unfold mergedKeywords
  refine wpAny_bind (wpAny_alloc (wpAny_bind (wpAny_holding ?_)))
  extract_lets merge group g
  have hg : group [] = pure () := rfl
  refine wpAny_bind ?_
  rw [List.forIn_cons]
  refine wpAny_bind ?_
  dsimp only
  rw [hg]
  refine wpAny_bind (wpAny_pure (wpAny_bind (wpAny_mono h (fun v s₁ h₁ => ?_) fun _ _ e => e)))
  obtain ⟨a, rfl, ha, hne, hd, hq⟩ := h₁
  refine wpAny_bind (wpAny_onRaise (wpAny_holding (wpAny_tryCatch (wpAny_onRaise (merge_empty hd ha hne ?_)))))
  refine wpAny_pure ?_
  dsimp only
  rw [List.forIn_nil]
  refine wpAny_pure ?_
  show wpAny _ A (group []) _ E s₁
  rw [hg]
  exact wpAny_pure (wpAny_pure hq)

/-- the arguments of f(*args, **kwargs), both empty -/
theorem args_star2 {f : Value} {x y : Sem Value} {pos : Pos} {Q : Args → Shared → Prop}
    (h : wpAny (model prog w) A x (fun v s₁ => ∃ (t : Addr) (n : Nat), v = .ref t ∧ s₁.heap.get? t = some { cls := .type "tuple", data := .seq #[] n } ∧
      wpAny (model prog w) A y (fun u s₂ => ∃ a h₂ tk₂, u = .ref a ∧ s₂ = { s₁ with heap := h₂, toks := tk₂ } ∧ NoKeys h₂ a ∧ a ≠ sysModules ∧ (s₁.heap.push { cls := .type "dict", data := .dict #[] }).StaysIn h₂ ∧
        ∀ h' tk, h₂.StaysIn h' → Q ⟨[], []⟩ { s₂ with heap := h', toks := tk }) E { s₁ with heap := s₁.heap.push { cls := .type "dict", data := .dict #[] } }) E s) :
    wpAny (model prog w) A (evalArgs f true [(true, (do let v ← x; standAt pos; pure v))] [(none, (do let v ← y; standAt pos; pure v))]) Q E s := by
  unfold evalArgs
  refine wpAny_bind (wpAny_bind (wpAny_mono h (fun v s₁ h₁ => wpAny_bind (wpAny_standAt (wpAny_pure (wpAny_bind (wpAny_pure ?_))))) fun _ _ e => e))
  obtain ⟨t, n, rfl, ht, h₁⟩ := h₁
  refine wpAny_holding ?_
  dsimp only
  rw [if_neg (show ¬ (([(none, (do let v ← y; standAt pos; pure v))] : List (Option Str × Sem Value)).all (fun x => x.1.isSome)) = true from fun h => Bool.false_ne_true h)]
  refine wpAny_bind (merged_empty (wpAny_bind (wpAny_mono h₁ (fun u s₂ h₂ => wpAny_bind (wpAny_standAt (wpAny_pure ?_))) fun _ _ e => e)))
  obtain ⟨a, h₂', tk₂, rfl, rfl, ha, hne, hk, hq⟩ := h₂
  have hk₁ : s₁.heap.StaysIn h₂' := fun b o e => hk b o (Heap.get?_push_of_some _ e)
  have hd : NoKeys h₂' s₁.heap.objs.size := ⟨0, hk _ _ (Heap.get?_push_size _ rfl)⟩
  refine ⟨a, rfl, ha, hne, hd, ?_⟩
  have hT : Shared.TypeIs { s₁ with heap := h₂', toks := tk₂ } (.ref t) "tuple" := ⟨_, hk₁ _ _ ht, rfl⟩
  refine wpAny_bind (wpAny_bind ?_)
  unfold notIterableAtAll
  refine wpAny_bind (wpAny_specialOf hT PySem.F.slot_tuple_iter.lookup ?_)
  refine wpAny_pure ?_
  rw [if_neg (fun h => Bool.false_ne_true h)]
  refine wpAny_holding (wpAny_collect_seq t (.inr rfl) (hk₁ _ _ ht) rfl rfl (fun h' hk' => ?_) (by decide))
  refine wpAny_bind (wpAny_holding (keywordsIn_empty ?_ (wpAny_pure (hq h' tk₂ hk'))))
  obtain ⟨nd, hd⟩ := hd
  exact ⟨nd, hk' _ _ hd⟩
end
end Mine
end

section
namespace Mine
open PySem PySem.W PySem.Calls PyProof.Rows

theorem warm2 : PySem.Challenge.rw_kl0456_01 = PySem.Challenge.rw_kl0456_01 ∧ hd.heap_39 = hd.heap_39 := by
  k_fill
  exact ⟨rfl, rfl⟩

theorem keeper_bound {K : Frag} {M : Model} {h : Heap} {q g : Addr} {self : Value} (X : K.In h) (hq : h.get? q = some (methodObj (.ref g) self)) (hf : fnIn K g = true) : Looks M h (keeperOf (.ref q)) .boundFrame := by
  unfold fnIn at hf
  split at hf
  · rename_i e
    refine (Looks.ld (part := none) hq).andThen ?_
    exact (Looks.ld (part := none) (X _ _ e)).andThen .now
  · cases hf

theorem size_of {K : Frag} {h : Heap} (X : K.In h) {a : Addr} {o : Obj} (ho : K.lookup a = some o) : a < h.objs.size := Heap.lt_size (X _ _ ho)

theorem code_KB {K : Frag} {prog : Program} {w : World} {A : Around} {s : Shared} {name qual : Str} {params : Arguments} {body : List Stmt} {scope : Scope} {dV kV doc pm cdv ct oc : Value} {an od : Option Addr} {osl : Array (Option Value)} {f : Addr} {args : Args} {R : Result → Shared → Prop}
    (Bd : List (Str × Value) → Heap → Prop) (W : Wd K s.heap) (hroom : A.depth < recursionLimit) (ho : K.lookup f = some ⟨oc, od, .func (fnX name qual params body scope [] dV kV doc pm an cdv ct), osl⟩) (hcd : codeIn K cdv qual = true)
    (hbind : wpAny (model prog w) A.in1 (bindArgs (fnX name qual params body scope [] dV kV doc pm an cdv ct) args) (fun binds s₁ => ∃ h' tk, s₁ = { s with heap := h', toks := tk } ∧ s.heap.StaysIn h' ∧ Bd binds h') No s)
    (hok : blockOk scope [] = true)
    (hbok : ∀ binds h' L, Bd binds h' → ∀ p ∈ binds, okSt (fEnv qual scope [] cdv f L) p.1 = true ∧ List.lookup p.1 ([] : List (Str × Addr)) = none)
    (h : ∀ L h₁ tk binds, Bd binds h₁ → s.heap.get? L = none → Pt s.heap (fEnv qual scope [] cdv f L) (bindσ binds (fun _ => none)) [] h₁ → s.heap.StaysIn h₁ →
      wpAny (model prog w) (A.deeper (fEnv qual scope [] cdv f L)) (execs body (fEnv qual scope [] cdv f L)) (fun fl s' => R (.ok (.ret (match fl with | .ret v => v | _ => .none))) s') No { s with heap := h₁, toks := tk })
    (hup : ∀ binds h₁ h₂, Bd binds h₁ → h₁.StaysIn h₂ → Bd binds h₂)
    (hco : scope.isCoroutine = false) (hgen : scope.isGenerator = false) (hk : scope.kind = .function) : codeAny (model prog w) A (.call (.ref f) args) R s :=
  code_fn (σ := fun _ => none) (μ := []) (B := s.heap) Bd hroom (W.X _ _ ho) rfl (codeRec_of W.X hcd) W.nolimit hbind (fun _ _ e => e) (fun _ h => nomatch h) List.nodup_nil (fun _ h => nomatch h) List.nodup_nil hok hbok h hup hco hgen hk

theorem star_callK {M : Model} {A : Around} {E : Value → Shared → Prop} {s : Shared} {f : Value} {first : List Value} {pos : Pos} {Q : Value → Shared → Prop} {fn : Heap → Prop} {args : List (Bool × Sem Value)} {kws : List (Option Str × Sem Value)} (hst : args.any (·.1) = true)
    (hk : ∀ h, fn h → Looks M h (keeperOf f) .boundFrame)
    (h : wpAny M A (evalArgs f true args kws) (fun a s₁ => fn s₁.heap ∧ wpAny M A (call f (first ++ a.pos) a.kw) Q E s₁) E s) : wpAny M A (callWith pos f first args kws) Q E s := by
  unfold callWith
  refine wpAny_bind (wpAny_holding (wpAny_mono h (fun a s₁ h₁ => wpAny_bind (wpAny_standAt ?_)) fun _ _ x => x))
  have L := hk _ h₁.1
  simp only [hst, Bool.true_or]
  refine wpAny_bind (L.here ?_)
  exact wpAny_bind (wpAny_mono (wpAny_operating h₁.2) (fun r s₂ hr => wpAny_bind (wpAny_holding (wpAny_point (wpAny_pure hr)))) fun _ _ x => x)

theorem call_nameKW {M : Model} {A : Around} {E : Value → Shared → Prop} {s : Shared} {env : Env} {id : Str} {p pos : Pos} {args : List Expr} {kws : List Keyword} {xs : List (Bool × Sem Value)} {ys : List (Option Str × Sem Value)} {Q : Value → Shared → Prop}
    (hxy : (backTo pos (starEach args env), backToKw pos (keywordEach kws env)) = (xs, ys))
    (h : wpAny M A (eval (.Name id p) env) (fun f s₁ => wpAny M A (callWith pos f [] xs ys) Q E s₁) E s) :
    wpAny M A (eval (.Call (.Name id p) args kws pos) env) Q E s := by
  show wpAny M A (do callWith pos (← eval (.Name id p) env) [] (backTo pos (starEach args env)) (backToKw pos (keywordEach kws env))) Q E s
  obtain ⟨e1, e2⟩ := Prod.mk.inj hxy
  rw [e1, e2]
  exact wpAny_bind h

theorem call_spec {w : World} {prog : Program} {A : Around} {s : Shared} {q g : Addr} {self : Value} {R : Result → Shared → Prop} (W : Wd (hd.heap_39 w.params) s.heap) (hroom : A.depth < 900) (hq : s.heap.get? q = some (methodObj (.ref g) self)) (hf : fnIn (hd.heap_39 w.params) g = true)
    (h : ∀ (A' : Around) h₁ tk, A'.handled = A.handled → A'.depth ≤ A.depth + 1 → A'.units ≤ A.units + 10 → s.heap.StaysIn h₁ →
      codeAny (model prog w) A' (.call (.ref g) ⟨[self], []⟩) (fun r s' => ∃ v, r = .ok (.ret v) ∧ R (.ok (.ret v)) s') { s with heap := h₁, toks := tk }) :
    codeAny (model prog w) A (.call (.ref 121) ⟨[.ref q], []⟩) R s := by
  have hsz : 121 < s.heap.objs.size := by
    refine' size_of W.X ?ho
    case ho => k_is
  refine' code_KB (fun binds h => ∃ (t d : Addr), binds = [(("obj" : Str), Value.ref q), ("args", Value.ref t), ("kwargs", Value.ref d)] ∧ h.get? t = some { cls := .type "tuple", data := .seq #[] 0 } ∧ NoKeys h d ∧ d ≠ sysModules) W ?room ?ho ?hcd ?hbind ?hok ?hbok ?hh ?hup ?hco ?hgen ?hk
  case room => exact Nat.lt_of_lt_of_le hroom (by decide)
  case ho => k_is
  case hcd => k_is
  case hok => exact rfl
  case hco => exact rfl
  case hgen => exact rfl
  case hk => exact rfl
  case hup =>
    rintro binds h₁ h₂ ⟨t, d, rfl, ht, ⟨n, hd⟩, hne⟩ k
    exact ⟨t, d, rfl, k _ _ ht, ⟨n, k _ _ hd⟩, hne⟩
  case hbok =>
    rintro binds h' L ⟨t, d, rfl, _⟩ p hp
    rcases List.mem_cons.mp hp with rfl | hp
    · exact ⟨rfl, rfl⟩
    rcases List.mem_cons.mp hp with rfl | hp
    · exact ⟨rfl, rfl⟩
    rcases List.mem_cons.mp hp with rfl | hp
    · exact ⟨rfl, rfl⟩
    · nomatch hp
  case hbind =>
    refine (?_ : wpAny _ _ (do let t ← newTuple []; let d ← alloc { cls := .type "dict", data := .dict #[] }; pure [(("obj" : Str), Value.ref q), ("args", t), ("kwargs", .ref d)]) _ No s)
    refine wpAny_bind (wpAny_newObj_type (wpAny_bind (wpAny_alloc (wpAny_pure ?_))))
    refine ⟨_, s.toks, rfl, fun b o e => Heap.get?_push_of_some _ (Heap.get?_push_of_some _ e), _, _, rfl, ?_, ⟨0, Heap.get?_push_size _ rfl⟩, ?_⟩
    · exact Heap.get?_push_of_some _ (Heap.get?_push_size _ rfl)
    · dsimp only
      rw [Heap.size_push]
      show (s.heap.objs.size + 1 : Nat) ≠ 1
      omega
  case hh =>
    rintro L h₁ tk binds ⟨t, d, rfl, ht, hd, hne⟩ hL P k
    refine wpAny_execs_cons (wpAny_Return_some ?_)
    refine call_nameKW rfl (ev_name P (v := .ref q) rfl ?_)
    refine star_callK (fn := (fun h => s.heap.StaysIn h)) rfl (fun h hk => keeper_bound (W.X.keeps hk) (hk _ _ hq) hf) ?_
    refine args_star2 (ev_name P (v := .ref t) rfl ⟨t, 0, rfl, ht, ?_⟩)
    have P2 := P.grow (h' := h₁.push { cls := .type "dict", data := .dict #[] }) (fun _ _ e => Heap.get?_push_of_some _ e)
    obtain ⟨nd, hd⟩ := hd
    refine ev_name (s := { s with heap := h₁.push { cls := .type "dict", data := .dict #[] }, toks := tk }) P2 (v := .ref d) rfl ⟨d, _, _, rfl, rfl, ⟨nd, Heap.get?_push_of_some _ hd⟩, hne, fun _ _ e => e, fun h' tk' kk => ?_⟩
    have k3 : s.heap.StaysIn h' := fun b o e => kk b o (Heap.get?_push_of_some _ (k b o e))
    refine ⟨k3, wpAny_call (method_call (k3 _ _ hq) (codeAny_mono (h _ h' tk' rfl ?_ ?_ k3) fun r s' hr => ?_))⟩
    · simp only [Around.deeper]; omega
    · simp only [Around.deeper]; omega
    · obtain ⟨v, rfl, hr⟩ := hr
      exact hr
end Mine
end

section
namespace Mine
open PySem PySem.W PySem.Calls PyProof.Rows

/-! parts of the row's program, by place -/
def isDef : Stmt → Bool
  | .FunctionDef _ _ _ _ _ _ _ _ _ _ => true
  | _ => false
def pick (l : List Stmt) (i : Nat) : Stmt := match l.drop i with
  | s :: _ => s
  | [] => .Pass ⟨0, 0, 0, 0⟩
def sBody : Stmt → List Stmt
  | .FunctionDef _ _ b _ _ _ _ _ _ _ => b
  | .For _ _ b _ _ => b
  | _ => []
def sName : Stmt → Str
  | .FunctionDef n _ _ _ _ _ _ _ _ _ => n
  | _ => ""
def sParams : Stmt → Arguments
  | .FunctionDef _ p _ _ _ _ _ _ _ _ => p
  | _ => { posonlyargs := [], args := [], vararg := none, kwonlyargs := [], kw_defaults := [], kwarg := none, defaults := [] }
def sScope : Stmt → Scope
  | .FunctionDef _ _ _ _ _ _ sc _ _ _ => sc
  | _ => { kind := .function, names := [], isGenerator := false, isCoroutine := false }
def sPos : Stmt → Pos
  | .FunctionDef _ _ _ _ _ _ _ _ _ p => p
  | _ => ⟨0, 0, 0, 0⟩
def lawDefs : List Stmt := ((PySem.Challenge.rw_kl0456_01.row.prog.main.body).filter isDef).reverse
def laS : Stmt := pick lawDefs 0
def rdS : Stmt := pick lawDefs 1
def clS : Stmt := pick (sBody rdS) 4
end Mine
end

section
namespace Mine
open PySem PySem.W PySem.Calls PyProof.Rows

theorem warm3 : PySem.Challenge.rw_kl0456_01 = PySem.Challenge.rw_kl0456_01 ∧ hd.heap_39 = hd.heap_39 := by
  k_fill
  exact ⟨rfl, rfl⟩

def clName : Str := sName clS
def clParams : Arguments := sParams clS
def clBody : List Stmt := sBody clS
def clScope : Scope := sScope clS
def clPos : Pos := sPos clS

def clQual : Str := "_law_round.<locals>._law_closer"

theorem iadd_spec {w : World} {prog : Program} {A : Around} {s : Shared} {l b : Addr} {xs ys : List Value} {n n2 : Nat} {B₀ : Heap} (W : Wd (hd.heap_39 w.params) B₀) (k₀ : B₀.StaysIn s.heap) (h₀ : B₀.get? l = none) (hroom : A.depth < 900)
    (hl : s.heap.get? l = some (lobj xs n)) (hb : s.heap.get? b = some (lobj ys n2)) (hz : xs.length + ys.length ≤ 1000) :
    codeAny (model prog w) A (.call (.ref 128) ⟨[.ref l, .ref b], []⟩) (fun r s' => ∃ h' tk e, r = .ok (.ret (.ref l)) ∧ s' = { s with heap := h', toks := tk } ∧ h'.get? l = some (lobj (xs ++ ys) e) ∧ ∀ c o, c ≠ l → s.heap.get? c = some o → h'.get? c = some o) s := by
  have kB : B₀.StaysIn (hideAll s.heap [l]) := fun c o e => hideAll_get _ (k₀ c o e) fun hm => by
    rw [List.mem_singleton.mp hm, h₀] at e; cases e
  refine' code_K (B := hideAll s.heap [l]) (μ := [(l, lobj xs n)]) (binds := [(("a" : Str), Value.ref l), ("b", Value.ref b)]) (W.up kB) ?room ?ho ?hcd ?hbind ?st ?mu ?nd ?hok ?hbok ?h ?hco ?hgen ?hk
  case room => exact Nat.lt_of_lt_of_le hroom (by decide)
  case ho => k_is
  case hcd => k_is
  case hbind => exact rfl
  case st => exact fun _ _ e => of_hideAll _ e
  case mu =>
    intro p hp
    rw [List.mem_singleton.mp hp]
    exact ⟨hl, hideAll_none _ (List.mem_singleton.mpr rfl)⟩
  case nd => simp
  case hok => exact rfl
  case hbok => intro _; exact rfl
  case hco => exact rfl
  case hgen => exact rfl
  case hk => exact rfl
  case h =>
    intro L h₁ tk hL P k
    refine wpAny_execs_cons (wpAny_AugAssign_Name (ld_var P (v := .ref l) rfl rfl (ev_name P (v := .ref b) rfl ?_)))
    refine iadd_list (P.mu _ List.mem_cons_self).1 (k _ _ hb) hz fun h₂ e hl₂ hs₂ => ?_
    have P₂ := P.set (μ' := [(l, lobj (xs ++ ys) e)]) List.mem_cons_self (fun c o hc ec => hs₂ c o hc ec) hl₂ (fun p hp => .inl (List.mem_singleton.mp hp)) (by simp)
    refine st_var P₂ fun h₃ tk₃ P₃ hs₃ => ?_
    refine wpAny_execs_cons (wpAny_Return_some (ev_name P₃ (v := .ref l) rfl ?_))
    refine ⟨h₃, tk₃, e, rfl, rfl, (P₃.mu _ List.mem_cons_self).1, fun c o hc ec => P₃.st _ _ (hideAll_get _ ec fun hm => hc (List.mem_singleton.mp hm))⟩
end Mine
end

section
namespace Mine
open PySem PySem.W PySem.Calls PyProof.Rows

/-! the plain search -/
def mark (vis : Nat → Bool) (k : Nat) : Nat → Bool := fun j => j == k || vis j
def cnt (vis : Nat → Bool) : Nat := (if vis 0 then 0 else 1) + (if vis 1 then 0 else 1) + (if vis 2 then 0 else 1) + (if vis 3 then 0 else 1) + (if vis 4 then 0 else 1) + (if vis 5 then 0 else 1) + (if vis 6 then 0 else 1)
def dfs (adj : Nat → List Nat) : Nat → (Nat → Bool) × List Nat → Nat → (Nat → Bool) × List Nat
  | 0, st, _ => st
  | n + 1, st, k => if st.1 k then st else
    let r := (adj k).foldl (dfs adj n) (mark st.1 k, st.2)
    (r.1, r.2 ++ [k])

theorem cnt_mark {vis : Nat → Bool} {k : Nat} (hk : k < 7) (hv : vis k = false) : cnt (mark vis k) + 1 = cnt vis := by
  unfold cnt mark
  match k, hk with
  | 0, _ => simp [hv]; omega
  | 1, _ => simp [hv]; omega
  | 2, _ => simp [hv]; omega
  | 3, _ => simp [hv]; omega
  | 4, _ => simp [hv]; omega
  | 5, _ => simp [hv]; omega
  | 6, _ => simp [hv]
theorem cnt_pos {vis : Nat → Bool} {k : Nat} (hk : k < 7) (hv : vis k = false) : 0 < cnt vis := by
  have := cnt_mark hk hv; omega

/-- what a search leaves: nothing unvisited anew, the trail no longer than the new ones -/
def Less (a b : (Nat → Bool) × List Nat) : Prop := cnt b.1 ≤ cnt a.1 ∧ b.2.length + cnt b.1 ≤ a.2.length + cnt a.1
theorem Less.refl (a) : Less a a := ⟨Nat.le_refl _, Nat.le_refl _⟩
theorem Less.trans {a b c} (x : Less a b) (y : Less b c) : Less a c := ⟨Nat.le_trans y.1 x.1, Nat.le_trans y.2 x.2⟩
theorem less_fold {adj : Nat → List Nat} {n : Nat} (ih : ∀ st k, k < 7 → Less st (dfs adj n st k)) : ∀ (l : List Nat) st, (∀ j ∈ l, j < 7) → Less st (l.foldl (dfs adj n) st)
  | [], st, _ => Less.refl st
  | j :: r, st, h => (ih st j (h j List.mem_cons_self)).trans (less_fold ih r _ fun i hi => h i (List.mem_cons_of_mem _ hi))
theorem less_dfs {adj : Nat → List Nat} (ha : ∀ k, k < 7 → ∀ j ∈ adj k, j < 7) : ∀ n st k, k < 7 → Less st (dfs adj n st k)
  | 0, st, _, _ => Less.refl st
  | n + 1, st, k, hk => by
    unfold dfs
    split
    · exact Less.refl st
    · rename_i hv
      have h1 := less_fold (n := n) (less_dfs ha n) (adj k) (mark st.1 k, st.2) (ha k hk)
      have h2 := cnt_mark hk (Bool.not_eq_true _ ▸ hv)
      refine ⟨?_, ?_⟩
      · have := h1.1; dsimp only at this ⊢; omega
      · have := h1.2; dsimp only at this ⊢
        rw [List.length_append, List.length_singleton]; omega

/-! the seven files -/
structure DF where
  T : Nat → Addr
  TD : Nat → Addr
  S : Nat → Addr
  SD : Nat → Addr
  W : Nat → Addr
  adj : Nat → List Nat
  TH : Addr
  SH : Addr
  TR : Addr
  CF : Addr
  WR : Addr
  cTh : Addr
  cSh : Addr
  cWr : Addr
  cTr : Addr

def DF.muts (d : DF) : List Addr := d.TR :: (List.range 7).map d.SD
def DF.cells (d : DF) : List Addr := [d.cWr, d.cTr, d.cTh, d.cSh]
def DF.clos (d : DF) : List (Str × Addr) := [("wrong", d.cWr), ("trail", d.cTr), ("things", d.cTh), ("shares", d.cSh)]

structure RdC (K : Frag) (B : Heap) (d : DF) : Prop where
  wd : Wd K B
  thing : ∀ k, k < 7 → B.get? (d.T k) = some (instObj 110 (d.TD k)) ∧ ∃ od φ n t, B.get? (d.TD k) = some od ∧ DOk od φ n ∧ φ "fp" = some (.int (k : Nat) t) ∧ φ "seekable" = some (.ref (d.W k))
  share : ∀ k, k < 7 → B.get? (d.S k) = some (instObj 61 (d.SD k))
  ways : ∀ k, k < 7 → ∃ vs : List Value, B.IsList (d.W k) vs.toArray ∧ IntsAre vs ((d.adj k).map Int.ofNat)
  adj : ∀ k, k < 7 → ∀ j ∈ d.adj k, j < 7
  th : B.IsList d.TH ((List.range 7).map fun k => Value.ref (d.T k)).toArray
  sh : B.IsList d.SH ((List.range 7).map fun k => Value.ref (d.S k)).toArray
  cf : ∃ doc pm c' ctv, B.get? d.CF = some (fnMade clName clQual clParams clBody clScope d.clos doc pm c' ctv) ∧ B.CodeRec (.ref c') clQual
  mf : ∀ a ∈ d.muts ++ d.cells, B.get? a = none
  nd : (d.muts ++ d.cells).Nodup

def CellsAt (d : DF) (h : Heap) : Prop := h.IsCell d.cWr (some (.ref d.WR)) ∧ h.IsCell d.cTr (some (.ref d.TR)) ∧ h.IsCell d.cTh (some (.ref d.TH)) ∧ h.IsCell d.cSh (some (.ref d.SH))

def SOk (d : DF) (vis : Nat → Bool) (k : Nat) (od : Obj) : Prop := ∃ φ n, DOk od φ n ∧ n ≤ (if vis k then 7 else 6) ∧ φ "_file" = some (if vis k then .none else .ref (d.T k)) ∧ φ "_close" = some (.ref d.CF) ∧
  (∃ t, φ "_pos" = some (.int (9 - 4 * (k : Nat)) t)) ∧ φ "seekable" = some (.ref (d.W k)) ∧ φ "close" = none ∧ φ "tell" = none

def Good (d : DF) (vis : Nat → Bool) (tr : List Nat) (ods : Nat → Obj) (vs : List Value) : Prop := (∀ k, k < 7 → SOk d vis k (ods k)) ∧ IntsAre vs (tr.map Int.ofNat)

def mutL (d : DF) (ods : Nat → Obj) (vs : List Value) (e : Nat) : List (Addr × Obj) := (d.TR, lobj vs e) :: (List.range 7).map fun k => (d.SD k, ods k)

theorem mutL_keys (d : DF) (ods vs e) : (mutL d ods vs e).map (·.1) = d.muts := by
  unfold mutL DF.muts; simp

structure RdAt (B : Heap) (d : DF) (st : (Nat → Bool) × List Nat) (h : Heap) : Prop where
  bs : B.StaysIn h
  ce : CellsAt d h
  ex : ∃ ods vs e, Good d st.1 st.2 ods vs ∧ ∀ p ∈ mutL d ods vs e, h.get? p.1 = some p.2

theorem RdC.up {K : Frag} {B B' : Heap} {d : DF} (R : RdC K B d) (k : B.StaysIn B') (hm : ∀ a ∈ d.muts ++ d.cells, B'.get? a = none) : RdC K B' d where
  wd := R.wd.up k
  thing i hi := let ⟨a, od, φ, n, t, b, r⟩ := R.thing i hi; ⟨k _ _ a, od, φ, n, t, k _ _ b, r⟩
  share i hi := k _ _ (R.share i hi)
  ways i hi := let ⟨vs, a, b⟩ := R.ways i hi; ⟨vs, stays_list k a, b⟩
  adj := R.adj
  th := stays_list k R.th
  sh := stays_list k R.sh
  cf := let ⟨a, b, c, e, f, c₂, o, vs, t, q1, q2, q3⟩ := R.cf; ⟨a, b, c, e, k _ _ f, c₂, o, vs, t, q1, k _ _ q2, q3⟩
  mf := hm
  nd := R.nd

theorem CellsAt.keeps {d : DF} {h h' : Heap} (c : CellsAt d h) (k : ∀ a o, a ∈ d.cells → h.get? a = some o → h'.get? a = some o) : CellsAt d h' := by
  have one : ∀ a v, a ∈ d.cells → h.IsCell a v → h'.IsCell a v := fun a v ha ⟨o, ho, hd⟩ => ⟨o, k a o ha ho, hd⟩
  obtain ⟨c1, c2, c3, c4⟩ := c
  refine ⟨one _ _ ?_ c1, one _ _ ?_ c2, one _ _ ?_ c3, one _ _ ?_ c4⟩ <;> simp [DF.cells]

theorem RdAt.keeps {B : Heap} {d : DF} {st} {h h' : Heap} (R : RdAt B d st h) (k : h.StaysIn h') : RdAt B d st h' :=
  ⟨fun b o e => k b o (R.bs b o e), R.ce.keeps fun a o _ e => k a o e, let ⟨ods, vs, e, g, hp⟩ := R.ex; ⟨ods, vs, e, g, fun p hp' => k _ _ (hp p hp')⟩⟩

/-- a point behind a search: all but the open files stood -/
theorem Pt.through {B : Heap} {env : Env} {σ : Str → Option Value} {μ₀ : List (Addr × Obj)} {d : DF} {ods : Nat → Obj} {vs : List Value} {e : Nat} {h h₁ h' : Heap} {st}
    (P : Pt B env σ (μ₀ ++ mutL d ods vs e) h) (k : h.StaysIn h₁) (R : RdAt (hideAll h₁ (d.muts ++ d.cells)) d st h')
    (hsub : ∀ c ∈ d.cells, c ∈ env.cells.map (·.2))
    (hc : ∀ x c, (x, c) ∈ env.cells → c ∈ d.cells → ∃ v₀, h'.IsCell c v₀ ∧ ∀ v, σ x = some v → v₀ = some v) :
    ∃ ods' vs' e', Good d st.1 st.2 ods' vs' ∧ Pt B env σ (μ₀ ++ mutL d ods' vs' e') h' := by
  obtain ⟨ods', vs', e', g, hp⟩ := R.ex
  have hv : ∀ c ∈ d.cells, c ∈ vas env := fun c hc' => List.mem_cons_of_mem _ (hsub c hc')
  have hnd := P.fm.nd
  rw [vas, List.nodup_cons] at hnd
  have hkeep : ∀ a o, a ∉ d.muts ++ d.cells → h.get? a = some o → h'.get? a = some o := fun a o ha eo => R.bs _ _ (hideAll_get _ (k _ _ eo) ha)
  have hmut : ∀ a ∈ d.muts, ∃ p ∈ μ₀ ++ mutL d ods vs e, p.1 = a := fun a ha => by
    rw [← mutL_keys d ods vs e] at ha
    obtain ⟨p, hp', rfl⟩ := List.mem_map.mp ha
    exact ⟨p, List.mem_append_right _ hp', rfl⟩
  have offm : ∀ a ∈ d.muts, a ∉ vas env ∧ B.get? a = none := fun a ha => by
    obtain ⟨p, hp', rfl⟩ := hmut a ha
    exact (P.mu p hp').2
  have hnk := P.nd
  rw [List.map_append, mutL_keys] at hnk
  refine ⟨ods', vs', e', g, P.fm, fun b o eb => hkeep b o (fun hm => ?_) (P.st b o eb), ⟨?_, fun x c hxc => ?_⟩, P.off, fun p hp' => ?_, by rw [List.map_append, mutL_keys]; exact hnk⟩
  · rcases List.mem_append.mp hm with hm | hm
    · rw [(offm b hm).2] at eb; cases eb
    · rw [P.off b (hv b hm)] at eb; cases eb
  · obtain ⟨m, hn, hm⟩ := P.vs.loc
    refine ⟨m, hn.at' fun o eo => hkeep _ _ (fun hm' => ?_) eo, hm⟩
    rcases List.mem_append.mp hm' with hm' | hm'
    · exact (offm _ hm').1 List.mem_cons_self
    · exact hnd.1 (hsub _ hm')
  · by_cases hcd : c ∈ d.cells
    · exact hc x c hxc hcd
    · obtain ⟨v₀, ⟨o, ho, hd⟩, hv'⟩ := P.vs.cel x c hxc
      refine ⟨v₀, ⟨o, hkeep _ _ (fun hm => ?_) ho, hd⟩, hv'⟩
      rcases List.mem_append.mp hm with hm | hm
      · exact (offm c hm).1 (List.mem_cons_of_mem _ (List.mem_map.mpr ⟨_, hxc, rfl⟩))
      · exact hcd hm
  · rcases List.mem_append.mp hp' with hp₀ | hp₁
    · have h1 := P.mu p (List.mem_append_left _ hp₀)
      refine ⟨hkeep _ _ (fun hm => ?_) h1.1, h1.2⟩
      rcases List.mem_append.mp hm with hm | hm
      · exact (List.nodup_append.mp hnk).2.2 _ (List.mem_map_of_mem hp₀) _ hm rfl
      · exact h1.2.1 (hv _ hm)
    · have hm : p.1 ∈ d.muts := by rw [← mutL_keys d ods' vs' e']; exact List.mem_map_of_mem hp₁
      exact ⟨hp p hp₁, offm _ hm⟩

/-- a base for a call: all that stands but the open files -/
theorem RdC.call {K : Frag} {B h : Heap} {d : DF} {st} (R : RdC K B d) (r : RdAt B d st h) : RdC K (hideAll h (d.muts ++ d.cells)) d ∧ RdAt (hideAll h (d.muts ++ d.cells)) d st h :=
  ⟨R.up (fun b o e => hideAll_get _ (r.bs b o e) fun hm => by rw [R.mf b hm] at e; cases e) fun _ ha => hideAll_none _ ha, fun _ _ e => of_hideAll _ e, r.ce, r.ex⟩

def CloseOk (w : World) (prog : Program) (d : DF) (n : Nat) : Prop := ∀ (A : Around) (s : Shared) (B : Heap) (st : (Nat → Bool) × List Nat) (k : Nat),
  RdC (hd.heap_39 w.params) B d → RdAt B d st s.heap → k < 7 → cnt st.1 ≤ n → st.2.length + cnt st.1 ≤ 100 → A.handled = none → A.depth + 10 * n + 10 ≤ 800 →
  codeAny (model prog w) A (.call (.ref 58) ⟨[.ref (d.S k)], []⟩) (fun r s' => ∃ h' tk, r = .ok (.ret .none) ∧ s' = { s with heap := h', toks := tk } ∧ RdAt B d (dfs d.adj n st k) h') s

def CloserOk (w : World) (prog : Program) (d : DF) (n : Nat) : Prop := ∀ (A : Around) (s : Shared) (B : Heap) (st : (Nat → Bool) × List Nat) (k : Nat),
  RdC (hd.heap_39 w.params) B d → RdAt B d st s.heap → k < 7 → st.1 k = true → cnt st.1 ≤ n → st.2.length + cnt st.1 ≤ 99 → A.handled = none → A.depth + 10 * n + 15 ≤ 800 →
  codeAny (model prog w) A (.call (.ref d.CF) ⟨[.ref (d.T k)], []⟩) (fun r s' => ∃ h' tk, r = .ok (.ret (.ref d.TR)) ∧ s' = { s with heap := h', toks := tk } ∧
    RdAt B d (((d.adj k).foldl (dfs d.adj n) st).1, ((d.adj k).foldl (dfs d.adj n) st).2 ++ [k]) h') s
end Mine
end

section
namespace Mine
open PySem PySem.W PySem.Calls PyProof.Rows

theorem warm5 : PySem.Challenge.rw_kl0456_01 = PySem.Challenge.rw_kl0456_01 ∧ hd.heap_39 = hd.heap_39 := by
  k_fill
  exact ⟨rfl, rfl⟩

theorem kc61 (w : World) : KCls (hd.heap_39 w.params) 61 := by
  refine' ⟨?a, ?b, ?c, ?d⟩
  case a => k_is
  case b => k_is
  case c => k_is
  case d => k_is
theorem kc110 (w : World) : KCls (hd.heap_39 w.params) 110 := by
  refine' ⟨?a, ?b, ?c, ?d⟩
  case a => k_is
  case b => k_is
  case c => k_is
  case d => k_is
theorem n61_file (w : World) : findIn (hd.heap_39 w.params) (.ref 61) "_file" = some none := by k_is
theorem n61_close (w : World) : findIn (hd.heap_39 w.params) (.ref 61) "_close" = some none := by k_is
theorem t61_file (w : World) : takerIn (hd.heap_39 w.params) 61 "_file" = some none := by k_is
theorem n110_fp (w : World) : findIn (hd.heap_39 w.params) (.ref 110) "fp" = some none := by k_is
theorem n110_seekable (w : World) : findIn (hd.heap_39 w.params) (.ref 110) "seekable" = some none := by k_is
theorem m61_close (w : World) : findIn (hd.heap_39 w.params) (.ref 61) "close" = some (some (.ref 58)) := by k_is
theorem f58 (w : World) : isFn (hd.heap_39 w.params) (.ref 58) = true := by k_is
theorem fn58 (w : World) : fnIn (hd.heap_39 w.params) 58 = true := by k_is
theorem g58 (w : World) : specialIn (hd.heap_39 w.params) (.ref 58) "__get__" = some (some (.builtin "function.__get__")) := by k_is
theorem ta58 (w : World) : takesIn (hd.heap_39 w.params) (.ref 58) = some false := by k_is
theorem gl_call (w : World) : nsIn (hd.heap_39 w.params) mainGlobals "call" = some (some (.ref 121)) := by k_is
theorem gl_iadd (w : World) : nsIn (hd.heap_39 w.params) mainGlobals "iadd" = some (some (.ref 128)) := by k_is
theorem ke121 (w : World) : keepIn (hd.heap_39 w.params) (.ref 121) = true := by k_is
theorem ke128 (w : World) : keepIn (hd.heap_39 w.params) (.ref 128) = true := by k_is

theorem cellObjs {d : DF} {h : Heap} (c : CellsAt d h) : ∃ cl : List (Addr × Obj), cl.map (·.1) = d.cells ∧ (∀ p ∈ cl, h.get? p.1 = some p.2) ∧ ∀ h' : Heap, (∀ p ∈ cl, h'.get? p.1 = some p.2) → CellsAt d h' := by
  obtain ⟨⟨o1, a1, b1⟩, ⟨o2, a2, b2⟩, ⟨o3, a3, b3⟩, o4, a4, b4⟩ := c
  refine ⟨[(d.cWr, o1), (d.cTr, o2), (d.cTh, o3), (d.cSh, o4)], rfl, ?_, fun h' hh => ?_⟩
  · intro p hp
    simp only [List.mem_cons, List.not_mem_nil, or_false] at hp
    rcases hp with rfl | rfl | rfl | rfl <;> assumption
  · exact ⟨⟨o1, hh (d.cWr, o1) (by simp), b1⟩, ⟨o2, hh (d.cTr, o2) (by simp), b2⟩, ⟨o3, hh (d.cTh, o3) (by simp), b3⟩, o4, hh (d.cSh, o4) (by simp), b4⟩

theorem SOk.congr {d : DF} {vis vis' : Nat → Bool} {j : Nat} {o : Obj} (h : SOk d vis j o) (e : vis j = vis' j) : SOk d vis' j o := by
  unfold SOk at h ⊢
  simpa only [e] using h

theorem dfs_new {adj : Nat → List Nat} {n k : Nat} {st : (Nat → Bool) × List Nat} (hv : st.1 k = false) :
    dfs adj (n + 1) st k = (((adj k).foldl (dfs adj n) (mark st.1 k, st.2)).1, ((adj k).foldl (dfs adj n) (mark st.1 k, st.2)).2 ++ [k]) := by
  rw [dfs, if_neg (by rw [hv]; exact Bool.false_ne_true)]

def setO (ods : Nat → Obj) (k : Nat) (o : Obj) : Nat → Obj := fun j => if j = k then o else ods j

theorem mutL_set {d : DF} {ods : Nat → Obj} {vs : List Value} {e k : Nat} {cl : List (Addr × Obj)} (hnd : ((mutL d ods vs e ++ cl).map (·.1)).Nodup) (hk : k < 7) (od' : Obj) :
    ∀ p ∈ mutL d (setO ods k od') vs e ++ cl, p = (d.SD k, od') ∨ (p ∈ mutL d ods vs e ++ cl ∧ p.1 ≠ d.SD k) := by
  intro p hp
  by_cases hpk : p.1 = d.SD k
  · left
    have hnd' : ((mutL d (setO ods k od') vs e ++ cl).map (·.1)).Nodup := by rw [List.map_append, mutL_keys] at hnd ⊢; exact hnd
    refine inj_of_nodup hnd' hp (List.mem_append_left _ (List.mem_cons_of_mem _ (List.mem_map.mpr ⟨k, List.mem_range.mpr hk, by simp [setO]⟩))) hpk
  · refine .inr ⟨?_, hpk⟩
    rcases List.mem_append.mp hp with hp | hp
    · refine List.mem_append_left _ ?_
      rcases List.mem_cons.mp hp with rfl | hp
      · exact List.mem_cons_self
      · obtain ⟨j, hj, rfl⟩ := List.mem_map.mp hp
        refine List.mem_cons_of_mem _ (List.mem_map.mpr ⟨j, hj, ?_⟩)
        have : j ≠ k := fun q => hpk (by rw [q])
        simp [setO, this]
    · exact List.mem_append_right _ hp

theorem close_ok {w : World} {prog : Program} {d : DF} {n : Nat} (H : ∀ m, n = m + 1 → CloserOk w prog d m) : CloseOk w prog d n := by
  intro A s B st k RB RA hk hn hlen hh hroom
  obtain ⟨cl, ecl, hcl, hce⟩ := cellObjs RA.ce
  obtain ⟨ods, vs, e, g, hmu⟩ := RA.ex
  have hnd : ((mutL d ods vs e ++ cl).map (·.1)).Nodup := by rw [List.map_append, mutL_keys, ecl]; exact RB.nd
  have hkey : ∀ p ∈ mutL d ods vs e ++ cl, s.heap.get? p.1 = some p.2 ∧ B.get? p.1 = none := fun p hp => by
    refine ⟨?_, RB.mf _ ?_⟩
    · rcases List.mem_append.mp hp with hp | hp
      · exact hmu p hp
      · exact hcl p hp
    · rw [← mutL_keys d ods vs e, ← ecl, ← List.map_append]; exact List.mem_map_of_mem hp
  refine' code_K (B := B) (μ := mutL d ods vs e ++ cl) (binds := [(("self" : Str), Value.ref (d.S k))]) RB.wd ?room ?ho ?hcd ?hbind ?st ?mu ?nd ?hok ?hbok ?h ?hco ?hgen ?hk
  case room => exact Nat.lt_of_lt_of_le (show A.depth < 900 by omega) (by decide)
  case ho => k_is
  case hcd => k_is
  case hbind => exact rfl
  case st => exact RA.bs
  case mu => exact hkey
  case nd => exact hnd
  case hok => exact rfl
  case hbok => intro _; exact rfl
  case hco => exact rfl
  case hgen => exact rfl
  case hk => exact rfl
  case h =>
    intro L h₁ tk hL P kk
    obtain ⟨φ, m, hD, hm, e1, e2, e3, e4, e5, e6⟩ := g.1 k hk
    have hSD : (d.SD k, ods k) ∈ mutL d ods vs e ++ cl := List.mem_append_left _ (List.mem_cons_of_mem _ (List.mem_map.mpr ⟨k, List.mem_range.mpr hk, rfl⟩))
    have hX : ∀ {h : Heap}, B.StaysIn h → (hd.heap_39 w.params).In h := fun k' => RB.wd.X.keeps k'
    refine wpAny_execs_cons (wpAny_If (wpAny_isTrue_Compare1 (Attribute_Name_ (ev_name P (v := .ref (d.S k)) rfl (get_attr (hX P.st) (P.st _ _ (RB.share k hk)) (P.mu _ hSD).1 hD (kc61 w) e1 (n61_file w) ?hand (ev_none ?_))))))
    case hand => split <;> rfl
    cases hv : st.1 k with
    | true =>
      refine wpAny_isNot_self rfl (truthy_b (wpAny_execs_nil (wpAny_execs_nil ⟨h₁, _, rfl, rfl, ?_⟩)))
      have : dfs d.adj n st k = st := by cases n with
        | zero => rfl
        | succ n => unfold dfs; rw [if_pos hv]
      rw [this]
      exact RA.keeps kk
    | false =>
      obtain ⟨n', rfl⟩ : ∃ n', n = n' + 1 := ⟨n - 1, by have := cnt_pos hk hv; omega⟩
      rw [hv] at e1 hm
      refine wpAny_isNot_other rfl (fun q => nomatch q) (truthy_b ?_)
      rw [if_pos rfl]
      refine wpAny_execs_cons (wpAny_Assign_Name (Attribute_Name_ (ev_name P (v := .ref (d.S k)) rfl (get_attr (hX P.st) (P.st _ _ (RB.share k hk)) (P.mu _ hSD).1 hD (kc61 w) e1 (n61_file w) rfl ?_))))
      refine st_var P fun h₂ tk₂ P₂ hs₂ => ?_
      refine wpAny_execs_cons (plainObj_wpAny_Assign_Attribute (ev_none (ev_name P₂ (v := .ref (d.S k)) rfl (set_attr P₂ (hX P₂.st) (P₂.st _ _ (RB.share k hk)) hSD hD (show m < 1000 by simp at hm; omega) (kc61 w) (t61_file w) ?_))))
      intro h₃ tk₃ od' hD' hP₃
      have P₃ := hP₃ (mutL d (setO ods k od') vs e ++ cl) (mutL_set hnd hk od') (by rw [List.map_append, mutL_keys, ecl]; exact RB.nd)
      have hSD₃ : (d.SD k, od') ∈ mutL d (setO ods k od') vs e ++ cl := List.mem_append_left _ (List.mem_cons_of_mem _ (List.mem_map.mpr ⟨k, List.mem_range.mpr hk, by simp [setO]⟩))
      have RA₃ : RdAt B d (mark st.1 k, st.2) h₃ := by
        refine ⟨P₃.st, hce _ fun p hp => (P₃.mu p (List.mem_append_right _ hp)).1, setO ods k od', vs, e, ⟨fun j hj => ?_, g.2⟩, fun p hp => (P₃.mu p (List.mem_append_left _ hp)).1⟩
        by_cases hjk : j = k
        · subst hjk
          refine ⟨upd φ "_file" .none, m + 1, by simpa [setO] using hD', ?_, ?_, e2, e3, e4, e5, e6⟩
          · simp [mark]; simp at hm; omega
          · simp [mark, upd]
        · have := g.1 j hj
          have e7 : st.1 j = mark st.1 k j := by simp [mark, hjk]
          have e8 : setO ods k od' j = ods j := by simp [setO, hjk]
          rw [e8]
          exact this.congr e7
      refine wpAny_execs_cons (wpAny_Expr_any (methodCall_KW (pl := _) (ev_name P₃ (v := .ref (d.S k)) rfl (method_usual (hX P₃.st) (inst_at (P₃.st _ _ (RB.share k hk)) (P₃.mu _ hSD₃).1) (plainGet_of (kc61 w).pg).1 (plainGet_of (kc61 w).pg).2 (n61_close w) rfl
        (get_attr (hX P₃.st) (P₃.st _ _ (RB.share k hk)) (P₃.mu _ hSD₃).1 hD' (kc61 w) (v := .ref d.CF) e2 (n61_close w) rfl ?_)))))
      obtain ⟨doc, pm, c', ctv, hcf, _⟩ := RB.cf
      refine callWith_F ⟨_, _, _, _, P₃.st _ _ hcf⟩ (Calls.spliced_cons (ev_name P₃ (v := .ref (d.T k)) rfl (Calls.spliced_nil ⟨⟨_, _, _, _, P₃.st _ _ hcf⟩, ?_⟩)))
      have h1 := cnt_mark hk hv
      refine wpAny_call (codeAny_mono (H n' rfl _ _ B (mark st.1 k, st.2) k RB RA₃ hk (by simp [mark]) (by dsimp only; omega) (by dsimp only; omega) hh (by simp only [Around.deeper]; omega)) fun r s' hr => ?_)
      obtain ⟨h', tk', rfl, rfl, RA'⟩ := hr
      refine wpAny_execs_nil (wpAny_execs_nil ⟨h', tk', rfl, rfl, ?_⟩)
      rw [dfs_new hv]
      exact RA'
end Mine
end

section
namespace Mine
open PySem PySem.W PySem.Calls PyProof.Rows

theorem warm6 : PySem.Challenge.rw_kl0456_01 = PySem.Challenge.rw_kl0456_01 ∧ hd.heap_39 = hd.heap_39 := by
  k_fill
  exact ⟨rfl, rfl⟩

def clσ (d : DF) : Str → Option Value := fun x => if x = "trail" then some (.ref d.TR) else if x = "things" then some (.ref d.TH) else if x = "shares" then some (.ref d.SH) else if x = "wrong" then some (.ref d.WR) else none

/-- the cells of a point whose block holds the four -/
theorem cells_of {B : Heap} {env : Env} {σ : Str → Option Value} {μ : List (Addr × Obj)} {h : Heap} {d : DF} (P : Pt B env σ μ h) (hs : ∀ p ∈ d.clos, p ∈ env.cells)
    (h1 : σ "trail" = some (.ref d.TR)) (h2 : σ "things" = some (.ref d.TH)) (h3 : σ "shares" = some (.ref d.SH)) (h4 : σ "wrong" = some (.ref d.WR)) : CellsAt d h := by
  obtain ⟨v1, a1, b1⟩ := P.vs.cel "wrong" d.cWr (hs _ (by simp [DF.clos]))
  obtain ⟨v2, a2, b2⟩ := P.vs.cel "trail" d.cTr (hs _ (by simp [DF.clos]))
  obtain ⟨v3, a3, b3⟩ := P.vs.cel "things" d.cTh (hs _ (by simp [DF.clos]))
  obtain ⟨v4, a4, b4⟩ := P.vs.cel "shares" d.cSh (hs _ (by simp [DF.clos]))
  refine ⟨?_, ?_, ?_, ?_⟩
  · rw [← b1 _ h4]; exact a1
  · rw [← b2 _ h1]; exact a2
  · rw [← b3 _ h2]; exact a3
  · rw [← b4 _ h3]; exact a4

theorem ints_at {l : List Nat} {vs : List Value} (h : IntsAre vs (l.map Int.ofNat)) {i : Nat} {v : Value} (hv : vs[i]? = some v) : ∃ k t, l[i]? = some k ∧ v = .int (k : Nat) t := by
  obtain ⟨n, t, e1, e2⟩ := IntsAre.at h i v hv
  rw [List.getElem?_map] at e2
  obtain ⟨k, ek, e3⟩ := Option.map_eq_some_iff.mp e2
  exact ⟨k, t, ek, by rw [e1, ← e3]; rfl⟩

theorem ints_len {l : List Nat} {vs : List Value} (h : IntsAre vs (l.map Int.ofNat)) : vs.length = l.length := by
  have := h.length; simpa using this

theorem closer_ok {w : World} {prog : Program} {d : DF} {n : Nat} (H : CloseOk w prog d n) : CloserOk w prog d n := by
  intro A s B st k RB RA hk hvk hn hlen hh hroom
  obtain ⟨ods, vs, e, g, hmu⟩ := RA.ex
  obtain ⟨doc, pm, c', ctv, hcf, hcr⟩ := RB.cf
  have hnd := RB.nd
  have hX : ∀ {h : Heap}, B.StaysIn h → (hd.heap_39 w.params).In h := fun k' => RB.wd.X.keeps k'
  have hcr' : s.heap.CodeRec (.ref c') clQual := by
    obtain ⟨c₂, o, vs, t, q1, q2, q3⟩ := hcr
    exact ⟨c₂, o, vs, t, q1, RA.bs _ _ q2, q3⟩
  refine code_plain (B := B) (μ := mutL d ods vs e) (σ := clσ d) (cl := d.clos) (binds := [(("thing" : Str), Value.ref (d.T k))]) (Nat.lt_of_lt_of_le (show A.depth < 900 by omega) (by decide)) (RA.bs _ _ hcf) rfl hcr' (RB.wd.nolimit.keeps RA.bs) rfl RA.bs
    (fun p hp => ⟨hmu p hp, RB.mf _ (List.mem_append_left _ (by rw [← mutL_keys d ods vs e]; exact List.mem_map_of_mem hp))⟩) (by rw [mutL_keys]; exact (List.nodup_append.mp hnd).1) ?hcl (List.nodup_append.mp hnd).2.1 rfl (fun _ => rfl) ?h rfl rfl rfl
  case hcl =>
    have hm : ∀ c ∈ d.cells, B.get? c = none ∧ c ∉ (mutL d ods vs e).map (·.1) := fun c hc => ⟨RB.mf _ (List.mem_append_right _ hc), fun hm => by
      rw [mutL_keys] at hm
      exact (List.nodup_append.mp hnd).2.2 _ hm _ hc rfl⟩
    obtain ⟨c1, c2, c3, c4⟩ := RA.ce
    intro p hp
    simp only [DF.clos, List.mem_cons, List.not_mem_nil, or_false] at hp
    rcases hp with rfl | rfl | rfl | rfl
    · exact ⟨⟨_, c1, fun v' hv => hv⟩, hm _ (by simp [DF.cells])⟩
    · exact ⟨⟨_, c2, fun v' hv => hv⟩, hm _ (by simp [DF.cells])⟩
    · exact ⟨⟨_, c3, fun v' hv => hv⟩, hm _ (by simp [DF.cells])⟩
    · exact ⟨⟨_, c4, fun v' hv => hv⟩, hm _ (by simp [DF.cells])⟩
  case h =>
    intro L h₁ tk hL P kk
    obtain ⟨hT, odt, φt, nt, tt, hTD, hDt, et1, et2⟩ := RB.thing k hk
    obtain ⟨φ, m, hD, hm, e1, e2, e3, e4, e5, e6⟩ := g.1 k hk
    rw [hvk, if_pos rfl] at e1
    have hSD : ∀ {ods : Nat → Obj} {vs e} {j : Nat}, j < 7 → (d.SD j, ods j) ∈ mutL d ods vs e := fun hj => List.mem_cons_of_mem _ (List.mem_map.mpr ⟨_, List.mem_range.mpr hj, rfl⟩)
    have itT : ∀ {j}, j < 7 → ((List.range 7).map fun k => Value.ref (d.T k))[j]? = some (.ref (d.T j)) := fun hj => by simp [hj]
    have itS : ∀ {j}, j < 7 → ((List.range 7).map fun k => Value.ref (d.S k))[j]? = some (.ref (d.S j)) := fun hj => by simp [hj]
    unfold clBody
    -- if things[thing.fp] is not thing or shares[thing.fp]._file is not None: ..
    refine wpAny_execs_cons (wpAny_If (isTrue_or (wpAny_isTrue_Compare1 (ev_item (ev_name P (v := .ref d.TH) rfl (Attribute_Name_ (ev_name P (v := .ref (d.T k)) rfl (get_attr (hX P.st) (P.st _ _ hT) (P.st _ _ hTD) hDt (kc110 w) et1 (n110_fp w) rfl ?_))))))))
    refine ⟨_, _, k, tt, _, rfl, rfl, stays_list P.st RB.th, by omega, itT hk, ?_⟩
    refine ev_name P (v := .ref (d.T k)) rfl (wpAny_isNot_ref_self (truthy_b ?_))
    rw [if_neg Bool.false_ne_true]
    refine isTrue_or (wpAny_isTrue_Compare1 (Attribute_any_ (ev_item (ev_name P (v := .ref d.SH) rfl (Attribute_Name_ (ev_name P (v := .ref (d.T k)) rfl (get_attr (hX P.st) (P.st _ _ hT) (P.st _ _ hTD) hDt (kc110 w) et1 (n110_fp w) rfl ?_)))))))
    refine ⟨_, _, k, tt, _, rfl, rfl, stays_list P.st RB.sh, by omega, itS hk, ?_⟩
    refine get_attr (hX P.st) (P.st _ _ (RB.share k hk)) (P.mu _ (hSD hk)).1 hD (kc61 w) e1 (n61_file w) rfl ?_
    refine ev_none (wpAny_isNot_self rfl (truthy_b ?_))
    rw [if_neg Bool.false_ne_true]
    refine isTrue_or_nil ?_
    rw [if_neg Bool.false_ne_true]
    refine wpAny_execs_nil ?_
    -- for k in thing.seekable: ..
    obtain ⟨ws, hws, hwi⟩ := RB.ways k hk
    refine wpAny_execs_cons (ex_for (Attribute_Name_ (ev_name P (v := .ref (d.T k)) rfl (get_attr (hX P.st) (P.st _ _ hT) (P.st _ _ hTD) hDt (kc110 w) (v := .ref (d.W k)) et2 (n110_seekable w) rfl ?_))))
    refine ⟨B, _, _, [d.W k], ws.toArray.size, _, fun i _ σ μ => ∃ ods' vs' e', μ = mutL d ods' vs' e' ∧ Good d (((d.adj k).take i).foldl (dfs d.adj n) st).1 (((d.adj k).take i).foldl (dfs d.adj n) st).2 ods' vs' ∧
      σ "thing" = some (.ref (d.T k)) ∧ σ "trail" = some (.ref d.TR) ∧ σ "things" = some (.ref d.TH) ∧ σ "shares" = some (.ref d.SH) ∧ σ "wrong" = some (.ref d.WR), iters_list hh (stays_list P.st hws), P, ?alive, ⟨ods, vs, e, rfl, g, rfl, rfl, rfl, rfl, rfl⟩, ?turn, ?done⟩
    case alive =>
      intro b hb
      rw [List.mem_singleton.mp hb]
      obtain ⟨o, ho, _⟩ := hws
      exact ⟨o, ho⟩
    case turn =>
      rintro i v B' σ' μ' own h tk' hi hv kB ⟨ods', vs', e', rfl, g', hs1, hs2, hs3, hs4, hs5⟩ P'
      obtain ⟨j, t, hj, rfl⟩ := ints_at hwi (by simpa using hv)
      have hj7 : j < 7 := RB.adj k hk j (List.mem_of_getElem? hj)
      refine wpAny_assign_Name (st_var P' fun h₂ tk₂ P₂ _ => ?_)
      obtain ⟨φ', m', hD', hm', e1', e2', e3', e4', e5', e6'⟩ := g'.1 j hj7
      have kP : B.StaysIn h₂ := fun b o eb => P₂.st b o (kB b o eb)
      have RA₂ : RdAt B d (((d.adj k).take i).foldl (dfs d.adj n) st) h₂ := ⟨kP, cells_of P₂ (fun _ hp => hp) (by exact hs2) (by exact hs3) (by exact hs4) (by exact hs5), ods', vs', e', g', fun p hp => (P₂.mu p (List.mem_cons_of_mem _ hp)).1⟩
      have hless := less_fold (less_dfs RB.adj n) ((d.adj k).take i) st fun j hj => RB.adj k hk j (List.mem_of_mem_take hj)
      refine wpAny_execs_cons (wpAny_If (wpAny_isTrue_Compare1 (wpAny_Call_NameR ?_)))
      refine ev_glob P₂ (RB.wd.up kB) (gl_call w) ?_
      refine callWith_K (h₀ := h₂) (hX kP) (ke121 w) (Calls.spliced_cons (Attribute_any_ ?_))
      refine ev_item (ev_name P₂ (v := .ref d.SH) (by exact hs4) (ev_name P₂ (v := .int (j : Nat) t) rfl ⟨_, _, j, t, _, rfl, rfl, stays_list kP RB.sh, by omega, itS hj7, ?_⟩))
      refine get_bound (hX kP) (kP _ _ (RB.share j hj7)) (P₂.mu _ (List.mem_cons_of_mem _ (hSD hj7))).1 hD' (kc61 w) e5' (m61_close w) (f58 w) (g58 w) (ta58 w) (by decide +kernel) ?_
      have k₃ : h₂.StaysIn (h₂.push (methodObj (.ref 58) (.ref (d.S j)))) := fun _ _ eb => Heap.get?_push_of_some _ eb
      have kP₃ : B.StaysIn (h₂.push (methodObj (.ref 58) (.ref (d.S j)))) := fun b o eb => k₃ b o (kP b o eb)
      refine Calls.spliced_nil ⟨hX kP₃, wpAny_call (call_spec (RB.wd.up kP₃) (show A.depth + 1 < 900 by omega) (Heap.get?_push_size _ rfl) (fn58 w) fun A' h₄ tk₄ hA1 hA2 hA3 k₄ => ?_)⟩
      have RA₄ : RdAt B d _ h₄ := (RA₂.keeps k₃).keeps k₄
      obtain ⟨RB', RA'⟩ := RB.call RA₄
      refine codeAny_mono (H A' _ _ _ j RB' RA' hj7 (Nat.le_trans hless.1 hn) (by have := hless.2; omega) (hA1.trans hh) (by have hA2' : A'.depth ≤ A.depth + 1 + 1 := hA2; omega)) fun r s' hr => ?_
      obtain ⟨h₅, tk₅, rfl, rfl, RA₅⟩ := hr
      refine ⟨_, rfl, ?_⟩
      refine ev_none (wpAny_isNot_self rfl (truthy_b ?_))
      rw [if_neg Bool.false_ne_true]
      refine wpAny_execs_nil (wpAny_execs_nil ?_)
      obtain ⟨ods₆, vs₆, e₆, g₆, P₆⟩ := Pt.through (μ₀ := [own]) P₂ (fun b o eb => k₄ b o (k₃ b o eb)) RA₅ (fun c hc => hc) (fun x c hxc _ => by
        obtain ⟨c1, c2, c3, c4⟩ := RA₅.ce
        have hxc' : (x, c) ∈ d.clos := hxc
        simp only [DF.clos, List.mem_cons, List.not_mem_nil, or_false] at hxc'
        rcases hxc' with q | q | q | q <;> cases q
        · exact ⟨_, c1, fun v' hv => by rw [← hv]; exact hs5.symm⟩
        · exact ⟨_, c2, fun v' hv => by rw [← hv]; exact hs2.symm⟩
        · exact ⟨_, c3, fun v' hv => by rw [← hv]; exact hs3.symm⟩
        · exact ⟨_, c4, fun v' hv => by rw [← hv]; exact hs4.symm⟩)
      refine turnEnd (fun _ _ eb => eb) P₆ ⟨ods₆, vs₆, e₆, rfl, ?_, by exact hs1, by exact hs2, by exact hs3, by exact hs4, by exact hs5⟩
      rw [List.take_add_one, List.foldl_append, hj]
      exact g₆
    case done =>
      rintro B' σ' μ' h tk' kB ⟨ods', vs', e', rfl, g', hs1, hs2, hs3, hs4, hs5⟩ P'
      have hws' : ws.toArray.size = (d.adj k).length := by simpa using ints_len hwi
      rw [hws', List.take_length] at g'
      have kP : B.StaysIn h := fun b o eb => P'.st b o (kB b o eb)
      have hless := less_fold (less_dfs RB.adj n) (d.adj k) st fun j hj => RB.adj k hk j hj
      refine wpAny_execs_cons (wpAny_Return_some (wpAny_Call_NameR ?_))
      refine ev_glob P' (RB.wd.up kB) (gl_iadd w) ?_
      refine callWith_K (h₀ := h) (hX kP) (ke128 w) (Calls.spliced_cons (ev_name P' (v := .ref d.TR) (by exact hs2) ?_))
      refine Calls.spliced_cons (wpAny_List_spliced (Calls.spliced_cons (Attribute_Name_ (ev_name P' (v := .ref (d.T k)) (by exact hs1) (get_attr (hX kP) (kP _ _ hT) (kP _ _ hTD) hDt (kc110 w) et1 (n110_fp w) rfl ?_)))))
      refine Calls.spliced_nil ⟨by show 1 ≤ sizeLine; rw [sizeLine_eq]; omega, Calls.spliced_nil ⟨hX fun b o eb => Heap.get?_push_of_some _ (kP b o eb), ?_⟩⟩
      have htr : B.get? d.TR = none := RB.mf _ (by simp [DF.muts])
      refine wpAny_call (codeAny_mono (iadd_spec (xs := vs') (ys := [Value.int (k : Nat) tt]) RB.wd (fun b o eb => Heap.get?_push_of_some _ (kP b o eb)) htr (show A.depth + 1 < 900 by omega) (Heap.get?_push_of_some _ (P'.mu _ List.mem_cons_self).1) (Heap.get?_push_size _ rfl) ?_) fun r s' hr => ?_)
      · have := ints_len g'.2
        have h2 := hless.2
        show vs'.length + 1 ≤ 1000
        omega
      · obtain ⟨h₂, tk₂, e₂, rfl, rfl, hl₂, hk₂⟩ := hr
        have hk₃ : ∀ c o, c ≠ d.TR → h.get? c = some o → h₂.get? c = some o := fun c o hc eo => hk₂ c o hc (Heap.get?_push_of_some _ eo)
        have hce : CellsAt d h := cells_of P' (fun _ hp => hp) (by exact hs2) (by exact hs3) (by exact hs4) (by exact hs5)
        refine ⟨h₂, tk₂, rfl, rfl, fun b o eb => hk₃ b o (fun q => by rw [q, htr] at eb; cases eb) (kP b o eb), hce.keeps fun a o ha eo => hk₃ a o (fun q => ?_) eo, ods', vs' ++ [Value.int (k : Nat) tt], e₂, ⟨g'.1, ?_⟩, fun p hp => ?_⟩
        · exact (List.nodup_append.mp hnd).2.2 d.TR (by simp [DF.muts]) a ha q.symm
        · rw [List.map_append]
          exact IntsAre.append g'.2 (IntsAre.cons _ _ IntsAre.nil)
        · rcases List.mem_cons.mp hp with rfl | hp
          · exact hl₂
          · refine hk₃ _ _ (fun q => ?_) (P'.mu _ (List.mem_cons_of_mem _ hp)).1
            have hnm := (List.nodup_append.mp hnd).1
            unfold DF.muts at hnm
            rw [List.nodup_cons] at hnm
            obtain ⟨j, hj, rfl⟩ := List.mem_map.mp hp
            exact hnm.1 (List.mem_map.mpr ⟨j, hj, q⟩)
end Mine
namespace Mine
theorem close_spec (w : PySem.World) (prog : PySem.Program) (d : DF) : ∀ n, CloseOk w prog d n
  | 0 => close_ok fun _ h => nomatch h
  | n + 1 => close_ok fun m h => closer_ok (by cases h; exact close_spec w prog d n)
end Mine
end

section
namespace Mine
open PySem PySem.W PySem.Calls PyProof.Rows

theorem warm7 : PySem.Challenge.rw_kl0456_01 = PySem.Challenge.rw_kl0456_01 ∧ hd.heap_39 = hd.heap_39 := by
  k_fill
  exact ⟨rfl, rfl⟩

theorem mk61 (w : World) : makesIn (hd.heap_39 w.params) 61 = true := by k_is
theorem mk110 (w : World) : makesIn (hd.heap_39 w.params) 110 = true := by k_is
theorem in61 (w : World) : findIn (hd.heap_39 w.params) (.ref 61) "__init__" = some (some (.ref 28)) := by k_is
theorem in110 (w : World) : findIn (hd.heap_39 w.params) (.ref 110) "__init__" = some (some (.ref 79)) := by k_is
theorem f28 (w : World) : isFn (hd.heap_39 w.params) (.ref 28) = true := by k_is
theorem f79 (w : World) : isFn (hd.heap_39 w.params) (.ref 79) = true := by k_is
theorem t110_fp (w : World) : takerIn (hd.heap_39 w.params) 110 "fp" = some none := by k_is
theorem t110_offset (w : World) : takerIn (hd.heap_39 w.params) 110 "offset" = some none := by k_is
theorem t110_seekable (w : World) : takerIn (hd.heap_39 w.params) 110 "seekable" = some none := by k_is
theorem t61_pos (w : World) : takerIn (hd.heap_39 w.params) 61 "_pos" = some none := by k_is
theorem t61_close (w : World) : takerIn (hd.heap_39 w.params) 61 "_close" = some none := by k_is
theorem t61_lock (w : World) : takerIn (hd.heap_39 w.params) 61 "_lock" = some none := by k_is
theorem t61_writing (w : World) : takerIn (hd.heap_39 w.params) 61 "_writing" = some none := by k_is
theorem t61_seekable (w : World) : takerIn (hd.heap_39 w.params) 61 "seekable" = some none := by k_is

section
variable {w : World} {prog : Program} {A : Around} {s : Shared}

theorem make_own {K : Frag} {C fI : Addr} {rest : List Value} {R : Result → Shared → Prop} (X : K.In s.heap) (hm : makesIn K C = true) (hi : findIn K (.ref C) "__init__" = some (some (.ref fI))) (hf : isFn K (.ref fI) = true)
    (h : codeAny (model prog w) (A.under (.builtin "type.__call__" ⟨.ref C :: rest, []⟩)) (.call (.ref fI) ⟨.ref (s.heap.objs.size + 1) :: rest, []⟩) (InitBack (s.heap.objs.size + 1) R) { s with heap := (s.heap.push (dictOf [] 0)).push (instObj C s.heap.objs.size) }) :
    codeAny (model prog w) A (.call (.ref C) ⟨rest, []⟩) R s := by
  obtain ⟨hh, g, d, t, os⟩ := s
  exact make_core (makes_of X hm) (looks_findIn X hi) (fun self => bind_fn X self (beq_iff_eq.mp hf)) (.inl rfl) h

/-- self.fp = fp; self.offset = 0 -/
theorem init79 {x dx : Addr} {v : Value} {B₀ : Heap} (W : Wd (hd.heap_39 w.params) B₀) (k₀ : B₀.StaysIn s.heap) (h₀ : B₀.get? dx = none) (hroom : A.depth < 900) (hx : s.heap.get? x = some (instObj 110 dx)) (hdx : s.heap.get? dx = some (dictOf [] 0)) :
    codeAny (model prog w) A (.call (.ref 79) ⟨[.ref x, v], []⟩) (fun r s' => ∃ h' tk od φ, r = .ok (.ret .none) ∧ s' = { s with heap := h', toks := tk } ∧ h'.get? dx = some od ∧ DOk od φ 2 ∧ φ "fp" = some v ∧ ∀ c o, c ≠ dx → s.heap.get? c = some o → h'.get? c = some o) s := by
  have hxd : x ≠ dx := fun q => by rw [q, hdx] at hx; cases hx
  have kB : B₀.StaysIn (hideAll s.heap [dx]) := fun c o e => hideAll_get _ (k₀ c o e) fun hm => by
    rw [List.mem_singleton.mp hm, h₀] at e; cases e
  have hX : ∀ {h : Heap}, (hideAll s.heap [dx]).StaysIn h → (hd.heap_39 w.params).In h := fun k' => (W.up kB).X.keeps k'
  have hx' : (hideAll s.heap [dx]).get? x = some (instObj 110 dx) := hideAll_get _ hx fun hm => hxd (List.mem_singleton.mp hm)
  refine' code_K (B := hideAll s.heap [dx]) (μ := [(dx, dictOf [] 0)]) (binds := [(("self" : Str), Value.ref x), ("fp", v)]) (W.up kB) ?room ?ho ?hcd ?hbind ?st ?mu ?nd ?hok ?hbok ?h ?hco ?hgen ?hk
  case room => exact Nat.lt_of_lt_of_le hroom (by decide)
  case ho => k_is
  case hcd => k_is
  case hbind => exact rfl
  case st => exact fun _ _ e => of_hideAll _ e
  case mu =>
    intro p hp
    rw [List.mem_singleton.mp hp]
    exact ⟨hdx, hideAll_none _ (List.mem_singleton.mpr rfl)⟩
  case nd => simp
  case hok => exact rfl
  case hbok => intro _; exact rfl
  case hco => exact rfl
  case hgen => exact rfl
  case hk => exact rfl
  case h =>
    intro L h₁ tk hL P k
    refine wpAny_execs_cons (plainObj_wpAny_Assign_Attribute (ev_name P (v := v) rfl (ev_name P (v := .ref x) rfl (set_attr P (hX P.st) (P.st _ _ hx') List.mem_cons_self dok_nil (by decide) (kc110 w) (t110_fp w) ?_))))
    intro h₂ tk₂ od₂ D₂ hP₂
    have P₂ := hP₂ [(dx, od₂)] (fun p hp => .inl (List.mem_singleton.mp hp)) (by simp)
    refine wpAny_execs_cons (plainObj_wpAny_Assign_Attribute (ev_int (ev_name (s := { s with heap := h₂, toks := tk₂ + 1 }) P₂ (v := .ref x) rfl (set_attr P₂ (hX P₂.st) (P₂.st _ _ hx') List.mem_cons_self D₂ (by decide) (kc110 w) (t110_offset w) ?_))))
    intro h₃ tk₃ od₃ D₃ hP₃
    have P₃ := hP₃ [(dx, od₃)] (fun p hp => .inl (List.mem_singleton.mp hp)) (by simp)
    refine wpAny_execs_nil ⟨h₃, tk₃, od₃, _, rfl, rfl, (P₃.mu _ List.mem_cons_self).1, D₃, rfl, fun c o hc eo => P₃.st _ _ (hideAll_get _ eo fun hm => hc (List.mem_singleton.mp hm))⟩

/-- the store of one attribute of self: the ledger is that one dict -/
theorem st_attr {B : Heap} {env : Env} {σ : Str → Option Value} {x dx C : Addr} {od : Obj} {φ : Str → Option Value} {k : Nat} {K : Frag} {name attr : Str} {e : Expr} {rest : List Stmt} {p1 p2 p3 : Pos} {Q : Flow → Shared → Prop} {v : Value}
    (P : Pt B env σ [(dx, od)] s.heap) (X : ∀ {h : Heap}, B.StaysIn h → K.In h) (hx : B.get? x = some (instObj C dx)) (D : DOk od φ k) (hk : k < 1000) (c : KCls K C) (ht : takerIn K C attr = some none) (hσ : σ name = some (.ref x))
    (hv : ∀ Q : Value → Shared → Prop, (∀ tk h', s.heap.StaysIn h' → Q v { s with heap := h', toks := tk }) → wpAny (model prog w) A (eval e env) Q No s)
    (h : ∀ h' tk od', DOk od' (upd φ attr v) (k + 1) → Pt B env σ [(dx, od')] h' → wpAny (model prog w) A (execs rest env) Q No { s with heap := h', toks := tk })
    (hok : okVar env name = true := by rfl) (hd : (name == ("__debug__" : Str)) = false := by decide) (hs : swapsWith e (some (.Attribute (.Name name p1) attr p2)) p3.line env = pure false := by rfl) :
    wpAny (model prog w) A (execs (.Assign [.Attribute (.Name name p1) attr p2] e p3 :: rest) env) Q No s := by
  refine wpAny_execs_cons (plainObj_wpAny_Assign_Attribute (hv _ fun tk h₁ k₁ => ?_) hs)
  have P₁ := P.grow k₁
  refine ev_name (s := { s with heap := h₁, toks := tk }) P₁ hσ (set_attr P₁ (X P₁.st) (P₁.st _ _ hx) List.mem_cons_self D hk c ht ?_) hok hd
  intro h₂ tk₂ od₂ D₂ hP₂
  have P₂ := hP₂ [(dx, od₂)] (fun p hp => .inl (List.mem_singleton.mp hp)) (by simp)
  exact h h₂ tk₂ od₂ D₂ P₂

theorem hv_name {B : Heap} {env : Env} {σ : Str → Option Value} {μ} {n : Str} {v : Value} {p : Pos} (P : Pt B env σ μ s.heap) (hσ : σ n = some v) (hok : okVar env n = true := by rfl) (hd : (n == ("__debug__" : Str)) = false := by decide) :
    ∀ Q : Value → Shared → Prop, (∀ tk h', s.heap.StaysIn h' → Q v { s with heap := h', toks := tk }) → wpAny (model prog w) A (eval (.Name n p) env) Q No s :=
  fun _ h => ev_name P hσ (h s.toks s.heap fun _ _ e => e) hok hd

/-- what __init__ of a shared file leaves -/
theorem init28 {x dx T TD : Addr} {vp vc vl vw vs : Value} {odt : Obj} {φt : Str → Option Value} {nt : Nat} {B₀ : Heap} (W : Wd (hd.heap_39 w.params) B₀) (k₀ : B₀.StaysIn s.heap) (h₀ : B₀.get? dx = none) (hroom : A.depth < 900)
    (hx : s.heap.get? x = some (instObj 61 dx)) (hdx : s.heap.get? dx = some (dictOf [] 0)) (hT : s.heap.get? T = some (instObj 110 TD)) (hTD : s.heap.get? TD = some odt) (hne : TD ≠ dx) (D : DOk odt φt nt) (hs : φt "seekable" = some vs) (hvs : handedIn vs = true) :
    codeAny (model prog w) A (.call (.ref 28) ⟨[.ref x, .ref T, vp, vc, vl, vw], []⟩) (fun r s' => ∃ h' tk od φ, r = .ok (.ret .none) ∧ s' = { s with heap := h', toks := tk } ∧ h'.get? dx = some od ∧ DOk od φ 6 ∧
      φ "_file" = some (.ref T) ∧ φ "_pos" = some vp ∧ φ "_close" = some vc ∧ φ "seekable" = some vs ∧ φ "close" = none ∧ φ "tell" = none ∧ ∀ c o, c ≠ dx → s.heap.get? c = some o → h'.get? c = some o) s := by
  have hxd : x ≠ dx := fun q => by rw [q, hdx] at hx; cases hx
  have hTd : T ≠ dx := fun q => by rw [q, hdx] at hT; cases hT
  have kB : B₀.StaysIn (hideAll s.heap [dx]) := fun c o e => hideAll_get _ (k₀ c o e) fun hm => by
    rw [List.mem_singleton.mp hm, h₀] at e; cases e
  have hX : ∀ {h : Heap}, (hideAll s.heap [dx]).StaysIn h → (hd.heap_39 w.params).In h := fun k' => (W.up kB).X.keeps k'
  have hx' : (hideAll s.heap [dx]).get? x = some (instObj 61 dx) := hideAll_get _ hx fun hm => hxd (List.mem_singleton.mp hm)
  have hT' : (hideAll s.heap [dx]).get? T = some (instObj 110 TD) := hideAll_get _ hT fun hm => hTd (List.mem_singleton.mp hm)
  have hTD' : (hideAll s.heap [dx]).get? TD = some odt := hideAll_get _ hTD fun hm => hne (List.mem_singleton.mp hm)
  refine' code_K (B := hideAll s.heap [dx]) (μ := [(dx, dictOf [] 0)]) (binds := [(("self" : Str), Value.ref x), ("file", .ref T), ("pos", vp), ("close", vc), ("lock", vl), ("writing", vw)]) (W.up kB) ?room ?ho ?hcd ?hbind ?st ?mu ?nd ?hok ?hbok ?h ?hco ?hgen ?hk
  case room => exact Nat.lt_of_lt_of_le hroom (by decide)
  case ho => k_is
  case hcd => k_is
  case hbind => exact rfl
  case st => exact fun _ _ e => of_hideAll _ e
  case mu =>
    intro p hp
    rw [List.mem_singleton.mp hp]
    exact ⟨hdx, hideAll_none _ (List.mem_singleton.mpr rfl)⟩
  case nd => simp
  case hok => exact rfl
  case hbok => intro _; exact rfl
  case hco => exact rfl
  case hgen => exact rfl
  case hk => exact rfl
  case h =>
    intro L h₁ tk hL P k
    refine st_attr P hX hx' dok_nil (by decide) (kc61 w) (t61_file w) rfl (hv_name P (v := .ref T) rfl) fun h₂ tk₂ o₂ D₂ P₂ => ?_
    refine st_attr P₂ hX hx' D₂ (by decide) (kc61 w) (t61_pos w) rfl (hv_name P₂ (v := vp) rfl) fun h₃ tk₃ o₃ D₃ P₃ => ?_
    refine st_attr P₃ hX hx' D₃ (by decide) (kc61 w) (t61_close w) rfl (hv_name P₃ (v := vc) rfl) fun h₄ tk₄ o₄ D₄ P₄ => ?_
    refine st_attr P₄ hX hx' D₄ (by decide) (kc61 w) (t61_lock w) rfl (hv_name P₄ (v := vl) rfl) fun h₅ tk₅ o₅ D₅ P₅ => ?_
    refine st_attr P₅ hX hx' D₅ (by decide) (kc61 w) (t61_writing w) rfl (hv_name P₅ (v := vw) rfl) fun h₆ tk₆ o₆ D₆ P₆ => ?_
    refine st_attr P₆ hX hx' D₆ (by decide) (kc61 w) (t61_seekable w) rfl (v := vs) (fun Q hQ => ?_) fun h₇ tk₇ o₇ D₇ P₇ => ?_
    · exact Attribute_Name_ (ev_name P₆ (v := .ref T) rfl (get_attr (hX P₆.st) (P₆.st _ _ hT') (P₆.st _ _ hTD') D (kc110 w) hs (n110_seekable w) hvs (hQ _ _ fun _ _ e => e)))
    · exact wpAny_execs_nil ⟨h₇, tk₇, o₇, _, rfl, rfl, (P₇.mu _ List.mem_cons_self).1, D₇, rfl, rfl, rfl, rfl, rfl, rfl, fun c o hc eo => P₇.st _ _ (hideAll_get _ eo fun hm => hc (List.mem_singleton.mp hm))⟩
end
end Mine
end

section
namespace Mine
open PySem PySem.W PySem.Calls PyProof.Rows

section
variable {prog : Program} {w : World} {A : Around} {E : Value → Shared → Prop} {s : Shared} {B : Heap} {env : Env} {σ : Str → Option Value} {μ : List (Addr × Obj)} {K : Frag} {x : Str} {v : Value}

theorem callWith_bi {id : String} {pos : Pos} {first : List Value} {xs : List (Bool × Sem Value)} {Q : Value → Shared → Prop} (hplain : xs.any (·.1) = false)
    (h : wpAny (model prog w) A (evalArgs (.builtin id) true xs []) (fun a s₁ => wpAny (model prog w) A (call (.builtin id) (first ++ a.pos) a.kw) Q E s₁) E s) :
    wpAny (model prog w) A (callWith pos (.builtin id) first xs []) Q E s :=
  callWith_of (P := fun _ => True) (by rw [hplain]; rfl) (fun _ _ => ⟨.machine, .inr (.inl rfl), Looks.of_pure rfl⟩) (wpAny_mono h (fun _ _ h => ⟨trivial, h⟩) fun _ _ e => e)

def spl (es : List Expr) (env : Env) : Sem (List Value) := spliced (es.map fun e => (false, eval e env))

theorem spl_nil {Q : List Value → Shared → Prop} (h : Q [] s) : wpAny (model prog w) A (spl [] env) Q E s := Calls.spliced_nil h
theorem spl_cons {e : Expr} {r : List Expr} {Q : List Value → Shared → Prop} (h : wpAny (model prog w) A (eval e env) (fun v s₁ => wpAny (model prog w) A (spl r env) (fun vs s₂ => Q (v :: vs) s₂) E s₁) E s) : wpAny (model prog w) A (spl (e :: r) env) Q E s :=
  Calls.spliced_cons h

theorem spl_ints : ∀ (cs : List (Int × Nat × Pos)) {Q : List Value → Shared → Prop} {s : Shared}, (∀ vs tk, IntsAre vs (cs.map (·.1)) → Q vs { s with toks := tk }) → wpAny (model prog w) A (spl (cs.map fun c => Expr.Constant (.int c.1) c.2.1 c.2.2) env) Q E s
  | [], Q, s, h => spl_nil (h [] s.toks .nil)
  | c :: r, Q, s, h => by
    refine spl_cons (ev_int (spl_ints r fun vs tk hi => ?_))
    exact h _ tk (.cons _ _ hi)

theorem callWith_KL {e : Expr} {r : List Expr} {pos : Pos} {f : Value} {first : List Value} {Q : Value → Shared → Prop} (hk : keepIn K f = true)
    (h : wpAny (model prog w) A (spl (e :: r) env) (fun vs s₁ => K.In s₁.heap ∧ wpAny (model prog w) A (call f (first ++ vs)) Q E s₁) E s)
    (hse : backTo pos (starEach (e :: r) env) = (e :: r).map fun e => (false, eval e env) := by rfl) :
    wpAny (model prog w) A (callWith pos f first (backTo pos (starEach (e :: r) env)) []) Q E s := by
  rw [hse]
  exact callWith_of (P := K.In) (by simp) (keeps_K hk) (Calls.evalArgs_plain h)

theorem ev_listL {elts : List Expr} {pos : Pos} {Q : Value → Shared → Prop}
    (h : wpAny (model prog w) A (spl elts env) (fun vs s₁ => vs.length ≤ 1000 ∧ ∀ h' D, s₁.heap.StaysIn h' → s₁.heap.get? D = none → h'.get? D = some (lobj vs 0) → Q (.ref D) { s₁ with heap := h' }) E s)
    (hse : backTo pos (starEach elts env) = elts.map fun e => (false, eval e env) := by rfl) :
    wpAny (model prog w) A (eval (.List elts pos) env) Q E s := by
  refine wpAny_List_spliced ?_
  rw [hse]
  refine wpAny_mono h (fun vs s₁ h₁ => ⟨by rw [sizeLine_eq]; omega, h₁.2 _ _ (fun _ _ e => Heap.get?_push_of_some _ e) (Heap.get?_none_of_le (Nat.le_refl _)) (Heap.get?_push_size _ rfl)⟩) fun _ _ e => e

theorem ev_tupleL {elts : List Expr} {x1} {pos : Pos} {Q : Value → Shared → Prop}
    (h : wpAny (model prog w) A (spl elts env) (fun vs s₁ => vs.length ≤ 1000 ∧ ∀ h' D, s₁.heap.StaysIn h' → s₁.heap.get? D = none → h'.get? D = some { cls := .type "tuple", data := .seq vs.toArray } → Q (.ref D) { s₁ with heap := h' }) E s)
    (hse : backTo pos (starEach elts env) = elts.map fun e => (false, eval e env) := by rfl) :
    wpAny (model prog w) A (eval (.Tuple elts x1 pos) env) Q E s := by
  refine wpAny_Tuple_spliced ?_
  rw [hse]
  refine wpAny_mono h (fun vs s₁ h₁ => ⟨by rw [sizeLine_eq]; omega, h₁.2 _ _ (fun _ _ e => Heap.get?_push_of_some _ e) (Heap.get?_none_of_le (Nat.le_refl _)) (Heap.get?_push_size _ rfl)⟩) fun _ _ e => e

/-- f(e), f a builtin function -/
theorem ev_bi1 {fname : Str} {id : String} {p pos : Pos} {e : Expr} {Q : Value → Shared → Prop} (P : Pt B env σ μ s.heap) (W : Wd K B) (hg : nsIn K mainGlobals fname = some none) (hv : bootBuiltins fname = some (.builtin id))
    (h : wpAny (model prog w) A (eval e env) (fun v s₁ => wpAny (model prog w) A (call (.builtin id) [v]) Q E s₁) E s)
    (hx : env.kindOf fname = some .globalImplicit := by rfl) (hd : (fname == ("__debug__" : Str)) = false := by decide) (hn : fname ≠ "__name__" := by decide) (hse : backTo pos (starEach [e] env) = [(false, eval e env)] := by rfl) :
    wpAny (model prog w) A (eval (.Call (.Name fname p) [e] [] pos) env) Q E s := by
  refine wpAny_Call_NameR (ev_bi P W hg hv ?_ hx hd hn)
  rw [hse]
  exact callWith_bi rfl (Calls.evalArgs_plain (Calls.spliced_cons (wpAny_mono h (fun v s₁ h₁ => Calls.spliced_nil h₁) fun _ _ e => e)))

theorem ev_len {p pos : Pos} {e : Expr} {Q : Value → Shared → Prop} (P : Pt B env σ μ s.heap) (W : Wd K B) (hg : nsIn K mainGlobals "len" = some none)
    (h : wpAny (model prog w) A (eval e env) (fun v s₁ => ∃ (l : Addr) (vs : List Value), v = .ref l ∧ s₁.heap.IsList l vs.toArray ∧ vs.length < 1000000 ∧ ∀ t tk, Q (.int (vs.length : Nat) t) { s₁ with toks := tk }) E s)
    (hx : env.kindOf "len" = some .globalImplicit := by rfl) (hse : backTo pos (starEach [e] env) = [(false, eval e env)] := by rfl) :
    wpAny (model prog w) A (eval (.Call (.Name "len" p) [e] [] pos) env) Q E s := by
  refine ev_bi1 P W hg PySem.boot_len (wpAny_mono h (fun v s₁ h₁ => ?_) fun _ _ e => e) hx (by decide) (by decide) hse
  obtain ⟨l, vs, rfl, hl, hz, h₁⟩ := h₁
  refine call_len_list hl (by simp; omega) ?_
  have := h₁ (s₁.toks + 1) (s₁.toks + 1 + 1)
  simpa using this

theorem ev_sorted {p pos : Pos} {e : Expr} {Q : Value → Shared → Prop} (P : Pt B env σ μ s.heap) (W : Wd K B) (hg : nsIn K mainGlobals "sorted" = some none)
    (h : wpAny (model prog w) A (eval e env) (fun v s₁ => ∃ (l : Addr) (vs : List Value) (ns : List Int), v = .ref l ∧ s₁.heap.IsList l vs.toArray ∧ IntsAre vs ns ∧ vs.length < 64 ∧
      ∀ (D : Addr) (ws : List Value) (ns' : List Int) (e' : Nat) h' tk, s₁.heap.StaysIn h' → s₁.heap.get? D = none → h'.get? D = some (lobj ws e') → IntsAre ws ns' → ns'.Perm ns → ns'.Pairwise (· ≤ ·) → Q (.ref D) { s₁ with heap := h', toks := tk }) E s)
    (hx : env.kindOf "sorted" = some .globalImplicit := by rfl) (hse : backTo pos (starEach [e] env) = [(false, eval e env)] := by rfl) :
    wpAny (model prog w) A (eval (.Call (.Name "sorted" p) [e] [] pos) env) Q E s := by
  refine ev_bi1 P W hg boot_sorted (wpAny_mono h (fun v s₁ h₁ => ?_) fun _ _ e => e) hx (by decide) (by decide) hse
  obtain ⟨l, vs, ns, rfl, hl, hi, hz, h₁⟩ := h₁
  refine sorted_ints hl hi hz fun out ns' a1 a2 a3 => ?_
  obtain ⟨e', he⟩ := sortedAll_at s₁.heap vs out
  exact h₁ _ out.toList ns' e' _ _ (fun b o eb => sortedAll_old eb) (Heap.get?_none_of_le (Nat.le_succ _)) he a1 a2 a3

/-- l.append(e) -/
theorem ex_append {n : Str} {p1 p2 p3 p4 : Pos} {e : Expr} {l : Addr} {xs₀ : List Value} {e₀ : Nat} {Q : Flow → Shared → Prop} (P : Pt B env σ μ s.heap) (hσ : σ n = some (.ref l)) (ho : s.heap.get? l = some (lobj xs₀ e₀))
    (h : wpAny (model prog w) A (eval e env) (fun v s₁ => ∃ (xs : List Value) (e' : Nat), s₁.heap.get? l = some (lobj xs e') ∧ xs.length ≤ 1000 ∧
      ∀ h' e'', h'.get? l = some (lobj (xs ++ [v]) e'') → (∀ b o, b ≠ l → s₁.heap.get? b = some o → h'.get? b = some o) → Q .next { s₁ with heap := h' }) E s)
    (hok : okVar env n = true := by rfl) (hd : (n == ("__debug__" : Str)) = false := by decide)
    (he : eval (.Call (.Attribute (.Name n p1) "append" p2) [e] [] p3) env = (do
      let ov ← eval (.Name n p1) env
      standAt p2.atName
      let (f, first) ← holding [ov] (getMethod ov "append" (do return (← importBound (.Name n p1) env).getD true))
      callWith p3 f first [(false, eval e env)] []) := by rfl) (hi : interactive env = false := by rfl) :
    wpAny (model prog w) A (exec (.Expr (.Call (.Attribute (.Name n p1) "append" p2) [e] [] p3) p4) env) Q E s := by
  refine wpAny_Expr_any ?_ hi
  rw [he]
  refine wpAny_bind (ev_name P hσ (wpAny_bind (wpAny_standAt (wpAny_bind (wpAny_holding (Calls.getMethod_list_append ho rfl rfl ?_))))) hok hd)
  refine PySem.P.append_list (wpAny_mono h (fun v s₁ h₁ => ?_) fun _ _ e => e)
  obtain ⟨xs, e', hl, hz, hq⟩ := h₁
  refine ⟨xs.toArray, e', by simp; rw [sizeLine_eq]; omega, hl, ?_⟩
  have hu := PySem.IsL.update (show PySem.IsL s₁.heap l xs.toArray e' from hl) (fun xs => xs.push v)
  rw [show xs.toArray.push v = (xs ++ [v]).toArray by simp] at hu
  exact hq _ _ hu fun b o hb eb => (Heap.SameBut.update ..).extBut b o hb eb
end
end Mine
end

section
namespace Mine
open PySem PySem.W PySem.Calls PyProof.Rows

theorem warm8 : PySem.Challenge.rw_kl0456_01 = PySem.Challenge.rw_kl0456_01 ∧ hd.heap_39 = hd.heap_39 := by
  k_fill
  exact ⟨rfl, rfl⟩

def rdScope : Scope := sScope rdS
abbrev rdEnv (L : Addr) : Env := fEnv "_law_round" rdScope [] (.ref 139) 140 L
def rdDef : Stmt := pick (sBody rdS) 4
def rdMake : Stmt := pick (sBody rdS) 5
def rdClose : Stmt := pick (sBody rdS) 7
def rdCheck : Stmt := pick (sBody rdS) 8
def rdBad : Stmt := pick (sBody rdS) 9
def rdRet : Stmt := pick (sBody rdS) 10

def Wt (B : Heap) : Prop := ∃ p loose mean mg mb, Top p loose mean mg mb B

abbrev rdCells (L : Addr) : List (Str × Addr) := [("wrong", L + 4), ("trail", L + 3), ("things", L + 2), ("shares", L + 1)]

def TabOk (B : Heap) (ps : Array Value) : Prop := TriplesOk ps.toList ∧ (codeAmong clPos ps.toList = none ∨ ∃ c', codeAmong clPos ps.toList = some (.ref c') ∧ B.CodeRec (.ref c') clQual)

section
variable {w : World} {prog : Program} {A : Around} {s : Shared} {B : Heap} {σ : Str → Option Value} {μ : List (Addr × Obj)} {L : Addr}

theorem closure_cells : closureFor clScope (rdEnv L) = pure (rdCells L) := by rfl

theorem round_def {ps : Array Value} {Q : Flow → Shared → Prop} (T : Wt B) (C : CodeHd B 139 135) (P : Pt B (rdEnv L) σ ((135, tabObj ps) :: μ) s.heap) (hps : TabOk B ps)
    (h : ∀ h' tk B' CF ps' doc pm c' ctv, B.StaysIn B' → Pt B' (rdEnv L) (upd σ "_law_closer" (.ref CF)) ((135, tabObj ps') :: μ) h' → B'.get? CF = some (fnMade clName clQual clParams clBody clScope (rdCells L) doc pm c' ctv) → B'.CodeRec (.ref c') clQual →
      TriplesOk ps'.toList → codeAmong clPos ps'.toList = some (.ref c') → Q .next { s with heap := h', toks := tk }) :
    wpAny (model prog w) A (exec rdDef (rdEnv L)) Q No s := by
  obtain ⟨p, loose, mean, mg, mb, T⟩ := T
  have hm := P.mu (135, tabObj ps) List.mem_cons_self
  have hgs := T.g.keeps P.st
  obtain ⟨bm, ob, b1, b2, b3, b4, b5, b6⟩ := T.bmain
  have hgP : mainGlobals ≠ 135 := by decide
  have hbP : bm ≠ 135 := fun q => by
    have e := P.st _ _ b3
    rw [q, hm.1] at e; cases e; cases b4
  have hbG : bm ≠ mainGlobals := fun q => by
    obtain ⟨o, es, ep, e, hd, _⟩ := T.g
    rw [q, e] at b3; cases b3; rw [hd] at b6; cases b6
  have hBt : s.heap.BuiltinsAt mg 135 := ⟨bm, ob, b1, b2, hbG, hbP, P.st _ _ b3, b4, b5, b6⟩
  unfold rdDef
  refine nestDef_K rfl rfl rfl ?_
  have fin : ∀ (CF : Addr) (ps' : Array Value) (doc : Value) (c' : Addr) (ctv : Value) (h₂ : Heap) (tk : Nat) (oc : Obj), Pt B (rdEnv L) σ ((135, tabObj ps') :: μ) h₂ → CF ∉ vas (rdEnv L) → CF ∉ ((135, tabObj ps') :: μ).map (·.1) →
      h₂.get? CF = some (fnMade clName clQual clParams clBody clScope (rdCells L) doc ((mg "__name__").getD .none) c' ctv) →
      (∀ B', B.StaysIn B' → (∀ a o, h₂.get? a = some o → a ∉ vas (rdEnv L) → a ∉ ((135, tabObj ps') :: μ).map (·.1) → B'.get? a = some o) → B'.CodeRec (.ref c') clQual) → TriplesOk ps'.toList → codeAmong clPos ps'.toList = some (.ref c') →
      wpAny (model prog w) A (storeName (rdEnv L) clName (.ref CF)) (fun _ s'' => Q .next s'') No { s with heap := h₂, toks := tk } := by
    intro CF ps' doc c' ctv h₂ tk oc P₂ hv hk hf hcr ht hca
    refine st_var (x := "_law_closer") P₂ fun h₃ tk₃ P₃ hs₃ => ?_
    obtain ⟨B', kB, P', hget⟩ := P₃.base
    have keep : ∀ a o, h₂.get? a = some o → a ∉ vas (rdEnv L) → a ∉ ((135, tabObj ps') :: μ).map (·.1) → B'.get? a = some o := fun a o e h1 h2 =>
      hget a o (hs₃ a o (fun q => h1 (by have q' : some (rdEnv L).locals = some a := q; cases q'; exact List.mem_cons_self)) e) h1 h2
    exact h h₃ tk₃ B' CF ps' doc _ c' ctv kB P' (keep _ _ hf hv hk) (hcr B' kB keep) ht hca
  rcases hps with ⟨ht, hn | ⟨c', hc', hcr⟩⟩
  · refine makeFunction_K (clos := rdCells L) rfl rfl hgs rfl (C.keeps P.st) hm.1 ht hn hgP hBt fun c' ctv doc h' tk hx hge hlt hrec htb => ?_
    have hnd := P.nd
    rw [List.map_cons, List.nodup_cons] at hnd
    have P₁ : Pt B (rdEnv L) σ ((135, tabObj (ps ++ #[rawInt clPos.line, rawInt clPos.col, .ref c'])) :: μ) h' := P.set List.mem_cons_self (fun b ob hb e => hx b ob hb e) htb (fun p hp => by
      rcases List.mem_cons.mp hp with rfl | hp
      · exact .inl rfl
      · exact .inr ⟨List.mem_cons_of_mem _ hp, fun q => hnd.1 (by show 135 ∈ _; rw [← q]; exact List.mem_map_of_mem hp)⟩) (by rw [List.map_cons, List.nodup_cons]; exact hnd)
    have hf₁ := P₁.fresh (a := h'.objs.size) (Heap.get?_none_of_le (Nat.le_refl _))
    have hf₂ := P.fresh (a := c') (Heap.get?_none_of_le hge)
    refine fin h'.objs.size _ doc c' ctv _ tk default (P₁.grow fun b o e => Heap.get?_push_of_some _ e) hf₁.1 hf₁.2.2 (Heap.get?_push_size _ rfl) (fun B' kB keep => ?_) ?_ ?_
    · obtain ⟨c₂, o, vs, t, e1, e2, e3⟩ := hrec
      cases e1
      exact ⟨c', o, vs, t, rfl, keep _ _ (Heap.get?_push_of_some _ e2) hf₂.1 hf₂.2.2, e3⟩
    · have := TriplesOk_snoc clPos.line clPos.col (.ref c') _ ht
      simpa using this
    · have := codeAmong_snoc (c := .ref c') _ ht hn
      simpa using this
  · refine makeFunction_hit (clos := rdCells L) rfl rfl hgs rfl (C.keeps P.st) hm.1 ht hc' hBt fun ctv doc h' tk hk hsz => ?_
    have P₁ := P.grow hk
    have hf₁ := P₁.fresh (a := h'.objs.size) (Heap.get?_none_of_le (Nat.le_refl _))
    refine fin h'.objs.size _ doc c' ctv _ tk default (P₁.grow fun b o e => Heap.get?_push_of_some _ e) hf₁.1 hf₁.2.2 (Heap.get?_push_size _ rfl) (fun B' kB keep => ?_) ht hc'
    obtain ⟨c₂, o, vs, t, e1, e2, e3⟩ := hcr
    exact ⟨c₂, o, vs, t, e1, kB _ _ e2, e3⟩
end
end Mine
end

section
namespace Mine
open PySem PySem.W PySem.Calls PyProof.Rows

theorem warm9 : PySem.Challenge.rw_kl0456_01 = PySem.Challenge.rw_kl0456_01 ∧ hd.heap_39 = hd.heap_39 := by
  k_fill
  exact ⟨rfl, rfl⟩

theorem gl_tell (w : World) : nsIn (hd.heap_39 w.params) mainGlobals "_Tellable" = some (some (.ref 110)) := by k_is
theorem gl_share (w : World) : nsIn (hd.heap_39 w.params) mainGlobals "_SharedFile" = some (some (.ref 61)) := by k_is
theorem gl_range (w : World) : nsIn (hd.heap_39 w.params) mainGlobals "range" = some none := by k_is
theorem gl_len (w : World) : nsIn (hd.heap_39 w.params) mainGlobals "len" = some none := by k_is
theorem gl_sorted (w : World) : nsIn (hd.heap_39 w.params) mainGlobals "sorted" = some none := by k_is
theorem ke110 (w : World) : keepIn (hd.heap_39 w.params) (.ref 110) = true := by k_is
theorem ke61 (w : World) : keepIn (hd.heap_39 w.params) (.ref 61) = true := by k_is

theorem mid_mem {a : Addr} {o o' : Obj} {pre post : List (Addr × Obj)} (hn : ((pre ++ (a, o) :: post).map (·.1)).Nodup) : ∀ p ∈ pre ++ (a, o') :: post, p = (a, o') ∨ (p ∈ pre ++ (a, o) :: post ∧ p.1 ≠ a) := by
  rw [List.map_append, List.map_cons, List.nodup_append] at hn
  have h2 := (List.nodup_cons.mp hn.2.1).1
  intro p hp
  rcases List.mem_append.mp hp with hp | hp
  · exact .inr ⟨List.mem_append_left _ hp, fun q => hn.2.2 _ (List.mem_map_of_mem hp) _ List.mem_cons_self q⟩
  · rcases List.mem_cons.mp hp with rfl | hp
    · exact .inl rfl
    · exact .inr ⟨List.mem_append_right _ (List.mem_cons_of_mem _ hp), fun q => h2 (List.mem_map.mpr ⟨p, hp, q⟩)⟩

theorem mid_nd {a : Addr} {o o' : Obj} {pre post : List (Addr × Obj)} (hn : ((pre ++ (a, o) :: post).map (·.1)).Nodup) : ((pre ++ (a, o') :: post).map (·.1)).Nodup := by
  rw [List.map_append, List.map_cons] at hn ⊢
  exact hn

theorem Pt.setMid {B : Heap} {env : Env} {σ : Str → Option Value} {a : Addr} {o o' : Obj} {pre post : List (Addr × Obj)} {h h' : Heap} (P : Pt B env σ (pre ++ (a, o) :: post) h) (hs : ∀ b ob, b ≠ a → h.get? b = some ob → h'.get? b = some ob) (ho : h'.get? a = some o') :
    Pt B env σ (pre ++ (a, o') :: post) h' :=
  P.set (List.mem_append_right _ List.mem_cons_self) hs ho (mid_mem P.nd) (mid_nd P.nd)

structure Row where
  t : Addr
  td : Addr
  s : Addr
  sd : Addr
  od : Obj

def NewS (W : Nat → Addr) (CF : Addr) (k : Nat) (t : Addr) (od : Obj) : Prop := ∃ φ n, DOk od φ n ∧ n ≤ 6 ∧ φ "_file" = some (.ref t) ∧ φ "_close" = some (.ref CF) ∧
  (∃ t, φ "_pos" = some (.int (9 - 4 * (k : Nat)) t)) ∧ φ "seekable" = some (.ref (W k)) ∧ φ "close" = none ∧ φ "tell" = none

def RowOk (B : Heap) (W : Nat → Addr) (CF : Addr) (k : Nat) (r : Row) : Prop :=
  (B.get? r.t = some (instObj 110 r.td) ∧ ∃ od φ n t, B.get? r.td = some od ∧ DOk od φ n ∧ φ "fp" = some (.int (k : Nat) t) ∧ φ "seekable" = some (.ref (W k))) ∧ B.get? r.s = some (instObj 61 r.sd) ∧ NewS W CF k r.t r.od

theorem RowOk.up {B B' : Heap} {W : Nat → Addr} {CF : Addr} {k : Nat} {r : Row} (h : RowOk B W CF k r) (kB : B.StaysIn B') : RowOk B' W CF k r :=
  let ⟨⟨a, od, φ, n, t, b, c⟩, d, e⟩ := h; ⟨⟨kB _ _ a, od, φ, n, t, kB _ _ b, c⟩, kB _ _ d, e⟩

def rowsL' (TH SH : Addr) (eT eS : Nat) (rows : List Row) : List (Addr × Obj) := (TH, lobj (rows.map fun r => .ref r.t) eT) :: (SH, lobj (rows.map fun r => .ref r.s) eS) :: rows.map fun r => (r.sd, r.od)

section
variable {w : World} {prog : Program} {A : Around} {s : Shared} {B : Heap} {σ : Str → Option Value} {μ : List (Addr × Obj)} {L : Addr}

theorem row_end {TH SH : Addr} {W : Nat → Addr} {CF y dy x dx : Addr} {od₈ od₆ : Obj} {own : Addr × Obj} {B₀ B' : Heap} {σ₀ σ₅ : Str → Option Value} {rows : List Row} {e₇ e₉ i : Nat} {h₉ : Heap} {s₁ : Shared} {tk : Nat} {v : Value}
    (P₉ : Pt B' (rdEnv L) (upd σ₅ "thing" v) ([(y, instObj 61 dy), (dy, od₈), (x, instObj 110 dx), (dx, od₆), own, (TH, lobj ((rows.map fun r => Value.ref r.t) ++ [.ref x]) e₇)] ++ (SH, lobj ((rows.map fun r => Value.ref r.s) ++ [.ref y]) e₉) :: ((rows.map fun r => (r.sd, r.od)) ++ μ)) h₉)
    (hl : rows.length = i) (hrow : ∀ k r, rows[k]? = some r → RowOk B' W CF k r)
    (hnew : (∃ φ, DOk od₆ φ 3 ∧ (∃ t, φ "fp" = some (.int (rows.length : Nat) t)) ∧ φ "seekable" = some (.ref (W rows.length))) ∧ NewS W CF rows.length x od₈)
    (kB : B₀.StaysIn B') (hσ : ∀ z : Str, z ≠ "k" → z ≠ "thing" → σ₅ z = σ₀ z) :
    TurnEnd (rdEnv L) B' own (fun Bx σ' μ' => ∃ rows eT eS, rows.length = i + 1 ∧ μ' = rowsL' TH SH eT eS rows ++ μ ∧ (∀ k r, rows[k]? = some r → RowOk Bx W CF k r) ∧ ∀ z : Str, z ≠ "k" → z ≠ "thing" → σ' z = σ₀ z) s₁ .next { s₁ with heap := h₉, toks := tk } := by
  have nd := P₉.nd
  have hmu := P₉.mu
  have hsub : ((dy, od₈) :: own :: (TH, lobj ((rows.map fun r => Value.ref r.t) ++ [.ref x]) e₇) :: (SH, lobj ((rows.map fun r => Value.ref r.s) ++ [.ref y]) e₉) :: ((rows.map fun r => (r.sd, r.od)) ++ μ)).Sublist ([(y, instObj 61 dy), (dy, od₈), (x, instObj 110 dx), (dx, od₆), own, (TH, lobj ((rows.map fun r => Value.ref r.t) ++ [.ref x]) e₇)] ++ (SH, lobj ((rows.map fun r => Value.ref r.s) ++ [.ref y]) e₉) :: ((rows.map fun r => (r.sd, r.od)) ++ μ)) :=
    .cons _ (.cons₂ _ (.cons _ (.cons _ (List.Sublist.refl _))))
  have P := P₉.sub hsub
  simp only [List.cons_append, List.nil_append, List.map_cons] at nd
  generalize hK : List.map (fun x => x.1) (own :: (TH, lobj ((rows.map fun r => Value.ref r.t) ++ [.ref x]) e₇) :: (SH, lobj ((rows.map fun r => Value.ref r.s) ++ [.ref y]) e₉) :: ((rows.map fun r => (r.sd, r.od)) ++ μ)) = KK at *
  simp only [List.map_cons] at hK
  rw [hK] at nd
  simp only [List.nodup_cons, List.mem_cons, not_or] at nd
  obtain ⟨⟨n1, n2, n3, n4⟩, ⟨n5, n6, n7⟩, ⟨n8, n9⟩, n10, n11⟩ := nd
  obtain ⟨B'', kB'', P'', get⟩ := P.base
  have hk : ∀ a, a ≠ dy → a ∉ KK → a ∉ ((dy, od₈) :: own :: (TH, lobj ((rows.map fun r => Value.ref r.t) ++ [.ref x]) e₇) :: (SH, lobj ((rows.map fun r => Value.ref r.s) ++ [.ref y]) e₉) :: ((rows.map fun r => (r.sd, r.od)) ++ μ)).map (·.1) := fun a h1 h2 hm => by
    simp only [List.map_cons] at hm
    rw [hK] at hm
    exact (List.mem_cons.mp hm).elim h1 h2
  have gy := hmu (y, instObj 61 dy) (.head _)
  have gx := hmu (x, instObj 110 dx) (.tail _ (.tail _ (.head _)))
  have gdx := hmu (dx, od₆) (.tail _ (.tail _ (.tail _ (.head _))))
  have by' := get _ _ gy.1 gy.2.1 (hk _ n1 n4)
  have bx' := get _ _ gx.1 gx.2.1 (hk _ (fun q => n5 q.symm) n9)
  have bdx' := get _ _ gdx.1 gdx.2.1 (hk _ (fun q => n6 q.symm) n10)
  have PF : Pt B'' (rdEnv L) (upd σ₅ "thing" v) (own :: (rowsL' TH SH e₇ e₉ (rows ++ [⟨x, dx, y, dy, od₈⟩]) ++ μ)) h₉ := P''.perm (by
    simp only [rowsL', List.map_append, List.map_cons, List.map_nil, List.cons_append, List.append_assoc, List.nil_append]
    refine (List.Perm.swap _ _ _).trans (List.Perm.cons _ ?_)
    refine (List.Perm.swap _ _ _).trans (List.Perm.cons _ ?_)
    refine (List.Perm.swap _ _ _).trans (List.Perm.cons _ ?_)
    exact List.perm_middle.symm)
  refine turnEnd kB'' PF ⟨rows ++ [⟨x, dx, y, dy, od₈⟩], e₇, e₉, by simp [hl], rfl, fun k r hr => ?_, fun z h1 h2 => ?_⟩
  · rw [List.getElem?_append] at hr
    split at hr
    · exact (hrow k r hr).up kB''
    · rename_i hge
      have hk0 : k = rows.length := by
        rcases Nat.lt_or_ge (k - rows.length) 1 with q | q
        · omega
        · rw [List.getElem?_eq_none (by simpa using q)] at hr; cases hr
      subst hk0
      simp only [Nat.sub_self, List.getElem?_cons_zero, Option.some.injEq] at hr
      subst hr
      obtain ⟨⟨φ, Dφ, ⟨t, hf⟩, hs⟩, hn⟩ := hnew
      exact ⟨⟨bx', od₆, φ, 3, t, bdx', Dφ, hf, hs⟩, by', hn⟩
  · rw [← hσ z h1 h2]; simp [upd, h2]

theorem round_make {WAYS CF TH SH : Addr} {W : Nat → Addr} {eT eS : Nat} {Q : Flow → Shared → Prop} (hW : Wd (hd.heap_39 w.params) B) (hh : A.handled = none) (hroom : A.depth < 800) (P : Pt B (rdEnv L) σ (rowsL' TH SH eT eS [] ++ μ) s.heap)
    (hways : B.IsList WAYS ((List.range 7).map fun k => Value.ref (W k)).toArray)
    (h1 : σ "ways" = some (.ref WAYS)) (h2 : σ "things" = some (.ref TH)) (h3 : σ "shares" = some (.ref SH)) (h4 : σ "_law_closer" = some (.ref CF))
    (h : ∀ h' tk B' σ' rows eT eS, B.StaysIn B' → Pt B' (rdEnv L) σ' (rowsL' TH SH eT eS rows ++ μ) h' → rows.length = 7 → (∀ k r, rows[k]? = some r → RowOk B' W CF k r) → (∀ x : Str, x ≠ "k" → x ≠ "thing" → σ' x = σ x) → Q .next { s with heap := h', toks := tk }) :
    wpAny (model prog w) A (exec rdMake (rdEnv L)) Q No s := by
  unfold rdMake
  refine ex_for (ev_range P hW (gl_range w) (ev_int ⟨7, _, rfl, fun r h₁ tk₁ t u v k₁ hr₁ hR₁ => ?_⟩))
  refine ⟨B, σ, _, [], 7, _, fun i Bx σ' μ' => ∃ rows eT eS, rows.length = i ∧ μ' = rowsL' TH SH eT eS rows ++ μ ∧ (∀ k r, rows[k]? = some r → RowOk Bx W CF k r) ∧ ∀ x : Str, x ≠ "k" → x ≠ "thing" → σ' x = σ x, iters_range hh hR₁ (by decide), P.grow k₁, (fun _ h => nomatch h), ⟨[], eT, eS, rfl, rfl, fun k r h => by simp at h, fun _ _ _ => rfl⟩, ?turn, ?done⟩
  case done =>
    rintro B' σ' μ' h' tk' kB ⟨rows, eT', eS', hl, rfl, hrow, hσ⟩ P'
    exact h h' tk' B' σ' rows eT' eS' kB P' hl hrow hσ
  case turn =>
    rintro i v B' σ' μ' own h₂ tk₂ hi ⟨t, rfl⟩ kB ⟨rows, eT', eS', hl, rfl, hrow, hσ⟩ P'
    refine wpAny_assign_Name (st_var P' fun h₃ tk₃ P₃ _ => ?_)
    have hX : ∀ {h : Heap}, B'.StaysIn h → (hd.heap_39 w.params).In h := fun k' => (hW.up kB).X.keeps k'
    have hσ₃ : ∀ x : Str, x ≠ "k" → x ≠ "thing" → upd σ' "k" (.int (i : Nat) t) x = σ x := fun x hx hx2 => by rw [← hσ x hx hx2]; simp [upd, hx]
    -- thing = _Tellable(k)
    refine wpAny_execs_cons (wpAny_Assign_Name (wpAny_Call_NameR (ev_glob P₃ (hW.up kB) (gl_tell w) (callWith_K (h₀ := h₃) (hX P₃.st) (ke110 w) (Calls.spliced_cons (ev_name P₃ (v := .int (i : Nat) t) rfl (Calls.spliced_nil ⟨hX P₃.st, ?_⟩)))))))
    refine wpAny_call (make_own (hX P₃.st) (mk110 w) (in110 w) (f79 w) ?_)
    have kN : h₃.StaysIn ((h₃.push (dictOf [] 0)).push (instObj 110 h₃.objs.size)) := fun _ _ e => Heap.get?_push_of_some _ (Heap.get?_push_of_some _ e)
    have hn₃ : h₃.get? h₃.objs.size = none := Heap.get?_none_of_le (Nat.le_refl _)
    have hn₃' : h₃.get? (h₃.objs.size + 1) = none := Heap.get?_none_of_le (Nat.le_succ _)
    have hxi : ((h₃.push (dictOf [] 0)).push (instObj 110 h₃.objs.size)).get? (h₃.objs.size + 1) = some (instObj 110 h₃.objs.size) := by
      have := Heap.get?_push_size (h₃.push (dictOf [] 0)) (o := instObj 110 h₃.objs.size) rfl
      rwa [Heap.size_push] at this
    refine codeAny_mono (init79 (hW.up kB) (fun b o e => kN b o (P₃.st b o e)) (none_of_stays P₃.st hn₃) (show A.depth + 1 < 900 by omega) hxi (Heap.get?_push_of_some _ (Heap.get?_push_size _ rfl))) fun r s' hr => ?_
    obtain ⟨h₄, tk₄, od, φ, rfl, rfl, hod, D, hφ, keep⟩ := hr
    refine ⟨rfl, ?_⟩
    generalize hdx : h₃.objs.size = dx at *
    generalize hxx : dx + 1 = x at *
    have hne : x ≠ dx := by rw [← hxx]; exact Nat.succ_ne_self _
    have f1 := P₃.fresh hn₃
    have f2 := P₃.fresh hn₃'
    have P₄ := (P₃.addNew (a := dx) (o := od) (fun b o e => keep b o (fun q => by rw [q, hn₃] at e; cases e) (kN b o e)) hod hn₃).add (a := x) (keep x _ hne hxi) f2.1 f2.2.1 (fun hm => by
      rcases List.mem_cons.mp hm with q | hm
      · exact hne q
      · exact f2.2.2 hm)
    refine st_var P₄ fun h₅ tk₅ P₅ _ => ?_
    -- thing.seekable = ways[k]
    refine wpAny_execs_cons (plainObj_wpAny_Assign_Attribute (ev_item (ev_name P₅ (v := .ref WAYS) (by exact (hσ₃ "ways" (by decide) (by decide)).trans h1) (ev_name P₅ (v := .int (i : Nat) t) rfl ⟨_, _, i, t, .ref (W i), rfl, rfl, stays_list P₅.st (stays_list kB hways), by omega, by simp [hi], ?_⟩))))
    refine ev_name P₅ (v := .ref x) rfl (set_attr P₅ (hX P₅.st) (P₅.mu _ List.mem_cons_self).1 (List.mem_cons_of_mem _ List.mem_cons_self) D (by decide) (kc110 w) (t110_seekable w) ?_)
    intro h₆ tk₆ od₆ D₆ hP₆
    have P₆ := hP₆ _ (mid_mem (pre := [(x, instObj 110 dx)]) P₅.nd) (mid_nd (pre := [(x, instObj 110 dx)]) P₅.nd)
    -- things.append(thing)
    have oTH := (P₆.mu (TH, lobj (rows.map fun r => Value.ref r.t) eT') (.tail _ (.tail _ (.tail _ (.head _))))).1
    refine wpAny_execs_cons (ex_append P₆ (l := TH) (by exact (hσ₃ "things" (by decide) (by decide)).trans h2) oTH (ev_name P₆ (v := .ref x) rfl ⟨_, _, oTH, by rw [List.length_map]; omega, fun h₇ e₇ hl₇ hs₇ => ?_⟩))
    have P₇ := P₆.setMid (pre := [(x, instObj 110 dx), (dx, od₆), own]) hs₇ hl₇
    -- shares.append(_SharedFile(thing, 9 - 4 * k, _law_closer, None, None))
    have oSH := (P₇.mu (SH, lobj (rows.map fun r => Value.ref r.s) eS') (.tail _ (.tail _ (.tail _ (.tail _ (.head _)))))).1
    refine wpAny_execs_cons (ex_append P₇ (l := SH) (by exact (hσ₃ "shares" (by decide) (by decide)).trans h3) oSH ?_)
    refine wpAny_Call_NameR (ev_glob P₇ (hW.up kB) (gl_share w) (callWith_KL (ke61 w) ?_))
    refine spl_cons (ev_name P₇ (v := .ref x) rfl (spl_cons (wpAny_BinOp (ev_int (wpAny_BinOp (ev_int (ev_name P₇ (v := .int (i : Nat) t) rfl (PySem.P.mul_int (PySem.P.sub_int ?_) ?hm))))))))
    case hm => exact PySem.IntMulOk.of_right (PySem.intBits_le_64 (by omega) (by omega))
    refine spl_cons (ev_name P₇ (v := .ref CF) (by exact (hσ₃ "_law_closer" (by decide) (by decide)).trans h4) (spl_cons (ev_none (spl_cons (ev_none (spl_nil ⟨hX P₇.st, ?_⟩))))))
    refine wpAny_call (make_own (hX P₇.st) (mk61 w) (in61 w) (f28 w) ?_)
    have kN₇ : h₇.StaysIn ((h₇.push (dictOf [] 0)).push (instObj 61 h₇.objs.size)) := fun _ _ e => Heap.get?_push_of_some _ (Heap.get?_push_of_some _ e)
    have hn₇ : h₇.get? h₇.objs.size = none := Heap.get?_none_of_le (Nat.le_refl _)
    have hn₇' : h₇.get? (h₇.objs.size + 1) = none := Heap.get?_none_of_le (Nat.le_succ _)
    have hxi₇ : ((h₇.push (dictOf [] 0)).push (instObj 61 h₇.objs.size)).get? (h₇.objs.size + 1) = some (instObj 61 h₇.objs.size) := by
      have := Heap.get?_push_size (h₇.push (dictOf [] 0)) (o := instObj 61 h₇.objs.size) rfl
      rwa [Heap.size_push] at this
    have hT₇ := (P₇.mu (x, instObj 110 dx) (.head _)).1
    have hD₇ := (P₇.mu (dx, od₆) (.tail _ (.head _))).1
    refine codeAny_mono (init28 (T := x) (TD := dx) (hW.up kB) (fun b o e => kN₇ b o (P₇.st b o e)) (none_of_stays P₇.st hn₇) (show A.depth + 1 < 900 by omega) hxi₇ (Heap.get?_push_of_some _ (Heap.get?_push_size _ rfl)) (kN₇ _ _ hT₇) (kN₇ _ _ hD₇) (fun q => by rw [q, hn₇] at hD₇; cases hD₇) D₆ (vs := .ref (W i)) rfl rfl) fun r s' hr => ?_
    obtain ⟨h₈, tk₈, od₈, φ₈, rfl, rfl, hod₈, D₈, g1, g2, g3, g4, g5, g6, keep₈⟩ := hr
    refine ⟨rfl, ?_⟩
    have f3 := P₇.fresh hn₇
    have f4 := P₇.fresh hn₇'
    have hne₈ : h₇.objs.size + 1 ≠ h₇.objs.size := Nat.succ_ne_self _
    have P₈ := (P₇.addNew (a := h₇.objs.size) (o := od₈) (fun b o e => keep₈ b o (fun q => by rw [q, hn₇] at e; cases e) (kN₇ b o e)) hod₈ hn₇).add (a := h₇.objs.size + 1) (keep₈ _ _ hne₈ hxi₇) f4.1 f4.2.1 (fun hm => by
      rcases List.mem_cons.mp hm with q | hm
      · exact hne₈ q
      · exact f4.2.2 hm)
    have oSH₈ := (P₈.mu (SH, lobj (rows.map fun r => Value.ref r.s) eS') (.tail _ (.tail _ (.tail _ (.tail _ (.tail _ (.tail _ (.head _)))))))).1
    refine ⟨_, _, oSH₈, by rw [List.length_map]; omega, fun h₉ e₉ hl₉ hs₉ => wpAny_execs_nil ?_⟩
    have P₉ := P₈.setMid (pre := [(h₇.objs.size + 1, instObj 61 h₇.objs.size), (h₇.objs.size, od₈), (x, instObj 110 dx), (dx, od₆), own, (TH, _)]) hs₉ hl₉
    exact row_end P₉ hl hrow (by rw [hl]; exact ⟨⟨_, D₆, ⟨_, hφ⟩, rfl⟩, φ₈, 6, D₈, Nat.le_refl _, g1, g3, ⟨_, g2⟩, g4, g5, g6⟩) kB hσ₃
end
end Mine
end

section
namespace Mine
open PySem PySem.W PySem.Calls PyProof.Rows

theorem warm10 : PySem.Challenge.rw_kl0456_01 = PySem.Challenge.rw_kl0456_01 ∧ hd.heap_39 = hd.heap_39 := by
  k_fill
  exact ⟨rfl, rfl⟩

theorem ke58 (w : World) : keepIn (hd.heap_39 w.params) (.ref 58) = true := by k_is
theorem ke35 (w : World) : keepIn (hd.heap_39 w.params) (.ref 35) = true := by k_is
theorem m61_tell (w : World) : findIn (hd.heap_39 w.params) (.ref 61) "tell" = some (some (.ref 35)) := by k_is
theorem f35 (w : World) : isFn (hd.heap_39 w.params) (.ref 35) = true := by k_is
theorem n61_pos (w : World) : findIn (hd.heap_39 w.params) (.ref 61) "_pos" = some none := by k_is
theorem n61_seekable (w : World) : findIn (hd.heap_39 w.params) (.ref 61) "seekable" = some none := by k_is

/-- the state of the search behind the first i closes -/
def rst (adj : Nat → List Nat) (ord : List Nat) (i : Nat) : (Nat → Bool) × List Nat := (ord.take i).foldl (dfs adj 7) (fun _ => false, [])
def rcut (adj : Nat → List Nat) (ord : List Nat) (i : Nat) : List Nat := (rst adj ord (i + 1)).2.drop (rst adj ord i).2.length

theorem rst_succ {adj : Nat → List Nat} {ord : List Nat} {i k : Nat} (h : ord[i]? = some k) : rst adj ord (i + 1) = dfs adj 7 (rst adj ord i) k := by
  unfold rst; rw [List.take_add_one, List.foldl_append, h]; rfl

structure RCtx (w : World) (B : Heap) (d : DF) (σ : Str → Option Value) (WAYS CU L : Addr) : Prop where
  rd : RdC (hd.heap_39 w.params) B d
  cl : d.clos = rdCells L
  ways : B.IsList WAYS ((List.range 7).map fun k => Value.ref (d.W k)).toArray
  wr : B.IsList d.WR #[]
  s1 : σ "ways" = some (.ref WAYS)
  s2 : σ "things" = some (.ref d.TH)
  s3 : σ "shares" = some (.ref d.SH)
  s4 : σ "trail" = some (.ref d.TR)
  s5 : σ "wrong" = some (.ref d.WR)
  s6 : σ "cuts" = some (.ref CU)

/-- a list of numbers that the round made -/
def CutOk (B₀ Bx : Heap) (c : Addr) (l : List Nat) : Prop := (∃ ws, Bx.IsList c (List.toArray ws) ∧ IntsAre ws (l.map Int.ofNat)) ∧ B₀.get? c = none ∧ c ≠ 135

section
variable {w : World} {prog : Program} {A : Around} {s : Shared} {B : Heap} {σ : Str → Option Value} {μ : List (Addr × Obj)} {L : Addr}

theorem RCtx.cells {d : DF} {WAYS CU : Addr} {h : Heap} (X : RCtx w B d σ WAYS CU L) {B' : Heap} {σ' : Str → Option Value} (hσ : ∀ z : Str, z ≠ "k" → z ≠ "before" → σ' z = σ z) (P : Pt B' (rdEnv L) σ' μ h) : CellsAt d h :=
  cells_of P (fun p hp => by have : p ∈ rdCells L := X.cl ▸ hp; exact this) ((hσ _ (by decide) (by decide)).trans X.s4) ((hσ _ (by decide) (by decide)).trans X.s2) ((hσ _ (by decide) (by decide)).trans X.s3) ((hσ _ (by decide) (by decide)).trans X.s5)

theorem clos_cells {d : DF} (h : d.clos = rdCells L) {x : Str} {c : Addr} (hc : (x, c) ∈ rdCells L) : (x, c) ∈ d.clos := h ▸ hc

theorem cells_mem {d : DF} (h : d.clos = rdCells L) : ∀ c ∈ d.cells, c ∈ (rdEnv L).cells.map (·.2) := fun c hc => by
  show c ∈ (rdCells L).map (·.2)
  rw [← h]; exact hc

theorem round_close {d : DF} {WAYS CU : Addr} {B₀ : Heap} {ps : Array Value} {ov : Value} {ord : List Nat} {fx : List Addr} {Pv : Nat → Value → Prop} {Q : Flow → Shared → Prop} {ods : Nat → Obj} {vs : List Value} {e eC : Nat}
    (X : RCtx w B d σ WAYS CU L) (hB₀ : B₀.StaysIn B) (h135 : B₀.get? 135 = none) (hh : A.handled = none) (hroom : A.depth < 600) (hσo : σ "order" = some ov) (hord : ∀ k ∈ ord, k < 7) (hol : ord.length ≤ 100) (hit : ∀ s' : Shared, B₀.StaysIn s'.heap → Iters prog w A ov fx ord.length Pv s') (hfx : ∀ b ∈ fx, ∃ o, B₀.get? b = some o)
    (hPv : ∀ i v, i < ord.length → Pv i v → ∃ k t, ord[i]? = some k ∧ v = .int (k : Nat) t)
    (P : Pt B (rdEnv L) σ ((CU, lobj [] eC) :: (135, tabObj ps) :: mutL d ods vs e) s.heap) (hG : Good d (fun _ => false) [] ods vs)
    (h : ∀ h' tk B' σ' (cl : List Addr) (eC : Nat) (ods : Nat → Obj) (vs : List Value) (e : Nat), B.StaysIn B' → Pt B' (rdEnv L) σ' ((CU, lobj (cl.map Value.ref) eC) :: (135, tabObj ps) :: mutL d ods vs e) h' → cl.length = ord.length → (∀ j c, cl[j]? = some c → CutOk B₀ B' c (rcut d.adj ord j)) →
      Good d (rst d.adj ord ord.length).1 (rst d.adj ord ord.length).2 ods vs → (∀ z : Str, z ≠ "k" → z ≠ "before" → σ' z = σ z) → Q .next { s with heap := h', toks := tk }) :
    wpAny (model prog w) A (exec rdClose (rdEnv L)) Q No s := by
  unfold rdClose
  refine ex_for (ev_name P hσo ?_)
  refine ⟨B, σ, _, fx, ord.length, Pv, fun i Bx σ' μ' => ∃ (cl : List Addr) (eC : Nat) (ods : Nat → Obj) (vs : List Value) (e : Nat), μ' = (CU, lobj (cl.map Value.ref) eC) :: (135, tabObj ps) :: mutL d ods vs e ∧ cl.length = i ∧ (∀ j c, cl[j]? = some c → CutOk B₀ Bx c (rcut d.adj ord j)) ∧
    Good d (rst d.adj ord i).1 (rst d.adj ord i).2 ods vs ∧ ∀ z : Str, z ≠ "k" → z ≠ "before" → σ' z = σ z, hit s fun b o eb => P.st b o (hB₀ b o eb), P, fun b hb => let ⟨o, ho⟩ := hfx b hb; ⟨o, hB₀ b o ho⟩, ⟨[], eC, ods, vs, e, rfl, rfl, fun j c h => by simp at h, hG, fun _ _ _ => rfl⟩, ?turn, ?done⟩
  case done =>
    rintro B' σ' μ' h' tk' kB ⟨cl, eC', ods', vs', e', rfl, hl, hcut, g, hσ⟩ P'
    exact h h' tk' B' σ' cl eC' ods' vs' e' kB P' hl hcut g hσ
  case turn =>
    rintro i v B' σ' μ' own h₂ tk₂ hi hv kB ⟨cl, eC', ods', vs', e', rfl, hl, hcut, g, hσ⟩ P'
    obtain ⟨k, t, hk, rfl⟩ := hPv i v hi hv
    have hk7 : k < 7 := hord k (List.mem_of_getElem? hk)
    have RB := X.rd
    have hW := RB.wd.up kB
    have hX : ∀ {h : Heap}, B'.StaysIn h → (hd.heap_39 w.params).In h := fun k' => hW.X.keeps k'
    have hless := less_fold (less_dfs RB.adj 7) (ord.take i) (fun _ => false, []) fun j hj => hord j (List.mem_of_mem_take hj)
    have hlen := ints_len g.2
    have hc7 : cnt (fun _ => false) = 7 := rfl
    have hle : (rst d.adj ord i).2.length + cnt (rst d.adj ord i).1 ≤ 7 := by have := hless.2; dsimp only [List.length_nil] at this; unfold rst; omega
    refine wpAny_assign_Name (st_var P' fun h₃ tk₃ P₃ _ => ?_)
    -- before = len(trail)
    have hσ₃ : ∀ z : Str, z ≠ "k" → z ≠ "before" → upd σ' "k" (.int (k : Nat) t) z = σ z := fun z h1 h2 => by rw [← hσ z h1 h2]; simp [upd, h1]
    have oTR := (P₃.mu (d.TR, lobj vs' e') (.tail _ (.tail _ (.tail _ (.head _))))).1
    refine wpAny_execs_cons (wpAny_Assign_Name (ev_len P₃ hW (gl_len w) (ev_name P₃ (v := .ref d.TR) (by exact (hσ₃ "trail" (by decide) (by decide)).trans X.s4) ⟨d.TR, vs', rfl, ⟨_, oTR, rfl, _, rfl⟩, by omega, fun t₄ tk₄ => ?_⟩)))
    refine st_var P₃ fun h₄ tk₅ P₄ _ => ?_
    have hσ₄ : ∀ z : Str, z ≠ "k" → z ≠ "before" → upd (upd σ' "k" (.int (k : Nat) t)) "before" (.int (vs'.length : Nat) t₄) z = σ z := fun z h1 h2 => by rw [← hσ₃ z h1 h2]; simp [upd, h2]
    -- if shares[k].close() is not None: ..
    obtain ⟨φ, m, hD, hm, e1, e2, e3, e4, e5, e6⟩ := g.1 k hk7
    have kP : B.StaysIn h₄ := fun b o eb => P₄.st b o (kB b o eb)
    have oSD := (P₄.mu (d.SD k, ods' k) (.tail _ (.tail _ (.tail _ (.tail _ (List.mem_map.mpr ⟨k, List.mem_range.mpr hk7, rfl⟩)))))).1
    have RA₄ : RdAt B d (rst d.adj ord i) h₄ := ⟨kP, X.cells hσ₄ P₄, ods', vs', e', g, fun p hp => (P₄.mu p (.tail _ (.tail _ (.tail _ hp)))).1⟩
    refine wpAny_execs_cons (wpAny_If (wpAny_isTrue_Compare1 (methodCall_KW (pl := _) (ev_item (ev_name P₄ (v := .ref d.SH) (by exact (hσ₄ "shares" (by decide) (by decide)).trans X.s3) (ev_name P₄ (v := .int (k : Nat) t) rfl
      ⟨_, _, k, t, .ref (d.S k), rfl, rfl, stays_list kP RB.sh, by omega, by simp [hk7], ?_⟩))))))
    refine get_meth (hX P₄.st) (kP _ _ (RB.share k hk7)) oSD hD (kc61 w) e5 (m61_close w) (f58 w) ?_
    refine callWith_K0 (hX P₄.st) (ke58 w) ?_
    obtain ⟨RB', RA'⟩ := RB.call RA₄
    refine wpAny_call (codeAny_mono (close_spec w prog d 7 A _ _ _ k RB' RA' hk7 (by omega) (by omega) hh (by omega)) fun r s' hr => ?_)
    obtain ⟨h₅, tk₅, rfl, rfl, RA₅⟩ := hr
    refine ev_none (wpAny_isNot_self rfl (truthy_b ?_))
    rw [if_neg Bool.false_ne_true]
    refine wpAny_execs_nil ?_
    obtain ⟨ods₆, vs₆, e₆, g₆, P₆⟩ := Pt.through (μ₀ := [own, (CU, lobj (cl.map Value.ref) eC'), (135, tabObj ps)]) P₄ (fun _ _ eb => eb) RA₅ (cells_mem X.cl) (fun x c hxc _ => by
      have hxc' := clos_cells X.cl hxc
      obtain ⟨c1, c2, c3, c4⟩ := RA₅.ce
      simp only [DF.clos, List.mem_cons, List.not_mem_nil, or_false] at hxc'
      rcases hxc' with q | q | q | q <;> cases q
      · exact ⟨_, c1, fun v' hv => by rw [← hv]; exact ((hσ₄ "wrong" (by decide) (by decide)).trans X.s5).symm⟩
      · exact ⟨_, c2, fun v' hv => by rw [← hv]; exact ((hσ₄ "trail" (by decide) (by decide)).trans X.s4).symm⟩
      · exact ⟨_, c3, fun v' hv => by rw [← hv]; exact ((hσ₄ "things" (by decide) (by decide)).trans X.s2).symm⟩
      · exact ⟨_, c4, fun v' hv => by rw [← hv]; exact ((hσ₄ "shares" (by decide) (by decide)).trans X.s3).symm⟩)
    rw [← rst_succ hk] at g₆
    -- cuts.append(trail[before:])
    have oCU := (P₆.mu (CU, lobj (cl.map Value.ref) eC') (.tail _ (.head _))).1
    have oTR₆ := (P₆.mu (d.TR, lobj vs₆ e₆) (.tail _ (.tail _ (.tail _ (.head _))))).1
    have hlen₆ := ints_len g₆.2
    have hless₆ := less_fold (less_dfs RB.adj 7) (ord.take (i + 1)) (fun _ => false, []) fun j hj => hord j (List.mem_of_mem_take hj)
    have hle₆ : (rst d.adj ord (i + 1)).2.length ≤ 7 := by have := hless₆.2; dsimp only [List.length_nil] at this; unfold rst; omega
    refine wpAny_execs_cons (ex_append P₆ (l := CU) (by exact (hσ₄ "cuts" (by decide) (by decide)).trans X.s6) oCU (wpAny_Subscript_list_slice (ev_name P₆ (v := .ref d.TR) (by exact (hσ₄ "trail" (by decide) (by decide)).trans X.s4)
      (evalPart_some_step (ev_name P₆ (v := .int (vs'.length : Nat) t₄) rfl (evalPart_none_step ⟨d.TR, vs₆.toArray, _, _, rfl, ⟨_, oTR₆, rfl, _, rfl⟩, by rw [sizeLine_eq, List.size_toArray]; omega, .int _ _, .none, ?_⟩))))))
    generalize hDs : h₅.objs.size + 1 = D at *
    have hD₅ : h₅.get? D = none := Heap.get?_none_of_le (by rw [← hDs]; exact Nat.le_succ _)
    have kpush : h₅.StaysIn ((h₅.push { cls := .type "slice", data := .fields #[.int (vs'.length : Nat) t₄, .none, .none] }).push { cls := .type "list", data := .seq (slicePick vs₆.toArray (some (vs'.length : Nat)) none none) }) := fun _ _ eb => Heap.get?_push_of_some _ (Heap.get?_push_of_some _ eb)
    have oD : ((h₅.push { cls := .type "slice", data := .fields #[.int (vs'.length : Nat) t₄, .none, .none] }).push { cls := .type "list", data := .seq (slicePick vs₆.toArray (some (vs'.length : Nat)) none none) }).get? D = some (lobj (vs₆.drop vs'.length) 0) := by
      have := Heap.get?_push_size (h₅.push { cls := .type "slice", data := .fields #[.int (vs'.length : Nat) t₄, .none, .none] }) (o := { cls := .type "list", data := .seq (slicePick vs₆.toArray (some (vs'.length : Nat)) none none) }) rfl
      rw [Heap.size_push, hDs] at this
      rw [this, slicePick_from']
    have P₇ := P₆.grow kpush
    refine ⟨_, _, kpush _ _ oCU, by rw [List.length_map]; have : i < ord.length := hi; omega, fun h₈ e₈ hl₈ hs₈ => wpAny_execs_nil ?_⟩
    have P₈ := P₇.setMid (pre := [own]) hs₈ hl₈
    obtain ⟨B'', kB'', P₉, get⟩ := P₈.base
    have f := P₆.fresh hD₅
    have hDCU : D ≠ CU := fun q => by rw [q, oCU] at hD₅; cases hD₅
    have bD := get D _ (hs₈ _ _ hDCU oD) f.1 f.2.2
    refine turnEnd kB'' P₉ ⟨cl ++ [D], e₈, ods₆, vs₆, e₆, by rw [List.map_append]; rfl, by simp [hl], fun j c hj => ?_, g₆, hσ₄⟩
    rw [List.getElem?_append] at hj
    split at hj
    · obtain ⟨⟨ws, a1, a2⟩, a3⟩ := hcut j c hj
      exact ⟨⟨ws, stays_list kB'' a1, a2⟩, a3⟩
    · rename_i hge
      have hj0 : j = i := by
        rcases Nat.lt_or_ge (j - cl.length) 1 with q | q
        · omega
        · rw [List.getElem?_eq_none (by simpa using q)] at hj; cases hj
      subst hj0
      rw [hl] at hj
      simp only [Nat.sub_self, List.getElem?_cons_zero, Option.some.injEq] at hj
      subst hj
      refine ⟨⟨_, ⟨_, bD, rfl, _, rfl⟩, ?_⟩, none_of_stays (fun b o eb => P₆.st b o (kB b o (hB₀ b o eb))) hD₅, fun q => ?_⟩
      · unfold rcut
        rw [List.map_drop, ← hlen]
        exact IntsAre.drop g₆.2 _
      · have := (P₆.mu (135, tabObj ps) (.tail _ (.tail _ (.head _)))).1
        rw [← q, hD₅] at this; cases this

/-- return self._pos -/
theorem tell_spec {K : Frag} {x dx : Addr} {od : Obj} {φ : Str → Option Value} {n : Nat} {v : Value} (hW : Wd (hd.heap_39 w.params) s.heap) (hroom : A.depth < 900) (hx : s.heap.get? x = some (instObj 61 dx)) (hdx : s.heap.get? dx = some od) (D : DOk od φ n) (hv : φ "_pos" = some v) (hh : handedIn v = true) :
    codeAny (model prog w) A (.call (.ref 35) ⟨[.ref x], []⟩) (fun r s' => ∃ h' tk, r = .ok (.ret v) ∧ s' = { s with heap := h', toks := tk } ∧ s.heap.StaysIn h') s := by
  refine' code_K (B := s.heap) (μ := []) (binds := [(("self" : Str), Value.ref x)]) hW ?room ?ho ?hcd ?hbind ?st ?mu ?nd ?hok ?hbok ?h ?hco ?hgen ?hk
  case room => exact Nat.lt_of_lt_of_le hroom (by decide)
  case ho => k_is
  case hcd => k_is
  case hbind => exact rfl
  case st => exact fun _ _ e => e
  case mu => exact fun _ h => nomatch h
  case nd => exact List.nodup_nil
  case hok => exact rfl
  case hbok => intro _; exact rfl
  case hco => exact rfl
  case hgen => exact rfl
  case hk => exact rfl
  case h =>
    intro L h₁ tk hL P k
    exact wpAny_execs_cons (wpAny_Return_some (Attribute_Name_ (ev_name P (v := .ref x) rfl (get_attr (hW.X.keeps P.st) (P.st _ _ hx) (P.st _ _ hdx) D (kc61 w) hv (n61_pos w) hh ⟨h₁, _, rfl, rfl, k⟩))))

theorem round_check {d : DF} {WAYS CU : Addr} {st : (Nat → Bool) × List Nat} {Q : Flow → Shared → Prop} {ods : Nat → Obj} {vs : List Value} {e : Nat} {σ₀ : Str → Option Value} {pre : List (Addr × Obj)}
    (X : RCtx w B d σ₀ WAYS CU L) (hσ : ∀ z : Str, z ≠ "k" → z ≠ "before" → σ z = σ₀ z) (hh : A.handled = none) (hroom : A.depth < 600) {B' : Heap} (kB : B.StaysIn B')
    (P : Pt B' (rdEnv L) σ (pre ++ mutL d ods vs e) s.heap) (g : Good d st.1 st.2 ods vs)
    (h : ∀ h' tk σ', Pt B' (rdEnv L) σ' (pre ++ mutL d ods vs e) h' → (∀ z : Str, z ≠ "k" → z ≠ "before" → σ' z = σ₀ z) → Q .next { s with heap := h', toks := tk }) :
    wpAny (model prog w) A (exec rdCheck (rdEnv L)) Q No s := by
  have hW := X.rd.wd.up kB
  unfold rdCheck
  refine ex_for (ev_range P hW (gl_range w) (ev_int ⟨7, _, rfl, fun r h₁ tk₁ t u v k₁ hr₁ hR₁ => ?_⟩))
  refine ⟨B', σ, _, [], 7, _, fun i Bx σ' μ' => Bx = B' ∧ μ' = pre ++ mutL d ods vs e ∧ (∀ z : Str, z ≠ "k" → z ≠ "before" → σ' z = σ₀ z), iters_range hh hR₁ (by decide), P.grow k₁, (fun _ h => nomatch h), ⟨rfl, rfl, hσ⟩, ?turn, ?done⟩
  case done =>
    rintro Bx σ' μ' h' tk' kBx ⟨rfl, rfl, hσ'⟩ P'
    exact h h' tk' σ' P' hσ'
  case turn =>
    rintro i v Bx σ' μ' own h₂ tk₂ hi ⟨t, rfl⟩ kBx ⟨rfl, rfl, hσ'⟩ P'
    refine wpAny_assign_Name (st_var P' fun h₃ tk₃ P₃ _ => ?_)
    have hX : ∀ {h : Heap}, Bx.StaysIn h → (hd.heap_39 w.params).In h := fun k' => hW.X.keeps k'
    have hσ₃ : ∀ z : Str, z ≠ "k" → z ≠ "before" → upd σ' "k" (.int (i : Nat) t) z = σ₀ z := fun z h1 h2 => by rw [← hσ' z h1 h2]; simp [upd, h1]
    have kP : B.StaysIn h₃ := fun b o eb => P₃.st b o (kB b o eb)
    obtain ⟨φ, m, hD, hm, e1, e2, ⟨tp, e3⟩, e4, e5, e6⟩ := g.1 i hi
    have oSD := (P₃.mu (d.SD i, ods i) (.tail _ (List.mem_append_right _ (.tail _ (List.mem_map.mpr ⟨i, List.mem_range.mpr hi, rfl⟩))))).1
    have hsh : ∀ {h : Heap}, B.StaysIn h → h.IsList d.SH ((List.range 7).map fun k => Value.ref (d.S k)).toArray := fun k' => stays_list k' X.rd.sh
    refine wpAny_execs_cons (wpAny_If (isTrue_or (wpAny_isTrue_Compare1 (methodCall_KW (pl := _) (ev_item (ev_name P₃ (v := .ref d.SH) (by exact (hσ₃ "shares" (by decide) (by decide)).trans X.s3) (ev_name P₃ (v := .int (i : Nat) t) rfl
      ⟨_, _, i, t, .ref (d.S i), rfl, rfl, hsh kP, by omega, by simp [hi], ?_⟩)))))))
    refine get_meth (hX P₃.st) (kP _ _ (X.rd.share i hi)) oSD hD (kc61 w) e6 (m61_tell w) (f35 w) ?_
    refine callWith_K0 (hX P₃.st) (ke35 w) (wpAny_call (codeAny_mono (tell_spec (K := hd.heap_39 w.params) (hW.up P₃.st) (by omega) (kP _ _ (X.rd.share i hi)) oSD hD e3 rfl) fun r s' hr => ?_))
    obtain ⟨h₄, tk₄, rfl, rfl, k₄⟩ := hr
    have P₄ := P₃.grow k₄
    refine wpAny_BinOp (ev_int (wpAny_BinOp (ev_int (ev_name P₄ (v := .int (i : Nat) t) rfl (PySem.P.mul_int (PySem.P.sub_int (PySem.P.ne_int (truthy_b ?_))) ?hm)))))
    case hm => exact PySem.IntMulOk.of_right (PySem.intBits_le_64 (by omega) (by omega))
    have hb : ((9 - 4 * ((i : Nat) : Int)) != (9 - 4 * ((i : Nat) : Int))) = false := by simp
    rw [hb, if_neg Bool.false_ne_true]
    have kP₄ : B.StaysIn h₄ := fun b o eb => k₄ b o (kP b o eb)
    refine isTrue_or (wpAny_isTrue_Compare1 (Attribute_any_ (ev_item (ev_name P₄ (v := .ref d.SH) (by exact (hσ₃ "shares" (by decide) (by decide)).trans X.s3) (ev_name P₄ (v := .int (i : Nat) t) rfl
      ⟨_, _, i, t, .ref (d.S i), rfl, rfl, hsh kP₄, by omega, by simp [hi], ?_⟩)))))
    refine get_attr (hX P₄.st) (kP₄ _ _ (X.rd.share i hi)) (k₄ _ _ oSD) hD (kc61 w) e4 (n61_seekable w) rfl ?_
    refine ev_item (ev_name P₄ (v := .ref WAYS) (by exact (hσ₃ "ways" (by decide) (by decide)).trans X.s1) (ev_name P₄ (v := .int (i : Nat) t) rfl ⟨_, _, i, t, .ref (d.W i), rfl, rfl, stays_list kP₄ X.ways, by omega, by simp [hi], ?_⟩))
    refine wpAny_isNot_ref_self (truthy_b ?_)
    rw [if_neg Bool.false_ne_true]
    refine isTrue_or_nil ?_
    rw [if_neg Bool.false_ne_true]
    exact wpAny_execs_nil (wpAny_execs_nil (turnEnd (fun _ _ eb => eb) P₄ ⟨rfl, rfl, hσ₃⟩))
end
end Mine
end

section
namespace Mine
open PySem PySem.W PySem.Calls PyProof.Rows

theorem warm11 : PySem.Challenge.rw_kl0456_01 = PySem.Challenge.rw_kl0456_01 ∧ hd.heap_39 = hd.heap_39 := by
  k_fill
  exact ⟨rfl, rfl⟩

theorem sorted_unique {xs ys : List Int} (p : xs.Perm ys) (hx : xs.Pairwise (· ≤ ·)) (hy : ys.Pairwise (· ≤ ·)) : xs = ys :=
  List.Perm.eq_of_pairwise (le := (· ≤ ·)) (fun a b _ _ h1 h2 => Int.le_antisymm h1 h2) hx hy p

section
variable {w : World} {prog : Program} {A : Around} {s : Shared} {B : Heap} {σ : Str → Option Value} {μ : List (Addr × Obj)} {L : Addr}

theorem round_bad {WR TR : Addr} {tr : List Nat} {vs : List Value} {e : Nat} {Q : Flow → Shared → Prop} (hW : Wd (hd.heap_39 w.params) B) (P : Pt B (rdEnv L) σ μ s.heap) (hwr : B.IsList WR #[]) (htr : (TR, lobj vs e) ∈ μ) (hI : IntsAre vs (tr.map Int.ofNat)) (hp : tr.Perm (List.range 7))
    (h1 : σ "wrong" = some (.ref WR)) (h2 : σ "trail" = some (.ref TR)) (hu : A.units + 64 < cLine) (h : ∀ h' tk, s.heap.StaysIn h' → Q .next { s with heap := h', toks := tk }) :
    wpAny (model prog w) A (exec rdBad (rdEnv L)) Q No s := by
  unfold rdBad
  refine wpAny_If (isTrue_or (wpAny_isTrue_Compare1 (ev_name P h1 (ev_listL (spl_nil ⟨by decide, fun h₁ D k₁ hn₁ hD => ?_⟩)))))
  have P₁ := P.grow k₁
  refine ne_intsK (vs := []) (us := []) (stays_list P₁.st hwr) IntsAre.nil ⟨_, hD, rfl, _, rfl⟩ IntsAre.nil hu (truthy_b ?_)
  rw [show (!decide (([] : List Int) = [])) = false by decide, if_neg Bool.false_ne_true]
  have hlen : vs.length = 7 := by rw [ints_len hI, hp.length_eq]; rfl
  refine isTrue_or (wpAny_isTrue_Compare1 (ev_sorted P₁ hW (gl_sorted w) (ev_name P₁ h2 ⟨TR, vs, _, rfl, ⟨_, (P₁.mu _ htr).1, rfl, _, rfl⟩, hI, by omega, fun D₂ ws ns' e' h₂ tk₂ k₂ hn₂ hD₂ hi hperm hsort => ?_⟩)))
  refine ev_listL (wpAny_mono (spl_ints [(0, 0, _), (1, 0, _), (2, 0, _), (3, 0, _), (4, 0, _), (5, 0, _), (6, 0, _)] (Q := fun vs s' => IntsAre vs [0, 1, 2, 3, 4, 5, 6] ∧ ∃ tk, s' = { s with heap := h₂, toks := tk }) fun vs tk hi => ⟨hi, tk, rfl⟩) (fun us s₃ h₃ => ?_) fun _ _ e => e)
  obtain ⟨hi₃, tk₃, rfl⟩ := h₃
  refine ⟨by have := hi₃.length; simp at this; omega, fun h₃ D₃ k₃ hn₃ hD₃ => ?_⟩
  have he : ns' = [0, 1, 2, 3, 4, 5, 6] := sorted_unique (hperm.trans (hp.map Int.ofNat)) hsort (by decide)
  refine ne_intsK (vs := ws) (stays_list k₃ ⟨_, hD₂, rfl, _, rfl⟩) hi ⟨_, hD₃, rfl, _, rfl⟩ hi₃ hu (truthy_b ?_)
  rw [he, show (!decide (([0, 1, 2, 3, 4, 5, 6] : List Int) = [0, 1, 2, 3, 4, 5, 6])) = false by decide, if_neg Bool.false_ne_true]
  refine isTrue_or_nil ?_
  rw [if_neg Bool.false_ne_true]
  exact wpAny_execs_nil (h _ _ fun b o eb => k₃ b o (k₂ b o (k₁ b o eb)))

theorem perm7 {α : Type} (a b c x y z : α) (R : List α) : (a :: b :: c :: (R ++ [x, y, z])).Perm (b :: c :: z :: a :: x :: y :: R) :=
  (((List.perm_append_comm.cons c).cons b).cons a).trans ((List.perm_middle (l₁ := [a, b, c, x, y]) (a := z) (l₂ := R)).trans ((List.perm_middle (l₁ := [z, a, b]) (a := c) (l₂ := x :: y :: R)).trans (List.perm_middle (l₁ := [c, z, a]) (a := b) (l₂ := x :: y :: R))))

theorem rows_map {α : Type} {rows : List Row} (hl : rows.length = 7) (f : Row → α) (g : Nat → α) (h : ∀ k r, rows[k]? = some r → g k = f r) : (List.range 7).map g = rows.map f := by
  refine List.ext_getElem (by simp [hl]) fun i h1 h2 => ?_
  have hi : i < rows.length := by simpa using h2
  rw [List.getElem_map, List.getElem_map, List.getElem_range]
  exact h i _ (List.getElem?_eq_getElem hi)

def mkDF (rows : List Row) (W : Nat → Addr) (adj : Nat → List Nat) (TH SH TR WR CF L : Addr) : DF :=
  { T := fun k => ((rows[k]?).map Row.t).getD 0, TD := fun k => ((rows[k]?).map Row.td).getD 0, S := fun k => ((rows[k]?).map Row.s).getD 0, SD := fun k => ((rows[k]?).map Row.sd).getD 0, W := W, adj := adj, TH := TH, SH := SH, TR := TR, CF := CF, WR := WR,
    cTh := (L + 2 : Nat), cSh := (L + 1 : Nat), cWr := (L + 4 : Nat), cTr := (L + 3 : Nat) }

theorem new_of {B B' : Heap} {env : Env} {σ : Str → Option Value} {μ : List (Addr × Obj)} {h : Heap} (P : Pt B' env σ μ h) (k : B.StaysIn B') {a : Addr} (ha : h.get? a = none) (o : Obj) (h135 : (135, o) ∈ μ) : B.get? a = none ∧ a ≠ 135 :=
  ⟨none_of_stays k (P.fresh ha).2.1, fun q => by have := (P.mu _ h135).1; rw [← q, ha] at this; cases this⟩

theorem round_ctx {WAYS CU TH SH TR WR CF : Addr} {W : Nat → Addr} {adj : Nat → List Nat} {eT eS : Nat} {rows : List Row} {ps' : Array Value} {doc pm : Value} {c' : Addr} {ctv : Value} {h : Heap}
    (P : Pt B (rdEnv L) σ ((CU, lobj [] 0) :: (rowsL' TH SH eT eS rows ++ [(135, tabObj ps'), (TR, lobj [] 0), (WR, lobj [] 0)])) h) (hW : Wd (hd.heap_39 w.params) B)
    (hw : ∀ k, k < 7 → ∃ vs : List Value, B.IsList (W k) vs.toArray ∧ IntsAre vs ((adj k).map Int.ofNat)) (hadj : ∀ k, k < 7 → ∀ j ∈ adj k, j < 7) (hrl : rows.length = 7) (hrows : ∀ k r, rows[k]? = some r → RowOk B W CF k r)
    (hCF : B.get? CF = some (fnMade clName clQual clParams clBody clScope (rdCells L) doc pm c' ctv)) (hcr : B.CodeRec (.ref c') clQual) (hways : B.IsList WAYS ((List.range 7).map fun k => Value.ref (W k)).toArray)
    (s1 : σ "ways" = some (.ref WAYS)) (s2 : σ "things" = some (.ref TH)) (s3 : σ "shares" = some (.ref SH)) (s4 : σ "trail" = some (.ref TR)) (s5 : σ "wrong" = some (.ref WR)) (s6 : σ "cuts" = some (.ref CU)) :
    ∃ B₃, B.StaysIn B₃ ∧ RCtx w B₃ (mkDF rows W adj TH SH TR WR CF L) σ WAYS CU L ∧ ∃ ods, Pt B₃ (rdEnv L) σ ((CU, lobj [] 0) :: (135, tabObj ps') :: mutL (mkDF rows W adj TH SH TR WR CF L) ods [] 0) h ∧ Good (mkDF rows W adj TH SH TR WR CF L) (fun _ => false) [] ods [] := by
  have P₁ := P.perm (perm7 _ _ _ _ _ _ _)
  have nd := P₁.nd
  have hmu := P₁.mu
  have P₂ := P₁.sub (.cons _ (.cons _ (.cons _ (List.Sublist.refl _))))
  obtain ⟨B₃, kB, P₃, get⟩ := P₂.base
  rw [List.map_cons, List.nodup_cons, List.map_cons, List.nodup_cons, List.map_cons, List.nodup_cons] at nd
  obtain ⟨n1, n2, n3, n4⟩ := nd
  have bTH := get TH _ (hmu _ (.head _)).1 (hmu _ (.head _)).2.1 (fun hm => n1 (.tail _ (.tail _ hm)))
  have bSH := get SH _ (hmu _ (.tail _ (.head _))).1 (hmu _ (.tail _ (.head _))).2.1 (fun hm => n2 (.tail _ hm))
  have bWR := get WR _ (hmu _ (.tail _ (.tail _ (.head _)))).1 (hmu _ (.tail _ (.tail _ (.head _)))).2.1 n3
  generalize hd : mkDF rows W adj TH SH TR WR CF L = d at *
  have hr : ∀ k, k < 7 → ∃ r, rows[k]? = some r ∧ d.T k = r.t ∧ d.TD k = r.td ∧ d.S k = r.s ∧ d.SD k = r.sd := fun k hk => by
    have hk' : k < rows.length := by rw [hrl]; exact hk
    refine ⟨rows[k], List.getElem?_eq_getElem hk', ?_⟩
    rw [← hd]
    simp [mkDF, List.getElem?_eq_getElem hk']
  have hr' : ∀ k r, rows[k]? = some r → d.T k = r.t ∧ d.S k = r.s ∧ d.SD k = r.sd := fun k r e => by
    rw [← hd]
    simp [mkDF, e]
  let ods : Nat → Obj := fun k => ((rows[k]?).map Row.od).getD (dictOf [] 0)
  have ho : ∀ k r, rows[k]? = some r → ods k = r.od := fun k r e => by simp [ods, e]
  have e1 : mutL d ods [] 0 = (TR, lobj [] 0) :: rows.map fun r => (r.sd, r.od) := by
    unfold mutL
    rw [rows_map hrl (fun r => (r.sd, r.od)) (fun k => (d.SD k, ods k)) (fun k r e => by rw [(hr' k r e).2.2, ho k r e]), ← hd]
    rfl
  have P₄ : Pt B₃ (rdEnv L) σ ((CU, lobj [] 0) :: (135, tabObj ps') :: mutL d ods [] 0) h := by rw [e1]; exact P₃
  have hcl : d.clos = rdCells L := by rw [← hd]; rfl
  have hmuts : ∀ a ∈ d.muts, a ∉ vas (rdEnv L) ∧ B₃.get? a = none := fun a ha => by
    rw [← mutL_keys d ods [] 0] at ha
    obtain ⟨p, hp, rfl⟩ := List.mem_map.mp ha
    exact (P₄.mu p (.tail _ (.tail _ hp))).2
  have hcells : ∀ a ∈ d.cells, a ∈ vas (rdEnv L) := fun a ha => List.mem_cons_of_mem _ (cells_mem hcl a ha)
  have hndm : d.muts.Nodup := by
    have := P₄.nd
    rw [List.map_cons, List.map_cons, mutL_keys, List.nodup_cons, List.nodup_cons] at this
    exact this.2.2
  have hndc : d.cells.Nodup := by
    have := P₄.fm.nd
    rw [vas, List.nodup_cons] at this
    have e : d.cells = (rdEnv L).cells.map (·.2) := by show d.clos.map (·.2) = _; rw [hcl]; rfl
    rw [e]; exact this.2
  refine ⟨B₃, kB, ⟨⟨hW.up kB, fun k hk => ?_, fun k hk => ?_, fun k hk => ?_, ?_, ?_, ?_, ⟨doc, pm, c', ctv, ?_, ?_⟩, fun a ha => ?_, ?_⟩, hcl, ?_, ?_, s1, ?_, ?_, ?_, ?_, s6⟩, ods, P₄, fun k hk => ?_, IntsAre.nil⟩
  · obtain ⟨r, e, q1, q2, q3, q4⟩ := hr k hk
    obtain ⟨⟨a, od, φ, n, t, b, c⟩, _⟩ := hrows k r e
    rw [q1, q2]
    refine ⟨kB _ _ a, od, φ, n, t, kB _ _ b, c.1, c.2.1, ?_⟩
    rw [← hd]; exact c.2.2
  · obtain ⟨r, e, q1, q2, q3, q4⟩ := hr k hk
    rw [q3, q4]
    exact kB _ _ (hrows k r e).2.1
  · obtain ⟨vs, a, b⟩ := hw k hk
    rw [← hd]
    exact ⟨vs, stays_list kB a, b⟩
  · rw [← hd]; exact hadj
  · refine ⟨lobj (rows.map fun r => Value.ref r.t) eT, by rw [← hd]; exact bTH, rfl, eT, ?_⟩
    rw [rows_map hrl (fun r => Value.ref r.t) (fun k => Value.ref (d.T k)) (fun k r e => by rw [(hr' k r e).1])]
  · refine ⟨lobj (rows.map fun r => Value.ref r.s) eS, by rw [← hd]; exact bSH, rfl, eS, ?_⟩
    rw [rows_map hrl (fun r => Value.ref r.s) (fun k => Value.ref (d.S k)) (fun k r e => by rw [(hr' k r e).2.1])]
  · rw [hcl, ← hd]; exact kB _ _ hCF
  · obtain ⟨c₂, o, vs, t, q1, q2, q3⟩ := hcr
    exact ⟨c₂, o, vs, t, q1, kB _ _ q2, q3⟩
  · rcases List.mem_append.mp ha with ha | ha
    · exact (hmuts a ha).2
    · exact P₄.off a (hcells a ha)
  · exact List.nodup_append.mpr ⟨hndm, hndc, fun a ha b hb e => (hmuts a ha).1 (e ▸ hcells b hb)⟩
  · rw [← hd]; exact stays_list kB hways
  · rw [← hd]; exact ⟨_, bWR, rfl, _, rfl⟩
  · rw [← hd]; exact s2
  · rw [← hd]; exact s3
  · rw [← hd]; exact s4
  · rw [← hd]; exact s5
  · obtain ⟨r, e, q1, q2, q3, q4⟩ := hr k hk
    obtain ⟨_, _, φ, n, D, hn, g1, g2, g3, g4, g5, g6⟩ := hrows k r e
    refine ⟨φ, n, by rw [ho k r e]; exact D, hn, ?_, ?_, g3, ?_, g5, g6⟩
    · rw [q1]; exact g1
    · rw [← hd]; exact g2
    · rw [← hd]; exact g4

theorem round_tail {WAYS CU TH SH TR WR CF : Addr} {W : Nat → Addr} {adj : Nat → List Nat} {eT eS : Nat} {rows : List Row} {ps' : Array Value} {doc pm : Value} {c' : Addr} {ctv : Value} {B₀ : Heap} {ov : Value} {ord : List Nat} {fx : List Addr} {Pv : Nat → Value → Prop} {Q : Flow → Shared → Prop}
    (P : Pt B (rdEnv L) σ ((CU, lobj [] 0) :: (rowsL' TH SH eT eS rows ++ [(135, tabObj ps'), (TR, lobj [] 0), (WR, lobj [] 0)])) s.heap) (hW : Wd (hd.heap_39 w.params) B)
    (hw : ∀ k, k < 7 → ∃ vs : List Value, B.IsList (W k) vs.toArray ∧ IntsAre vs ((adj k).map Int.ofNat)) (hadj : ∀ k, k < 7 → ∀ j ∈ adj k, j < 7) (hrl : rows.length = 7) (hrows : ∀ k r, rows[k]? = some r → RowOk B W CF k r)
    (hCF : B.get? CF = some (fnMade clName clQual clParams clBody clScope (rdCells L) doc pm c' ctv)) (hcr : B.CodeRec (.ref c') clQual) (hways : B.IsList WAYS ((List.range 7).map fun k => Value.ref (W k)).toArray)
    (s1 : σ "ways" = some (.ref WAYS)) (s2 : σ "things" = some (.ref TH)) (s3 : σ "shares" = some (.ref SH)) (s4 : σ "trail" = some (.ref TR)) (s5 : σ "wrong" = some (.ref WR)) (s6 : σ "cuts" = some (.ref CU)) (s7 : σ "order" = some ov)
    (hB₀ : B₀.StaysIn B) (h135 : B₀.get? 135 = none) (hh : A.handled = none) (hroom : A.depth < 600) (hu : A.units + 64 < cLine) (hord : ∀ k ∈ ord, k < 7) (hol : ord.length ≤ 100) (hit : ∀ s' : Shared, B₀.StaysIn s'.heap → Iters prog w A ov fx ord.length Pv s') (hfx : ∀ b ∈ fx, ∃ o, B₀.get? b = some o)
    (hPv : ∀ i v, i < ord.length → Pv i v → ∃ k t, ord[i]? = some k ∧ v = .int (k : Nat) t) (hperm : (rst adj ord ord.length).2.Perm (List.range 7))
    (hQ : ∀ h' tk Tup vs cl, B.StaysIn h' → h'.get? 135 = some (tabObj ps') → h'.get? Tup = some { cls := .type "tuple", data := .seq #[.ref TR, .ref CU] } → (∃ e, h'.get? TR = some (lobj vs e)) → IntsAre vs ((rst adj ord ord.length).2.map Int.ofNat) → h'.IsList CU (List.map Value.ref cl).toArray → cl.length = ord.length →
      (∀ (j : Nat) c, cl[j]? = some c → CutOk B₀ h' c (rcut adj ord j)) → (∀ a ∈ [Tup, TR, CU], B₀.get? a = none ∧ a ≠ 135) → Q (.ret (.ref Tup)) { s with heap := h', toks := tk }) :
    wpAny (model prog w) A (execs [rdClose, rdCheck, rdBad, rdRet] (rdEnv L)) Q No s := by
  have nTR : B₀.get? TR = none ∧ TR ≠ 135 := by
    have P' := P.perm (perm7 _ _ _ _ _ _ _)
    have nd := P'.nd
    simp only [List.map_cons, List.nodup_cons] at nd
    exact ⟨none_of_stays hB₀ (P'.mu (TR, lobj [] 0) (.tail _ (.tail _ (.tail _ (.tail _ (.tail _ (.head _))))))).2.2, fun q => nd.2.2.2.2.1 (by rw [← q]; exact .head _)⟩
  have nCU : B₀.get? CU = none ∧ CU ≠ 135 := by
    have P' := P.perm (perm7 _ _ _ _ _ _ _)
    have nd := P'.nd
    simp only [List.map_cons, List.nodup_cons] at nd
    exact ⟨none_of_stays hB₀ (P'.mu (CU, lobj [] 0) (.tail _ (.tail _ (.tail _ (.head _))))).2.2, fun q => nd.2.2.2.1 (by rw [q]; exact .head _)⟩
  obtain ⟨B₃, kB₃, X, ods, P₁, hG⟩ := round_ctx (w := w) P hW hw hadj hrl hrows hCF hcr hways s1 s2 s3 s4 s5 s6
  have hB₀₃ : B₀.StaysIn B₃ := fun b o e => kB₃ b o (hB₀ b o e)
  refine wpAny_execs_cons (round_close X hB₀₃ h135 hh hroom s7 hord hol hit hfx hPv P₁ hG fun h' tk B' σ' cl eC ods' vs e kB' P' hcl hcut hG' hσ' => ?_)
  refine wpAny_execs_cons (round_check (s := { s with heap := h', toks := tk }) (pre := [(CU, lobj (cl.map Value.ref) eC), (135, tabObj ps')]) X hσ' hh hroom kB' P' hG' fun h'' tk' σ'' P'' hσ'' => ?_)
  refine wpAny_execs_cons (round_bad (s := { s with heap := h'', toks := tk' }) ((hW.up kB₃).up kB') P'' (stays_list kB' X.wr) (.tail _ (.tail _ (.head _))) hG'.2 hperm ((hσ'' "wrong" (by decide) (by decide)).trans X.s5) ((hσ'' "trail" (by decide) (by decide)).trans X.s4) hu fun h₃ tk₃ k₃ => ?_)
  have P₃ := P''.grow k₃
  unfold rdRet
  refine wpAny_execs_cons (wpAny_Return_some (ev_tupleL (spl_cons (ev_name P₃ ((hσ'' "trail" (by decide) (by decide)).trans X.s4) (spl_cons (ev_name P₃ ((hσ'' "cuts" (by decide) (by decide)).trans X.s6) (spl_nil ⟨(by show 2 ≤ 1000; decide), fun h₄ Tup k₄ hn₄ hTup => ?_⟩)))))))
  have P₄ := P₃.grow k₄
  have hBB' : B₀.StaysIn B' := fun b o e => kB' b o (hB₀₃ b o e)
  refine hQ h₄ tk₃ Tup vs cl (fun b o e => P₄.st b o (kB' b o (kB₃ b o e))) (P₄.mu _ (.tail _ (.head _))).1 hTup ⟨e, (P₄.mu _ (.tail _ (.tail _ (.head _)))).1⟩ hG'.2 ⟨_, (P₄.mu _ (.head _)).1, rfl, _, rfl⟩ hcl (fun j c hj => ?_) (fun a ha => ?_)
  · obtain ⟨⟨ws, a1, a2⟩, a3⟩ := hcut j c hj
    exact ⟨⟨ws, stays_list P₄.st a1, a2⟩, a3⟩
  · simp only [List.mem_cons, List.not_mem_nil, or_false] at ha
    rcases ha with rfl | rfl | rfl
    · exact new_of P₃ hBB' hn₄ _ (.tail _ (.head _))
    · exact nTR
    · exact nCU

theorem round_spec {WAYS : Addr} {W : Nat → Addr} {adj : Nat → List Nat} {ov : Value} {ord : List Nat} {fx : List Addr} {Pv : Nat → Value → Prop} {ps : Array Value}
    (hW : Wd (hd.heap_39 w.params) B) (T : Wt B) (C : CodeHd B 139 135) (kB : B.StaysIn s.heap) (h135 : B.get? 135 = none) (ho135 : s.heap.get? 135 = some (tabObj ps)) (hps : TabOk B ps) (hh : A.handled = none) (hroom : A.depth < 500) (hu : A.units + 100 < cLine)
    (hways : B.IsList WAYS ((List.range 7).map fun k => Value.ref (W k)).toArray) (hw : ∀ k, k < 7 → ∃ vs : List Value, B.IsList (W k) vs.toArray ∧ IntsAre vs ((adj k).map Int.ofNat)) (hadj : ∀ k, k < 7 → ∀ j ∈ adj k, j < 7)
    (hord : ∀ k ∈ ord, k < 7) (hol : ord.length ≤ 100) (hit : ∀ (A' : Around) (s' : Shared), A'.handled = none → B.StaysIn s'.heap → Iters prog w A' ov fx ord.length Pv s') (hfx : ∀ b ∈ fx, ∃ o, B.get? b = some o) (hPv : ∀ i v, i < ord.length → Pv i v → ∃ k t, ord[i]? = some k ∧ v = .int (k : Nat) t)
    (hperm : (rst adj ord ord.length).2.Perm (List.range 7)) :
    codeAny (model prog w) A (.call (.ref 140) ⟨[.ref WAYS, ov], []⟩) (fun r s' => ∃ h' tk Tup TR CU vs cl ps' c', r = .ok (.ret (.ref Tup)) ∧ s' = { s with heap := h', toks := tk } ∧ B.StaysIn h' ∧
      (h'.get? 135 = some (tabObj ps') ∧ TriplesOk ps'.toList ∧ codeAmong clPos ps'.toList = some (.ref c') ∧ h'.CodeRec (.ref c') clQual) ∧
      h'.get? Tup = some { cls := .type "tuple", data := .seq #[.ref TR, .ref CU] } ∧ (∃ e, h'.get? TR = some (lobj vs e)) ∧ IntsAre vs ((rst adj ord ord.length).2.map Int.ofNat) ∧ h'.IsList CU (List.map Value.ref cl).toArray ∧ cl.length = ord.length ∧
      (∀ (j : Nat) c, cl[j]? = some c → CutOk B h' c (rcut adj ord j)) ∧ ∀ a ∈ [Tup, TR, CU], B.get? a = none ∧ a ≠ 135) s := by
  refine' code_K (B := B) (μ := [(135, tabObj ps)]) (binds := [(("ways" : Str), Value.ref WAYS), ("order", ov)]) hW ?room ?ho ?hcd ?hbind ?st ?mu ?nd ?hok ?hbok ?h ?hco ?hgen ?hk
  case room => exact Nat.lt_of_lt_of_le (show A.depth < 900 by omega) (by decide)
  case ho => k_is
  case hcd => k_is
  case hbind => exact rfl
  case st => exact kB
  case mu =>
    intro p hp
    rw [List.mem_singleton.mp hp]
    exact ⟨ho135, h135⟩
  case nd => simp
  case hok => exact rfl
  case hbok => intro _; exact rfl
  case hco => exact rfl
  case hgen => exact rfl
  case hk => exact rfl
  case h =>
    intro L h₁ tk hL P k
    change Pt B (rdEnv L) _ _ _ at P
    have hA : (A.deeper (rdEnv L)).handled = none := hh
    have hAd : (A.deeper (rdEnv L)).depth < 600 := by simp only [Around.deeper]; omega
    have hAu : (A.deeper (rdEnv L)).units + 64 < cLine := by simp only [Around.deeper]; omega
    refine wpAny_execs_cons (wpAny_Assign_Name (ev_listL (spl_nil ⟨by decide, fun h₂ TH k₂ hn₂ hTH => ?_⟩)))
    refine st_var (P.addNew k₂ hTH hn₂) fun h₃ tk₃ P₃ _ => ?_
    refine wpAny_execs_cons (wpAny_Assign_Name (ev_listL (spl_nil ⟨by decide, fun h₄ SH k₄ hn₄ hSH => ?_⟩)))
    refine st_var (P₃.addNew k₄ hSH hn₄) fun h₅ tk₅ P₅ _ => ?_
    refine wpAny_execs_cons (wpAny_Assign_Name (ev_listL (spl_nil ⟨by decide, fun h₆ TR k₆ hn₆ hTR => ?_⟩)))
    refine st_var (P₅.addNew k₆ hTR hn₆) fun h₇ tk₇ P₇ _ => ?_
    refine wpAny_execs_cons (wpAny_Assign_Name (ev_listL (spl_nil ⟨by decide, fun h₈ WR k₈ hn₈ hWR => ?_⟩)))
    refine st_var (P₇.addNew k₈ hWR hn₈) fun h₉ tk₉ P₉ _ => ?_
    refine wpAny_execs_cons (round_def T C (P₉.perm (μ' := [(135, tabObj ps), (TH, lobj [] 0), (SH, lobj [] 0), (TR, lobj [] 0), (WR, lobj [] 0)]) ?perm1) hps fun h₁₀ tk₁₀ B₁ CF ps' doc pm c' ctv kB₁ P₁₀ hCF hcr ht hca => ?_)
    case perm1 => exact List.reverse_perm _ |>.symm
    refine wpAny_execs_cons (round_make (W := W) (WAYS := WAYS) (CF := CF) (hW.up kB₁) hA (Nat.lt_trans hAd (by decide)) (P₁₀.perm (μ' := rowsL' TH SH 0 0 [] ++ [(135, tabObj ps'), (TR, lobj [] 0), (WR, lobj [] 0)]) ?perm2) (stays_list kB₁ hways) rfl rfl rfl rfl fun h₁₁ tk₁₁ B₂ σ₂ rows eT eS kB₂ P₁₁ hrl hrows hσ₂ => ?_)
    case perm2 => exact (List.Perm.swap _ _ _).trans (List.Perm.cons _ (List.Perm.swap _ _ _))
    refine wpAny_execs_cons (wpAny_Assign_Name (ev_listL (spl_nil ⟨by decide, fun h₁₂ CU k₁₂ hn₁₂ hCU => ?_⟩)))
    refine st_var (P₁₁.addNew k₁₂ hCU hn₁₂) fun h₁₃ tk₁₃ P₁₃ _ => ?_
    have kB₂' : B.StaysIn B₂ := fun b o e => kB₂ b o (kB₁ b o e)
    refine round_tail (B₀ := B) (adj := adj) (ord := ord) (ov := ov) (CU := CU) P₁₃ (hW.up kB₂') (fun k hk => let ⟨vs, a, b⟩ := hw k hk; ⟨vs, stays_list kB₂' a, b⟩) hadj hrl hrows (kB₂ _ _ hCF) (let ⟨c₂, o, vs, t, q1, q2, q3⟩ := hcr; ⟨c₂, o, vs, t, q1, kB₂ _ _ q2, q3⟩) (stays_list kB₂' hways)
      (by exact (hσ₂ "ways" (by decide) (by decide)).trans rfl) (by exact (hσ₂ "things" (by decide) (by decide)).trans rfl) (by exact (hσ₂ "shares" (by decide) (by decide)).trans rfl) (by exact (hσ₂ "trail" (by decide) (by decide)).trans rfl) (by exact (hσ₂ "wrong" (by decide) (by decide)).trans rfl) rfl (by exact (hσ₂ "order" (by decide) (by decide)).trans rfl)
      kB₂' h135 hA hAd hAu hord hol (fun s' hs' => hit _ s' hA hs') hfx hPv hperm fun h' tk' Tup vs cl kf q1 q2 q3 q4 q5 q6 q7 q8 => ?_
    refine ⟨h', tk', Tup, TR, CU, vs, cl, ps', c', rfl, rfl, fun b o e => kf b o (kB₂' b o e), ⟨q1, ht, hca, ?_⟩, q2, q3, q4, q5, q6, q7, q8⟩
    obtain ⟨c₂, o, vs, t, q1, q2, q3⟩ := hcr
    exact ⟨c₂, o, vs, t, q1, kf _ _ (kB₂ _ _ q2), q3⟩
end
end Mine
end

section
namespace Mine
open PySem PySem.W PySem.Calls PyProof.Rows

def laScope : Scope := sScope laS
def laName : Str := sName laS
def la0 : Stmt := pick (sBody laS) 0
def la1 : Stmt := pick (sBody laS) 1
def la2 : Stmt := pick (sBody laS) 2
def la3 : Stmt := pick (sBody laS) 3
def la4 : Stmt := pick (sBody laS) 4
def la5 : Stmt := pick (sBody laS) 5
def la6 : Stmt := pick (sBody laS) 6
def la7 : Stmt := pick (sBody laS) 7
def la8 : Stmt := pick (sBody laS) 8
def la9 : Stmt := pick (sBody laS) 9
def la10 : Stmt := pick (sBody laS) 10
def la11 : Stmt := pick (sBody laS) 11
def la12 : Stmt := pick (sBody laS) 12
end Mine
end

section
namespace Mine
open PySem PySem.W PySem.Calls PyProof.Rows

abbrev laEnv (cd : Value) (f L : Addr) : Env := fEnv laName laScope [] cd f L

structure TP where
  T : Addr
  a : Nat
  b : Nat
  t : Tok
  u : Tok
def TP.o (t : TP) : Addr × Obj := (t.T, { cls := .type "tuple", data := .seq #[Value.int (t.a : Nat) t.t, Value.int (t.b : Nat) t.u] })
def vals (ts : List TP) : List Value := ts.map fun t => Value.ref t.T
def prs (ts : List TP) : List (Nat × Nat) := ts.map fun t => (t.a, t.b)

theorem isTup_of {h : Heap} {t : TP} (e : h.get? t.o.1 = some t.o.2) : h.IsTuple t.T #[Value.int (t.a : Nat) t.t, Value.int (t.b : Nat) t.u] := ⟨_, e, rfl, _, rfl⟩

theorem pairs_app {h : Heap} {vs : List Value} {ps : List (Nat × Nat)} {ts : List TP} (hl : vs.length = ps.length) (hp : ∀ (i : Nat) (p : Nat × Nat), ps[i]? = some p → ∃ (T : Addr) (t1 t2 : Tok), vs[i]? = some (Value.ref T) ∧ h.IsTuple T #[Value.int (p.1 : Nat) t1, Value.int (p.2 : Nat) t2])
    (ht : ∀ t ∈ ts, h.get? t.o.1 = some t.o.2) : ∀ (i : Nat) (p : Nat × Nat), (ps ++ prs ts)[i]? = some p → ∃ (T : Addr) (t1 t2 : Tok), (vs ++ vals ts)[i]? = some (Value.ref T) ∧ h.IsTuple T #[Value.int (p.1 : Nat) t1, Value.int (p.2 : Nat) t2] := by
  intro i p e
  rw [List.getElem?_append] at e ⊢
  rw [hl]
  split at e
  · rename_i hi
    rw [if_pos hi]
    exact hp i p e
  · rename_i hi
    rw [if_neg hi]
    unfold prs at e
    unfold vals
    rw [List.getElem?_map] at e ⊢
    obtain ⟨t, et, e2⟩ := Option.map_eq_some_iff.mp e
    rw [et]
    subst e2
    exact ⟨t.T, t.t, t.u, rfl, isTup_of (ht t (List.mem_of_getElem? et))⟩

inductive TE : List Expr → List (Nat × Nat) → Prop
  | nil : TE [] []
  | cons {r : List Expr} {ps : List (Nat × Nat)} (a b : Nat) {i j : Int} (hi : i = (a : Int)) (hj : j = (b : Int)) {k1 : Nat} {p1 : Pos} {k2 : Nat} {p2 : Pos} {kk : Nat} {p : Pos} : TE r ps →
    TE (Expr.Tuple [.Constant (.int i) k1 p1, .Constant (.int j) k2 p2] kk p :: r) ((a, b) :: ps)

section
variable {w : World} {prog : Program} {A : Around} {s : Shared} {B : Heap} {σ : Str → Option Value} {μ : List (Addr × Obj)} {env : Env} {cd : Value} {f L : Addr}

theorem spl_tups {E : Value → Shared → Prop} {es : List Expr} {ps : List (Nat × Nat)} (H : TE es ps) {Q : List Value → Shared → Prop} {s : Shared}
    (h : ∀ ts h' tk, prs ts = ps → s.heap.StaysIn h' → (∀ t ∈ ts, h'.get? t.o.1 = some t.o.2 ∧ s.heap.get? t.o.1 = none) → Q (vals ts) { s with heap := h', toks := tk }) :
    wpAny (model prog w) A (spl es env) Q E s := by
  induction H generalizing Q s with
  | nil => exact spl_nil (h [] s.heap s.toks rfl (fun _ _ e => e) (fun _ h => nomatch h))
  | @cons r ps a b i j hi hj k1 p1 k2 p2 kk p H ih =>
    subst hi hj
    refine spl_cons (ev_tupleL (spl_cons (ev_int (spl_cons (ev_int (spl_nil ⟨by show 2 ≤ 1000; decide, fun h₁ T k₁ hn hT => ?_⟩))))) rfl)
    refine ih fun ts h' tk hp k ht => ?_
    refine h (⟨T, a, b, s.toks, s.toks + 1⟩ :: ts) h' tk ?_ (fun b o e => k b o (k₁ b o e)) ?_
    · unfold prs at hp ⊢; rw [List.map_cons, hp]
    · intro t hm
      rcases List.mem_cons.mp hm with rfl | hm
      · exact ⟨k _ _ hT, hn⟩
      · exact ⟨(ht t hm).1, none_of_stays k₁ (ht t hm).2⟩

def ps0 : List (Nat × Nat) := [(0, 1), (1, 2), (2, 0), (2, 3), (3, 4), (4, 3), (5, 4)]

theorem law0 {Q : Flow → Shared → Prop} (P : Pt B (laEnv cd f L) σ μ s.heap)
    (h : ∀ h' tk B' P0, B.StaysIn B' → PairsAt B' P0 ps0 → Pt B' (laEnv cd f L) (upd σ "pairs" (.ref P0)) μ h' → Q .next { s with heap := h', toks := tk }) :
    wpAny (model prog w) A (exec la0 (laEnv cd f L)) Q No s := by
  unfold la0
  refine wpAny_Assign_Name ?_
  refine ev_listL ?_
  generalize hes : ([Expr.Tuple _ _ _, _, _, _, _, _, _] : List Expr) = es
  have H : TE es ps0 := by
    rw [← hes]
    exact .cons 0 1 rfl rfl (.cons 1 2 rfl rfl (.cons 2 0 rfl rfl (.cons 2 3 rfl rfl (.cons 3 4 rfl rfl (.cons 4 3 rfl rfl (.cons 5 4 rfl rfl .nil))))))
  refine wpAny_mono (spl_tups H (Q := fun vs s' => ∃ ts h' tk, vs = vals ts ∧ prs ts = ps0 ∧ s' = { s with heap := h', toks := tk } ∧ s.heap.StaysIn h' ∧ ∀ t ∈ ts, h'.get? t.o.1 = some t.o.2 ∧ s.heap.get? t.o.1 = none) fun ts h' tk hp k ht => ⟨ts, h', tk, rfl, hp, rfl, k, ht⟩) (fun vs s₁ h₁ => ?_) fun _ _ e => e
  obtain ⟨ts, h₁, tk₁, rfl, hp, rfl, k₁, ht⟩ := h₁
  have hl : (vals ts).length = ps0.length := by rw [← hp]; simp [vals, prs]
  refine ⟨by rw [hl]; decide, fun h₂ D k₂ hn hD => ?_⟩
  have P₂ := P.grow (fun b o e => k₂ b o (k₁ b o e))
  obtain ⟨B', kB, P₃, get⟩ := P₂.base
  refine st_var P₃ fun h₃ tk₃ P₄ _ => h h₃ tk₃ B' D kB ⟨vals ts, ?_, hl, fun i p e => ?_⟩ P₄
  · have fD := P.fresh (none_of_stays k₁ hn)
    exact ⟨_, get D _ hD fD.1 fD.2.2, rfl, _, rfl⟩
  · have := pairs_app (h := B') (vs := []) (ps := []) (ts := ts) rfl (fun i p e => by simp at e) (fun t hm => ?_) i p (by rw [List.nil_append, hp]; exact e)
    · simpa using this
    · have fT := P.fresh (ht t hm).2
      exact get _ _ (k₂ _ _ (ht t hm).1) fT.1 fT.2.2

def px (x : Int) : Nat × Nat := ((x.fmod 7).toNat, ((x.fdiv 7).fmod 7).toNat)
def psOf (script : List Int) : List (Nat × Nat) := (script.take 12).map px

theorem fm7 (x : Int) : ((x.fmod 7).toNat : Int) = x.fmod 7 := Int.toNat_of_nonneg (Int.fmod_nonneg_of_pos x (by decide))

theorem add_listW {E : Value → Shared → Prop} {l b : Addr} {vs ws : List Value} {Q : Value → Shared → Prop} (hl : s.heap.IsList l vs.toArray) (hb : s.heap.IsList b ws.toArray) (hz : vs.length + ws.length ≤ 1000)
    (h : ∀ h' D, s.heap.StaysIn h' → s.heap.get? D = none → h'.get? D = some (lobj (vs ++ ws) 0) → Q (.ref D) { s with heap := h' }) : wpAny (model prog w) A (binaryOp .Add (.ref l) (.ref b)) Q E s := by
  obtain ⟨⟨cls, dd, data, sl⟩, ho, hc, n, hd⟩ := id hl
  obtain ⟨⟨cls2, dd2, data2, sl2⟩, ho2, hc2, n2, hd2⟩ := id hb
  simp only at hc hd hc2 hd2
  subst hc hd hc2 hd2
  refine concat_meets ⟨_, ho, rfl⟩ ⟨_, ho2, rfl⟩ noFill_list_add seq_list_add PySem.F.slot_list_add PySem.F.entry_list_add (PySem.F.args_list_add_2 _ _) (list_addW l b vs.toArray ws.toArray n n2 dd dd2 sl sl2 (by rw [sizeLine_eq, List.size_toArray, List.size_toArray]; omega)) ⟨ho, ho2, ?_⟩
  have e : vs.toArray ++ ws.toArray = (vs ++ ws).toArray := by simp
  rw [e]
  exact h _ _ (fun _ _ e => Heap.get?_push_of_some _ e) (Heap.get?_none_of_le (Nat.le_refl _)) (Heap.get?_push_size _ rfl)

theorem law1 {SC P0 : Addr} {vs : List Value} {script : List Int} {ps : List (Nat × Nat)} {Q : Flow → Shared → Prop} (P : Pt B (laEnv cd f L) σ μ s.heap) (hh : A.handled = none) (hSC : B.IsList SC vs.toArray) (hI : IntsAre vs script) (hlen : script.length ≤ 63) (hps : PairsAt B P0 ps) (hpl : ps.length ≤ 20)
    (h1 : σ "script" = some (.ref SC)) (h2 : σ "pairs" = some (.ref P0))
    (h : ∀ h' tk B' P1, B.StaysIn B' → PairsAt B' P1 (ps ++ psOf script) → Pt B' (laEnv cd f L) (upd σ "pairs" (.ref P1)) μ h' → Q .next { s with heap := h', toks := tk }) :
    wpAny (model prog w) A (exec la1 (laEnv cd f L)) Q No s := by
  have hvl : vs.length = script.length := hI.length
  unfold la1
  refine wpAny_Assign_Name (wpAny_BinOp (ev_name P h2 (ev_comp (cl := []) (fun _ v σ => upd σ "x" v) (wpAny_Subscript_list_slice (ev_name P h1 (evalPart_none_step (evalPart_some_step (ev_int
    ⟨SC, vs.toArray, none, some 12, rfl, stays_list P.st hSC, by rw [sizeLine_eq, List.size_toArray]; omega, .none, .int _ _, ?_⟩))))) rfl (fun _ h => nomatch h))))
  generalize hD0 : s.heap.objs.size + 1 = D0
  have hD0n : s.heap.get? D0 = none := Heap.get?_none_of_le (by rw [← hD0]; exact Nat.le_succ _)
  have hpick : slicePick vs.toArray none (some 12) none = (vs.take 12).toArray := by
    have := slicePick_upto' vs.toArray 12
    simpa using this
  rw [hpick]
  have kpush : s.heap.StaysIn ((s.heap.push { cls := .type "slice", data := .fields #[.none, .int 12 s.toks, .none] }).push { cls := .type "list", data := .seq (vs.take 12).toArray }) := fun _ _ eb => Heap.get?_push_of_some _ (Heap.get?_push_of_some _ eb)
  have oD : ((s.heap.push { cls := .type "slice", data := .fields #[.none, .int 12 s.toks, .none] }).push { cls := .type "list", data := .seq (vs.take 12).toArray }).get? D0 = some (lobj (vs.take 12) 0) := by
    have := Heap.get?_push_size (s.heap.push { cls := .type "slice", data := .fields #[.none, .int 12 s.toks, .none] }) (o := { cls := .type "list", data := .seq (vs.take 12).toArray }) rfl
    rw [Heap.size_push, hD0] at this
    exact this
  have fD0 := P.fresh hD0n
  obtain ⟨B₁, kB, P₂, get⟩ := (P.grow kpush).base
  have bD0 := get D0 _ oD fD0.1 fD0.2.2
  have hI12 : IntsAre (vs.take 12) (script.take 12) := hI.take 12
  refine ⟨B₁, σ, μ, [D0], (vs.take 12).toArray.size, _, fun i ys ν => ∃ ts : List TP, ys = vals ts ∧ prs ts = ((script.take 12).take i).map px ∧ ν = (ts.map TP.o).reverse, iters_list hh ⟨_, oD, rfl, _, rfl⟩, P₂, ?alive, by rw [sizeLine_eq, List.size_toArray, List.length_take]; omega, ⟨[], rfl, rfl, rfl⟩, ?turn, ?done⟩
  case alive =>
    intro b hb
    rw [List.mem_singleton.mp hb]
    exact ⟨_, bD0⟩
  case turn =>
    intro i v hi hv
    obtain ⟨x, t, rfl, hx⟩ := IntsAre.at hI12 i v (by simpa using hv)
    refine ⟨takes_name rfl (fun _ => rfl), fun x u h => by (exfalso; unfold capt at h; simp at h), ?_⟩
    rintro ys ν C own s₂ ⟨ts, rfl, hp, rfl⟩ PC
    refine wpAny_tests_nil ⟨⟨s₂.heap, s₂.toks, rfl, fun _ _ e => e⟩, ?_⟩
    rw [if_pos rfl]
    refine ev_tupleL (spl_cons (wpAny_BinOp (ev_name PC rfl (ev_int (mod_int' (by decide) (spl_cons (wpAny_BinOp (wpAny_BinOp (ev_name PC rfl (ev_int (floordiv_int (by decide) (ev_int (mod_int' (by decide) (spl_nil ⟨by show 2 ≤ 1000; decide, fun h₁ T k₁ hn hT => ?_⟩))))))))))))))
    obtain ⟨t1, t2, hT'⟩ : ∃ t1 t2, h₁.get? T = some (TP.o ⟨T, (px x).1, (px x).2, t1, t2⟩).2 := ⟨_, _, by simp only [TP.o, px, fm7]; exact hT⟩
    exact ⟨⟨h₁, _, rfl, k₁⟩, [TP.o ⟨T, (px x).1, (px x).2, t1, t2⟩], fun p hp => by rw [List.mem_singleton.mp hp]; exact ⟨hT', hn⟩, List.nodup_cons.mpr ⟨List.not_mem_nil, List.nodup_nil⟩, ts ++ [⟨T, (px x).1, (px x).2, t1, t2⟩], by simp [vals], by
      unfold prs at hp ⊢
      rw [List.take_add_one, hx, List.map_append, List.map_append, hp]; rfl, by rw [List.map_append, List.reverse_append]; rfl⟩
  case done =>
    rintro D e ys ν h₁ tk₁ ⟨ts, rfl, hp, rfl⟩ P₃ k₃ hn₃
    obtain ⟨vs0, hl0, hn0, hp0⟩ := hps
    have hpt : prs ts = psOf script := by
      rw [hp, List.take_of_length_le (by rw [List.size_toArray, List.length_take, List.length_take, hvl]; omega)]; rfl
    have htl : ts.length ≤ 12 := by
      have : (prs ts).length = ts.length := by simp [prs]
      rw [← this, hpt]; unfold psOf; rw [List.length_map, List.length_take]; omega
    refine add_listW (vs := vs0) (ws := vals ts) (stays_list P₃.st (stays_list kB hl0)) ⟨_, (P₃.mu _ (.head _)).1, rfl, _, rfl⟩ (by rw [hn0, show (vals ts).length = ts.length by simp [vals]]; omega) fun h₂ D2 k₂ hn₂ hD₂ => ?_
    have P₄ : Pt B₁ (laEnv cd f L) σ μ h₂ := (P₃.grow k₂).sub (.cons _ (List.sublist_append_right _ _))
    obtain ⟨B₂, kB₂, P₅, get₂⟩ := P₄.base
    refine st_var P₅ fun h₃ tk₃ P₆ _ => h h₃ tk₃ B₂ D2 (fun b o eb => kB₂ b o (kB b o eb)) ⟨vs0 ++ vals ts, ?_, ?_, ?_⟩ P₆
    · have f2 := P₃.fresh hn₂
      exact ⟨_, get₂ D2 _ hD₂ f2.1 (fun hm => f2.2.2 (List.mem_cons_of_mem _ (by rw [List.map_append]; exact List.mem_append_right _ hm))), rfl, _, rfl⟩
    · rw [List.length_append, List.length_append, hn0, ← hpt]; simp [vals, prs]
    · rw [← hpt]
      refine pairs_app hn0 (fun i p ep => ?_) fun t ht => ?_
      · obtain ⟨T, t1, t2, a1, o, a2, a3⟩ := hp0 i p ep
        exact ⟨T, t1, t2, a1, o, kB₂ _ _ (kB _ _ a2), a3⟩
      · have hm : t.o ∈ (ts.map TP.o).reverse := List.mem_reverse.mpr (List.mem_map_of_mem ht)
        have q := P₃.mu t.o (.tail _ (List.mem_append_left _ hm))
        have fT := (P.grow kpush).fresh (hn₃ t.o (.tail _ hm))
        exact get₂ _ _ (k₂ _ _ q.1) fT.1 fT.2.2
end
end Mine
end

section
namespace Mine
open PySem PySem.W PySem.Calls PyProof.Rows

theorem warm14 : PySem.Challenge.rw_kl0456_01 = PySem.Challenge.rw_kl0456_01 ∧ hd.heap_39 = hd.heap_39 := by
  k_fill
  exact ⟨rfl, rfl⟩

theorem gl_reach (w : World) : nsIn (hd.heap_39 w.params) mainGlobals "_law_reach" = some (some (.ref 133)) := by k_is
theorem gl_round (w : World) : nsIn (hd.heap_39 w.params) mainGlobals "_law_round" = some (some (.ref 140)) := by k_is
theorem ke133 (w : World) : keepIn (hd.heap_39 w.params) (.ref 133) = true := by k_is
theorem ke140 (w : World) : keepIn (hd.heap_39 w.params) (.ref 140) = true := by k_is

/-- the base anew: what holds items lies in it -/
theorem Pt.baseSeq {B : Heap} {env : Env} {σ : Str → Option Value} {ps : Array Value} {h : Heap} (P : Pt B env σ [(135, tabObj ps)] h) :
    ∃ B', B.StaysIn B' ∧ Pt B' env σ [(135, tabObj ps)] h ∧ ∀ a o xs n, h.get? a = some o → o.data = .seq xs n → B'.get? a = some o := by
  obtain ⟨B', kB, P', get⟩ := P.base
  refine ⟨B', kB, P', fun a o xs n ho hd => get a o ho (fun hm => ?_) (fun hm => ?_)⟩
  · rcases List.mem_cons.mp hm with rfl | hm
    · obtain ⟨m, ⟨ob, es, ep, e1, e2, _⟩, _⟩ := P.vs.loc
      rw [ho] at e1; cases e1; rw [hd] at e2; cases e2
    · obtain ⟨⟨x, c⟩, hc, rfl⟩ := List.mem_map.mp hm
      obtain ⟨v₀, ⟨ob, e1, e2⟩, _⟩ := P.vs.cel x c hc
      rw [ho] at e1; cases e1; rw [hd] at e2; cases e2
  · simp only [List.map_cons, List.map_nil, List.mem_singleton] at hm
    have := (P.mu _ (.head _)).1
    subst hm
    rw [ho] at this; cases this; cases hd

theorem pairs_fun {h : Heap} {P : Addr} {ps : List (Nat × Nat)} (x : PairsAt h P ps) : ∃ (vs : List Value) (X Y : Nat → Value), h.IsList P vs.toArray ∧ vs.length = ps.length ∧
    ∀ (i : Nat) (p : Nat × Nat), ps[i]? = some p → ∃ (T : Addr) (t1 t2 : Tok), vs[i]? = some (Value.ref T) ∧ h.IsTuple T #[X i, Y i] ∧ X i = .int (p.1 : Nat) t1 ∧ Y i = .int (p.2 : Nat) t2 := by
  obtain ⟨vs, hl, hn, hp⟩ := x
  have : ∀ i : Nat, ∃ xy : Value × Value, ∀ p : Nat × Nat, ps[i]? = some p → ∃ (T : Addr) (t1 t2 : Tok), vs[i]? = some (Value.ref T) ∧ h.IsTuple T #[xy.1, xy.2] ∧ xy.1 = .int (p.1 : Nat) t1 ∧ xy.2 = .int (p.2 : Nat) t2 := fun i => by
    cases e : ps[i]? with
    | none => exact ⟨(.none, .none), fun p h => by cases h⟩
    | some q =>
      obtain ⟨T, t1, t2, a, b⟩ := hp i q e
      exact ⟨(.int (q.1 : Nat) t1, .int (q.2 : Nat) t2), fun p h => by cases h; exact ⟨T, t1, t2, a, b, rfl, rfl⟩⟩
  exact ⟨vs, fun i => (Classical.choose (this i)).1, fun i => (Classical.choose (this i)).2, hl, hn, fun i p e => Classical.choose_spec (this i) p e⟩

section
variable {w : World} {prog : Program} {A : Around} {s : Shared} {B : Heap} {σ : Str → Option Value} {μ : List (Addr × Obj)} {env : Env} {cd : Value} {f L : Addr} {tab : Array Value}

theorem law2 {P1 : Addr} {ps : List (Nat × Nat)} {Q : Flow → Shared → Prop} (hW : Wd (hd.heap_39 w.params) B) (P : Pt B (laEnv cd f L) σ [(135, tabObj tab)] s.heap) (hh : A.handled = none) (hroom : A.depth < 500) (hps : PairsAt B P1 ps) (hlt : ∀ p ∈ ps, p.1 < 7 ∧ p.2 < 7)
    (h1 : σ "pairs" = some (.ref P1))
    (h : ∀ h' tk B' R, B.StaysIn B' → IsMat B' R (reachF ps) → Pt B' (laEnv cd f L) (upd σ "reach" (.ref R)) [(135, tabObj tab)] h' → Q .next { s with heap := h', toks := tk }) :
    wpAny (model prog w) A (exec la2 (laEnv cd f L)) Q No s := by
  unfold la2
  refine wpAny_Assign_Name (wpAny_Call_NameR (ev_glob P hW (gl_reach w) (callWith_KL (ke133 w) (spl_cons (ev_name P h1 (spl_nil ⟨hW.X.keeps P.st, ?_⟩))))))
  have hps' : PairsAt s.heap P1 ps := by
    obtain ⟨vs, a, b, c⟩ := hps
    exact ⟨vs, stays_list P.st a, b, fun i p e => let ⟨T, t1, t2, d, o, e1, e2⟩ := c i p e; ⟨T, t1, t2, d, o, P.st _ _ e1, e2⟩⟩
  refine wpAny_call (codeAny_mono (reach_spec (hW.up P.st) (gl_range w) hh (by omega) hps' hlt) fun r s' hr => ?_)
  obtain ⟨R, h₁, tk₁, rfl, rfl, k₁, hn, hM⟩ := hr
  obtain ⟨B', kB, P', get⟩ := (P.grow k₁).baseSeq
  refine st_var P' fun h₂ tk₂ P₂ _ => h h₂ tk₂ B' R kB ?_ P₂
  obtain ⟨eR, rs, hl, hm⟩ := hM
  refine ⟨eR, rs, hl, fun p hp => ?_⟩
  have hp' := hm p hp
  rcases List.mem_cons.mp hp with rfl | hp
  · exact get _ _ _ _ hp' rfl
  · obtain ⟨i, q, _, rfl⟩ := row_of_mem hp
    exact get _ _ _ _ hp' rfl

/-- a list of numbers, made -/
structure WL where
  a : Addr
  vs : List Value
  e : Nat
def WL.o (r : WL) : Addr × Obj := (r.a, lobj r.vs r.e)
def wvals (ws : List WL) : List Value := ws.map fun r => Value.ref r.a

def adjF (ps : List (Nat × Nat)) (k : Nat) : List Nat := (ps.filter fun p => p.1 == k).map (·.2)
def adjB (ps : List (Nat × Nat)) (k : Nat) : List Nat := (ps.filter fun p => p.2 == k).map (·.1)

def WaysAt (h : Heap) (D : Addr) (adj : Nat → List Nat) : Prop := ∃ ws : List WL, ws.length = 7 ∧ (∀ (k : Nat) (r : WL), ws[k]? = some r → IntsAre r.vs ((adj k).map Int.ofNat)) ∧ h.IsList D (wvals ws).toArray ∧ ∀ r ∈ ws, h.get? r.o.1 = some r.o.2

/-- what a call of the round takes -/
theorem WaysAt.use {h : Heap} {D : Addr} {adj : Nat → List Nat} (x : WaysAt h D adj) : ∃ W : Nat → Addr, h.IsList D ((List.range 7).map fun k => Value.ref (W k)).toArray ∧ ∀ k, k < 7 → ∃ vs : List Value, h.IsList (W k) vs.toArray ∧ IntsAre vs ((adj k).map Int.ofNat) := by
  obtain ⟨ws, hl, hi, hD, hm⟩ := x
  refine ⟨fun k => ((ws[k]?).map WL.a).getD 0, ?_, fun k hk => ?_⟩
  · have : (List.range 7).map (fun k => Value.ref (((ws[k]?).map WL.a).getD 0)) = wvals ws := by
      unfold wvals
      refine List.ext_getElem (by simp [hl]) fun i h1 h2 => ?_
      have hi : i < ws.length := by simpa using h2
      simp [List.getElem?_eq_getElem hi]
    rw [this]; exact hD
  · have hk' : k < ws.length := by rw [hl]; exact hk
    have e := List.getElem?_eq_getElem hk'
    refine ⟨ws[k].vs, ?_, hi k _ e⟩
    show h.IsList ((Option.map WL.a ws[k]?).getD 0) ws[k].vs.toArray
    rw [e]
    exact ⟨_, hm _ (List.getElem_mem hk'), rfl, _, rfl⟩

theorem filter_take {ps : List (Nat × Nat)} {q : Nat × Nat → Bool} {i : Nat} {p : Nat × Nat} (h : ps[i]? = some p) : (ps.take (i + 1)).filter q = if q p = true then (ps.take i).filter q ++ [p] else (ps.take i).filter q := by
  rw [List.take_add_one, List.filter_append, h]
  by_cases hq : q p = true
  · simp [hq]
  · simp [hq]

theorem ev_waysF {P1 : Addr} {ps : List (Nat × Nat)} {pos pos1 pa pb pt pp p1 p2 p3 pe pk pr p7 prr : Pos} {k1 k2 : Nat} {Q : Value → Shared → Prop} (hW : Wd (hd.heap_39 w.params) B) (P : Pt B (laEnv cd f L) σ [(135, tabObj tab)] s.heap) (hh : A.handled = none) (hps : PairsAt B P1 ps) (hpl : ps.length ≤ 100)
    (h1 : σ "pairs" = some (.ref P1))
    (h : ∀ h' tk B' D, B.StaysIn B' → WaysAt B' D (adjF ps) → Pt B' (laEnv cd f L) σ [(135, tabObj tab)] h' → s.heap.StaysIn h' → Q (.ref D) { s with heap := h', toks := tk }) :
    wpAny (model prog w) A (eval (.ListComp (.ListComp (.Name "b" pe) [⟨.Tuple [.Name "a" pa, .Name "b" pb] k1 pt, .Name "pairs" pp, [.Compare (.Name "a" p1) [.Eq] [.Name "k" p2] p3], 0⟩]
      { kind := .function, names := [(".0", .local), ("a", .local), ("b", .local), ("k", .free)], isGenerator := false, isCoroutine := false } pos1) [⟨.Name "k" pk, .Call (.Name "range" pr) [.Constant (.int 7) k2 p7] [] prr, [], 0⟩]
      { kind := .function, names := [(".0", .local), ("k", .cell), ("pairs", .free)], isGenerator := false, isCoroutine := false } pos) (laEnv cd f L)) Q No s := by
  obtain ⟨vs, X, Y, hl, hn, hp⟩ := pairs_fun hps
  refine ev_comp (cl := [("pairs", (L + 1 : Nat))]) (fun _ v σ => upd σ "k" v) (ev_range P hW (gl_range w) (ev_int ⟨7, _, rfl, fun r h₂ tk₂ t u v k₂ hr₂ hR₂ => ?_⟩)) rfl (fun p hp => by rw [List.mem_singleton.mp hp]; exact .tail _ (.tail _ (.tail _ (.tail _ (.head _)))))
  refine ⟨B, σ, _, [], 7, _, fun i ys ν => ∃ ws : List WL, ws.length = i ∧ ys = wvals ws ∧ ν = (ws.map WL.o).reverse ∧ ∀ (k : Nat) (r : WL), ws[k]? = some r → IntsAre r.vs ((adjF ps k).map Int.ofNat), iters_range hh hR₂ (by decide), P.grow k₂, (fun _ h => nomatch h), by decide, ⟨[], rfl, rfl, rfl, fun k r h => by simp at h⟩, ?turn, ?done⟩
  case turn =>
    rintro i v hi ⟨t, rfl⟩
    refine ⟨takes_name rfl (fun _ => rfl), fun x u h => ?_, ?_⟩
    · unfold upd; rw [if_neg]; exact h
      rintro rfl; cases h
    rintro ys ν C own s₂ ⟨ws, hwl, rfl, rfl, hws⟩ PC
    refine wpAny_tests_nil ⟨⟨s₂.heap, s₂.toks, rfl, fun _ _ e => e⟩, ?_⟩
    rw [if_pos rfl]
    refine ev_comp (cl := [("k", (C + 1 : Nat))]) (fun i _ σ => upd (upd σ "a" (X i)) "b" (Y i)) (ev_name PC (v := .ref P1) (by exact h1) ?_) rfl (fun _ h => by rw [List.mem_singleton.mp h]; exact .head _)
    refine ⟨B, _, _, [P1], vs.toArray.size, _, fun i' ys ν => ν = [] ∧ IntsAre ys ((((ps.take i').filter fun p => p.1 == i).map (·.2)).map Int.ofNat), iters_list hh (stays_list PC.st hl), PC, ?alive, by rw [sizeLine_eq, List.size_toArray, hn]; omega, ⟨rfl, .nil⟩, ?turn2, ?done2⟩
    case alive =>
      intro b hb
      rw [List.mem_singleton.mp hb]
      obtain ⟨o, ho, _⟩ := hl
      exact ⟨o, ho⟩
    case turn2 =>
      intro j v hj hv
      have hj' : j < ps.length := by rw [← hn]; simpa using hj
      obtain ⟨T, t1, t2, hvT, hT, hX, hY⟩ := hp j _ (List.getElem?_eq_getElem hj')
      generalize hpj : ps[j] = p at *
      have hpj' : ps[j]? = some p := by rw [List.getElem?_eq_getElem hj', hpj]
      have hv' : vs[j]? = some v := by simpa using hv
      rw [hvT] at hv'
      cases hv'
      refine ⟨takes_pair hh hT rfl rfl (fun _ => rfl) (fun _ => rfl), fun x u h => ?_, ?_⟩
      · unfold upd
        rw [if_neg, if_neg]
        · exact h
        · rintro rfl; cases h
        · rintro rfl; cases h
      rintro ys ν C' own' s₄ ⟨rfl, hys⟩ PC'
      refine wpAny_tests_one (wpAny_isTrue_Compare1 (ev_name PC' (v := X j) rfl (ev_name PC' (v := .int (i : Nat) t) rfl ?_)))
      rw [hX]
      refine PySem.P.eq_int (truthy_b ⟨⟨s₄.heap, s₄.toks, rfl, fun _ _ e => e⟩, ?_⟩)
      by_cases hq : p.1 = i
      · rw [if_pos (by simp [hq])]
        refine ev_name PC' (v := Y j) rfl ⟨⟨s₄.heap, s₄.toks, rfl, fun _ _ e => e⟩, [], (fun _ h => nomatch h), List.nodup_nil, rfl, ?_⟩
        rw [filter_take hpj', if_pos (by simp [hq]), List.map_append, List.map_append, hY]
        exact IntsAre.append hys (.cons _ _ .nil)
      · rw [if_neg (by simp; omega)]
        refine ⟨rfl, ?_⟩
        rw [filter_take hpj', if_neg (by simp [hq])]
        exact hys
    case done2 =>
      rintro D e ys ν h₅ tk₅ ⟨rfl, hys⟩ P₅ k₅ hn₅
      refine ⟨⟨h₅, tk₅, rfl, k₅⟩, [WL.o ⟨D, ys, e⟩], fun p hp => ?_, List.nodup_cons.mpr ⟨List.not_mem_nil, List.nodup_nil⟩, ws ++ [⟨D, ys, e⟩], by simp [hwl], by simp [wvals], by rw [List.map_append, List.reverse_append]; rfl, fun k r hr => ?_⟩
      · rw [List.mem_singleton.mp hp]
        exact ⟨(P₅.mu _ List.mem_cons_self).1, hn₅ _ List.mem_cons_self⟩
      · rw [List.getElem?_append] at hr
        split at hr
        · exact hws k r hr
        · rename_i hge
          have hk0 : k = i := by
            rcases Nat.lt_or_ge (k - ws.length) 1 with q | q
            · omega
            · rw [List.getElem?_eq_none (by simpa using q)] at hr; cases hr
          subst hk0
          rw [hwl] at hr
          simp only [Nat.sub_self, List.getElem?_cons_zero, Option.some.injEq] at hr
          subst hr
          rw [List.take_of_length_le (by rw [List.size_toArray, hn]; omega)] at hys
          exact hys
  case done =>
    rintro D e ys ν h₃ tk₃ ⟨ws, hwl, rfl, rfl, hws⟩ P₃ k₃ hn₃
    have P₄ : Pt B (laEnv cd f L) σ [(135, tabObj tab)] h₃ := P₃.sub (.cons _ (List.sublist_append_right _ _))
    obtain ⟨B', kB, P₅, get⟩ := P₄.baseSeq
    refine h h₃ tk₃ B' D kB ⟨ws, hwl, hws, ⟨_, get _ _ _ _ (P₃.mu _ (.head _)).1 rfl, rfl, _, rfl⟩, fun r hr => get _ _ _ _ (P₃.mu r.o (.tail _ (List.mem_append_left _ (List.mem_reverse.mpr (List.mem_map_of_mem hr))))).1 rfl⟩ P₅ fun b o eb => k₃ b o (k₂ b o eb)
theorem ev_waysB {P1 : Addr} {ps : List (Nat × Nat)} {pos pos1 pa pb pt pp p1 p2 p3 pe pk pr p7 prr : Pos} {k1 k2 : Nat} {Q : Value → Shared → Prop} (hW : Wd (hd.heap_39 w.params) B) (P : Pt B (laEnv cd f L) σ [(135, tabObj tab)] s.heap) (hh : A.handled = none) (hps : PairsAt B P1 ps) (hpl : ps.length ≤ 100)
    (h1 : σ "pairs" = some (.ref P1))
    (h : ∀ h' tk B' D, B.StaysIn B' → WaysAt B' D (adjB ps) → Pt B' (laEnv cd f L) σ [(135, tabObj tab)] h' → s.heap.StaysIn h' → Q (.ref D) { s with heap := h', toks := tk }) :
    wpAny (model prog w) A (eval (.ListComp (.ListComp (.Name "a" pe) [⟨.Tuple [.Name "a" pa, .Name "b" pb] k1 pt, .Name "pairs" pp, [.Compare (.Name "b" p1) [.Eq] [.Name "k" p2] p3], 0⟩]
      { kind := .function, names := [(".0", .local), ("a", .local), ("b", .local), ("k", .free)], isGenerator := false, isCoroutine := false } pos1) [⟨.Name "k" pk, .Call (.Name "range" pr) [.Constant (.int 7) k2 p7] [] prr, [], 0⟩]
      { kind := .function, names := [(".0", .local), ("k", .cell), ("pairs", .free)], isGenerator := false, isCoroutine := false } pos) (laEnv cd f L)) Q No s := by
  obtain ⟨vs, X, Y, hl, hn, hp⟩ := pairs_fun hps
  refine ev_comp (cl := [("pairs", (L + 1 : Nat))]) (fun _ v σ => upd σ "k" v) (ev_range P hW (gl_range w) (ev_int ⟨7, _, rfl, fun r h₂ tk₂ t u v k₂ hr₂ hR₂ => ?_⟩)) rfl (fun p hp => by rw [List.mem_singleton.mp hp]; exact .tail _ (.tail _ (.tail _ (.tail _ (.head _)))))
  refine ⟨B, σ, _, [], 7, _, fun i ys ν => ∃ ws : List WL, ws.length = i ∧ ys = wvals ws ∧ ν = (ws.map WL.o).reverse ∧ ∀ (k : Nat) (r : WL), ws[k]? = some r → IntsAre r.vs ((adjB ps k).map Int.ofNat), iters_range hh hR₂ (by decide), P.grow k₂, (fun _ h => nomatch h), by decide, ⟨[], rfl, rfl, rfl, fun k r h => by simp at h⟩, ?turn, ?done⟩
  case turn =>
    rintro i v hi ⟨t, rfl⟩
    refine ⟨takes_name rfl (fun _ => rfl), fun x u h => ?_, ?_⟩
    · unfold upd; rw [if_neg]; exact h
      rintro rfl; cases h
    rintro ys ν C own s₂ ⟨ws, hwl, rfl, rfl, hws⟩ PC
    refine wpAny_tests_nil ⟨⟨s₂.heap, s₂.toks, rfl, fun _ _ e => e⟩, ?_⟩
    rw [if_pos rfl]
    refine ev_comp (cl := [("k", (C + 1 : Nat))]) (fun i _ σ => upd (upd σ "a" (X i)) "b" (Y i)) (ev_name PC (v := .ref P1) (by exact h1) ?_) rfl (fun _ h => by rw [List.mem_singleton.mp h]; exact .head _)
    refine ⟨B, _, _, [P1], vs.toArray.size, _, fun i' ys ν => ν = [] ∧ IntsAre ys ((((ps.take i').filter fun p => p.2 == i).map (·.1)).map Int.ofNat), iters_list hh (stays_list PC.st hl), PC, ?alive, by rw [sizeLine_eq, List.size_toArray, hn]; omega, ⟨rfl, .nil⟩, ?turn2, ?done2⟩
    case alive =>
      intro b hb
      rw [List.mem_singleton.mp hb]
      obtain ⟨o, ho, _⟩ := hl
      exact ⟨o, ho⟩
    case turn2 =>
      intro j v hj hv
      have hj' : j < ps.length := by rw [← hn]; simpa using hj
      obtain ⟨T, t1, t2, hvT, hT, hX, hY⟩ := hp j _ (List.getElem?_eq_getElem hj')
      generalize hpj : ps[j] = p at *
      have hpj' : ps[j]? = some p := by rw [List.getElem?_eq_getElem hj', hpj]
      have hv' : vs[j]? = some v := by simpa using hv
      rw [hvT] at hv'
      cases hv'
      refine ⟨takes_pair hh hT rfl rfl (fun _ => rfl) (fun _ => rfl), fun x u h => ?_, ?_⟩
      · unfold upd
        rw [if_neg, if_neg]
        · exact h
        · rintro rfl; cases h
        · rintro rfl; cases h
      rintro ys ν C' own' s₄ ⟨rfl, hys⟩ PC'
      refine wpAny_tests_one (wpAny_isTrue_Compare1 (ev_name PC' (v := Y j) rfl (ev_name PC' (v := .int (i : Nat) t) rfl ?_)))
      rw [hY]
      refine PySem.P.eq_int (truthy_b ⟨⟨s₄.heap, s₄.toks, rfl, fun _ _ e => e⟩, ?_⟩)
      by_cases hq : p.2 = i
      · rw [if_pos (by simp [hq])]
        refine ev_name PC' (v := X j) rfl ⟨⟨s₄.heap, s₄.toks, rfl, fun _ _ e => e⟩, [], (fun _ h => nomatch h), List.nodup_nil, rfl, ?_⟩
        rw [filter_take hpj', if_pos (by simp [hq]), List.map_append, List.map_append, hX]
        exact IntsAre.append hys (.cons _ _ .nil)
      · rw [if_neg (by simp; omega)]
        refine ⟨rfl, ?_⟩
        rw [filter_take hpj', if_neg (by simp [hq])]
        exact hys
    case done2 =>
      rintro D e ys ν h₅ tk₅ ⟨rfl, hys⟩ P₅ k₅ hn₅
      refine ⟨⟨h₅, tk₅, rfl, k₅⟩, [WL.o ⟨D, ys, e⟩], fun p hp => ?_, List.nodup_cons.mpr ⟨List.not_mem_nil, List.nodup_nil⟩, ws ++ [⟨D, ys, e⟩], by simp [hwl], by simp [wvals], by rw [List.map_append, List.reverse_append]; rfl, fun k r hr => ?_⟩
      · rw [List.mem_singleton.mp hp]
        exact ⟨(P₅.mu _ List.mem_cons_self).1, hn₅ _ List.mem_cons_self⟩
      · rw [List.getElem?_append] at hr
        split at hr
        · exact hws k r hr
        · rename_i hge
          have hk0 : k = i := by
            rcases Nat.lt_or_ge (k - ws.length) 1 with q | q
            · omega
            · rw [List.getElem?_eq_none (by simpa using q)] at hr; cases hr
          subst hk0
          rw [hwl] at hr
          simp only [Nat.sub_self, List.getElem?_cons_zero, Option.some.injEq] at hr
          subst hr
          rw [List.take_of_length_le (by rw [List.size_toArray, hn]; omega)] at hys
          exact hys
  case done =>
    rintro D e ys ν h₃ tk₃ ⟨ws, hwl, rfl, rfl, hws⟩ P₃ k₃ hn₃
    have P₄ : Pt B (laEnv cd f L) σ [(135, tabObj tab)] h₃ := P₃.sub (.cons _ (List.sublist_append_right _ _))
    obtain ⟨B', kB, P₅, get⟩ := P₄.baseSeq
    refine h h₃ tk₃ B' D kB ⟨ws, hwl, hws, ⟨_, get _ _ _ _ (P₃.mu _ (.head _)).1 rfl, rfl, _, rfl⟩, fun r hr => get _ _ _ _ (P₃.mu r.o (.tail _ (List.mem_append_left _ (List.mem_reverse.mpr (List.mem_map_of_mem hr))))).1 rfl⟩ P₅ fun b o eb => k₃ b o (k₂ b o eb)

structure LS (w : World) (B : Heap) (tab : Array Value) : Prop where
  wd : Wd (hd.heap_39 w.params) B
  wt : Wt B
  cd : CodeHd B 139 135
  tok : TabOk B tab

theorem LS.up {B B' : Heap} (S : LS w B tab) (k : B.StaysIn B') : LS w B' tab :=
  ⟨S.wd.up k, let ⟨p, l, m, a, b, T⟩ := S.wt; ⟨p, l, m, a, b, T.keeps k⟩, S.cd.keeps k, S.tok.1, S.tok.2.imp id fun ⟨c', a, c₂, o, vs, t, q1, q2, q3⟩ => ⟨c', a, c₂, o, vs, t, q1, k _ _ q2, q3⟩⟩

theorem law_call {D : Addr} {adj : Nat → List Nat} {ov : Value} {ord : List Nat} {fx : List Addr} {Pv : Nat → Value → Prop} {Q : Value → Shared → Prop} (S : LS w B tab) (P : Pt B (laEnv cd f L) σ [(135, tabObj tab)] s.heap) (hw : WaysAt B D adj) (hh : A.handled = none) (hroom : A.depth < 500) (hu : A.units + 100 < cLine)
    (hadj : ∀ k, k < 7 → ∀ j ∈ adj k, j < 7) (hord : ∀ k ∈ ord, k < 7) (hol : ord.length ≤ 100) (hit : ∀ (A' : Around) (s' : Shared), A'.handled = none → (hideAll s.heap [135]).StaysIn s'.heap → Iters prog w A' ov fx ord.length Pv s') (hfx : ∀ b ∈ fx, b ≠ 135 ∧ ∃ o, s.heap.get? b = some o)
    (hPv : ∀ i v, i < ord.length → Pv i v → ∃ k t, ord[i]? = some k ∧ v = .int (k : Nat) t) (hperm : (rst adj ord ord.length).2.Perm (List.range 7))
    (hQ : ∀ h' tk B' tab' Tup TR CU vs cl, B.StaysIn B' → LS w B' tab' → Pt B' (laEnv cd f L) σ [(135, tabObj tab')] h' → B'.IsTuple Tup #[.ref TR, .ref CU] → (∃ e, B'.get? TR = some (lobj vs e)) → IntsAre vs ((rst adj ord ord.length).2.map Int.ofNat) → B'.IsList CU (List.map Value.ref cl).toArray → cl.length = ord.length →
      (∀ (j : Nat) c, cl[j]? = some c → ∃ ws, B'.IsList c (List.toArray ws) ∧ IntsAre ws ((rcut adj ord j).map Int.ofNat)) → Q (.ref Tup) { s with heap := h', toks := tk }) :
    wpAny (model prog w) A (call (.ref 140) [.ref D, ov]) Q No s := by
  have h135 : B.get? 135 = none := (P.mu _ (.head _)).2.2
  have ho135 := (P.mu _ (.head _)).1
  have kBc : B.StaysIn (hideAll s.heap [135]) := fun b o e => hideAll_get _ (P.st b o e) fun hm => by
    rw [List.mem_singleton.mp hm, h135] at e; cases e
  have S' := S.up kBc
  obtain ⟨W, hW1, hW2⟩ := hw.use
  refine wpAny_call (codeAny_mono (round_spec (B := hideAll s.heap [135]) (ps := tab) (W := W) (adj := adj) (ord := ord) S'.wd S'.wt S'.cd (fun _ _ e => of_hideAll _ e) (hideAll_none _ (.head _)) ho135 S'.tok hh hroom hu (stays_list kBc hW1) (fun k hk => let ⟨vs, a, b⟩ := hW2 k hk; ⟨vs, stays_list kBc a, b⟩) hadj hord hol hit
    (fun b hb => let ⟨hne, o, ho⟩ := hfx b hb; ⟨o, hideAll_get _ ho fun hm => hne (List.mem_singleton.mp hm)⟩) hPv hperm) fun r s' hr => ?_)
  obtain ⟨h', tk, Tup, TR, CU, vs, cl, tab', c', rfl, rfl, kh, ⟨q1, q2, q3, q4⟩, q5, q6, q7, q8, q9, q10, _⟩ := hr
  have P₁ : Pt B (laEnv cd f L) σ [(135, tabObj tab')] h' := P.set (.head _) (fun b o hb e => kh b o (hideAll_get _ e fun hm => hb (List.mem_singleton.mp hm))) q1 (fun p hp => .inl (List.mem_singleton.mp hp)) (by simp)
  obtain ⟨B', kB', P₂, get⟩ := P₁.base
  have hdat : ∀ a o, h'.get? a = some o → a ∈ vas (laEnv cd f L) → (∃ es e, o.data = .dict es e) ∨ ∃ v, o.data = .cell v := fun a o ho hm => by
    rcases List.mem_cons.mp hm with rfl | hm
    · obtain ⟨m, ⟨ob, es, ep, e1, e2, _⟩, _⟩ := P₁.vs.loc
      rw [ho] at e1; cases e1; exact .inl ⟨_, _, e2⟩
    · obtain ⟨⟨x, c⟩, hc, rfl⟩ := List.mem_map.mp hm
      obtain ⟨v₀, ⟨ob, e1, e2⟩, _⟩ := P₁.vs.cel x c hc
      rw [ho] at e1; cases e1; exact .inr ⟨_, e2⟩
  have getS : ∀ a o xs n, h'.get? a = some o → o.data = .seq xs n → B'.get? a = some o := fun a o xs n ho hd => get a o ho (fun hm => by
      rcases hdat a o ho hm with ⟨es, e, q⟩ | ⟨v, q⟩ <;> rw [hd] at q <;> cases q) (fun hm => by
      simp only [List.map_cons, List.map_nil, List.mem_singleton] at hm
      subst hm; rw [ho] at q1; cases q1; cases hd)
  have getL : ∀ a its, h'.IsList a its → B'.IsList a its := fun a its ⟨o, e1, e2, n, e3⟩ => ⟨o, getS a o _ _ e1 e3, e2, n, e3⟩
  refine hQ h' tk B' tab' Tup TR CU vs cl kB' ⟨(S.up kB').wd, (S.up kB').wt, (S.up kB').cd, q2, .inr ⟨c', q3, ?_⟩⟩ P₂ ⟨_, getS _ _ _ _ q5 rfl, rfl, _, rfl⟩ (let ⟨e, he⟩ := q6; ⟨e, getS _ _ _ _ he rfl⟩) q7 (getL _ _ q8) q9 fun j c hj => let ⟨⟨ws, a1, a2⟩, _⟩ := q10 j c hj; ⟨ws, getL _ _ a1, a2⟩
  obtain ⟨c₂, o, ws, t, e1, e2, e3, e4⟩ := q4
  cases e1
  refine ⟨c', o, ws, t, rfl, get _ _ e2 (fun hm => ?_) (fun hm => ?_), e3, e4⟩
  · rcases hdat _ _ e2 hm with ⟨es, e, q⟩ | ⟨v, q⟩ <;> rw [e3] at q <;> cases q
  · simp only [List.map_cons, List.map_nil, List.mem_singleton] at hm
    rw [hm, q1] at e2
    cases e2
    cases e3
    exact triples_no_str q2 _ _ (by simpa using e4)
end
end Mine
end

section
namespace Mine
open PySem PySem.W PySem.Calls PyProof.Rows

section
variable {w : World} {prog : Program} {A : Around} {s : Shared} {B : Heap} {σ : Str → Option Value} {μ : List (Addr × Obj)} {env : Env} {cd : Value} {f L : Addr} {tab : Array Value}

/-- a list of lists of numbers -/
def CutsAt (h : Heap) (CU : Addr) (cuts : List (List Nat)) : Prop := ∃ cl : List Addr, h.IsList CU (cl.map Value.ref).toArray ∧ cl.length = cuts.length ∧ ∀ (j : Nat) (c : Addr) (l : List Nat), cl[j]? = some c → cuts[j]? = some l → ∃ ws : List Value, h.IsList c ws.toArray ∧ IntsAre ws (l.map Int.ofNat)
theorem CutsAt.up {h h' : Heap} {CU : Addr} {cuts : List (List Nat)} (x : CutsAt h CU cuts) (k : h.StaysIn h') : CutsAt h' CU cuts :=
  let ⟨cl, a, b, c⟩ := x; ⟨cl, stays_list k a, b, fun j d l e1 e2 => let ⟨ws, p, q⟩ := c j d l e1 e2; ⟨ws, stays_list k p, q⟩⟩
def IntsAt (h : Heap) (D : Addr) (l : List Nat) : Prop := ∃ (vs : List Value) (e : Nat), h.get? D = some (lobj vs e) ∧ IntsAre vs (l.map Int.ofNat)
theorem IntsAt.up {h h' : Heap} {D : Addr} {l : List Nat} (x : IntsAt h D l) (k : h.StaysIn h') : IntsAt h' D l := let ⟨vs, e, a, b⟩ := x; ⟨vs, e, k _ _ a, b⟩
theorem IntsAt.list {h : Heap} {D : Addr} {l : List Nat} (x : IntsAt h D l) : ∃ vs : List Value, h.IsList D vs.toArray ∧ IntsAre vs (l.map Int.ofNat) := let ⟨vs, e, a, b⟩ := x; ⟨vs, ⟨_, a, rfl, _, rfl⟩, b⟩
def cutsOf (adj : Nat → List Nat) (ord : List Nat) : List (List Nat) := (List.range ord.length).map (rcut adj ord)
theorem cuts_at {h : Heap} {CU : Addr} {adj : Nat → List Nat} {ord : List Nat} {cl : List Addr} (h1 : h.IsList CU (cl.map Value.ref).toArray) (h2 : cl.length = ord.length) (h3 : ∀ (j : Nat) c, cl[j]? = some c → ∃ ws, h.IsList c (List.toArray ws) ∧ IntsAre ws ((rcut adj ord j).map Int.ofNat)) : CutsAt h CU (cutsOf adj ord) :=
  ⟨cl, h1, by rw [h2]; simp [cutsOf], fun j c l e1 e2 => by
    have hj : j < ord.length := by
      rw [← h2]
      exact (List.getElem?_eq_some_iff.mp e1).1
    unfold cutsOf at e2
    rw [List.getElem?_map, List.getElem?_range hj] at e2
    cases e2
    exact h3 j c e1⟩

theorem law3 {P1 : Addr} {ps : List (Nat × Nat)} {Q : Flow → Shared → Prop} (S : LS w B tab) (P : Pt B (laEnv cd f L) σ [(135, tabObj tab)] s.heap) (hh : A.handled = none) (hroom : A.depth < 500) (hu : A.units + 100 < cLine) (hps : PairsAt B P1 ps) (hpl : ps.length ≤ 100) (hlt : ∀ p ∈ ps, p.1 < 7 ∧ p.2 < 7)
    (h1 : σ "pairs" = some (.ref P1)) (hperm : (rst (adjF ps) (List.range 7) 7).2.Perm (List.range 7))
    (h : ∀ h' tk B' tab' TR CU, B.StaysIn B' → LS w B' tab' → Pt B' (laEnv cd f L) (upd (upd σ "trail" (.ref TR)) "cuts" (.ref CU)) [(135, tabObj tab')] h' → IntsAt B' TR (rst (adjF ps) (List.range 7) 7).2 → CutsAt B' CU (cutsOf (adjF ps) (List.range 7)) → Q .next { s with heap := h', toks := tk }) :
    wpAny (model prog w) A (exec la3 (laEnv cd f L)) Q No s := by
  unfold la3
  refine Assign_Tuple (wpAny_Call_NameR (ev_glob P S.wd (gl_round w) (callWith_KL (ke140 w) (spl_cons (ev_waysF S.wd P hh hps hpl h1 fun h₁ tk₁ B₁ D kB₁ hD P₁ k₁ => ?_)))))
  refine spl_cons (ev_range (s := { s with heap := h₁, toks := tk₁ }) P₁ (S.wd.up kB₁) (gl_range w) (ev_int ⟨7, _, rfl, fun r h₂ tk₂ t u v k₂ hr₂ hR₂ => spl_nil ⟨(S.wd.up kB₁).X.keeps fun b o eb => k₂ b o (P₁.st b o eb), ?_⟩⟩))
  have hr135 : r ≠ 135 := fun q => by
    have := (P₁.mu _ (.head _)).1
    rw [← q] at this
    have h' : h₁.get? r = none := hr₂
    rw [h'] at this; cases this
  refine law_call (s := { s with heap := h₂, toks := tk₂ }) (adj := adjF ps) (ord := List.range 7) (fx := []) (Pv := fun i v => ∃ t, v = .int (i : Nat) t) (S.up kB₁) (P₁.grow k₂) hD hh hroom hu (fun k hk j hj => ?_) (fun k hk => List.mem_range.mp hk) (by decide)
    (fun A' s' hA' hs' => iters_range hA' (hs' r _ (hideAll_get _ hR₂ fun hm => hr135 (List.mem_singleton.mp hm))) (by decide)) (fun _ h => nomatch h) (fun i v hi ⟨t, e⟩ => ⟨i, t, List.getElem?_range (by simpa using hi), e⟩) hperm fun h' tk' B' tab' Tup TR CU vs cl kB' S' P' hTup hTR hI hCU hcl hcut => ?_
  · obtain ⟨p, hp, rfl⟩ := List.mem_map.mp hj
    exact (hlt p (List.mem_filter.mp hp).1).2
  · obtain ⟨o, e1, e2⟩ := hTup
    exact asg_pair (s := { s with heap := h', toks := tk' }) hh ⟨o, P'.st _ _ e1, e2⟩ P' fun h'' tk'' P'' => h h'' tk'' B' tab' TR CU (fun b o eb => kB' b o (kB₁ b o eb)) S' P'' (let ⟨e, he⟩ := hTR; ⟨vs, e, he, hI⟩) (cuts_at hCU hcl hcut)

/-- e[::-1] -/
theorem ev_rev {E : Value → Shared → Prop} {value : Expr} {p pos pu pc : Pos} {kc : Nat} {Q : Value → Shared → Prop}
    (h : wpAny (model prog w) A (eval value env) (fun o s₁ => ∃ (l : Addr) (vs : List Value), o = .ref l ∧ s₁.heap.IsList l vs.toArray ∧ vs.length ≤ 1000 ∧ ∀ h' D tk, s₁.heap.StaysIn h' → s₁.heap.get? D = none → h'.get? D = some (lobj vs.reverse 0) → Q (.ref D) { s₁ with heap := h', toks := tk }) E s)
    (ht : ∀ o r, letTemporaryGo value o r = pure () := by intro _ _; rfl) :
    wpAny (model prog w) A (eval (.Subscript value (.Slice none none (some (.UnaryOp .USub (.Constant (.int 1) kc pc) pu)) p) pos) env) Q E s := by
  refine wpAny_Subscript_Slice_step (T := "list") list_getitem_lookup (wpAny_mono h (fun o s₁ h₁ => ?_) fun _ _ e => e) ht
  obtain ⟨l, vs, rfl, hl, hz, hQ⟩ := h₁
  refine wpAny_Slice (evalPart_none_step (evalPart_none_step (evalPart_some_step (wpAny_UnaryOp (ev_int (PySem.P.neg_int ?_))))))
  refine ⟨(hl.push _).typeIs, wpAny_getItem_list_slice (st := some (-1)) (hl.push _) (Heap.IsSliceOf.new ..) .none .none (.int _ _) (by decide) ?_ (by rw [sizeLine_eq, List.size_toArray]; omega)⟩
  rw [krv_pick]
  refine hQ _ _ _ (fun b o eb => Heap.get?_push_of_some _ (Heap.get?_push_of_some _ eb)) (Heap.get?_none_of_le ?_) (Heap.get?_push_size _ rfl)
  show s₁.heap.objs.size ≤ (s₁.heap.push _).objs.size
  rw [Heap.size_push]; exact Nat.le_succ _

/-- if x == []: return False, x not empty -/
theorem law_ne {n : Str} {p1 p2 p3 p4 p5 p6 : Pos} {kb : Nat} {D : Addr} {l : List Nat} {Q : Flow → Shared → Prop} (P : Pt B env σ μ s.heap) (hσ : σ n = some (.ref D)) (hD : IntsAt B D l) (hne : l ≠ []) (hu : A.units + 100 < cLine) (h : ∀ h' tk, s.heap.StaysIn h' → Q .next { s with heap := h', toks := tk })
    (hok : okVar env n = true := by rfl) (hd : (n == ("__debug__" : Str)) = false := by decide) (hse : backTo p3 (starEach [] env) = ([] : List Expr).map fun e => (false, eval e env) := by rfl) :
    wpAny (model prog w) A (exec (.If (.Compare (.Name n p1) [.Eq] [.List [] p3] p2) [.Return (some (.Constant (.bool false) kb p4)) p5] [] p6) env) Q No s := by
  obtain ⟨vs, hl, hI⟩ := hD.list
  refine wpAny_If (wpAny_isTrue_Compare1 (ev_name P hσ (ev_listL (spl_nil ⟨by decide, fun h₁ E k₁ hn hE => ?_⟩) hse) hok hd))
  refine eq_intsK (us := []) (stays_list k₁ (stays_list P.st hl)) hI ⟨_, hE, rfl, _, rfl⟩ .nil (by omega) (truthy_b ?_)
  rw [show decide (l.map Int.ofNat = []) = false by simpa using hne, if_neg Bool.false_ne_true]
  exact wpAny_execs_nil (h _ _ k₁)

theorem law4 {TR : Addr} {l : List Nat} {Q : Flow → Shared → Prop} (P : Pt B (laEnv cd f L) σ μ s.heap) (hσ : σ "trail" = some (.ref TR)) (hD : IntsAt B TR l) (hne : l ≠ []) (hu : A.units + 100 < cLine) (h : ∀ h' tk, s.heap.StaysIn h' → Q .next { s with heap := h', toks := tk }) :
    wpAny (model prog w) A (exec la4 (laEnv cd f L)) Q No s := law_ne P hσ hD hne hu h
theorem law9 {TR : Addr} {l : List Nat} {Q : Flow → Shared → Prop} (P : Pt B (laEnv cd f L) σ μ s.heap) (hσ : σ "again" = some (.ref TR)) (hD : IntsAt B TR l) (hne : l ≠ []) (hu : A.units + 100 < cLine) (h : ∀ h' tk, s.heap.StaysIn h' → Q .next { s with heap := h', toks := tk }) :
    wpAny (model prog w) A (exec la9 (laEnv cd f L)) Q No s := law_ne P hσ hD hne hu h

theorem law5 {Q : Flow → Shared → Prop} (P : Pt B (laEnv cd f L) σ [(135, tabObj tab)] s.heap)
    (h : ∀ h' tk B' D, B.StaysIn B' → IntsAt B' D [] → Pt B' (laEnv cd f L) (upd σ "seen" (.ref D)) [(135, tabObj tab)] h' → Q .next { s with heap := h', toks := tk }) :
    wpAny (model prog w) A (exec la5 (laEnv cd f L)) Q No s := by
  unfold la5
  refine wpAny_Assign_Name (ev_listL (spl_nil ⟨by decide, fun h₁ D k₁ hn hD => ?_⟩))
  obtain ⟨B', kB, P', get⟩ := (P.grow k₁).baseSeq
  exact st_var P' fun h₂ tk₂ P₂ _ => h h₂ tk₂ B' D kB ⟨[], 0, get _ _ _ _ hD rfl, .nil⟩ P₂

theorem law8 {P1 TR : Addr} {ps : List (Nat × Nat)} {tr : List Nat} {Q : Flow → Shared → Prop} (S : LS w B tab) (P : Pt B (laEnv cd f L) σ [(135, tabObj tab)] s.heap) (hh : A.handled = none) (hroom : A.depth < 500) (hu : A.units + 100 < cLine) (hps : PairsAt B P1 ps) (hpl : ps.length ≤ 100) (hlt : ∀ p ∈ ps, p.1 < 7 ∧ p.2 < 7)
    (h1 : σ "pairs" = some (.ref P1)) (h2 : σ "trail" = some (.ref TR)) (hTR : IntsAt B TR tr) (htp : tr.Perm (List.range 7)) (hperm : (rst (adjB ps) tr.reverse tr.reverse.length).2.Perm (List.range 7))
    (h : ∀ h' tk B' tab' AG PA, B.StaysIn B' → LS w B' tab' → Pt B' (laEnv cd f L) (upd (upd σ "again" (.ref AG)) "parts" (.ref PA)) [(135, tabObj tab')] h' → IntsAt B' AG (rst (adjB ps) tr.reverse tr.reverse.length).2 → CutsAt B' PA (cutsOf (adjB ps) tr.reverse) → Q .next { s with heap := h', toks := tk }) :
    wpAny (model prog w) A (exec la8 (laEnv cd f L)) Q No s := by
  have htl : tr.length = 7 := by rw [htp.length_eq]; rfl
  obtain ⟨vs, hl, hI⟩ := hTR.list
  have hvl := ints_len hI
  unfold la8
  refine Assign_Tuple (wpAny_Call_NameR (ev_glob P S.wd (gl_round w) (callWith_KL (ke140 w) (spl_cons (ev_waysB S.wd P hh hps hpl h1 fun h₁ tk₁ B₁ D kB₁ hD P₁ k₁ => ?_)))))
  refine spl_cons (ev_rev (ev_name (s := { s with heap := h₁, toks := tk₁ }) P₁ h2 ⟨TR, vs, rfl, stays_list P₁.st (stays_list kB₁ hl), by omega, fun h₂ O tk₂ k₂ hn₂ hO => ?_⟩))
  refine spl_nil ⟨(S.wd.up kB₁).X.keeps fun b o eb => k₂ b o (P₁.st b o eb), ?_⟩
  have hO135 : O ≠ 135 := fun q => by
    have := (P₁.mu _ (.head _)).1
    have h' : h₁.get? O = none := hn₂
    rw [← q, h'] at this; cases this
  have hIr : IntsAre vs.reverse (tr.reverse.map Int.ofNat) := by rw [List.map_reverse]; exact PyProof.Rows.IntsAre.reverse hI
  refine law_call (s := { s with heap := h₂, toks := tk₂ }) (adj := adjB ps) (ord := tr.reverse) (fx := [O]) (Pv := fun i v => vs.reverse.toArray[i]? = some v) (S.up kB₁) (P₁.grow k₂) hD hh hroom hu (fun k hk j hj => ?_) (fun k hk => List.mem_range.mp (htp.subset (List.mem_reverse.mp hk))) (by rw [List.length_reverse]; omega)
    (fun A' s' hA' hs' => ?_) (fun b hb => ?_) (fun i v hi hv => ?_) hperm fun h' tk' B' tab' Tup AG PA us cl kB' S' P' hTup hTR hI' hCU hcl hcut => ?_
  · obtain ⟨p, hp, rfl⟩ := List.mem_map.mp hj
    exact (hlt p (List.mem_filter.mp hp).1).1
  · have hz : vs.reverse.toArray.size = tr.reverse.length := by simp [hvl]
    rw [← hz]
    exact iters_list hA' ⟨_, hs' O _ (hideAll_get _ hO fun hm => hO135 (List.mem_singleton.mp hm)), rfl, _, rfl⟩
  · rw [List.mem_singleton.mp hb]
    exact ⟨hO135, _, hO⟩
  · obtain ⟨k, t, e1, e2⟩ := ints_at hIr (i := i) (v := v) (by simpa using hv)
    exact ⟨k, t, e1, e2⟩
  · obtain ⟨o, e1, e2⟩ := hTup
    exact asg_pair (s := { s with heap := h', toks := tk' }) hh ⟨o, P'.st _ _ e1, e2⟩ P' fun h'' tk'' P'' => h h'' tk'' B' tab' AG PA (fun b o eb => kB' b o (kB₁ b o eb)) S' P'' (let ⟨e, he⟩ := hTR; ⟨us, e, he, hI'⟩) (cuts_at hCU hcl hcut)
end
end Mine
end

section
namespace Mine
open PySem PySem.W PySem.Calls PyProof.Rows

def seenL (R : Nat → Nat → Bool) : Nat → List Nat
  | 0 => []
  | k + 1 => seenL R k ++ (List.range 7).filter fun b => R k b && !((seenL R k).contains b)
def newL (R : Nat → Nat → Bool) (k : Nat) : List Nat := (List.range 7).filter fun b => R k b && !((seenL R k).contains b)

theorem seenL_len (R : Nat → Nat → Bool) : ∀ k, (seenL R k).length ≤ 7 * k
  | 0 => Nat.le_refl _
  | k + 1 => by
    unfold seenL
    rw [List.length_append]
    have h1 := seenL_len R k
    have h2 := List.length_filter_le (fun b => R k b && !((seenL R k).contains b)) (List.range 7)
    rw [List.length_range] at h2
    omega

theorem any_int {l : List Nat} {b : Nat} : ((l.map Int.ofNat).any (· == (b : Int))) = l.contains b := by
  induction l with
  | nil => rfl
  | cons x r ih =>
    rw [List.map_cons, List.any_cons, ih, List.contains_cons]
    congr 1
    rw [Bool.eq_iff_iff, beq_iff_eq, beq_iff_eq]
    exact ⟨fun h => (Int.ofNat.inj h).symm, fun h => by rw [h]; rfl⟩

theorem pw_filter (q : Nat → Bool) (n : Nat) : (((List.range n).filter q).map Int.ofNat).Pairwise (· ≤ ·) := by
  rw [List.pairwise_map]
  refine List.Pairwise.filter _ ?_
  exact (List.pairwise_lt_range (n := n)).imp fun h => by simp; omega


section
variable {w : World} {prog : Program} {A : Around} {s : Shared} {B : Heap} {σ : Str → Option Value} {μ : List (Addr × Obj)} {env : Env} {cd : Value} {f L : Addr} {tab : Array Value}

theorem filter_range {q : Nat → Bool} {i : Nat} : (List.range (i + 1)).filter q = if q i = true then (List.range i).filter q ++ [i] else (List.range i).filter q := by
  rw [List.range_succ, List.filter_append]
  by_cases hq : q i = true
  · simp [hq]
  · simp [hq]

theorem ev_last {E : Value → Shared → Prop} {value : Expr} {pos pu pc : Pos} {kc : Nat} {Q : Value → Shared → Prop}
    (h : wpAny (model prog w) A (eval value env) (fun o s₁ => ∃ (l : Addr) (vs : List Value) (x : Value), o = .ref l ∧ s₁.heap.IsList l vs.toArray ∧ vs.getLast? = some x ∧ vs.length < 1000000 ∧ ∀ tk, Q x { s₁ with toks := tk }) E s)
    (hs : ∀ l k t, subscripted (.UnaryOp .USub (.Constant (.int 1) kc pc) pu) false (.ref l) (.int k t) = operate [.ref l, .int k t] (getItem (.ref l) (.int k t)) := by intros; rfl) :
    wpAny (model prog w) A (eval (.Subscript value (.UnaryOp .USub (.Constant (.int 1) kc pc) pu) pos) env) Q E s := by
  refine Subscript_ (wpAny_mono h (fun o s₁ h₁ => wpAny_UnaryOp (ev_int (PySem.P.neg_int ?_))) fun _ _ e => e)
  obtain ⟨l, vs, x, rfl, hl, hx, hz, hq⟩ := h₁
  have hne : vs ≠ [] := fun q => by rw [q] at hx; cases hx
  have hp : 0 < vs.length := List.length_pos_iff.mpr hne
  refine tail_any (s := { s₁ with toks := s₁.toks + 1 + 1 }) hl.typeIs slot_list_getitem.lookup (wpAny_getItem_list_neg hl (by decide) (by rw [List.size_toArray]; omega) (by decide) ?_ (hq _)) (hs _ _ _)
  rw [List.size_toArray, show ((-1 : Int) + (vs.length : Nat)).toNat = vs.length - 1 by omega]
  rw [List.getLast?_eq_getElem?] at hx
  simpa using hx

theorem ints_last {l : List Nat} {vs : List Value} (h : IntsAre vs (l.map Int.ofNat)) {k : Nat} (hk : l.getLast? = some k) : ∃ t, vs.getLast? = some (.int (k : Nat) t) := by
  have hl := ints_len h
  rw [List.getLast?_eq_getElem?] at hk ⊢
  have hlt : vs.length - 1 < vs.length := by
    have := (List.getElem?_eq_some_iff.mp hk).1
    omega
  obtain ⟨k', t, e1, e2⟩ := ints_at h (List.getElem?_eq_getElem hlt)
  rw [hl, hk] at e1
  cases e1
  exact ⟨t, by rw [List.getElem?_eq_getElem hlt, e2]⟩

theorem law6_rest {CU SE D : Addr} {M : Nat → Nat → Bool} {cuts : List (List Nat)} {Q : Flow → Shared → Prop} {i : Nat} {t : Tok} {own : Addr × Obj} {ys : List Value} {e : Nat} {σ₃ : Str → Option Value} {h₃ h₄ : Heap} (hW : Wd (hd.heap_39 w.params) B)
    (P : Pt B (laEnv cd f L) σ ((D, lobj ys e) :: own :: [(135, tabObj tab)]) s.heap) (hh : A.handled = none) (hu : A.units + 100 < cLine) (hC : CutsAt B CU cuts) (hcl : cuts.length = 7) (hi : i < 7)
    (hk : ∀ (k : Nat) (l : List Nat), cuts[k]? = some l → l.Perm (newL M k) ∧ (newL M k ≠ [] → l.getLast? = some k)) (hSE : IntsAt B SE (seenL M i)) (hys : IntsAre ys ((newL M i).map Int.ofNat))
    (h1 : σ "cuts" = some (.ref CU)) (h2 : σ "new" = some (.ref D)) (h3 : σ "k" = some (.int (i : Nat) t)) (h4 : σ "seen" = some (.ref SE)) (hDn : h₄.get? D = none) (P₃ : Pt B (laEnv cd f L) σ₃ (own :: [(135, tabObj tab)]) h₃) (k₄ : h₃.StaysIn h₄)
    (h : ∀ h' tk B' σ', B.StaysIn B' → Pt B' (laEnv cd f L) σ' (own :: [(135, tabObj tab)]) h' → (∀ z : Str, z ≠ "seen" → σ' z = σ z) → ∀ SE', σ' "seen" = some (.ref SE') → IntsAt B' SE' (seenL M (i + 1)) → Q .next { s with heap := h', toks := tk }) :
    wpAny (model prog w) A (execs ((sBody la6).drop 1) (laEnv cd f L)) Q No s := by
  obtain ⟨cl, hc1, hc2, hc3⟩ := hC
  have hil : i < cl.length := by omega
  have hic : i < cuts.length := by omega
  have ecl := List.getElem?_eq_getElem hil
  have ecu := List.getElem?_eq_getElem hic
  obtain ⟨ws, hwl, hwi⟩ := hc3 i _ _ ecl ecu
  obtain ⟨hperm, hlast⟩ := hk i _ ecu
  have hnl : (newL M i).length ≤ 7 := by
    have := List.length_filter_le (fun b => M i b && !((seenL M i).contains b)) (List.range 7)
    rw [List.length_range] at this; exact this
  have hwlen : ws.length ≤ 7 := by rw [ints_len hwi, hperm.length_eq]; exact hnl
  have hclz : cl.map Value.ref = cl.map Value.ref := rfl
  have itc : (cl.map Value.ref)[i]? = some (.ref cl[i]) := by rw [List.getElem?_map, ecl]; rfl
  have kB : B.StaysIn s.heap := P.st
  refine wpAny_execs_cons (wpAny_If (isTrue_or (wpAny_isTrue_Compare1 (ev_sorted P hW (gl_sorted w) (ev_item (ev_name P h1 (ev_name P h3 ⟨CU, _, i, t, .ref cl[i], rfl, rfl, stays_list kB hc1, by omega, itc, ?_⟩)))))))
  refine ⟨cl[i], ws, _, rfl, stays_list kB hwl, hwi, by omega, fun D₂ us ns' e' h₆ tk₆ k₆ hn₆ hD₂ hi' hp hs => ?_⟩
  have P₆ := P.grow k₆
  have he : ns' = (newL M i).map Int.ofNat := sorted_unique (hp.trans (hperm.map _)) hs (pw_filter _ _)
  subst he
  refine ev_name (s := { s with heap := h₆, toks := tk₆ }) P₆ h2 (ne_intsK ⟨_, hD₂, rfl, _, rfl⟩ hi' ⟨_, (P₆.mu _ (.head _)).1, rfl, _, rfl⟩ hys (by omega) (truthy_b ?_))
  rw [show (!decide ((newL M i).map Int.ofNat = (newL M i).map Int.ofNat)) = false by simp, if_neg Bool.false_ne_true]
  refine isTrue_or (isTrue_and (wpAny_isTrue_Compare1 (ev_name P₆ h2 (ev_listL (spl_nil ⟨by decide, fun h₇ E k₇ hn₇ hE => ?_⟩)))))
  have P₇ := P₆.grow k₇
  refine ne_intsK (us := []) ⟨_, (P₇.mu _ (.head _)).1, rfl, _, rfl⟩ hys ⟨_, hE, rfl, _, rfl⟩ .nil (by omega) (truthy_b ?_)
  have rest : ∀ (h₈ : Heap) (tk₈ : Nat), h₇.StaysIn h₈ → wpAny (model prog w) A (execs ((sBody la6).drop 2) (laEnv cd f L)) Q No { s with heap := h₈, toks := tk₈ } := by
    intro h₈ tk₈ k₈
    have P₈ := P₇.grow k₈
    obtain ⟨zs, hzl, hzi⟩ := hSE.list
    have hsl := seenL_len M i
    refine wpAny_execs_cons (wpAny_Assign_Name (wpAny_BinOp (ev_name (s := { s with heap := h₈, toks := tk₈ }) P₈ h4 (ev_name P₈ h2 (add_listW (stays_list P₈.st hzl) ⟨_, (P₈.mu _ (.head _)).1, rfl, _, rfl⟩ (by rw [ints_len hzi, ints_len hys]; omega) fun h₉ D₃ k₉ hn₉ hD₃ => ?_)))))
    have P₉ := (P₈.grow k₉).sub (.cons _ (List.Sublist.refl _))
    obtain ⟨B', kB', P₁₀, get⟩ := P₉.base
    have f3 := P₈.fresh hn₉
    have b3 := get D₃ _ hD₃ f3.1 fun hm => f3.2.2 (List.mem_cons_of_mem _ hm)
    refine st_var P₁₀ fun h₁₀ tk₁₀ P₁₁ _ => wpAny_execs_nil (h h₁₀ tk₁₀ B' _ kB' P₁₁ (fun z hz => by simp [upd, hz]) D₃ rfl ⟨zs ++ ys, 0, b3, ?_⟩)
    show IntsAre (zs ++ ys) ((seenL M i ++ newL M i).map Int.ofNat)
    rw [List.map_append]
    exact IntsAre.append hzi hys
  by_cases hnw : newL M i = []
  · rw [show (!decide ((newL M i).map Int.ofNat = [])) = false by rw [hnw]; rfl, if_neg Bool.false_ne_true, if_neg Bool.false_ne_true]
    refine isTrue_or_nil ?_
    rw [if_neg Bool.false_ne_true]
    exact wpAny_execs_nil (rest _ _ fun _ _ e => e)
  · rw [show (!decide ((newL M i).map Int.ofNat = [])) = true by simpa using hnw, if_pos rfl]
    obtain ⟨tl, htl⟩ := ints_last hwi (hlast hnw)
    refine isTrue_and (wpAny_isTrue_Compare1 (ev_last (ev_item (ev_name P₇ h1 (ev_name P₇ h3 ⟨CU, _, i, t, .ref cl[i], rfl, rfl, stays_list P₇.st hc1, by omega, itc, cl[i], ws, _, rfl, stays_list P₇.st hwl, htl, by omega, fun tk₈ => ?_⟩)))))
    refine ev_name P₇ h3 (PySem.P.ne_int (truthy_b ?_))
    rw [show (((i : Nat) : Int) != ((i : Nat) : Int)) = false by simp, if_neg Bool.false_ne_true, if_neg Bool.false_ne_true]
    refine isTrue_or_nil ?_
    rw [if_neg Bool.false_ne_true]
    exact wpAny_execs_nil (rest _ _ fun _ _ e => e)

theorem law6 {R CU SE : Addr} {M : Nat → Nat → Bool} {cuts : List (List Nat)} {Q : Flow → Shared → Prop} (hW : Wd (hd.heap_39 w.params) B) (P : Pt B (laEnv cd f L) σ [(135, tabObj tab)] s.heap) (hh : A.handled = none) (hu : A.units + 100 < cLine) (hM : IsMat B R M) (hC : CutsAt B CU cuts) (hcl : cuts.length = 7)
    (h1 : σ "reach" = some (.ref R)) (h2 : σ "cuts" = some (.ref CU)) (h3 : σ "seen" = some (.ref SE)) (hSE : IntsAt B SE [])
    (hk : ∀ (k : Nat) (l : List Nat), cuts[k]? = some l → l.Perm (newL M k) ∧ (newL M k ≠ [] → l.getLast? = some k))
    (h : ∀ h' tk B' σ', B.StaysIn B' → Pt B' (laEnv cd f L) σ' [(135, tabObj tab)] h' → (∀ z : Str, z ≠ "k" → z ≠ "new" → z ≠ "seen" → σ' z = σ z) → Q .next { s with heap := h', toks := tk }) :
    wpAny (model prog w) A (exec la6 (laEnv cd f L)) Q No s := by
  unfold la6
  refine ex_for (ev_range P hW (gl_range w) (ev_int ⟨7, _, rfl, fun r h₁ tk₁ t u v k₁ hr₁ hR₁ => ?_⟩))
  refine ⟨B, σ, _, [], 7, _, fun i Bx σ' μ' => μ' = [(135, tabObj tab)] ∧ (∀ z : Str, z ≠ "k" → z ≠ "new" → z ≠ "seen" → σ' z = σ z) ∧ ∃ SE', σ' "seen" = some (.ref SE') ∧ IntsAt Bx SE' (seenL M i), iters_range hh hR₁ (by decide), P.grow k₁, (fun _ h => nomatch h), ⟨rfl, fun _ _ _ _ => rfl, SE, h3, hSE⟩, ?turn, ?done⟩
  case done =>
    rintro B' σ' μ' h' tk' kB ⟨rfl, hσ, _⟩ P'
    exact h h' tk' B' σ' kB P' hσ
  case turn =>
    rintro i v B' σ' μ' own h₂ tk₂ hi ⟨t, rfl⟩ kB ⟨rfl, hσ, SE', hse, hSE'⟩ P'
    have hW' := hW.up kB
    refine wpAny_assign_Name (st_var P' fun h₃ tk₃ P₃ _ => ?_)
    have g1 : upd σ' "k" (.int (i : Nat) t) "reach" = some (.ref R) := (hσ _ (by decide) (by decide) (by decide)).trans h1
    have g2 : upd σ' "k" (.int (i : Nat) t) "cuts" = some (.ref CU) := (hσ _ (by decide) (by decide) (by decide)).trans h2
    have hM' := (hM.up kB)
    obtain ⟨zs, hzl, hzi⟩ := hSE'.list
    -- new = [b for b in range(7) if reach[k][b] and b not in seen]
    refine wpAny_execs_cons (ex_assign_comp (cl := [("seen", (L + 5 : Nat)), ("reach", (L + 2 : Nat)), ("k", (L + 3 : Nat))]) (fun _ v σ => upd σ "b" v) (ev_range P₃ hW' (gl_range w) (ev_int ⟨7, _, rfl, fun r h₄ tk₄ t' u' v' k₄ hr₄ hR₄ => ?_⟩)) rfl rfl (fun p hp => ?_))
    case refine_2 =>
      simp only [List.mem_cons, List.not_mem_nil, or_false] at hp
      rcases hp with rfl | rfl | rfl
      · exact .head _
      · exact .tail _ (.tail _ (.tail _ (.head _)))
      · exact .tail _ (.tail _ (.head _))
    refine ⟨B', _, _, [], 7, _, fun i' ys ν => ν = [] ∧ IntsAre ys (((List.range i').filter fun b => M i b && !((seenL M i).contains b)).map Int.ofNat), iters_range hh hR₄ (by decide), P₃.grow k₄, (fun _ h => nomatch h), by decide, ⟨rfl, .nil⟩, ?turn2, ?done2⟩
    case turn2 =>
      rintro j v hj ⟨tj, rfl⟩
      refine ⟨takes_name rfl (fun _ => rfl), fun x u h => ?_, ?_⟩
      · unfold upd; rw [if_neg]; exact h
        rintro rfl; cases h
      rintro ys ν C own' s₄ ⟨rfl, hys⟩ PC
      refine wpAny_tests_one (isTrue_and (isTrue_plain (ev_mat PC (hM'.up PC.st) (by exact g1) (by exact rfl) (by exact rfl) hi hj (truthy_b ?_))))
      cases hm : M i j with
      | false =>
        rw [if_neg Bool.false_ne_true]
        refine ⟨⟨s₄.heap, s₄.toks, rfl, fun _ _ e => e⟩, ?_⟩
        rw [if_neg Bool.false_ne_true]
        refine ⟨rfl, ?_⟩
        rw [filter_range, if_neg (by simp [hm])]
        exact hys
      | true =>
        rw [if_pos rfl]
        refine isTrue_and (wpAny_isTrue_Compare1 (ev_name PC (v := .int (j : Nat) tj) rfl (ev_name PC (v := .ref SE') (by exact hse) (notin_list_ints (stays_list PC.st hzl) hzi (truthy_b ?_)))))
        rw [any_int]
        cases hc : (seenL M i).contains j with
        | true =>
          rw [show (!true) = false from rfl, if_neg Bool.false_ne_true]
          refine ⟨⟨s₄.heap, s₄.toks, rfl, fun _ _ e => e⟩, ?_⟩
          rw [if_neg Bool.false_ne_true]
          refine ⟨rfl, ?_⟩
          rw [filter_range, if_neg (by rw [hc]; simp)]
          exact hys
        | false =>
          rw [show (!false) = true from rfl, if_pos rfl]
          refine isTrue_and_nil ⟨⟨s₄.heap, s₄.toks, rfl, fun _ _ e => e⟩, ?_⟩
          rw [if_pos rfl]
          refine ev_name PC (v := .int (j : Nat) tj) rfl ⟨⟨s₄.heap, s₄.toks, rfl, fun _ _ e => e⟩, [], (fun _ h => nomatch h), List.nodup_nil, rfl, ?_⟩
          rw [filter_range, if_pos (by rw [hm, hc]; rfl), List.map_append]
          exact IntsAre.append hys (.cons _ _ .nil)
    case done2 =>
      rintro D e ys ν h₅ tk₅ ⟨rfl, hys⟩ P₅ hn₅
      change IntsAre ys ((newL M i).map Int.ofNat) at hys
      exact law6_rest hW' P₅ hh hu (hC.up kB) hcl hi hk hSE' hys (by exact g2) (by exact rfl) (by exact rfl) (by exact hse) (hn₅ _ (.head _)) P₃ k₄ fun h' tk B'' σ'' kB'' P'' hσ'' SE'' hse'' hSE'' =>
        turnEnd kB'' P'' ⟨rfl, fun z z1 z2 z3 => by rw [hσ'' z z3]; simp only [upd]; rw [if_neg z2, if_neg z1]; exact hσ z z1 z2 z3, SE'', hse'', hSE''⟩
end
end Mine
end

section
namespace Mine
open PySem PySem.W PySem.Calls PyProof.Rows

section
variable {w : World} {prog : Program} {A : Around} {s : Shared} {B : Heap} {σ : Str → Option Value} {μ : List (Addr × Obj)} {env : Env} {cd : Value} {f L : Addr} {tab : Array Value}

/-- trail.index(x) -/
theorem ev_index {n x : Str} {p1 p2 p3 p4 : Pos} {TR : Addr} {tr : List Nat} {k : Nat} {t : Tok} {Q : Value → Shared → Prop} (P : Pt B env σ μ s.heap) (hσ : σ n = some (.ref TR)) (hx : σ x = some (.int (k : Nat) t)) (hT : IntsAt B TR tr) (hlen : tr.length ≤ 100) (hk : k ∈ tr)
    (h : ∀ u tk, Q (.int (tr.idxOf k : Nat) u) { s with toks := tk })
    (hok : okVar env n = true := by rfl) (hd : (n == ("__debug__" : Str)) = false := by decide) (hokx : okVar env x = true := by rfl) (hdx : (x == ("__debug__" : Str)) = false := by decide)
    (he : eval (.Call (.Attribute (.Name n p1) "index" p2) [.Name x p4] [] p3) env = (do
      let ov ← eval (.Name n p1) env
      standAt p2.atName
      let (f, first) ← holding [ov] (getMethod ov "index" (do return (← importBound (.Name n p1) env).getD true))
      callWith p3 f first [(false, eval (.Name x p4) env)] []) := by rfl) :
    wpAny (model prog w) A (eval (.Call (.Attribute (.Name n p1) "index" p2) [.Name x p4] [] p3) env) Q No s := by
  rw [he]
  obtain ⟨vs, e, ho, hI⟩ := hT
  have hvl := ints_len hI
  refine wpAny_bind (ev_name P hσ (wpAny_bind (wpAny_standAt (wpAny_bind (wpAny_holding (getMethod_builtin ⟨_, P.st _ _ ho, rfl⟩ PySem.F.plainAttrs_list PySem.F.slot_list_index PySem.F.type_list_index (fun a e => by cases e; exact ⟨_, P.st _ _ ho, rfl⟩) ?_))))) hok hd)
  refine callWith_bi rfl (Calls.evalArgs_plain (Calls.spliced_cons (ev_name P hx (Calls.spliced_nil ?_) hokx hdx)))
  have hj : tr.idxOf k < tr.length := List.idxOf_lt_length_iff.mpr hk
  have ho' : s.heap.get? TR = some { cls := .type "list", dict := none, data := .seq vs.toArray e, slots := #[] } := P.st _ _ ho
  refine call_meets PySem.F.slot_list_index ⟨_, ho', rfl⟩ PySem.F.entry_list_index (PySem.F.args_list_index_2 _ _)
    (PySem.SeqAt.list_indexAt TR vs.toArray e none #[] (.int (k : Nat) t) (isInt (k : Nat)) (tr.idxOf k) (by rw [List.size_toArray]; omega) (by omega) ?_ ?_) ⟨ho', fun y hy => (eq_isInt (k : Nat) t hI y (by simpa using hy)).at _ _, h _ _⟩
  · show isInt (k : Nat) vs[tr.idxOf k] = true
    rw [isInt_at (k : Nat) hI _ (by omega) (by rw [List.length_map]; omega), List.getElem_map, List.getElem_idxOf hj]
    simp
  · intro j hjs hlt
    show isInt (k : Nat) vs[j] = false
    rw [isInt_at (k : Nat) hI j (by simpa using hjs) (by rw [List.length_map]; omega), List.getElem_map]
    have := List.not_of_lt_findIdx (p := (· == k)) (xs := tr) (i := j) hlt
    simp only [Bool.not_eq_true, beq_eq_false_iff_ne] at this
    rw [beq_eq_false_iff_ne]
    intro q
    exact this (Int.ofNat.inj q)

theorem law7 {P1 R TR : Addr} {ps : List (Nat × Nat)} {M : Nat → Nat → Bool} {tr : List Nat} {Q : Flow → Shared → Prop} (P : Pt B (laEnv cd f L) σ [(135, tabObj tab)] s.heap) (hh : A.handled = none) (hps : PairsAt B P1 ps) (hM : IsMat B R M) (hT : IntsAt B TR tr) (hlt : ∀ p ∈ ps, p.1 < 7 ∧ p.2 < 7) (htp : tr.Perm (List.range 7))
    (h1 : σ "pairs" = some (.ref P1)) (h2 : σ "reach" = some (.ref R)) (h3 : σ "trail" = some (.ref TR)) (hk : ∀ p ∈ ps, tr.idxOf p.1 < tr.idxOf p.2 → M p.2 p.1 = true)
    (h : ∀ h' tk σ', Pt B (laEnv cd f L) σ' [(135, tabObj tab)] h' → (∀ z : Str, z ≠ "a" → z ≠ "b" → σ' z = σ z) → Q .next { s with heap := h', toks := tk }) :
    wpAny (model prog w) A (exec la7 (laEnv cd f L)) Q No s := by
  have htl : tr.length = 7 := by rw [htp.length_eq]; rfl
  have hmem : ∀ k, k < 7 → k ∈ tr := fun k hk => htp.symm.subset (List.mem_range.mpr hk)
  obtain ⟨vs, hl, hn, hp⟩ := hps
  unfold la7
  refine ex_for (ev_name P h1 ?_)
  refine ⟨B, σ, _, [P1], vs.toArray.size, _, fun i Bx σ' μ' => Bx = B ∧ μ' = [(135, tabObj tab)] ∧ (∀ z : Str, z ≠ "a" → z ≠ "b" → σ' z = σ z), iters_list hh (stays_list P.st hl), P, ?alive, ⟨rfl, rfl, fun _ _ _ => rfl⟩, ?turn, ?done⟩
  case alive =>
    intro b hb
    rw [List.mem_singleton.mp hb]
    obtain ⟨o, ho, _⟩ := hl
    exact ⟨o, ho⟩
  case done =>
    rintro B' σ' μ' h' tk' kB ⟨rfl, rfl, hσ⟩ P'
    exact h h' tk' σ' P' hσ
  case turn =>
    rintro i v B' σ' μ' own h₂ tk₂ hi hv kB ⟨rfl, rfl, hσ⟩ P'
    have hi' : i < ps.length := by rw [← hn]; simpa using hi
    obtain ⟨T, t1, t2, hvT, hT2⟩ := hp i _ (List.getElem?_eq_getElem hi')
    have hpm : ps[i] ∈ ps := List.getElem_mem hi'
    generalize ps[i] = p at *
    have hv' : vs[i]? = some v := by simpa using hv
    rw [hvT] at hv'
    cases hv'
    obtain ⟨l1, l2⟩ := hlt p hpm
    obtain ⟨oT, eT1, eT2⟩ := hT2
    refine asg_pair (s := { s with heap := h₂, toks := tk₂ }) hh ⟨oT, P'.st _ _ eT1, eT2⟩ P' fun h₃ tk₃ P₃ => ?_
    have g2 : upd (upd σ' "a" (.int (p.1 : Nat) t1)) "b" (.int (p.2 : Nat) t2) "reach" = some (.ref R) := (hσ _ (by decide) (by decide)).trans h2
    have g3 : upd (upd σ' "a" (.int (p.1 : Nat) t1)) "b" (.int (p.2 : Nat) t2) "trail" = some (.ref TR) := (hσ _ (by decide) (by decide)).trans h3
    have fin : ∀ (h₄ : Heap) (tk₄ : Nat), h₃.StaysIn h₄ → TurnEnd (laEnv cd f L) B' own (fun Bx σ'' μ' => Bx = B' ∧ μ' = [(135, tabObj tab)] ∧ ∀ z : Str, z ≠ "a" → z ≠ "b" → σ'' z = σ z) s .next { s with heap := h₄, toks := tk₄ } := fun h₄ tk₄ k₄ =>
      turnEnd (fun _ _ e => e) (P₃.grow k₄) ⟨rfl, rfl, fun z z1 z2 => by simp only [upd]; rw [if_neg z2, if_neg z1]; exact hσ z z1 z2⟩
    refine wpAny_execs_cons (wpAny_If (isTrue_and (wpAny_isTrue_Compare1 (ev_index P₃ g3 (k := p.2) (t := t2) rfl hT (by omega) (hmem _ l2) fun u tk₄ => ?_))))
    refine ev_index (s := { s with heap := h₃, toks := tk₄ }) P₃ g3 (k := p.1) (t := t1) rfl hT (by omega) (hmem _ l1) fun u' tk₅ => ?_
    refine PySem.P.gt_int (truthy_b ?_)
    by_cases hgt : tr.idxOf p.1 < tr.idxOf p.2
    · rw [show (decide (((tr.idxOf p.2 : Nat) : Int) > ((tr.idxOf p.1 : Nat) : Int))) = true by simp; omega, if_pos rfl]
      refine isTrue_and (isTrue_not (isTrue_plain (ev_mat (s := { s with heap := h₃, toks := tk₅ }) P₃ (hM.up P₃.st) g2 (by exact rfl) (by exact rfl) l2 l1 (truthy_b ?_))))
      rw [hk p hpm hgt, show (!true) = false from rfl, if_neg Bool.false_ne_true, if_neg Bool.false_ne_true]
      exact wpAny_execs_nil (wpAny_execs_nil (fin h₃ tk₅ fun _ _ e => e))
    · rw [show (decide (((tr.idxOf p.2 : Nat) : Int) > ((tr.idxOf p.1 : Nat) : Int))) = false by simp; omega, if_neg Bool.false_ne_true, if_neg Bool.false_ne_true]
      exact wpAny_execs_nil (wpAny_execs_nil (fin h₃ tk₅ fun _ _ e => e))
end
end Mine
end

section
namespace Mine
open PySem PySem.W PySem.Calls PyProof.Rows

def CutL (h : Heap) (ds : List Addr) (ls : List (List Nat)) : Prop := ds.length = ls.length ∧ ∀ (j : Nat) (c : Addr) (l : List Nat), ds[j]? = some c → ls[j]? = some l → ∃ ws : List Value, h.IsList c ws.toArray ∧ IntsAre ws (l.map Int.ofNat)

theorem CutL.snoc {h : Heap} {ds : List Addr} {ls : List (List Nat)} {c : Addr} {l : List Nat} (x : CutL h ds ls) (hc : ∃ ws : List Value, h.IsList c ws.toArray ∧ IntsAre ws (l.map Int.ofNat)) : CutL h (ds ++ [c]) (ls ++ [l]) := by
  obtain ⟨h1, h2⟩ := x
  refine ⟨by simp [h1], fun j d m e1 e2 => ?_⟩
  rw [List.getElem?_append] at e1 e2
  rw [h1] at e1
  split at e1
  · rename_i hj
    rw [if_pos hj] at e2
    exact h2 j d m e1 e2
  · rename_i hj
    rw [if_neg hj] at e2
    cases hjl : j - ls.length with
    | zero => rw [hjl] at e1 e2; cases e1; cases e2; exact hc
    | succ n => rw [hjl] at e1; cases e1

section
variable {w : World} {prog : Program} {A : Around} {s : Shared} {B : Heap} {σ : Str → Option Value} {μ : List (Addr × Obj)} {env : Env} {cd : Value} {f L : Addr} {tab : Array Value}

theorem law10 {PA : Addr} {cuts : List (List Nat)} {Q : Flow → Shared → Prop} (P : Pt B (laEnv cd f L) σ [(135, tabObj tab)] s.heap) (hh : A.handled = none) (hu : A.units + 100 < cLine) (hC : CutsAt B PA cuts) (hlen : cuts.length ≤ 100) (h1 : σ "parts" = some (.ref PA))
    (h : ∀ h' tk B' D, B.StaysIn B' → CutsAt B' D (cuts.filter fun l => !l.isEmpty) → Pt B' (laEnv cd f L) (upd σ "parts" (.ref D)) [(135, tabObj tab)] h' → Q .next { s with heap := h', toks := tk }) :
    wpAny (model prog w) A (exec la10 (laEnv cd f L)) Q No s := by
  obtain ⟨cl, hc1, hc2, hc3⟩ := hC
  unfold la10
  refine ex_assign_comp (cl := []) (fun _ v σ => upd σ "part" v) (ev_name P h1 ?_) rfl rfl (fun _ h => nomatch h)
  refine ⟨B, σ, _, [PA], (cl.map Value.ref).toArray.size, _, fun i ys ν => ν = [] ∧ ∃ ds : List Addr, ys = ds.map Value.ref ∧ CutL B ds ((cuts.take i).filter fun l => !l.isEmpty), iters_list hh (stays_list P.st hc1), P, ?alive, by rw [sizeLine_eq, List.size_toArray, List.length_map]; omega, ⟨rfl, [], rfl, rfl, fun j c l e => by simp at e⟩, ?turn, ?done⟩
  case alive =>
    intro b hb
    rw [List.mem_singleton.mp hb]
    obtain ⟨o, ho, _⟩ := hc1
    exact ⟨o, ho⟩
  case turn =>
    intro i v hi hv
    have hi' : i < cl.length := by simpa using hi
    have hi2 : i < cuts.length := by omega
    have ecl := List.getElem?_eq_getElem hi'
    have ecu := List.getElem?_eq_getElem hi2
    obtain ⟨ws, hwl, hwi⟩ := hc3 i _ _ ecl ecu
    have hv' : v = .ref cl[i] := by
      have : (cl.map Value.ref)[i]? = some v := by simpa using hv
      rw [List.getElem?_map, ecl] at this
      cases this; rfl
    subst hv'
    refine ⟨takes_name rfl (fun _ => rfl), fun x u h => by (exfalso; unfold capt at h; simp at h), ?_⟩
    rintro ys ν C own s₂ ⟨rfl, ds, rfl, hds⟩ PC
    refine wpAny_tests_one (wpAny_isTrue_Compare1 (ev_name PC (v := .ref cl[i]) rfl (ev_listL (spl_nil ⟨by decide, fun h₃ E k₃ hn₃ hE => ?_⟩))))
    refine ne_intsK (us := []) (stays_list k₃ (stays_list PC.st hwl)) hwi ⟨_, hE, rfl, _, rfl⟩ .nil (by omega) (truthy_b ⟨⟨h₃, _, rfl, k₃⟩, ?_⟩)
    have hf : (cuts.take (i + 1)).filter (fun l => !l.isEmpty) = if cuts[i].isEmpty = true then (cuts.take i).filter (fun l => !l.isEmpty) else (cuts.take i).filter (fun l => !l.isEmpty) ++ [cuts[i]] := by
      rw [List.take_add_one, List.filter_append, ecu]
      cases hce : cuts[i].isEmpty <;> simp [hce]
    by_cases hce : cuts[i] = []
    · rw [show (!decide (cuts[i].map Int.ofNat = [])) = false by rw [hce]; rfl, if_neg Bool.false_ne_true]
      refine ⟨rfl, ds, rfl, ?_⟩
      rw [hf, if_pos (by rw [hce]; rfl)]
      exact hds
    · rw [show (!decide (cuts[i].map Int.ofNat = [])) = true by simpa using hce, if_pos rfl]
      refine ev_name (s := { s₂ with heap := h₃ }) (PC.grow k₃) (v := .ref cl[i]) rfl ⟨⟨h₃, _, rfl, fun _ _ e => e⟩, [], (fun _ h => nomatch h), List.nodup_nil, rfl, ds ++ [cl[i]], by simp, ?_⟩
      rw [hf, if_neg (by simpa using hce)]
      exact hds.snoc ⟨ws, hwl, hwi⟩
  case done =>
    rintro D e ys ν h₃ tk₃ ⟨rfl, ds, rfl, hds⟩ P₃ hn₃
    have P₄ : Pt B (laEnv cd f L) (upd σ "parts" (.ref D)) [(135, tabObj tab)] h₃ := P₃.sub (.cons _ (List.Sublist.refl _))
    obtain ⟨B', kB, P₅, get⟩ := P₄.baseSeq
    rw [List.take_of_length_le (by rw [List.size_toArray, List.length_map]; omega)] at hds
    exact h h₃ tk₃ B' D kB ⟨ds, ⟨_, get _ _ _ _ (P₃.mu _ (.head _)).1 rfl, rfl, _, rfl⟩, hds.1, fun j c l e1 e2 => let ⟨ws, a, b⟩ := hds.2 j c l e1 e2; ⟨ws, stays_list kB a, b⟩⟩ P₅

/-- R[a][e] -/
theorem ev_matE {nR na : Str} {e : Expr} {p1 p2 p3 p5 : Pos} {R : Addr} {M : Nat → Nat → Bool} {a : Nat} {ta : Tok} {Q : Value → Shared → Prop} (P : Pt B env σ μ s.heap) (x : IsMat B R M)
    (hR : σ nR = some (.ref R)) (ha : σ na = some (.int a ta)) (la : a < 7)
    (h : wpAny (model prog w) A (eval e env) (fun v s' => B.StaysIn s'.heap ∧ ∃ (b : Nat) (tb : Tok), v = .int b tb ∧ b < 7 ∧ Q (.bool (M a b)) s') No s)
    (hs : ∀ l k t, subscripted e false (.ref l) (.int k t) = operate [.ref l, .int k t] (getItem (.ref l) (.int k t)))
    (kR : okVar env nR = true := by rfl) (ka : okVar env na = true := by rfl) (dR : (nR == ("__debug__" : Str)) = false := by decide) (da : (na == ("__debug__" : Str)) = false := by decide) :
    wpAny (model prog w) A (eval (.Subscript (.Subscript (.Name nR p1) (.Name na p2) p3) e p5) env) Q No s := by
  obtain ⟨eR, rs, hl, hm⟩ := x
  have hai : rs[a]? = some rs[a] := List.getElem?_eq_getElem (by omega)
  have hRow := hm _ (row_mem (R := R) (eR := eR) (M := M) hai)
  have hHead := P.st _ _ (hm (R, headO rs eR) List.mem_cons_self)
  refine ev_item (ev_item (ev_name P hR (ev_name P ha ⟨R, _, a, ta, .ref rs[a].1, rfl, rfl, ⟨_, hHead, rfl, _, rfl⟩, by omega, ?_, ?_⟩ ka da) kR dR)) hs
  · simp [hai]
  · refine wpAny_mono h (fun v s' h' => ?_) fun _ _ e => e
    obtain ⟨kB, b, tb, rfl, lb, hq⟩ := h'
    exact ⟨rs[a].1, _, b, tb, _, rfl, rfl, ⟨_, kB _ _ hRow, rfl, _, rfl⟩, by omega, row_get M lb, hq⟩

theorem ints_head {l : List Nat} {vs : List Value} (h : IntsAre vs (l.map Int.ofNat)) {k : Nat} (hk : l.head? = some k) : ∃ t, vs[0]? = some (.int (k : Nat) t) := by
  cases l with
  | nil => cases hk
  | cons x r =>
    cases hk
    cases h
    exact ⟨_, rfl⟩


theorem law11_tail {PA R : Addr} {M : Nat → Nat → Bool} {parts : List (List Nat)} {Q : Flow → Shared → Prop} {i a : Nat} {ti ta : Tok} (P : Pt B (laEnv cd f L) σ μ s.heap) (hh : A.handled = none) (hM : IsMat B R M) (hC : CutsAt B PA parts) (hlen : parts.length ≤ 100) (hi : i < parts.length) (la : a < 7)
    (h1 : σ "parts" = some (.ref PA)) (h2 : σ "reach" = some (.ref R)) (h3 : σ "a" = some (.int (a : Nat) ta)) (h4 : σ "i" = some (.int (i : Nat) ti))
    (hk : ∀ (j : Nat) (l : List Nat), j < i → parts[j]? = some l → ∃ a', l.head? = some a' ∧ a' < 7 ∧ M a a' = false)
    (h : ∀ h' tk B' σ', B.StaysIn B' → Pt B' (laEnv cd f L) σ' μ h' → (∀ z : Str, z ≠ "earlier" → σ' z = σ z) → Q .next { s with heap := h', toks := tk }) :
    wpAny (model prog w) A (execs ((sBody la11).drop 2) (laEnv cd f L)) Q No s := by
  obtain ⟨cl, hc1, hc2, hc3⟩ := hC
  refine wpAny_execs_cons (ex_for (wpAny_Subscript_list_slice (ev_name P h1 (evalPart_none_step (evalPart_some_step (ev_name P h4
    ⟨PA, (cl.map Value.ref).toArray, none, some (i : Nat), rfl, stays_list P.st hc1, by rw [sizeLine_eq, List.size_toArray, List.length_map]; omega, .none, .int _ _, ?_⟩))))))
  generalize hD0 : s.heap.objs.size + 1 = D0
  have hD0n : s.heap.get? D0 = none := Heap.get?_none_of_le (by rw [← hD0]; exact Nat.le_succ _)
  have hpick : slicePick (cl.map Value.ref).toArray none (some (i : Nat)) none = ((cl.map Value.ref).take i).toArray := by
    have := slicePick_upto' (cl.map Value.ref).toArray i
    simpa using this
  rw [hpick]
  have kpush : s.heap.StaysIn ((s.heap.push { cls := .type "slice", data := .fields #[.none, .int (i : Nat) ti, .none] }).push { cls := .type "list", data := .seq ((cl.map Value.ref).take i).toArray }) := fun _ _ eb => Heap.get?_push_of_some _ (Heap.get?_push_of_some _ eb)
  have oD : ((s.heap.push { cls := .type "slice", data := .fields #[.none, .int (i : Nat) ti, .none] }).push { cls := .type "list", data := .seq ((cl.map Value.ref).take i).toArray }).get? D0 = some (lobj ((cl.map Value.ref).take i) 0) := by
    have := Heap.get?_push_size (s.heap.push { cls := .type "slice", data := .fields #[.none, .int (i : Nat) ti, .none] }) (o := { cls := .type "list", data := .seq ((cl.map Value.ref).take i).toArray }) rfl
    rw [Heap.size_push, hD0] at this
    exact this
  have fD0 := P.fresh hD0n
  obtain ⟨B₁, kB, P₂, get⟩ := (P.grow kpush).base
  have bD0 := get D0 _ oD fD0.1 fD0.2.2
  refine ⟨B₁, σ, μ, [D0], ((cl.map Value.ref).take i).toArray.size, _, fun j Bx σ' μ' => Bx = B₁ ∧ μ' = μ ∧ ∀ z : Str, z ≠ "earlier" → σ' z = σ z, iters_list hh ⟨_, oD, rfl, _, rfl⟩, P₂, ?alive, ⟨rfl, rfl, fun _ _ => rfl⟩, ?turn, ?done⟩
  case alive =>
    intro b hb
    rw [List.mem_singleton.mp hb]
    exact ⟨_, bD0⟩
  case done =>
    rintro B' σ' μ' h' tk' kB' ⟨rfl, rfl, hσ⟩ P'
    exact wpAny_execs_nil (h h' tk' B' σ' kB P' hσ)
  case turn =>
    rintro j v B' σ' μ' own h₂ tk₂ hj hv kB' ⟨rfl, rfl, hσ⟩ P'
    have hj' : j < i := by
      have : j < ((cl.map Value.ref).take i).length := by simpa using hj
      rw [List.length_take] at this; omega
    have hjc : j < cl.length := by omega
    have hjp : j < parts.length := by omega
    have ecl := List.getElem?_eq_getElem hjc
    have ecu := List.getElem?_eq_getElem hjp
    obtain ⟨ws, hwl, hwi⟩ := hc3 j _ _ ecl ecu
    have hv' : v = .ref cl[j] := by
      have : ((cl.map Value.ref).take i)[j]? = some v := by simpa using hv
      rw [List.getElem?_take, if_pos hj', List.getElem?_map, ecl] at this
      cases this; rfl
    subst hv'
    obtain ⟨a', ha', la', hMf⟩ := hk j _ hj' ecu
    obtain ⟨t0, ht0⟩ := ints_head hwi ha'
    refine wpAny_assign_Name (st_var P' fun h₃ tk₃ P₃ _ => ?_)
    have g2 : upd σ' "earlier" (.ref cl[j]) "reach" = some (.ref R) := (hσ _ (by decide)).trans h2
    have g3 : upd σ' "earlier" (.ref cl[j]) "a" = some (.int (a : Nat) ta) := (hσ _ (by decide)).trans h3
    refine wpAny_execs_cons (wpAny_If (isTrue_plain (ev_matE P₃ (hM.up kB) g2 g3 la (ev_item (ev_name P₃ (v := .ref cl[j]) rfl (ev_int ⟨cl[j], ws, 0, _, _, rfl, rfl, stays_list P₃.st (stays_list kB hwl), by decide, ht0, P₃.st, a', t0, rfl, la', truthy_b ?_⟩))) (by intros; rfl))))
    rw [hMf, if_neg Bool.false_ne_true]
    exact wpAny_execs_nil (wpAny_execs_nil (turnEnd (fun _ _ e => e) P₃ ⟨rfl, rfl, fun z hz => by simp only [upd]; rw [if_neg hz]; exact hσ z hz⟩))
end
end Mine
end

section
namespace Mine
open PySem PySem.W PySem.Calls PyProof.Rows

def compL (M : Nat → Nat → Bool) (a : Nat) : List Nat := (List.range 7).filter fun b => M a b && M b a

section
variable {w : World} {prog : Program} {A : Around} {s : Shared} {B : Heap} {σ : Str → Option Value} {μ : List (Addr × Obj)} {env : Env} {cd : Value} {f L : Addr} {tab : Array Value}

theorem law11 {PA R : Addr} {M : Nat → Nat → Bool} {parts : List (List Nat)} {Q : Flow → Shared → Prop} (hW : Wd (hd.heap_39 w.params) B) (P : Pt B (laEnv cd f L) σ [(135, tabObj tab)] s.heap) (hh : A.handled = none) (hu : A.units + 100 < cLine) (hM : IsMat B R M) (hC : CutsAt B PA parts) (hlen : parts.length ≤ 100)
    (h1 : σ "parts" = some (.ref PA)) (h2 : σ "reach" = some (.ref R))
    (hk : ∀ (i : Nat) (l : List Nat), parts[i]? = some l → ∃ a, l.head? = some a ∧ a < 7 ∧ l.Perm (compL M a) ∧ ∀ (j : Nat) (l' : List Nat), j < i → parts[j]? = some l' → ∃ a', l'.head? = some a' ∧ a' < 7 ∧ M a a' = false)
    (h : ∀ h' tk B' σ', B.StaysIn B' → Pt B' (laEnv cd f L) σ' [(135, tabObj tab)] h' → Q .next { s with heap := h', toks := tk }) :
    wpAny (model prog w) A (exec la11 (laEnv cd f L)) Q No s := by
  obtain ⟨cl, hc1, hc2, hc3⟩ := id hC
  unfold la11
  refine ex_for (ev_range P hW (gl_range w) (ev_len P hW (gl_len w) (ev_name P h1 ⟨PA, cl.map Value.ref, rfl, stays_list P.st hc1, by rw [List.length_map]; omega, fun t tk => ⟨(cl.map Value.ref).length, t, rfl, fun r h₁ tk₁ t u v k₁ hr₁ hR₁ => ?_⟩⟩)))
  refine ⟨B, σ, _, [], (cl.map Value.ref).length, _, fun i Bx σ' μ' => μ' = [(135, tabObj tab)] ∧ ∀ z : Str, z ≠ "i" → z ≠ "a" → z ≠ "earlier" → σ' z = σ z, iters_range hh hR₁ (by rw [List.length_map]; omega), P.grow k₁, (fun _ h => nomatch h), ⟨rfl, fun _ _ _ _ => rfl⟩, ?turn, ?done⟩
  case done =>
    rintro B' σ' μ' h' tk' kB ⟨rfl, hσ⟩ P'
    exact h h' tk' B' σ' kB P'
  case turn =>
    rintro i v B' σ' μ' own h₂ tk₂ hi ⟨ti, rfl⟩ kB ⟨rfl, hσ⟩ P'
    have hic : i < cl.length := by rw [List.length_map] at hi; exact hi
    have hip : i < parts.length := by omega
    have ecl := List.getElem?_eq_getElem hic
    have ecu := List.getElem?_eq_getElem hip
    obtain ⟨ws, hwl, hwi⟩ := hc3 i _ _ ecl ecu
    obtain ⟨a, ha, la, hperm, hprev⟩ := hk i _ ecu
    obtain ⟨ta, hta⟩ := ints_head hwi ha
    have hcl7 : (compL M a).length ≤ 7 := by
      have := List.length_filter_le (fun b => M a b && M b a) (List.range 7)
      rw [List.length_range] at this; exact this
    have hwlen : ws.length ≤ 7 := by rw [ints_len hwi, hperm.length_eq]; exact hcl7
    have itc : (cl.map Value.ref)[i]? = some (.ref cl[i]) := by rw [List.getElem?_map, ecl]; rfl
    have hW' := hW.up kB
    have hM' := hM.up kB
    have hC' := hC.up kB
    refine wpAny_assign_Name (st_var P' fun h₃ tk₃ P₃ _ => ?_)
    have g1 : upd σ' "i" (.int (i : Nat) ti) "parts" = some (.ref PA) := (hσ _ (by decide) (by decide) (by decide)).trans h1
    have g2 : upd σ' "i" (.int (i : Nat) ti) "reach" = some (.ref R) := (hσ _ (by decide) (by decide) (by decide)).trans h2
    -- a = parts[i][0]
    refine wpAny_execs_cons (wpAny_Assign_Name (ev_item (ev_item (ev_name P₃ g1 (ev_name P₃ (v := .int (i : Nat) ti) rfl ⟨PA, _, i, ti, .ref cl[i], rfl, rfl, stays_list P₃.st (stays_list kB hc1), by omega, itc, ev_int ⟨cl[i], ws, 0, _, _, rfl, rfl, stays_list P₃.st (stays_list kB hwl), by decide, hta, ?_⟩⟩)))))
    refine st_var P₃ fun h₄ tk₄ P₄ _ => ?_
    -- if sorted(parts[i]) != [b for b in range(7) if reach[a][b] and reach[b][a]]: ..
    refine wpAny_execs_cons (wpAny_If (wpAny_isTrue_Compare1 (ev_sorted P₄ hW' (gl_sorted w) (ev_item (ev_name P₄ (v := .ref PA) (by exact g1) (ev_name P₄ (v := .int (i : Nat) ti) rfl ⟨PA, _, i, ti, .ref cl[i], rfl, rfl, stays_list P₄.st (stays_list kB hc1), by omega, itc, ?_⟩))))))
    refine ⟨cl[i], ws, _, rfl, stays_list P₄.st (stays_list kB hwl), hwi, by omega, fun D₂ us ns' e' h₆ tk₆ k₆ hn₆ hD₂ hi' hp hs => ?_⟩
    have P₆ := P₄.grow k₆
    have he : ns' = (compL M a).map Int.ofNat := sorted_unique (hp.trans (hperm.map _)) hs (pw_filter _ _)
    subst he
    refine ev_comp (s := { s with heap := h₆, toks := tk₆ }) (cl := [("reach", (L + 2 : Nat)), ("a", (L + 4 : Nat))]) (fun _ v σ => upd σ "b" v) (ev_range (s := { s with heap := h₆, toks := tk₆ }) P₆ hW' (gl_range w) (ev_int ⟨7, _, rfl, fun r h₇ tk₇ t' u' v' k₇ hr₇ hR₇ => ?_⟩)) rfl (fun p hp => ?_)
    case refine_2 =>
      simp only [List.mem_cons, List.not_mem_nil, or_false] at hp
      rcases hp with rfl | rfl
      · exact .tail _ (.tail _ (.tail _ (.head _)))
      · exact .tail _ (.head _)
    have P₇ := P₆.grow k₇
    refine ⟨B', _, _, [], 7, _, fun i' ys ν => ν = [] ∧ IntsAre ys (((List.range i').filter fun b => M a b && M b a).map Int.ofNat), iters_range hh hR₇ (by decide), P₇, (fun _ h => nomatch h), by decide, ⟨rfl, .nil⟩, ?turn2, ?done2⟩
    case turn2 =>
      rintro j v hj ⟨tj, rfl⟩
      refine ⟨takes_name rfl (fun _ => rfl), fun x u h => ?_, ?_⟩
      · unfold upd; rw [if_neg]; exact h
        rintro rfl; cases h
      rintro ys ν C own' s₄ ⟨rfl, hys⟩ PC
      refine wpAny_tests_one (isTrue_and (isTrue_plain (ev_mat PC (hM'.up PC.st) (by exact g2) (by exact rfl) (by exact rfl) la hj (truthy_b ?_))))
      cases hm : M a j with
      | false =>
        rw [if_neg Bool.false_ne_true]
        refine ⟨⟨s₄.heap, s₄.toks, rfl, fun _ _ e => e⟩, ?_⟩
        rw [if_neg Bool.false_ne_true]
        refine ⟨rfl, ?_⟩
        rw [filter_range, if_neg (by simp [hm])]
        exact hys
      | true =>
        rw [if_pos rfl]
        refine isTrue_and (isTrue_plain (ev_mat PC (hM'.up PC.st) (by exact g2) (by exact rfl) (by exact rfl) hj la (truthy_b ?_)))
        cases hm2 : M j a with
        | false =>
          rw [if_neg Bool.false_ne_true]
          refine ⟨⟨s₄.heap, s₄.toks, rfl, fun _ _ e => e⟩, ?_⟩
          rw [if_neg Bool.false_ne_true]
          refine ⟨rfl, ?_⟩
          rw [filter_range, if_neg (by simp [hm2])]
          exact hys
        | true =>
          rw [if_pos rfl]
          refine isTrue_and_nil ⟨⟨s₄.heap, s₄.toks, rfl, fun _ _ e => e⟩, ?_⟩
          rw [if_pos rfl]
          refine ev_name PC (v := .int (j : Nat) tj) rfl ⟨⟨s₄.heap, s₄.toks, rfl, fun _ _ e => e⟩, [], (fun _ h => nomatch h), List.nodup_nil, rfl, ?_⟩
          rw [filter_range, if_pos (by rw [hm, hm2]; rfl), List.map_append]
          exact IntsAre.append hys (.cons _ _ .nil)
    case done2 =>
      rintro D e ys ν h₈ tk₈ ⟨rfl, hys⟩ P₈ k₈ hn₈
      change IntsAre ys ((compL M a).map Int.ofNat) at hys
      refine ne_intsK (stays_list k₈ (stays_list k₇ ⟨_, hD₂, rfl, _, rfl⟩)) hi' ⟨_, (P₈.mu _ (.head _)).1, rfl, _, rfl⟩ hys (by omega) (truthy_b ?_)
      rw [show (!decide ((compL M a).map Int.ofNat = (compL M a).map Int.ofNat)) = false by simp, if_neg Bool.false_ne_true]
      refine wpAny_execs_nil ?_
      have P₉ : Pt B' (laEnv cd f L) _ (own :: [(135, tabObj tab)]) h₈ := P₈.sub (.cons _ (List.Sublist.refl _))
      refine law11_tail (s := { s with heap := h₈, toks := tk₈ }) P₉ hh hM' hC' hlen hip la (by exact g1) (by exact g2) (by exact rfl) (by exact rfl) hprev fun h₁₀ tk₁₀ B'' σ'' kB'' P'' hσ'' => ?_
      exact turnEnd kB'' P'' ⟨rfl, fun z z1 z2 z3 => by rw [hσ'' z z3]; simp only [upd]; rw [if_neg z2, if_neg z1]; exact hσ z z1 z2 z3⟩
end
end Mine
end

section
namespace Mine
open PySem PySem.W PySem.Calls PyProof.Rows

def tr1 (ps : List (Nat × Nat)) : List Nat := (rst (adjF ps) (List.range 7) 7).2
def partsOf (ps : List (Nat × Nat)) : List (List Nat) := (cutsOf (adjB ps) (tr1 ps).reverse).filter fun l => !l.isEmpty

/-- what the law asks, in plain words -/
structure Plain (ps : List (Nat × Nat)) : Prop where
  perm1 : (tr1 ps).Perm (List.range 7)
  cut1 : ∀ (k : Nat) (l : List Nat), (cutsOf (adjF ps) (List.range 7))[k]? = some l → l.Perm (newL (reachF ps) k) ∧ (newL (reachF ps) k ≠ [] → l.getLast? = some k)
  ord : ∀ p ∈ ps, (tr1 ps).idxOf p.1 < (tr1 ps).idxOf p.2 → reachF ps p.2 p.1 = true
  perm2 : (rst (adjB ps) (tr1 ps).reverse (tr1 ps).reverse.length).2.Perm (List.range 7)
  parts : ∀ (i : Nat) (l : List Nat), (partsOf ps)[i]? = some l → ∃ a, l.head? = some a ∧ a < 7 ∧ l.Perm (compL (reachF ps) a) ∧ ∀ (j : Nat) (l' : List Nat), j < i → (partsOf ps)[j]? = some l' → ∃ a', l'.head? = some a' ∧ a' < 7 ∧ reachF ps a a' = false

theorem px_lt (x : Int) : (px x).1 < 7 ∧ (px x).2 < 7 := by
  have h1 : x.fmod 7 < 7 := Int.fmod_lt_of_pos x (by decide)
  have h2 : (x.fdiv 7).fmod 7 < 7 := Int.fmod_lt_of_pos _ (by decide)
  have h3 := fm7 x
  have h4 := fm7 (x.fdiv 7)
  unfold px
  constructor <;> dsimp only <;> omega

theorem ps_lt (script : List Int) : ∀ p ∈ ps0 ++ psOf script, p.1 < 7 ∧ p.2 < 7 := by
  intro p hp
  rcases List.mem_append.mp hp with hp | hp
  · exact (by decide : ∀ p ∈ ps0, p.1 < 7 ∧ p.2 < 7) p hp
  · unfold psOf at hp
    obtain ⟨x, _, rfl⟩ := List.mem_map.mp hp
    exact px_lt x
theorem ps_len (script : List Int) : (ps0 ++ psOf script).length ≤ 19 := by
  unfold psOf ps0
  rw [List.length_append, List.length_map, List.length_take]
  simp only [List.length_cons, List.length_nil]
  omega

section
variable {w : World} {prog : Program} {A : Around} {s : Shared} {B : Heap} {σ : Str → Option Value} {cd : Value} {f L : Addr} {tab : Array Value}

theorem PairsAt.up {h h' : Heap} {P : Addr} {ps : List (Nat × Nat)} (x : PairsAt h P ps) (k : h.StaysIn h') : PairsAt h' P ps := by
  obtain ⟨us, a, b, c⟩ := x
  exact ⟨us, stays_list k a, b, fun i p e => let ⟨T, t1, t2, d, o, e1, e2⟩ := c i p e; ⟨T, t1, t2, d, o, k _ _ e1, e2⟩⟩

/-- from `again, parts = ..` on -/
theorem law_walkC {P1 R TR : Addr} {ps : List (Nat × Nat)} {Q : Flow → Shared → Prop} (S : LS w B tab) (P : Pt B (laEnv cd f L) σ [(135, tabObj tab)] s.heap) (hh : A.handled = none) (hroom : A.depth < 500) (hu : A.units + 100 < cLine)
    (hP1 : PairsAt B P1 ps) (hM : IsMat B R (reachF ps)) (hTR : IntsAt B TR (tr1 ps)) (hlt : ∀ p ∈ ps, p.1 < 7 ∧ p.2 < 7) (hpl : ps.length ≤ 19)
    (h1 : σ "pairs" = some (.ref P1)) (h2 : σ "reach" = some (.ref R)) (h3 : σ "trail" = some (.ref TR)) (H : Plain ps)
    (hQ : ∀ h' tk, B.StaysIn h' → (∃ tab', h'.get? 135 = some (tabObj tab')) → Q (.ret (.bool true)) { s with heap := h', toks := tk }) :
    wpAny (model prog w) A (execs [la8, la9, la10, la11, la12] (laEnv cd f L)) Q No s := by
  refine wpAny_execs_cons (law8 S P hh hroom hu hP1 (by omega) hlt h1 h3 hTR H.perm1 H.perm2 fun h₉ tk₉ B₉ tab₉ AG PA k₉ S₉ P₉ hAG hPA => ?_)
  have hne2 : (rst (adjB ps) (tr1 ps).reverse (tr1 ps).reverse.length).2 ≠ [] := fun q => by have := H.perm2.length_eq; rw [q] at this; cases this
  refine wpAny_execs_cons (law9 (s := { s with heap := h₉, toks := tk₉ }) P₉ rfl hAG hne2 hu fun h₁₀ tk₁₀ k₁₀ => ?_)
  have hcl2 : (cutsOf (adjB ps) (tr1 ps).reverse).length = 7 := by simp [cutsOf, H.perm1.length_eq]
  refine wpAny_execs_cons (law10 (s := { s with heap := h₁₀, toks := tk₁₀ }) (P₉.grow k₁₀) hh hu hPA (by omega) rfl fun h₁₁ tk₁₁ B₁₁ D k₁₁ hD P₁₁ => ?_)
  have hpn : (partsOf ps).length ≤ 100 := Nat.le_trans (List.length_filter_le _ _) (by omega)
  refine wpAny_execs_cons (law11 (s := { s with heap := h₁₁, toks := tk₁₁ }) (parts := partsOf ps) (S₉.up k₁₁).wd P₁₁ hh hu ((hM.up k₉).up k₁₁) hD hpn rfl (by exact h2) H.parts fun h₁₂ tk₁₂ B₁₂ σ₁₂ k₁₂ P₁₂ => ?_)
  unfold la12
  refine wpAny_execs_cons (wpAny_Return_some (ev_bool ?_))
  exact hQ h₁₂ tk₁₂ (fun b o e => P₁₂.st b o (k₁₂ _ _ (k₁₁ _ _ (k₉ _ _ e)))) ⟨_, (P₁₂.mu _ (.head _)).1⟩

/-- from `if trail == []` on -/
theorem law_walkB {P1 R TR CU : Addr} {ps : List (Nat × Nat)} {Q : Flow → Shared → Prop} (S : LS w B tab) (P : Pt B (laEnv cd f L) σ [(135, tabObj tab)] s.heap) (hh : A.handled = none) (hroom : A.depth < 500) (hu : A.units + 100 < cLine)
    (hP1 : PairsAt B P1 ps) (hM : IsMat B R (reachF ps)) (hTR : IntsAt B TR (tr1 ps)) (hCU : CutsAt B CU (cutsOf (adjF ps) (List.range 7))) (hlt : ∀ p ∈ ps, p.1 < 7 ∧ p.2 < 7) (hpl : ps.length ≤ 19)
    (h1 : σ "pairs" = some (.ref P1)) (h2 : σ "reach" = some (.ref R)) (h3 : σ "trail" = some (.ref TR)) (h4 : σ "cuts" = some (.ref CU)) (H : Plain ps)
    (hQ : ∀ h' tk, B.StaysIn h' → (∃ tab', h'.get? 135 = some (tabObj tab')) → Q (.ret (.bool true)) { s with heap := h', toks := tk }) :
    wpAny (model prog w) A (execs [la4, la5, la6, la7, la8, la9, la10, la11, la12] (laEnv cd f L)) Q No s := by
  have hne1 : tr1 ps ≠ [] := fun q => by have := H.perm1.length_eq; rw [q] at this; cases this
  refine wpAny_execs_cons (law4 P h3 hTR hne1 hu fun h₅ tk₅ k₅ => ?_)
  refine wpAny_execs_cons (law5 (s := { s with heap := h₅, toks := tk₅ }) (P.grow k₅) fun h₆ tk₆ B₆ SE k₆ hSE P₆ => ?_)
  refine wpAny_execs_cons (law6 (s := { s with heap := h₆, toks := tk₆ }) (cuts := cutsOf (adjF ps) (List.range 7)) (S.up k₆).wd P₆ hh hu (hM.up k₆) (hCU.up k₆) (by simp [cutsOf]) (by exact h2) (by exact h4) rfl hSE H.cut1 fun h₇ tk₇ B₇ σ₇ k₇ P₇ hσ₇ => ?_)
  have k47 : B.StaysIn B₇ := fun b o e => k₇ b o (k₆ b o e)
  have g1 : σ₇ "pairs" = some (.ref P1) := (hσ₇ _ (by decide) (by decide) (by decide)).trans h1
  have g2 : σ₇ "reach" = some (.ref R) := (hσ₇ _ (by decide) (by decide) (by decide)).trans h2
  have g3 : σ₇ "trail" = some (.ref TR) := (hσ₇ _ (by decide) (by decide) (by decide)).trans h3
  refine wpAny_execs_cons (law7 (s := { s with heap := h₇, toks := tk₇ }) P₇ hh (hP1.up k47) (hM.up k47) (hTR.up k47) hlt H.perm1 g1 g2 g3 H.ord fun h₈ tk₈ σ₈ P₈ hσ₈ => ?_)
  exact law_walkC (s := { s with heap := h₈, toks := tk₈ }) (S.up k47) P₈ hh hroom hu (hP1.up k47) (hM.up k47) (hTR.up k47) hlt hpl ((hσ₈ _ (by decide) (by decide)).trans g1) ((hσ₈ _ (by decide) (by decide)).trans g2) ((hσ₈ _ (by decide) (by decide)).trans g3) H fun h' tk k q => hQ h' tk (fun b o e => k _ _ (k47 _ _ e)) q

theorem law_walk {SC : Addr} {vs : List Value} {script : List Int} {Q : Flow → Shared → Prop} (S : LS w B tab) (P : Pt B (laEnv cd f L) σ [(135, tabObj tab)] s.heap) (hh : A.handled = none) (hroom : A.depth < 500) (hu : A.units + 100 < cLine)
    (hSC : B.IsList SC vs.toArray) (hI : IntsAre vs script) (hlen : script.length ≤ 63) (h1 : σ "script" = some (.ref SC)) (H : Plain (ps0 ++ psOf script))
    (hQ : ∀ h' tk, B.StaysIn h' → (∃ tab', h'.get? 135 = some (tabObj tab')) → Q (.ret (.bool true)) { s with heap := h', toks := tk }) :
    wpAny (model prog w) A (execs [la0, la1, la2, la3, la4, la5, la6, la7, la8, la9, la10, la11, la12] (laEnv cd f L)) Q No s := by
  generalize hps : ps0 ++ psOf script = ps at H
  have hlt : ∀ p ∈ ps, p.1 < 7 ∧ p.2 < 7 := by rw [← hps]; exact ps_lt script
  have hpl : ps.length ≤ 19 := by rw [← hps]; exact ps_len script
  refine wpAny_execs_cons ?_
  refine @law0 w prog A s B σ [(135, tabObj tab)] cd f L _ P fun h₁ tk₁ B₁ P0 k₁ hP0 P₁ => ?_
  refine wpAny_execs_cons (law1 (s := { s with heap := h₁, toks := tk₁ }) P₁ hh (stays_list k₁ hSC) hI hlen hP0 (by decide) (by exact h1) rfl fun h₂ tk₂ B₂ P1 k₂ hP1 P₂ => ?_)
  rw [hps] at hP1
  refine wpAny_execs_cons (law2 (s := { s with heap := h₂, toks := tk₂ }) ((S.up k₁).up k₂).wd P₂ hh hroom hP1 hlt rfl fun h₃ tk₃ B₃ R k₃ hM P₃ => ?_)
  refine wpAny_execs_cons (law3 (s := { s with heap := h₃, toks := tk₃ }) (((S.up k₁).up k₂).up k₃) P₃ hh hroom hu (hP1.up k₃) (by omega) hlt rfl H.perm1 fun h₄ tk₄ B₄ tab₄ TR CU k₄ S₄ P₄ hTR hCU => ?_)
  exact law_walkB (s := { s with heap := h₄, toks := tk₄ }) S₄ P₄ hh hroom hu ((hP1.up k₃).up k₄) (hM.up k₄) hTR hCU hlt hpl rfl rfl rfl rfl H fun h' tk k q => hQ h' tk (fun b o e => k _ _ (k₄ _ _ (k₃ _ _ (k₂ _ _ (k₁ _ _ e))))) q
end
end Mine
end

section
namespace Mine

/-! plain law, part 1: the search -/
inductive Rch (adj : Nat → List Nat) : Nat → Nat → Prop
  | refl (a : Nat) : Rch adj a a
  | tail {a b c : Nat} : Rch adj a b → c ∈ adj b → Rch adj a c

theorem Rch.trans {adj : Nat → List Nat} {a b c : Nat} (x : Rch adj a b) (y : Rch adj b c) : Rch adj a c := by
  induction y with
  | refl => exact x
  | tail _ h ih => exact ih.tail h

theorem Rch.one {adj : Nat → List Nat} {a b : Nat} (h : b ∈ adj a) : Rch adj a b := (Rch.refl a).tail h

abbrev St := (Nat → Bool) × List Nat

def Before (tr : List Nat) (y z : Nat) : Prop := ∃ pre post, tr = pre ++ z :: post ∧ y ∈ pre ++ [z]
theorem Before.app {tr u : List Nat} {y z : Nat} (h : Before tr y z) : Before (tr ++ u) y z := by
  obtain ⟨pre, post, rfl, hy⟩ := h
  exact ⟨pre, post ++ u, by simp, hy⟩

structure Inv (adj : Nat → List Nat) (st : St) : Prop where
  sub : ∀ x ∈ st.2, st.1 x = true
  nd : st.2.Nodup
  lt : ∀ x, st.1 x = true → x < 7
  clo : ∀ x ∈ st.2, ∀ y ∈ adj x, st.1 y = true

def Open (st : St) (x : Nat) : Prop := st.1 x = true ∧ x ∉ st.2

structure Res (adj : Nat → List Nat) (st st' : St) (roots : List Nat) : Prop where
  inv : Inv adj st'
  mono : ∀ x, st.1 x = true → st'.1 x = true
  done : ∀ r ∈ roots, st'.1 r = true
  ext : ∃ new, st'.2 = st.2 ++ new ∧ (∀ x, x ∈ new ↔ st'.1 x = true ∧ st.1 x = false) ∧ (∀ x ∈ new, ∃ r ∈ roots, Rch adj r x) ∧
    (∀ pre x post, new = pre ++ x :: post → ∀ y ∈ adj x, y ∈ st.2 ++ pre ∨ Rch adj y x) ∧
    (∀ x ∈ new, (∃ o, Open st o ∧ Rch adj x o) ∨ ∀ y, Rch adj x y → ∃ z, Rch adj x z ∧ Rch adj z x ∧ Before st'.2 y z)

theorem Res.open {adj : Nat → List Nat} {st st' : St} {roots : List Nat} (h : Res adj st st' roots) {x : Nat} (ho : Open st' x) : Open st x := by
  obtain ⟨new, e, hn, _⟩ := h.ext
  obtain ⟨h1, h2⟩ := ho
  rw [e] at h2
  cases hv : st.1 x with
  | true => exact ⟨hv, fun hm => h2 (List.mem_append_left _ hm)⟩
  | false => exact absurd (List.mem_append_right _ ((hn x).mpr ⟨h1, hv⟩)) h2

theorem Res.open' {adj : Nat → List Nat} {st st' : St} {roots : List Nat} (h : Res adj st st' roots) {x : Nat} (ho : Open st x) : Open st' x := by
  obtain ⟨new, e, hn, _⟩ := h.ext
  refine ⟨h.mono x ho.1, fun hm => ?_⟩
  rw [e] at hm
  rcases List.mem_append.mp hm with hm | hm
  · exact ho.2 hm
  · have := ((hn x).mp hm).2
    rw [ho.1] at this; cases this

theorem Res.nil {adj : Nat → List Nat} {st : St} (h : Inv adj st) : Res adj st st [] where
  inv := h
  mono _ h := h
  done _ h := nomatch h
  ext := ⟨[], by simp, fun x => ⟨fun h => (nomatch h), fun h => by obtain ⟨a, b⟩ := h; rw [a] at b; cases b⟩, fun _ h => (nomatch h), fun pre x post e => by simp at e, fun _ h => (nomatch h)⟩

theorem Res.cons {adj : Nat → List Nat} {st st1 st2 : St} {j : Nat} {r : List Nat} (h1 : Res adj st st1 [j]) (h2 : Res adj st1 st2 r) : Res adj st st2 (j :: r) where
  inv := h2.inv
  mono x h := h2.mono x (h1.mono x h)
  done x hx := by
    rcases List.mem_cons.mp hx with rfl | hx
    · exact h2.mono _ (h1.done _ (List.mem_singleton.mpr rfl))
    · exact h2.done x hx
  ext := by
    obtain ⟨n1, e1, m1, r1, o1, k1⟩ := h1.ext
    obtain ⟨n2, e2, m2, r2, o2, k2⟩ := h2.ext
    refine ⟨n1 ++ n2, by rw [e2, e1, List.append_assoc], fun x => ?_, fun x hx => ?_, fun pre x post e y hy => ?_, fun x hx => ?_⟩
    · rw [List.mem_append, m1, m2]
      constructor
      · rintro (⟨a, b⟩ | ⟨a, b⟩)
        · exact ⟨h2.mono x a, b⟩
        · refine ⟨a, ?_⟩
          cases hv : st.1 x with
          | false => rfl
          | true => rw [h1.mono x hv] at b; cases b
      · rintro ⟨a, b⟩
        cases hv : st1.1 x with
        | true => exact .inl ⟨rfl, b⟩
        | false => exact .inr ⟨a, rfl⟩
    · rcases List.mem_append.mp hx with hx | hx
      · obtain ⟨r', hr, hp⟩ := r1 x hx
        exact ⟨r', by rw [List.mem_singleton.mp hr]; exact List.mem_cons_self, hp⟩
      · obtain ⟨r', hr, hp⟩ := r2 x hx
        exact ⟨r', List.mem_cons_of_mem _ hr, hp⟩
    · rcases List.append_eq_append_iff.mp e with ⟨u, ea, eb⟩ | ⟨u, ea, eb⟩
      · rcases o2 u x post eb y hy with h | h
        · refine .inl ?_
          rw [e1] at h
          rw [ea, ← List.append_assoc]
          exact h
        · exact .inr h
      · cases u with
        | nil =>
          simp only [List.nil_append] at eb
          rcases o2 [] x post eb.symm y hy with h | h
          · refine .inl ?_
            rw [e1] at h
            simp only [List.append_nil] at h ea
            rw [← ea]; exact h
          · exact .inr h
        | cons x' u =>
          simp only [List.cons_append, List.cons.injEq] at eb
          obtain ⟨rfl, eb⟩ := eb
          exact o1 pre x u ea y hy
    · rcases List.mem_append.mp hx with hx | hx
      · rcases k1 x hx with ⟨o, ho, hr⟩ | h
        · exact .inl ⟨o, ho, hr⟩
        · refine .inr fun y hy => ?_
          obtain ⟨z, a, b, c⟩ := h y hy
          exact ⟨z, a, b, by rw [e2]; exact c.app⟩
      · rcases k2 x hx with ⟨o, ho, hr⟩ | h
        · exact .inl ⟨o, h1.open ho, hr⟩
        · exact .inr h

/-- what a search asks ahead -/
structure Pre (adj : Nat → List Nat) (st : St) (roots : List Nat) : Prop where
  inv : Inv adj st
  lt : ∀ r ∈ roots, r < 7
  op : ∀ o, Open st o → ∀ r ∈ roots, Rch adj o r

theorem res_fold {adj : Nat → List Nat} {n : Nat} (ih : ∀ st k, Pre adj st [k] → cnt st.1 ≤ n → Res adj st (dfs adj n st k) [k]) (hl : ∀ st k, k < 7 → Less st (dfs adj n st k)) : ∀ (l : List Nat) st, Pre adj st l → cnt st.1 ≤ n → Res adj st (l.foldl (dfs adj n) st) l
  | [], st, h, _ => Res.nil h.inv
  | j :: r, st, h, hc => by
    have h1 := ih st j ⟨h.inv, fun x hx => h.lt x (by rw [List.mem_singleton.mp hx]; exact List.mem_cons_self), fun o ho x hx => h.op o ho x (by rw [List.mem_singleton.mp hx]; exact List.mem_cons_self)⟩ hc
    have h2 := res_fold ih hl r (dfs adj n st j) ⟨h1.inv, fun x hx => h.lt x (List.mem_cons_of_mem _ hx), fun o ho x hx => h.op o (h1.open ho) x (List.mem_cons_of_mem _ hx)⟩ (Nat.le_trans (hl st j (h.lt j List.mem_cons_self)).1 hc)
    exact h1.cons h2

theorem res_dfs {adj : Nat → List Nat} (ha : ∀ k, k < 7 → ∀ j ∈ adj k, j < 7) : ∀ n st k, Pre adj st [k] → cnt st.1 ≤ n → Res adj st (dfs adj n st k) [k]
  | 0, st, k, h, hc => by
    have hk := h.lt k (List.mem_singleton.mpr rfl)
    have hv : st.1 k = true := by
      cases e : st.1 k with
      | true => rfl
      | false => have := cnt_pos hk e; omega
    have z := Res.nil h.inv
    exact ⟨z.inv, z.mono, fun r hr => by rw [List.mem_singleton.mp hr]; exact hv, [], by simp [dfs], fun x => ⟨fun h => (nomatch h), fun h => by obtain ⟨a, b⟩ := h; unfold dfs at a; rw [a] at b; cases b⟩, fun _ h => (nomatch h), fun pre x post e => by simp at e, fun _ h => (nomatch h)⟩
  | n + 1, st, k, h, hc => by
    have hk := h.lt k (List.mem_singleton.mpr rfl)
    cases hv : st.1 k with
    | true =>
      have e : dfs adj (n + 1) st k = st := by unfold dfs; rw [if_pos hv]
      rw [e]
      have z := Res.nil h.inv
      exact ⟨z.inv, z.mono, fun r hr => by rw [List.mem_singleton.mp hr]; exact hv, [], by simp, fun x => ⟨fun h => (nomatch h), fun h => by obtain ⟨a, b⟩ := h; rw [a] at b; cases b⟩, fun _ h => (nomatch h), fun pre x post e => by simp at e, fun _ h => (nomatch h)⟩
    | false =>
      have e : dfs adj (n + 1) st k = (((adj k).foldl (dfs adj n) (mark st.1 k, st.2)).1, ((adj k).foldl (dfs adj n) (mark st.1 k, st.2)).2 ++ [k]) := by
        rw [dfs, if_neg (by rw [hv]; exact Bool.false_ne_true)]
      have hm : ∀ x, mark st.1 k x = true ↔ x = k ∨ st.1 x = true := fun x => by simp [mark]
      have hknot : k ∉ st.2 := fun q => by have := h.inv.sub k q; rw [hv] at this; cases this
      have hopen : ∀ o, Open (mark st.1 k, st.2) o → o = k ∨ Open st o := fun o ho => ((hm o).mp ho.1).imp id fun q => ⟨q, ho.2⟩
      have hpre : Pre adj (mark st.1 k, st.2) (adj k) := by
        refine ⟨⟨fun x hx => (hm x).mpr (.inr (h.inv.sub x hx)), h.inv.nd, fun x hx => ?_, fun x hx y hy => (hm y).mpr (.inr (h.inv.clo x hx y hy))⟩, ha k hk, fun o ho r hr => ?_⟩
        · rcases (hm x).mp hx with rfl | q
          · exact hk
          · exact h.inv.lt x q
        · rcases hopen o ho with rfl | q
          · exact Rch.one hr
          · exact (h.op o q k (List.mem_singleton.mpr rfl)).tail hr
      have hcm := cnt_mark hk hv
      have R := res_fold (res_dfs ha n) (less_dfs ha n) (adj k) (mark st.1 k, st.2) hpre (by dsimp only; omega)
      rw [e]
      generalize (adj k).foldl (dfs adj n) (mark st.1 k, st.2) = s1 at R ⊢
      obtain ⟨new, e1, mn, rn, on, kn⟩ := R.ext
      dsimp only at e1 mn
      have hk1 : s1.1 k = true := R.mono k ((hm k).mpr (.inl rfl))
      have hkn : k ∉ new := fun q => by
        have := ((mn k).mp q).2
        rw [(hm k).mpr (.inl rfl)] at this; cases this
      have hks : k ∉ s1.2 := fun q => by
        rw [e1] at q
        exact (List.mem_append.mp q).elim hknot hkn
      have hop1 : ∀ y, s1.1 y = true → y ∉ s1.2 → y = k ∨ Open st y := fun y h1 h2 => hopen y (R.open ⟨h1, h2⟩)
      have hok : ∀ o, Open st o → Rch adj o k := fun o ho => h.op o ho k (List.mem_singleton.mpr rfl)
      -- what k reaches, where it reaches nothing open
      have hall : (∀ o, Open st o → ¬ Rch adj k o) → ∀ y, Rch adj k y → y ∈ s1.2 ∨ y = k := fun hno y hy => by
        induction hy with
        | refl => exact .inr rfl
        | @tail b c hb hc' ihb =>
          have hc1 : s1.1 c = true := by
            rcases ihb with q | rfl
            · exact R.inv.clo b q c hc'
            · exact R.done c hc'
          by_cases hc2 : c ∈ s1.2
          · exact .inl hc2
          · rcases hop1 c hc1 hc2 with q | q
            · exact .inr q
            · exact absurd (hb.tail hc') (hno c q)
      have hK : (∃ o, Open st o ∧ Rch adj k o) ∨ ∀ y, Rch adj k y → Before (s1.2 ++ [k]) y k := by
        by_cases hno : ∃ o, Open st o ∧ Rch adj k o
        · exact .inl hno
        · refine .inr fun y hy => ⟨s1.2, [], rfl, ?_⟩
          rcases hall (fun o ho hr => hno ⟨o, ho, hr⟩) y hy with q | rfl
          · exact List.mem_append_left _ q
          · exact List.mem_append_right _ (List.mem_singleton.mpr rfl)
      refine ⟨⟨fun x hx => ?_, ?_, R.inv.lt, fun x hx y hy => ?_⟩, fun x hx => R.mono x ((hm x).mpr (.inr hx)), fun r hr => by rw [List.mem_singleton.mp hr]; exact hk1, new ++ [k], by rw [e1, List.append_assoc], fun x => ?_, fun x hx => ⟨k, List.mem_singleton.mpr rfl, ?_⟩, fun pre x post e2 y hy => ?_, fun x hx => ?_⟩
      · rcases List.mem_append.mp hx with hx | hx
        · exact R.inv.sub x hx
        · rw [List.mem_singleton.mp hx]; exact hk1
      · exact List.nodup_append.mpr ⟨R.inv.nd, by simp, fun a h1 b h2 q => by rw [List.mem_singleton.mp h2] at q; exact hks (q ▸ h1)⟩
      · rcases List.mem_append.mp hx with hx | hx
        · exact R.inv.clo x hx y hy
        · rw [List.mem_singleton.mp hx] at hy; exact R.done y hy
      · rw [List.mem_append, mn, List.mem_singleton]
        constructor
        · rintro (⟨a, b⟩ | rfl)
          · refine ⟨a, ?_⟩
            cases q : st.1 x with
            | false => rfl
            | true => rw [(hm x).mpr (.inr q)] at b; cases b
          · exact ⟨hk1, hv⟩
        · rintro ⟨a, b⟩
          by_cases q : x = k
          · exact .inr q
          · refine .inl ⟨a, ?_⟩
            cases q2 : mark st.1 k x with
            | false => rfl
            | true => rcases (hm x).mp q2 with q3 | q3
                      · exact absurd q3 q
                      · rw [q3] at b; cases b
      · rcases List.mem_append.mp hx with hx | hx
        · obtain ⟨r, hr, hp⟩ := rn x hx
          exact (Rch.one hr).trans hp
        · rw [List.mem_singleton.mp hx]; exact Rch.refl k
      · have lastk : ∀ y ∈ adj k, y ∈ st.2 ++ new ∨ Rch adj y k := fun y hy => by
          by_cases hc2 : y ∈ s1.2
          · exact .inl (e1 ▸ hc2)
          · rcases hop1 y (R.done y hy) hc2 with rfl | q
            · exact .inr (Rch.refl _)
            · exact .inr (hok y q)
        rcases List.append_eq_append_iff.mp e2 with ⟨u, ea, eb⟩ | ⟨u, ea, eb⟩
        · cases u with
          | nil =>
            simp only [List.nil_append, List.cons.injEq] at eb
            obtain ⟨rfl, _⟩ := eb
            rw [ea, List.append_nil]
            exact lastk y hy
          | cons a u => simp at eb
        · cases u with
          | nil =>
            simp only [List.nil_append, List.cons.injEq] at eb
            obtain ⟨rfl, _⟩ := eb
            rw [List.append_nil] at ea
            rw [← ea]
            exact lastk y hy
          | cons a u =>
            simp only [List.cons_append, List.cons.injEq] at eb
            obtain ⟨rfl, _⟩ := eb
            exact on pre x u ea y hy
      · have hxk : Rch adj k x := by
          rcases List.mem_append.mp hx with hx | hx
          · obtain ⟨r, hr, hp⟩ := rn x hx
            exact (Rch.one hr).trans hp
          · rw [List.mem_singleton.mp hx]; exact Rch.refl k
        have viaK : Rch adj x k → (∃ o, Open st o ∧ Rch adj x o) ∨ ∀ y, Rch adj x y → ∃ z, Rch adj x z ∧ Rch adj z x ∧ Before (s1.2 ++ [k]) y z := fun hxk' => by
          rcases hK with ⟨o, ho, hr⟩ | hK
          · exact .inl ⟨o, ho, hxk'.trans hr⟩
          · exact .inr fun y hy => ⟨k, hxk', hxk, hK y (hxk.trans hy)⟩
        rcases List.mem_append.mp hx with hx' | hx'
        · rcases kn x hx' with ⟨o, ho, hr⟩ | hy
          · rcases hopen o ho with rfl | q
            · exact viaK hr
            · exact .inl ⟨o, q, hr⟩
          · refine .inr fun y hxy => ?_
            obtain ⟨z, a, b, c⟩ := hy y hxy
            exact ⟨z, a, b, c.app⟩
        · rw [List.mem_singleton.mp hx'] at viaK ⊢
          exact viaK (Rch.refl k)
end Mine
end

section
namespace Mine

theorem cnt_le7 (vis : Nat → Bool) : cnt vis ≤ 7 := by
  have h : ∀ b : Bool, (if b = true then 0 else 1) ≤ 1 := fun b => by cases b <;> decide
  unfold cnt
  have h0 := h (vis 0); have h1 := h (vis 1); have h2 := h (vis 2); have h3 := h (vis 3); have h4 := h (vis 4); have h5 := h (vis 5); have h6 := h (vis 6)
  omega

theorem perm_of_mem {l₁ l₂ : List Nat} (h1 : l₁.Nodup) (h2 : l₂.Nodup) (h : ∀ x, x ∈ l₁ ↔ x ∈ l₂) : l₁.Perm l₂ := by
  rw [List.perm_iff_count]
  intro a
  rw [h1.count, h2.count]
  simp [h a]

section
variable {adj : Nat → List Nat} {ord : List Nat}

structure RF (adj : Nat → List Nat) (st : St) : Prop where
  inv : Inv adj st
  all : ∀ x, st.1 x = true → x ∈ st.2

theorem rf_step (ha : ∀ k, k < 7 → ∀ j ∈ adj k, j < 7) {i k : Nat} (hk : ord[i]? = some k) (hk7 : k < 7) (R : RF adj (rst adj ord i)) : Res adj (rst adj ord i) (rst adj ord (i + 1)) [k] ∧ RF adj (rst adj ord (i + 1)) := by
  have h : Res adj (rst adj ord i) (rst adj ord (i + 1)) [k] := by
    rw [rst_succ hk]
    exact res_dfs ha 7 _ k ⟨R.inv, fun r hr => by rw [List.mem_singleton.mp hr]; exact hk7, fun o ho => absurd (R.all o ho.1) ho.2⟩ (cnt_le7 _)
  refine ⟨h, h.inv, fun x hx => ?_⟩
  by_cases hm : x ∈ (rst adj ord (i + 1)).2
  · exact hm
  · have := h.open ⟨hx, hm⟩
    exact absurd (R.all x this.1) this.2

theorem rf_all (ha : ∀ k, k < 7 → ∀ j ∈ adj k, j < 7) (ho : ∀ k ∈ ord, k < 7) : ∀ i, RF adj (rst adj ord i)
  | 0 => ⟨⟨fun x h => by simp [rst] at h, by simp [rst], fun x h => by simp [rst] at h, fun x h => by simp [rst] at h⟩, fun x h => by simp [rst] at h⟩
  | i + 1 => by
    cases hk : ord[i]? with
    | none =>
      have : rst adj ord (i + 1) = rst adj ord i := by
        unfold rst; rw [List.take_add_one, hk]; simp
      rw [this]; exact rf_all ha ho i
    | some k => exact (rf_step ha hk (ho k (List.mem_of_getElem? hk)) (rf_all ha ho i)).2

theorem closed {st : St} (R : RF adj st) {a b : Nat} (h : a ∈ st.2) (r : Rch adj a b) : b ∈ st.2 := by
  induction r with
  | refl => exact h
  | tail _ hc ih => exact R.all _ (R.inv.clo _ ih _ hc)

/-- what the i-th close puts on the trail -/
theorem cut_facts (ha : ∀ k, k < 7 → ∀ j ∈ adj k, j < 7) (ho : ∀ k ∈ ord, k < 7) {i k : Nat} (hk : ord[i]? = some k) :
    (rst adj ord (i + 1)).2 = (rst adj ord i).2 ++ rcut adj ord i ∧ (rcut adj ord i).Nodup ∧ (∀ x, x ∈ rcut adj ord i ↔ Rch adj k x ∧ x ∉ (rst adj ord i).2) ∧ (rcut adj ord i ≠ [] → (rcut adj ord i).getLast? = some k) := by
  have R := rf_all ha ho i
  obtain ⟨h, R'⟩ := rf_step ha hk (ho k (List.mem_of_getElem? hk)) R
  obtain ⟨new, e, mn, rn, on, kn⟩ := h.ext
  have ec : rcut adj ord i = new := by unfold rcut; rw [e]; simp
  have hkin : k ∈ (rst adj ord (i + 1)).2 := R'.all k (h.done k (List.mem_singleton.mpr rfl))
  refine ⟨by rw [ec]; exact e, ?_, fun x => ?_, fun hne => ?_⟩
  · rw [ec]
    have := R'.inv.nd
    rw [e] at this
    exact (List.nodup_append.mp this).2.1
  · rw [ec]
    constructor
    · intro hx
      obtain ⟨r, hr, hp⟩ := rn x hx
      rw [List.mem_singleton.mp hr] at hp
      refine ⟨hp, fun q => ?_⟩
      have := ((mn x).mp hx).2
      rw [R.inv.sub x q] at this; cases this
    · rintro ⟨h1, h2⟩
      have := closed R' hkin h1
      rw [e] at this
      exact (List.mem_append.mp this).resolve_left h2
  · cases hv : (rst adj ord i).1 k with
    | true =>
      have q : rst adj ord (i + 1) = rst adj ord i := by rw [rst_succ hk]; unfold dfs; rw [if_pos hv]
      exfalso; apply hne; unfold rcut; rw [q]; simp
    | false =>
      have q : (rst adj ord (i + 1)).2.getLast? = some k := by
        rw [rst_succ hk, dfs, if_neg (by rw [hv]; exact Bool.false_ne_true)]; simp
      rw [e] at q
      rw [ec] at hne ⊢
      rw [List.getLast?_append] at q
      cases hl : new.getLast? with
      | none => exact absurd (List.getLast?_eq_none_iff.mp hl) hne
      | some z => rw [hl] at q; simpa using q

theorem in_trail (ha : ∀ k, k < 7 → ∀ j ∈ adj k, j < 7) (ho : ∀ k ∈ ord, k < 7) : ∀ n i k, i < n → ord[i]? = some k → k ∈ (rst adj ord n).2
  | 0, i, k, h, _ => absurd h (Nat.not_lt_zero _)
  | n + 1, i, k, h, hk => by
    rcases Nat.lt_succ_iff_lt_or_eq.mp h with h | rfl
    · have := in_trail ha ho n i k h hk
      cases hk' : ord[n]? with
      | none =>
        have e : rst adj ord (n + 1) = rst adj ord n := by unfold rst; rw [List.take_add_one, hk']; simp
        rw [e]; exact this
      | some k' =>
        rw [(cut_facts ha ho hk').1]
        exact List.mem_append_left _ this
    · have R := rf_all ha ho (adj := adj) (ord := ord)
      obtain ⟨h1, R'⟩ := rf_step ha hk (ho k (List.mem_of_getElem? hk)) (R i)
      exact R'.all k (h1.done k (List.mem_singleton.mpr rfl))

theorem trail_perm (ha : ∀ k, k < 7 → ∀ j ∈ adj k, j < 7) (ho : ∀ k ∈ ord, k < 7) (hall : ∀ k, k < 7 → k ∈ ord) : (rst adj ord ord.length).2.Perm (List.range 7) := by
  have R := rf_all ha ho (adj := adj) ord.length
  refine perm_of_mem R.inv.nd List.nodup_range fun x => ⟨fun hx => List.mem_range.mpr (R.inv.lt x (R.inv.sub x hx)), fun hx => ?_⟩
  obtain ⟨i, hi, e⟩ := List.getElem_of_mem (hall x (List.mem_range.mp hx))
  exact in_trail ha ho _ i x hi (by rw [List.getElem?_eq_getElem hi, e])
end
end Mine
end

section
namespace Mine

theorem ord_prop {adj : Nat → List Nat} {ord : List Nat} (ha : ∀ k, k < 7 → ∀ j ∈ adj k, j < 7) (ho : ∀ k ∈ ord, k < 7) : ∀ i pre x post, (rst adj ord i).2 = pre ++ x :: post → ∀ y ∈ adj x, y ∈ pre ∨ Rch adj y x
  | 0, pre, x, post, e, y, _ => by simp [rst] at e
  | i + 1, pre, x, post, e, y, hy => by
    cases hk : ord[i]? with
    | none =>
      have q : rst adj ord (i + 1) = rst adj ord i := by unfold rst; rw [List.take_add_one, hk]; simp
      rw [q] at e
      exact ord_prop ha ho i pre x post e y hy
    | some k =>
      obtain ⟨h, _⟩ := rf_step ha hk (ho k (List.mem_of_getElem? hk)) (rf_all ha ho i)
      obtain ⟨new, en, mn, rn, on, kn⟩ := h.ext
      rw [en] at e
      rcases List.append_eq_append_iff.mp e with ⟨u, ea, eb⟩ | ⟨u, ea, eb⟩
      · rcases on u x post eb y hy with q | q
        · exact .inl (ea ▸ q)
        · exact .inr q
      · cases u with
        | nil =>
          simp only [List.nil_append] at eb
          rcases on [] x post eb.symm y hy with q | q
          · refine .inl ?_
            simp only [List.append_nil] at q ea
            rw [← ea]; exact q
          · exact .inr q
        | cons x' u =>
          simp only [List.cons_append, List.cons.injEq] at eb
          obtain ⟨rfl, eb⟩ := eb
          exact ord_prop ha ho i pre x u ea y hy

theorem comp_prop {adj : Nat → List Nat} {ord : List Nat} (ha : ∀ k, k < 7 → ∀ j ∈ adj k, j < 7) (ho : ∀ k ∈ ord, k < 7) : ∀ i, ∀ x ∈ (rst adj ord i).2, ∀ y, Rch adj x y → ∃ z, Rch adj x z ∧ Rch adj z x ∧ Before (rst adj ord i).2 y z
  | 0, x, hx, _, _ => by simp [rst] at hx
  | i + 1, x, hx, y, hy => by
    cases hk : ord[i]? with
    | none =>
      have q : rst adj ord (i + 1) = rst adj ord i := by unfold rst; rw [List.take_add_one, hk]; simp
      rw [q] at hx ⊢
      exact comp_prop ha ho i x hx y hy
    | some k =>
      have R := rf_all ha ho (adj := adj) (ord := ord) i
      obtain ⟨h, _⟩ := rf_step ha hk (ho k (List.mem_of_getElem? hk)) R
      obtain ⟨new, en, mn, rn, on, kn⟩ := h.ext
      rw [en] at hx
      rcases List.mem_append.mp hx with hx | hx
      · obtain ⟨z, a, b, c⟩ := comp_prop ha ho i x hx y hy
        exact ⟨z, a, b, by rw [en]; exact c.app⟩
      · rcases kn x hx with ⟨o, hop, _⟩ | q
        · exact absurd (R.all o hop.1) hop.2
        · exact q y hy

/-! Warshall -/
theorem bLoop_eq (M : Nat → Nat → Bool) (a mid : Nat) : ∀ n i j, bLoop M a mid n i j = (M i j || (decide (i = a) && decide (j < n) && M mid j))
  | 0, i, j => by simp [bLoop]
  | n + 1, i, j => by
    rw [bLoop_succ]
    have h := bLoop_eq M a mid n
    have h1 : bLoop M a mid n mid n = M mid n := by rw [h]; simp
    rw [h1]
    by_cases hm : M mid n = true
    · rw [if_pos hm]
      unfold setM
      by_cases hij : i = a ∧ j = n
      · obtain ⟨rfl, rfl⟩ := hij
        simp [hm]
      · rw [if_neg hij, h]
        by_cases hi : i = a
        · have hj : j ≠ n := fun q => hij ⟨hi, q⟩
          have e : decide (j < n + 1) = decide (j < n) := by simp; omega
          rw [e]
        · simp [hi]
    · rw [if_neg hm, h]
      by_cases hj : j = n
      · subst hj; simp at hm; simp [hm]
      · have e : decide (j < n + 1) = decide (j < n) := by simp; omega
        rw [e]

theorem aLoop_eq (M : Nat → Nat → Bool) (mid : Nat) (hmid : mid < 7) : ∀ n i j, j < 7 → aLoop M mid n i j = (M i j || (decide (i < n) && M i mid && M mid j))
  | 0, i, j, _ => by simp [aLoop]
  | n + 1, i, j, hj => by
    rw [aLoop_succ]
    have h := aLoop_eq M mid hmid n
    have h1 : aLoop M mid n n mid = M n mid := by rw [h n mid hmid]; simp
    have h2 : aLoop M mid n mid j = M mid j := by rw [h mid j hj]; cases M mid j <;> simp
    rw [h1]
    by_cases hn : M n mid = true
    · rw [if_pos hn, bLoop_eq, h i j hj, h2]
      by_cases hi : i = n
      · subst hi; simp [hj, hn]
      · have e : decide (i < n + 1) = decide (i < n) := by simp; omega
        rw [e]; simp [hi]
    · rw [if_neg hn, h i j hj]
      by_cases hi : i = n
      · subst hi; simp at hn; simp [hn]
      · have e : decide (i < n + 1) = decide (i < n) := by simp; omega
        rw [e]

theorem wLoop_eq (M : Nat → Nat → Bool) {n i j : Nat} (hn : n < 7) (hi : i < 7) (hj : j < 7) : wLoop M (n + 1) i j = (wLoop M n i j || (wLoop M n i n && wLoop M n n j)) := by
  rw [wLoop_succ, aLoop_eq _ n hn 7 i j hj]
  simp [hi]

theorem setM_fold (ps : List (Nat × Nat)) : ∀ M a b, ps.foldl (fun M p => setM M p.1 p.2) M a b = true ↔ M a b = true ∨ (a, b) ∈ ps := by
  induction ps with
  | nil => intro M a b; simp
  | cons p r ih =>
    intro M a b
    rw [List.foldl_cons, ih, List.mem_cons]
    unfold setM
    by_cases h : a = p.1 ∧ b = p.2
    · rw [if_pos h]
      have : (a, b) = p := by rw [h.1, h.2]
      simp [this]
    · rw [if_neg h]
      have : (a, b) ≠ p := fun q => h ⟨by rw [← q], by rw [← q]⟩
      simp [this]

theorem pLoop_iff (ps : List (Nat × Nat)) (a b : Nat) : pLoop ps a b = true ↔ a = b ∨ (a, b) ∈ ps := by
  unfold pLoop
  rw [setM_fold]
  simp [m0]

theorem mem_adjF {ps : List (Nat × Nat)} {a b : Nat} : b ∈ adjF ps a ↔ (a, b) ∈ ps := by
  unfold adjF
  simp only [List.mem_map, List.mem_filter, beq_iff_eq]
  constructor
  · rintro ⟨p, ⟨hp, rfl⟩, rfl⟩; exact hp
  · intro h; exact ⟨(a, b), ⟨h, rfl⟩, rfl⟩
theorem mem_adjB {ps : List (Nat × Nat)} {a b : Nat} : b ∈ adjB ps a ↔ (b, a) ∈ ps := by
  unfold adjB
  simp only [List.mem_map, List.mem_filter, beq_iff_eq]
  constructor
  · rintro ⟨p, ⟨hp, rfl⟩, rfl⟩; exact hp
  · intro h; exact ⟨(b, a), ⟨h, rfl⟩, rfl⟩

section
variable {ps : List (Nat × Nat)} (hlt : ∀ p ∈ ps, p.1 < 7 ∧ p.2 < 7)

theorem w_mono (M : Nat → Nat → Bool) : ∀ n, n ≤ 7 → ∀ i j, i < 7 → j < 7 → M i j = true → wLoop M n i j = true
  | 0, _, i, j, _, _, h => by simpa [wLoop] using h
  | n + 1, hn, i, j, hi, hj, h => by rw [wLoop_eq M (by omega) hi hj, w_mono M n (by omega) i j hi hj h]; rfl

theorem w_sound : ∀ n, n ≤ 7 → ∀ i j, i < 7 → j < 7 → wLoop (pLoop ps) n i j = true → Rch (adjF ps) i j
  | 0, _, i, j, _, _, h => by
    have h' : pLoop ps i j = true := by simpa [wLoop] using h
    rcases (pLoop_iff ps i j).mp h' with rfl | h'
    · exact Rch.refl _
    · exact Rch.one (mem_adjF.mpr h')
  | n + 1, hn, i, j, hi, hj, h => by
    rw [wLoop_eq _ (by omega) hi hj, Bool.or_eq_true, Bool.and_eq_true] at h
    rcases h with h | ⟨h1, h2⟩
    · exact w_sound n (by omega) i j hi hj h
    · exact (w_sound n (by omega) i n hi (by omega) h1).trans (w_sound n (by omega) n j (by omega) hj h2)

theorem w_trans (M : Nat → Nat → Bool) : ∀ n, n ≤ 7 → ∀ m, m < n → ∀ a b, a < 7 → b < 7 → wLoop M n a m = true → wLoop M n m b = true → wLoop M n a b = true
  | 0, _, m, hm, _, _, _, _, _, _ => absurd hm (Nat.not_lt_zero _)
  | n + 1, hn, m, hm, a, b, ha, hb, h1, h2 => by
    have hn7 : n < 7 := by omega
    have hm7 : m < 7 := by omega
    have T := w_trans M n (by omega)
    rw [wLoop_eq M hn7 ha hm7] at h1
    rw [wLoop_eq M hn7 hm7 hb] at h2
    rw [wLoop_eq M hn7 ha hb]
    simp only [Bool.or_eq_true, Bool.and_eq_true] at h1 h2 ⊢
    rcases Nat.lt_succ_iff_lt_or_eq.mp hm with hm' | rfl
    · rcases h1 with h1 | ⟨h1, h1'⟩ <;> rcases h2 with h2 | ⟨h2, h2'⟩
      · exact .inl (T m hm' a b ha hb h1 h2)
      · exact .inr ⟨T m hm' a n ha hn7 h1 h2, h2'⟩
      · exact .inr ⟨h1, T m hm' n b hn7 hb h1' h2⟩
      · exact .inr ⟨h1, h2'⟩
    · rcases h1 with h1 | ⟨h1, _⟩ <;> rcases h2 with h2 | ⟨_, h2⟩ <;> exact .inr ⟨h1, h2⟩

include hlt in
theorem rch_lt {a b : Nat} (ha : a < 7) (h : Rch (adjF ps) a b) : b < 7 := by
  induction h with
  | refl => exact ha
  | tail _ hc _ => exact (hlt _ (mem_adjF.mp hc)).2

include hlt in
theorem reach_iff {a b : Nat} (ha : a < 7) (hb : b < 7) : reachF ps a b = true ↔ Rch (adjF ps) a b := by
  refine ⟨w_sound 7 (Nat.le_refl _) a b ha hb, fun h => ?_⟩
  clear hb
  unfold reachF
  induction h with
  | refl => exact w_mono _ 7 (Nat.le_refl _) a a ha ha ((pLoop_iff ps a a).mpr (.inl rfl))
  | @tail b c h1 h2 ih =>
    have hb := rch_lt hlt ha h1
    have hc := (hlt _ (mem_adjF.mp h2)).2
    exact w_trans _ 7 (Nat.le_refl _) b hb a c ha hc ih (w_mono _ 7 (Nat.le_refl _) b c hb hc ((pLoop_iff ps b c).mpr (.inr (mem_adjF.mp h2))))
end
end Mine
end

section
namespace Mine

theorem Rch.head {adj : Nat → List Nat} {a b c : Nat} (h : b ∈ adj a) (r : Rch adj b c) : Rch adj a c := (Rch.one h).trans r

theorem rev1 {ps : List (Nat × Nat)} {a b : Nat} (h : Rch (adjB ps) a b) : Rch (adjF ps) b a := by
  induction h with
  | refl => exact Rch.refl _
  | tail _ hc ih => exact Rch.head (mem_adjF.mpr (mem_adjB.mp hc)) ih
theorem rev2 {ps : List (Nat × Nat)} {a b : Nat} (h : Rch (adjF ps) a b) : Rch (adjB ps) b a := by
  induction h with
  | refl => exact Rch.refl _
  | tail _ hc ih => exact Rch.head (mem_adjB.mpr (mem_adjF.mp hc)) ih

theorem rst_mono {adj : Nat → List Nat} {ord : List Nat} (ha : ∀ k, k < 7 → ∀ j ∈ adj k, j < 7) (ho : ∀ k ∈ ord, k < 7) {x m : Nat} (hx : x ∈ (rst adj ord m).2) : ∀ d, x ∈ (rst adj ord (m + d)).2
  | 0 => hx
  | d + 1 => by
    have ih := rst_mono ha ho hx d
    show x ∈ (rst adj ord (m + d + 1)).2
    cases hk : ord[m + d]? with
    | none =>
      have e : rst adj ord (m + d + 1) = rst adj ord (m + d) := by unfold rst; rw [List.take_add_one, hk]; simp
      rw [e]; exact ih
    | some k => rw [(cut_facts ha ho hk).1]; exact List.mem_append_left _ ih

theorem cut_none {adj : Nat → List Nat} {ord : List Nat} {i : Nat} (hk : ord[i]? = none) : rcut adj ord i = [] := by
  have e : rst adj ord (i + 1) = rst adj ord i := by unfold rst; rw [List.take_add_one, hk]; simp
  unfold rcut; rw [e]; simp

theorem cuts_get {adj : Nat → List Nat} {ord : List Nat} {k : Nat} {l : List Nat} (h : (cutsOf adj ord)[k]? = some l) : k < ord.length ∧ l = rcut adj ord k := by
  unfold cutsOf at h
  rw [List.getElem?_map] at h
  obtain ⟨j, hj, e⟩ := Option.map_eq_some_iff.mp h
  have := List.getElem?_eq_some_iff.mp hj
  obtain ⟨h1, h2⟩ := this
  rw [List.getElem_range] at h2
  subst h2
  exact ⟨by simpa using h1, e.symm⟩

section
variable {ps : List (Nat × Nat)} (hlt : ∀ p ∈ ps, p.1 < 7 ∧ p.2 < 7)

include hlt in
theorem haF : ∀ k, k < 7 → ∀ j ∈ adjF ps k, j < 7 := fun _ _ _ hj => (hlt _ (mem_adjF.mp hj)).2
include hlt in
theorem haB : ∀ k, k < 7 → ∀ j ∈ adjB ps k, j < 7 := fun _ _ _ hj => (hlt _ (mem_adjB.mp hj)).1

theorem ho1 : ∀ k ∈ List.range 7, k < 7 := fun _ h => List.mem_range.mp h

include hlt in
theorem p_perm1 : (tr1 ps).Perm (List.range 7) := trail_perm (adj := adjF ps) (ord := List.range 7) (haF hlt) ho1 fun _ h => List.mem_range.mpr h

include hlt in
theorem seen_iff : ∀ k, k ≤ 7 → ∀ x, x ∈ seenL (reachF ps) k ↔ x ∈ (rst (adjF ps) (List.range 7) k).2
  | 0, _, x => by simp [seenL, rst]
  | k + 1, hk, x => by
    have hk7 : k < 7 := by omega
    obtain ⟨e, _, m, _⟩ := cut_facts (haF hlt) ho1 (List.getElem?_range hk7 : (List.range 7)[k]? = some k)
    have ih := seen_iff k (by omega)
    rw [e]
    unfold seenL
    rw [List.mem_append, List.mem_append, ih x, m x, List.mem_filter, List.mem_range]
    simp only [Bool.and_eq_true, Bool.not_eq_true', List.contains_eq_mem, decide_eq_false_iff_not]
    rw [ih x]
    constructor
    · rintro (h | ⟨h1, h2, h3⟩)
      · exact .inl h
      · exact .inr ⟨(reach_iff hlt hk7 h1).mp h2, h3⟩
    · rintro (h | ⟨h1, h2⟩)
      · exact .inl h
      · have := rch_lt hlt hk7 h1
        exact .inr ⟨this, (reach_iff hlt hk7 this).mpr h1, h2⟩

include hlt in
theorem p_cut1 (k : Nat) (l : List Nat) (h : (cutsOf (adjF ps) (List.range 7))[k]? = some l) : l.Perm (newL (reachF ps) k) ∧ (newL (reachF ps) k ≠ [] → l.getLast? = some k) := by
  obtain ⟨hk, rfl⟩ := cuts_get h
  rw [List.length_range] at hk
  obtain ⟨e, nd, m, last⟩ := cut_facts (haF hlt) ho1 (List.getElem?_range hk : (List.range 7)[k]? = some k)
  have hp : (rcut (adjF ps) (List.range 7) k).Perm (newL (reachF ps) k) := by
    refine perm_of_mem nd (List.Pairwise.filter _ List.nodup_range) fun x => ?_
    unfold newL
    rw [m x, List.mem_filter, List.mem_range]
    simp only [Bool.and_eq_true, Bool.not_eq_true', List.contains_eq_mem, decide_eq_false_iff_not]
    rw [seen_iff hlt k (by omega) x]
    constructor
    · rintro ⟨h1, h2⟩
      have := rch_lt hlt hk h1
      exact ⟨this, (reach_iff hlt hk this).mpr h1, h2⟩
    · rintro ⟨h1, h2, h3⟩
      exact ⟨(reach_iff hlt hk h1).mp h2, h3⟩
  refine ⟨hp, fun hne => last fun q => hne ?_⟩
  rw [q] at hp
  exact hp.nil_eq.symm

include hlt in
theorem p_ord (p : Nat × Nat) (hp : p ∈ ps) (hi : (tr1 ps).idxOf p.1 < (tr1 ps).idxOf p.2) : reachF ps p.2 p.1 = true := by
  obtain ⟨h1, h2⟩ := hlt p hp
  have hm : p.1 ∈ tr1 ps := (p_perm1 hlt).symm.subset (List.mem_range.mpr h1)
  obtain ⟨pre, post, e⟩ := List.append_of_mem hm
  have nd : (tr1 ps).Nodup := (p_perm1 hlt).nodup_iff.mpr List.nodup_range
  rw [e] at nd
  have hnp : p.1 ∉ pre := fun q => (List.nodup_append.mp nd).2.2 _ q _ List.mem_cons_self rfl
  rcases ord_prop (haF hlt) ho1 7 pre p.1 post e p.2 (mem_adjF.mpr hp) with q | q
  · exfalso
    rw [e, List.idxOf_append, List.idxOf_append, if_neg hnp, if_pos q] at hi
    have := List.idxOf_lt_length_iff.mpr q
    simp at hi
    omega
  · exact (reach_iff hlt h2 h1).mpr q
end
end Mine
end

section
namespace Mine

section
variable {ps : List (Nat × Nat)} (hlt : ∀ p ∈ ps, p.1 < 7 ∧ p.2 < 7)

def ord2 (ps : List (Nat × Nat)) : List Nat := (tr1 ps).reverse

include hlt in
theorem ho2 : ∀ k ∈ ord2 ps, k < 7 := fun _ h => List.mem_range.mp ((p_perm1 hlt).subset (List.mem_reverse.mp h))
include hlt in
theorem all2 : ∀ k, k < 7 → k ∈ ord2 ps := fun _ h => List.mem_reverse.mpr ((p_perm1 hlt).symm.subset (List.mem_range.mpr h))
include hlt in
theorem p_perm2 : (rst (adjB ps) (ord2 ps) (ord2 ps).length).2.Perm (List.range 7) := trail_perm (haB hlt) (ho2 hlt) (all2 hlt)

/-- what stands behind k in the first trail is a root ahead of it -/
theorem root_ahead {tr : List Nat} (nd : tr.Nodup) {k z j : Nat} (hj : tr.reverse[j]? = some k) (hb : Before tr k z) (hne : k ≠ z) : ∃ i, i < j ∧ tr.reverse[i]? = some z := by
  obtain ⟨pre, post, rfl, hm⟩ := hb
  have hk : k ∈ pre := by
    rcases List.mem_append.mp hm with h | h
    · exact h
    · exact absurd (List.mem_singleton.mp h) hne
  rw [List.reverse_append, List.reverse_cons, List.append_assoc] at hj ⊢
  have ndp := (List.nodup_append.mp nd).2.2
  refine ⟨post.reverse.length, ?_, ?_⟩
  · rcases Nat.lt_or_ge post.reverse.length j with h | h
    · exact h
    · exfalso
      rcases Nat.lt_or_ge j post.reverse.length with h2 | h2
      · rw [List.getElem?_append_left h2] at hj
        have := List.mem_reverse.mp (List.mem_of_getElem? hj)
        exact ndp k hk k (List.mem_cons_of_mem _ this) rfl
      · have e : j = post.reverse.length := by omega
        subst e
        rw [List.getElem?_append_right (Nat.le_refl _), Nat.sub_self] at hj
        simp at hj
        exact hne hj.symm
  · rw [List.getElem?_append_right (Nat.le_refl _), Nat.sub_self]
    simp

include hlt in
/-- each cut of the second round is a component -/
theorem cut2 {j k : Nat} (hj : (ord2 ps)[j]? = some k) (hne : rcut (adjB ps) (ord2 ps) j ≠ []) (x : Nat) : x ∈ rcut (adjB ps) (ord2 ps) j ↔ Rch (adjF ps) k x ∧ Rch (adjF ps) x k := by
  have hk7 := ho2 hlt k (List.mem_of_getElem? hj)
  obtain ⟨e, nd, m, last⟩ := cut_facts (haB hlt) (ho2 hlt) hj
  have R := rf_all (haB hlt) (ho2 hlt) (adj := adjB ps) (ord := ord2 ps) j
  have ndt : (tr1 ps).Nodup := (p_perm1 hlt).nodup_iff.mpr List.nodup_range
  constructor
  · intro hx
    obtain ⟨h1, h2⟩ := (m x).mp hx
    have hxk := rev1 h1
    have hx7 : x < 7 := by
      have R' := rf_all (haB hlt) (ho2 hlt) (adj := adjB ps) (ord := ord2 ps) (j + 1)
      exact R'.inv.lt x (R'.inv.sub x (by rw [e]; exact List.mem_append_right _ hx))
    refine ⟨?_, hxk⟩
    have hxt : x ∈ (rst (adjF ps) (List.range 7) 7).2 := (p_perm1 hlt).symm.subset (List.mem_range.mpr hx7)
    obtain ⟨z, a, b, c⟩ := comp_prop (haF hlt) ho1 7 x hxt k hxk
    by_cases hkz : k = z
    · subst hkz; exact b
    · exfalso
      obtain ⟨i, hi, ei⟩ := root_ahead (tr := tr1 ps) ndt hj c hkz
      have hz := in_trail (haB hlt) (ho2 hlt) (adj := adjB ps) (ord := ord2 ps) j i z hi ei
      exact h2 (closed R hz (rev2 a))
  · rintro ⟨h1, h2⟩
    rw [m x]
    refine ⟨rev2 h2, fun hx => hne ?_⟩
    have hk : k ∈ (rst (adjB ps) (ord2 ps) j).2 := closed R hx (rev2 h1)
    refine List.eq_nil_iff_forall_not_mem.mpr fun y hy => ?_
    obtain ⟨g1, g2⟩ := (m y).mp hy
    exact g2 (closed R hk g1)

include hlt in
theorem cuts_apart : (cutsOf (adjB ps) (ord2 ps)).Pairwise fun l' l => ∀ a' ∈ l', ∀ a ∈ l, ¬ Rch (adjF ps) a a' := by
  unfold cutsOf
  rw [List.pairwise_map]
  refine List.Pairwise.imp (fun {i j} hij a' ha' a ha hr => ?_) (List.pairwise_lt_range (n := (ord2 ps).length))
  cases hi : (ord2 ps)[i]? with
  | none => rw [cut_none hi] at ha'; cases ha'
  | some k =>
    cases hj : (ord2 ps)[j]? with
    | none => rw [cut_none hj] at ha; cases ha
    | some k2 =>
      obtain ⟨e, _⟩ := cut_facts (haB hlt) (ho2 hlt) hi
      obtain ⟨_, _, m, _⟩ := cut_facts (haB hlt) (ho2 hlt) hj
      have h1 : a' ∈ (rst (adjB ps) (ord2 ps) (i + 1)).2 := by rw [e]; exact List.mem_append_right _ ha'
      have h2 := rst_mono (haB hlt) (ho2 hlt) h1 (j - (i + 1))
      rw [show i + 1 + (j - (i + 1)) = j by omega] at h2
      have R := rf_all (haB hlt) (ho2 hlt) (adj := adjB ps) (ord := ord2 ps) j
      exact ((m a).mp ha).2 (closed R h2 (rev2 hr))

include hlt in
theorem p_parts (i : Nat) (l : List Nat) (h : (partsOf ps)[i]? = some l) : ∃ a, l.head? = some a ∧ a < 7 ∧ l.Perm (compL (reachF ps) a) ∧ ∀ (j : Nat) (l' : List Nat), j < i → (partsOf ps)[j]? = some l' → ∃ a', l'.head? = some a' ∧ a' < 7 ∧ reachF ps a a' = false := by
  have info : ∀ (i : Nat) (l : List Nat), (partsOf ps)[i]? = some l → ∃ k a r, l = a :: r ∧ a < 7 ∧ l.Nodup ∧ ∀ x, x ∈ l ↔ Rch (adjF ps) k x ∧ Rch (adjF ps) x k := by
    intro i l h
    have hm := List.mem_of_getElem? h
    unfold partsOf at hm
    obtain ⟨hm, hne⟩ := List.mem_filter.mp hm
    obtain ⟨j, hj⟩ := List.getElem?_of_mem hm
    obtain ⟨hjl, rfl⟩ := cuts_get hj
    have ek : (ord2 ps)[j]? = some ((ord2 ps)[j]'hjl) := List.getElem?_eq_getElem hjl
    generalize (ord2 ps)[j]'hjl = k at ek
    change (!(rcut (adjB ps) (ord2 ps) j).isEmpty) = true at hne
    have hne' : rcut (adjB ps) (ord2 ps) j ≠ [] := by
      intro q; rw [q] at hne; cases hne
    obtain ⟨e, nd, m, _⟩ := cut_facts (haB hlt) (ho2 hlt) ek
    have hc := cut2 hlt ek hne'
    have hk7 := ho2 hlt k (List.mem_of_getElem? ek)
    cases hl : rcut (adjB ps) (ord2 ps) j with
    | nil => exact absurd hl hne'
    | cons a r => exact ⟨k, a, r, hl, rch_lt hlt hk7 ((hc a).mp (by rw [hl]; exact List.mem_cons_self)).1, nd, hc⟩
  obtain ⟨k, a, r, rfl, ha7, nd, hc⟩ := info i l h
  have hak := (hc a).mp List.mem_cons_self
  refine ⟨a, rfl, ha7, ?_, fun j l' hji h' => ?_⟩
  · refine perm_of_mem nd (List.Pairwise.filter _ List.nodup_range) fun x => ?_
    unfold compL
    rw [hc x, List.mem_filter, List.mem_range, Bool.and_eq_true]
    constructor
    · rintro ⟨h1, h2⟩
      have hax := hak.2.trans h1
      have hx7 := rch_lt hlt ha7 hax
      exact ⟨hx7, (reach_iff hlt ha7 hx7).mpr hax, (reach_iff hlt hx7 ha7).mpr (h2.trans hak.1)⟩
    · rintro ⟨hx7, h1, h2⟩
      exact ⟨hak.1.trans ((reach_iff hlt ha7 hx7).mp h1), ((reach_iff hlt hx7 ha7).mp h2).trans hak.2⟩
  · obtain ⟨k', a', r', rfl, ha7', _, _⟩ := info j l' h'
    refine ⟨a', rfl, ha7', ?_⟩
    have hpw : (partsOf ps).Pairwise fun l' l => ∀ a' ∈ l', ∀ a ∈ l, ¬ Rch (adjF ps) a a' := List.Pairwise.filter _ (cuts_apart hlt)
    obtain ⟨hi1, hi2⟩ := List.getElem?_eq_some_iff.mp h
    obtain ⟨hj1, hj2⟩ := List.getElem?_eq_some_iff.mp h'
    have := List.pairwise_iff_getElem.mp hpw j i hj1 hi1 hji a' (by rw [hj2]; exact List.mem_cons_self) a (by rw [hi2]; exact List.mem_cons_self)
    cases q : reachF ps a a' with
    | false => rfl
    | true => exact absurd ((reach_iff hlt ha7 ha7').mp q) this

include hlt in
theorem plain_of : Plain ps := ⟨p_perm1 hlt, p_cut1 hlt, p_ord hlt, p_perm2 hlt, p_parts hlt⟩
end
end Mine
end

section
open PySem PySem.W PyProof.Rows
namespace Mine

theorem plain (script : List Int) : Plain (ps0 ++ psOf script) := plain_of (ps_lt script)

def sσ (SC : Addr) : Str → Option Value := fun x => if x = "script" then some (.ref SC) else none

theorem fm_law (cd : Value) (f L : Addr) : Fm (laEnv cd f L) where
  fn := rfl
  gl := rfl
  bl := rfl
  nd := by
    show ([L, (L + 5 : Nat), (L + 4 : Nat), (L + 3 : Nat), (L + 2 : Nat), (L + 1 : Nat)] : List Nat).Nodup
    simp
  nn := by
    show (["seen", "a", "k", "reach", "pairs"] : List Str).Nodup
    decide
  nl := by
    intro p hp
    have hp' : p ∈ ([("seen", (L + 5 : Nat)), ("a", (L + 4 : Nat)), ("k", (L + 3 : Nat)), ("reach", (L + 2 : Nat)), ("pairs", (L + 1 : Nat))] : List (Str × Addr)) := hp
    simp only [List.mem_cons, List.not_mem_nil, or_false] at hp'
    rcases hp' with rfl | rfl | rfl | rfl | rfl <;> (intro h; cases (show (some NameKind.cell : Option NameKind) = some .local from h))

theorem pt_law {B h : Heap} {cd : Value} {f L SC : Addr} {m : Str → Option Value} {w1 w2 w3 w4 w5 : Obj} {v1 v2 v3 v4 v5 : Option Value} (F : Fr B L h m) (N : News B L h [((L + 5 : Nat), w5), ((L + 4 : Nat), w4), ((L + 3 : Nat), w3), ((L + 2 : Nat), w2), ((L + 1 : Nat), w1), (135, tabObj #[])])
    (d5 : w5.data = .cell v5) (d4 : w4.data = .cell v4) (d3 : w3.data = .cell v3) (d2 : w2.data = .cell v2) (d1 : w1.data = .cell v1) (hL : (135 : Nat) < L) (hm : m "script" = some (.ref SC)) : Pt B (laEnv cd f L) (sσ SC) [(135, tabObj #[])] h := by
  have cells : (laEnv cd f L).cells = ([("seen", (L + 5 : Nat)), ("a", (L + 4 : Nat)), ("k", (L + 3 : Nat)), ("reach", (L + 2 : Nat)), ("pairs", (L + 1 : Nat))] : List (Str × Addr)) := rfl
  have hvas : vas (laEnv cd f L) = [L, (L + 5 : Nat), (L + 4 : Nat), (L + 3 : Nat), (L + 2 : Nat), (L + 1 : Nat)] := rfl
  refine ⟨fm_law cd f L, F.keep, ⟨⟨m, F.ns, fun x v _ hv => ?_⟩, fun x c hc => ?_⟩, fun a ha => ?_, fun p hp => ?_, by simp⟩
  · unfold sσ at hv
    split at hv
    · rename_i hx
      subst hx
      rw [hm]; exact hv
    · cases hv
  · rw [cells] at hc
    simp only [List.mem_cons, List.not_mem_nil, or_false, Prod.mk.injEq] at hc
    rcases hc with ⟨rfl, rfl⟩ | ⟨rfl, rfl⟩ | ⟨rfl, rfl⟩ | ⟨rfl, rfl⟩ | ⟨rfl, rfl⟩
    · exact ⟨v5, ⟨w5, (N _ (.head _)).1, d5⟩, fun v hv => by cases hv⟩
    · exact ⟨v4, ⟨w4, (N _ (.tail _ (.head _))).1, d4⟩, fun v hv => by cases hv⟩
    · exact ⟨v3, ⟨w3, (N _ (.tail _ (.tail _ (.head _)))).1, d3⟩, fun v hv => by cases hv⟩
    · exact ⟨v2, ⟨w2, (N _ (.tail _ (.tail _ (.tail _ (.head _))))).1, d2⟩, fun v hv => by cases hv⟩
    · exact ⟨v1, ⟨w1, (N _ (.tail _ (.tail _ (.tail _ (.tail _ (.head _)))))).1, d1⟩, fun v hv => by cases hv⟩
  · rw [hvas] at ha
    refine Heap.get?_none_of_le (Nat.le_trans F.above ?_)
    simp only [List.mem_cons, List.not_mem_nil, or_false] at ha
    rcases ha with rfl | rfl | rfl | rfl | rfl | rfl
    · exact Nat.le_refl _
    · exact Nat.le_add_right _ _
    · exact Nat.le_add_right _ _
    · exact Nat.le_add_right _ _
    · exact Nat.le_add_right _ _
    · exact Nat.le_add_right _ _
  · rw [List.mem_singleton.mp hp]
    have n := N (135, tabObj #[]) (by simp)
    refine ⟨n.1, ?_, n.2.2⟩
    rw [hvas]
    intro hm
    simp only [List.mem_cons, List.not_mem_nil, or_false] at hm
    have hL' := hL
    rcases hm with e | e | e | e | e | e
    · rw [← e] at hL'; exact Nat.lt_irrefl _ hL'
    all_goals
      have e' : (135 : Nat) = _ := e
      omega

theorem law_fin {w : World} {prog : Program} {s₁ : Shared} {B h₁ : Heap} {tk₁ : Nat} {cd : Value} {f L SC : Addr} {m mg mb : Str → Option Value} {w1 w2 w3 w4 w5 : Obj} {v1 v2 v3 v4 v5 : Option Value} {vs : List Value} {script : List Int} {loose : List Str} {mean : ExcName → Option Value} {Q : Flow → Shared → Prop} {E : Value → Shared → Prop}
    (T : Top topProg loose mean mg mb B) (X : (hd.heap_39 w.params).In B) (C : CodeHd B 139 135) (F : Fr B L h₁ m) (N : News B L h₁ [((L + 5 : Nat), w5), ((L + 4 : Nat), w4), ((L + 3 : Nat), w3), ((L + 2 : Nat), w2), ((L + 1 : Nat), w1), (135, tabObj #[])])
    (d5 : w5.data = .cell v5) (d4 : w4.data = .cell v4) (d3 : w3.data = .cell v3) (d2 : w2.data = .cell v2) (d1 : w1.data = .cell v1) (hL : (135 : Nat) < L) (hm : m "script" = some (.ref SC)) (hSC : B.IsList SC vs.toArray) (hI : IntsAre vs script) (hlen : ¬ ((63 : Nat) : Int) < ((script.length : Nat) : Int))
    (hQ : ∀ h' tk, B.StaysIn h' → (∃ tab', h'.get? 135 = some (tabObj tab')) → Q (.ret (.bool true)) { s₁ with heap := h', toks := tk }) :
    wpAny (model prog w) (callerA.deeper (laEnv cd f L)) (execs [la0, la1, la2, la3, la4, la5, la6, la7, la8, la9, la10, la11, la12] (laEnv cd f L)) Q E { s₁ with heap := h₁, toks := tk₁ } := by
  have P : Pt B (laEnv cd f L) (sσ SC) [(135, tabObj #[])] h₁ := pt_law F N d5 d4 d3 d2 d1 hL hm
  have S : LS w B #[] := ⟨⟨X, ⟨_, _, _, _, topRead_of T⟩⟩, ⟨_, _, _, _, _, T⟩, C, trivial, .inl rfl⟩
  have hd1 : (callerA.deeper (laEnv cd f L)).depth < 500 := by show callerA.depth + 1 < 500; decide
  have hd2 : (callerA.deeper (laEnv cd f L)).units + 100 < cLine := by simp only [Around.deeper, callerA]; decide
  have hl : script.length ≤ 63 := by omega
  have key := @law_walk w prog (callerA.deeper (laEnv cd f L)) { s₁ with heap := h₁, toks := tk₁ } B (sσ SC) cd f L #[] SC vs script Q S P rfl hd1 hd2 hSC hI hl rfl (plain script) (fun h' tk k q => hQ h' tk k q)
  generalize execs [la0, la1, la2, la3, la4, la5, la6, la7, la8, la9, la10, la11, la12] (laEnv cd f L) = t at key ⊢
  exact wpAny_mono key (fun _ _ q => q) fun _ _ e => e.elim
end Mine
end

section
open PySem PySem.W PyProof.Rows
namespace Mine

theorem law_fin2 {w : World} {prog : Program} {s₁ : Shared} {B h₁ : Heap} {tk₁ : Nat} {L SC : Addr} {m mg mb : Str → Option Value} {w1 w2 w3 w4 w5 : Obj} {v1 v2 v3 v4 v5 : Option Value} {vs : List Value} {script : List Int} {loose : List Str} {mean : ExcName → Option Value} {Q : Flow → Shared → Prop} {E : Value → Shared → Prop} {b : List Stmt} {env : Env}
    (hb : b = [la0, la1, la2, la3, la4, la5, la6, la7, la8, la9, la10, la11, la12]) (he : ∃ cd f, env = laEnv cd f L)
    (T : Top topProg loose mean mg mb B) (X : (hd.heap_39 w.params).In B) (C : CodeHd B 139 135) (F : Fr B L h₁ m) (N : News B L h₁ [((L + 5 : Nat), w5), ((L + 4 : Nat), w4), ((L + 3 : Nat), w3), ((L + 2 : Nat), w2), ((L + 1 : Nat), w1), (135, tabObj #[])])
    (d5 : w5.data = .cell v5) (d4 : w4.data = .cell v4) (d3 : w3.data = .cell v3) (d2 : w2.data = .cell v2) (d1 : w1.data = .cell v1) (hL : (135 : Nat) < L) (hm : m "script" = some (.ref SC)) (hSC : B.IsList SC vs.toArray) (hI : IntsAre vs script) (hlen : ¬ ((63 : Nat) : Int) < ((script.length : Nat) : Int))
    (hQ : ∀ h' tk, B.StaysIn h' → (∃ tab', h'.get? 135 = some (tabObj tab')) → Q (.ret (.bool true)) { s₁ with heap := h', toks := tk }) :
    wpAny (model prog w) (callerA.deeper env) (execs b env) Q E { s₁ with heap := h₁, toks := tk₁ } := by
  obtain ⟨cd, f, he⟩ := he
  have key := @law_fin w prog s₁ B h₁ tk₁ cd f L SC m mg mb w1 w2 w3 w4 w5 v1 v2 v3 v4 v5 vs script loose mean Q E T X C F N d5 d4 d3 d2 d1 hL hm hSC hI hlen hQ
  generalize ([la0, la1, la2, la3, la4, la5, la6, la7, la8, la9, la10, la11, la12] : List Stmt) = b0 at key hb
  rw [hb, he]
  exact key
end Mine
end

open PySem PySem.W PyProof.Rows Mine
set_option maxHeartbeats 8000000 in
theorem PySem.Challenge.cw_kl0456_01_holds : PySem.Challenge.rw_kl0456_01.Holds := by
  refine hd ?_
  (k_go0; (all_goals try k_fold))
  rename (Top topProg _ _ _ _ _) => T'
  rename (Fr _ _ _ _) => F'
  rename (News _ _ _ _) => N'
  rename (Frag.In _ (ghostOf _ _)) => X'
  with_reducible rename (IntsAre _ _) => hI'
  with_reducible rename (¬ _ < _) => hlen'
  with_reducible rename (Shared.gens _ = #[]) => hg'
  refine' law_fin2 ?hb ?he ?T ?X ?C ?F ?N ?d5 ?d4 ?d3 ?d2 ?d1 ?hL ?hm ?hSC ?hI ?hlen ?hQ
  case F => exact F'
  case N => exact N'
  case T => exact T'
  case X => exact X'
  case C => exact codeHd
  case hSC => exact lifted
  case hI => exact hI'
  case hlen => exact hlen'
  case d5 => assumption
  case d4 => assumption
  case d3 => assumption
  case d2 => assumption
  case d1 => assumption
  case hL => assumption
  case hm => rfl
  case hb => rfl
  case he => exact ⟨_, _, rfl⟩
  case hQ =>
    intro h' tk k q
    refine ⟨⟨.inl ⟨.bool true, .bool true, [], rfl, ?r1, .bool true, ?r2, fun _ => ⟨List.nodup_nil, nofun⟩⟩, k, rfl, hg'⟩, ?grown⟩
    case grown => exact ⟨q, trivial⟩
    case r1 => exact (raisesW_false (by wrow_none_raised))
    case r2 => wrow_post
