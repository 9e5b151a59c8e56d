import PyProof.Rows.All
import Wide.All
import OpenK.AllK
import Wide.FinOn
import PySem.Challenge.RW_kq0029_01
open PySem PySem.W PySem.Calls PyProof.Rows
set_option Elab.async false
set_option maxRecDepth 100000
set_option maxHeartbeats 8000000
namespace Mine

/-- abstract values: ints, texts, tuples as data; all else as it stands -/
inductive AV where
  | int (i : Int)
  | str (s : Str)
  | tup (l : List AV)
  | con (v : Value)

def plainV : Value → Bool
  | .none | .bool _ | .type _ | .builtin _ | .ref _ => true
  | _ => false

mutual
inductive VRel (h : Heap) : Value → AV → Prop
  | int (i : Int) (t : Tok) : VRel h (.int i t) (.int i)
  | str (s : Str) (t : Tok) : VRel h (.str s t) (.str s)
  | con {v : Value} (hv : plainV v = true) : VRel h v (.con v)
  | tup {a : Addr} {xs : List Value} {n : Nat} {l : List AV} : h.get? a = some ⟨.type "tuple", none, .seq xs.toArray n, #[]⟩ → VRels h xs l → VRel h (.ref a) (.tup l)
inductive VRels (h : Heap) : List Value → List AV → Prop
  | nil : VRels h [] []
  | cons {v : Value} {vs : List Value} {a : AV} {as : List AV} : VRel h v a → VRels h vs as → VRels h (v :: vs) (a :: as)
end

abbrev TupKeep (h h' : Heap) : Prop := ∀ a xs n, h.get? a = some ⟨.type "tuple", none, .seq xs n, #[]⟩ → h'.get? a = some ⟨.type "tuple", none, .seq xs n, #[]⟩

mutual
theorem VRel.keep {h h' : Heap} (k : TupKeep h h') : ∀ {v : Value} {a : AV}, VRel h v a → VRel h' v a
  | _, _, .int i t => .int i t
  | _, _, .str s t => .str s t
  | _, _, .con hv => .con hv
  | _, _, .tup e r => .tup (k _ _ _ e) (VRels.keep k r)
theorem VRels.keep {h h' : Heap} (k : TupKeep h h') : ∀ {vs : List Value} {as : List AV}, VRels h vs as → VRels h' vs as
  | _, _, .nil => .nil
  | _, _, .cons e r => .cons (VRel.keep k e) (VRels.keep k r)
end

section
variable {h : Heap} {v : Value} {a : AV} {vs ws : List Value} {as bs : List AV}
theorem VRels.length (r : VRels h vs as) : vs.length = as.length := by
  induction vs generalizing as with
  | nil => cases r; rfl
  | cons v vs ih => cases r with | cons _ r => rw [List.length_cons, List.length_cons, ih r]
theorem VRels.append (r : VRels h vs as) (q : VRels h ws bs) : VRels h (vs ++ ws) (as ++ bs) := by
  induction vs generalizing as with
  | nil => cases r; exact q
  | cons v vs ih => cases r with | cons e r => exact .cons e (ih r)
theorem VRels.one (r : VRel h v a) : VRels h [v] [a] := .cons r .nil
theorem VRels.get (r : VRels h vs as) {k : Nat} (hk : as[k]? = some a) : ∃ v, vs[k]? = some v ∧ VRel h v a := by
  induction vs generalizing as k with
  | nil => cases r; simp at hk
  | cons v vs ih =>
    cases r with
    | cons e r =>
      cases k with
      | zero => simp at hk; exact ⟨v, rfl, hk ▸ e⟩
      | succ k => exact ih r (by simpa using hk)
theorem VRels.take (r : VRels h vs as) (k : Nat) : VRels h (vs.take k) (as.take k) := by
  induction vs generalizing as k with
  | nil => cases r; simp; exact .nil
  | cons v vs ih =>
    cases r with
    | cons e r =>
      cases k with
      | zero => exact .nil
      | succ k => exact .cons e (ih r k)
theorem VRels.drop (r : VRels h vs as) (k : Nat) : VRels h (vs.drop k) (as.drop k) := by
  induction vs generalizing as k with
  | nil => cases r; simp; exact .nil
  | cons v vs ih =>
    cases r with
    | cons e r =>
      cases k with
      | zero => exact .cons e r
      | succ k => exact ih r k
theorem VRels.snoc (r : VRels h vs (as ++ [a])) : ∃ ws v, vs = ws ++ [v] ∧ VRels h ws as ∧ VRel h v a := by
  induction as generalizing vs with
  | nil =>
    cases r with
    | cons e r => cases r; exact ⟨[], _, rfl, .nil, e⟩
  | cons b as ih =>
    cases r with
    | cons e r =>
      obtain ⟨ws, v, rfl, r', e'⟩ := ih r
      exact ⟨_ :: ws, v, rfl, .cons e r', e'⟩
end

inductive ORel (h : Heap) : Option Value → Option AV → Prop
  | none : ORel h none none
  | some {v : Value} {a : AV} : VRel h v a → ORel h (some v) (some a)
theorem ORel.keep {h h' : Heap} (k : TupKeep h h') {v : Option Value} {a : Option AV} (r : ORel h v a) : ORel h' v a := by
  cases r with
  | none => exact .none
  | some e => exact .some (e.keep k)

/-- what an address of the call's own holds -/
inductive AO where
  | list (l : List AV)
  | dict (es : List (Str × AV))
  | dictE (es : List (Str × AV)) (ep : Nat)
  | inst (C dx : Addr)
  | rng (n : Nat)
  | raw (o : Obj)

abbrev AH := Addr → Option AO
structure St where
  m : Str → Option AV
  H : AH

def upd (m : Str → Option AV) (x : Str) (v : AV) : Str → Option AV := fun y => if y = x then some v else m y
def AH.put (H : AH) (a : Addr) (o : AO) : AH := fun b => if b = a then some o else H b
theorem AH.put_self {H : AH} {a : Addr} {o : AO} : H.put a o a = some o := by simp [AH.put]
theorem AH.put_ne {H : AH} {a b : Addr} {o : AO} (hn : b ≠ a) : H.put a o b = H b := by simp [AH.put, hn]
def St.set (σ : St) (x : Str) (v : AV) : St := ⟨upd σ.m x v, σ.H⟩
def St.put (σ : St) (a : Addr) (o : AO) : St := ⟨σ.m, σ.H.put a o⟩

inductive DRel (h : Heap) : List (Str × Value) → List (Str × AV) → Prop
  | nil : DRel h [] []
  | cons {k : Str} {v : Value} {a : AV} {ds : List (Str × Value)} {es : List (Str × AV)} : VRel h v a → DRel h ds es → DRel h ((k, v) :: ds) ((k, a) :: es)
theorem DRel.keep {h h' : Heap} (k : TupKeep h h') {ds : List (Str × Value)} {es : List (Str × AV)} (r : DRel h ds es) : DRel h' ds es := by
  induction r with
  | nil => exact .nil
  | cons e _ ih => exact .cons (e.keep k) ih
theorem DRel.length {h : Heap} {ds : List (Str × Value)} {es : List (Str × AV)} (r : DRel h ds es) : ds.length = es.length := by
  induction r with
  | nil => rfl
  | cons _ _ ih => rw [List.length_cons, List.length_cons, ih]
theorem DRel.keys {h : Heap} {ds : List (Str × Value)} {es : List (Str × AV)} (r : DRel h ds es) : ds.map (·.1) = es.map (·.1) := by
  induction r with
  | nil => rfl
  | cons _ _ ih => rw [List.map_cons, List.map_cons, ih]
theorem DRel.append {h : Heap} {ds ds' : List (Str × Value)} {es es' : List (Str × AV)} (r : DRel h ds es) (q : DRel h ds' es') : DRel h (ds ++ ds') (es ++ es') := by
  induction r with
  | nil => exact q
  | cons e _ ih => exact .cons e ih
theorem DRel.at {h : Heap} {ds : List (Str × Value)} {es : List (Str × AV)} (r : DRel h ds es) {i : Nat} {k : Str} {a : AV} (e : es[i]? = some (k, a)) : ∃ v, ds[i]? = some (k, v) ∧ VRel h v a := by
  induction r generalizing i with
  | nil => simp at e
  | cons x _ ih =>
    cases i with
    | zero => simp only [List.getElem?_cons_zero, Option.some.injEq] at e; cases e; exact ⟨_, rfl, x⟩
    | succ i => exact ih (by simpa using e)

/-- what is under a key; with a key stored -/
def valA (es : List (Str × AV)) (k : Str) : Option AV := (es.find? fun kv => kv.1 = k).map (·.2)
def storeA (es : List (Str × AV)) (k : Str) (v : AV) : List (Str × AV) :=
  if es.any (fun kv => kv.1 = k) then es.map (fun kv => if kv.1 = k then (kv.1, v) else kv) else es ++ [(k, v)]
theorem DRel.val {h : Heap} {ds : List (Str × Value)} {es : List (Str × AV)} (r : DRel h ds es) (k : Str) : ORel h (valueAt ds k) (valA es k) := by
  induction r with
  | nil => exact .none
  | @cons k' v a ds es e _ ih =>
    unfold valueAt valA at ih ⊢
    by_cases hk : k' = k
    · simp only [List.find?_cons, hk, decide_true, Option.map_some]; exact .some e
    · simp only [List.find?_cons, hk, decide_false]; exact ih
theorem DRel.any {h : Heap} {ds : List (Str × Value)} {es : List (Str × AV)} (r : DRel h ds es) (k : Str) : ds.any (fun kv => kv.1 = k) = es.any (fun kv => kv.1 = k) := by
  induction r with
  | nil => rfl
  | cons _ _ ih => simp only [List.any_cons, ih]
theorem DRel.mapStore {h : Heap} {ds : List (Str × Value)} {es : List (Str × AV)} (r : DRel h ds es) {k : Str} {v : Value} {a : AV} (e : VRel h v a) :
    DRel h (ds.map fun kv => if kv.1 = k then (kv.1, v) else kv) (es.map fun kv => if kv.1 = k then (kv.1, a) else kv) := by
  induction r with
  | nil => exact .nil
  | @cons k' v' a' ds es x _ ih =>
    simp only [List.map_cons]
    by_cases hk : k' = k
    · simp only [hk, if_true]; exact .cons e (by simpa only using ih)
    · simp only [hk, if_false]; exact .cons x ih
theorem DRel.store {h : Heap} {ds : List (Str × Value)} {es : List (Str × AV)} (r : DRel h ds es) {k : Str} {v : Value} {a : AV} (e : VRel h v a) : DRel h (stored ds k v) (storeA es k a) := by
  unfold stored storeA
  rw [r.any k]
  split
  · exact r.mapStore e
  · exact r.append (.cons e .nil)

def notTup (o : Obj) : Prop := ∀ xs n, o ≠ ⟨.type "tuple", none, .seq xs n, #[]⟩
def OBJ (prog : Program) (w : World) (h : Heap) (a : Addr) : AO → Prop
  | .list l => ∃ xs, h.PlainList a xs.toArray ∧ VRels h xs l
  | .dict es => ∃ ds, h.DictOf (strKind prog w) a ds ∧ DRel h ds es
  | .dictE es ep => ∃ ds, h.DictAt (strKind prog w) a ds ep ∧ DRel h ds es
  | .inst C dx => h.get? a = some (instObj C dx)
  | .rng n => ∃ t u v, IsRange h a 0 n 1 t u v
  | .raw o => h.get? a = some o ∧ notTup o


theorem mem_of_lookup {β : Type} {l : List (Str × β)} {x : Str} {c : β} (h : l.lookup x = some c) : (x, c) ∈ l := by
  induction l with
  | nil => cases h
  | cons p r ih =>
    obtain ⟨y, d⟩ := p
    rw [List.lookup_cons] at h
    by_cases e : (x == y) = true
    · rw [e] at h
      cases h; rw [beq_iff_eq.mp e]; exact List.mem_cons_self
    · have e' : (x == y) = false := by simpa using e
      rw [e'] at h; exact List.mem_cons_of_mem _ (ih h)

def own (env : Env) : List Addr := env.locals :: env.cells.map (·.2)

structure Rep (prog : Program) (w : World) (h₀ : Heap) (os : OsState) (env : Env) (σ : St) (s : Shared) : Prop where
  keep : ∀ b o, h₀.get? b = some o → s.heap.get? b = some o
  locs : ∃ m', s.heap.Ns env.locals m' ∧ ∀ x, env.kindOf x = some .local → ORel s.heap (m' x) (σ.m x)
  cels : ∀ x, env.kindOf x = some .cell → ∃ c v, env.cells.lookup x = some c ∧ s.heap.IsCell c v ∧ ORel s.heap v (σ.m x)
  objs : ∀ a o, σ.H a = some o → OBJ prog w s.heap a o ∧ h₀.objs.size ≤ a ∧ a ∉ own env
  owns : ∀ c ∈ own env, h₀.objs.size ≤ c ∧ ∃ o, s.heap.get? c = some o ∧ notTup o
  apart : env.locals ∉ env.cells.map (·.2)
  inj : ∀ x y c, env.kindOf x = some .cell → env.kindOf y = some .cell → env.cells.lookup x = some c → env.cells.lookup y = some c → x = y
  gens : s.gens = #[]
  os : s.os = os

/-- what has been there and is neither the frame's nor tracked is as it was -/
def Grow (env : Env) (σ : St) (s : Shared) (σ' : St) (s' : Shared) : Prop :=
  (∀ b o, s.heap.get? b = some o → ∃ o', s'.heap.get? b = some o') ∧ ∀ b o, s.heap.get? b = some o → b ∉ own env → σ.H b = none → s'.heap.get? b = some o ∧ σ'.H b = none
theorem Grow.refl (env : Env) (σ : St) (s : Shared) : Grow env σ s σ s := ⟨fun _ o e => ⟨o, e⟩, fun _ _ e _ n => ⟨e, n⟩⟩
theorem Grow.trans {env : Env} {σ σ1 σ2 : St} {s s1 s2 : Shared} (g : Grow env σ s σ1 s1) (k : Grow env σ1 s1 σ2 s2) : Grow env σ s σ2 s2 :=
  ⟨fun b o e => let ⟨o', e'⟩ := g.1 b o e; k.1 b o' e', fun b o e n q => let ⟨e1, q1⟩ := g.2 b o e n q; k.2 b o e1 n q1⟩

section
variable {prog : Program} {w : World} {h₀ : Heap} {os : OsState} {env : Env} {σ σ' : St} {s s' : Shared}
theorem OBJ.notTup {prog : Program} {w : World} {h : Heap} {a : Addr} {o : AO} (x : OBJ prog w h a o) : ∃ ob, h.get? a = some ob ∧ Mine.notTup ob := by
  cases o with
  | list l => obtain ⟨xs, ⟨n, e⟩, _⟩ := x; exact ⟨_, e, fun _ _ q => by injection q with q1; injection q1 with q2; exact absurd q2 (by decide)⟩
  | dict es => obtain ⟨ds, ⟨o, es', ep, e, _, hd, _⟩, _⟩ := x; exact ⟨_, e, fun _ _ q => by rw [q] at hd; cases hd⟩
  | dictE es ep => obtain ⟨ds, ⟨o, es', e, _, hd, _⟩, _⟩ := x; exact ⟨_, e, fun _ _ q => by rw [q] at hd; cases hd⟩
  | inst C dx => exact ⟨_, x, fun _ _ q => by injection q with q1; cases q1⟩
  | rng n => obtain ⟨t, u, v, e⟩ := x; exact ⟨_, e, fun _ _ q => by injection q with q1; injection q1 with q2; exact absurd q2 (by decide)⟩
  | raw o => exact ⟨o, x⟩
theorem Rep.tup (R : Rep prog w h₀ os env σ s) {a : Addr} {xs : Array Value} {n : Nat} (e : s.heap.get? a = some ⟨.type "tuple", none, .seq xs n, #[]⟩) : a ∉ own env ∧ σ.H a = none := by
  constructor
  · intro q
    obtain ⟨_, o, e', nt⟩ := R.owns a q
    rw [e] at e'; cases e'; exact nt _ _ rfl
  · cases q : σ.H a with
    | none => rfl
    | some o =>
      obtain ⟨ob, e', nt⟩ := (R.objs a o q).1.notTup
      rw [e] at e'; cases e'; exact absurd rfl (nt _ _)
theorem Grow.tups (R : Rep prog w h₀ os env σ s) (g : Grow env σ s σ' s') : TupKeep s.heap s'.heap := fun a _ _ e => (g.2 a _ e (R.tup e).1 (R.tup e).2).1
theorem Grow.fresh (g : Grow env σ s σ' s') : s.heap.get? s'.heap.objs.size = none := by
  cases e : s.heap.get? s'.heap.objs.size with
  | none => rfl
  | some o => obtain ⟨o', e'⟩ := g.1 _ _ e; exact absurd (Heap.lt_size e') (Nat.lt_irrefl _)
theorem Rep.new (R : Rep prog w h₀ os env σ s) {b : Addr} {o : Obj} (e : h₀.get? b = some o) : b ∉ own env ∧ σ.H b = none := by
  have hb := Heap.lt_size e
  constructor
  · intro q; exact absurd (R.owns b q).1 (Nat.not_le.mpr hb)
  · cases q : σ.H b with
    | none => rfl
    | some o => exact absurd (R.objs b o q).2.1 (Nat.not_le.mpr hb)
theorem Rep.size (R : Rep prog w h₀ os env σ s) : h₀.objs.size ≤ s.heap.objs.size := by
  obtain ⟨h1, o, e, _⟩ := R.owns env.locals (List.mem_cons_self)
  exact Nat.le_trans h1 (Nat.le_of_lt (Heap.lt_size e))
theorem Rep.free (R : Rep prog w h₀ os env σ s) {b : Addr} (hb : s.heap.objs.size ≤ b) : b ∉ own env ∧ σ.H b = none := by
  constructor
  · intro q
    obtain ⟨_, o, e, _⟩ := R.owns b q
    exact absurd (Heap.lt_size e) (Nat.not_lt.mpr hb)
  · cases q : σ.H b with
    | none => rfl
    | some o =>
      obtain ⟨ob, e, _⟩ := (R.objs b o q).1.notTup
      exact absurd (Heap.lt_size e) (Nat.not_lt.mpr hb)
theorem OBJ.keep {prog : Program} {w : World} {h h' : Heap} {a : Addr} {o : AO} (x : OBJ prog w h a o) (k : TupKeep h h') (e : ∀ ob, h.get? a = some ob → h'.get? a = some ob) : OBJ prog w h' a o := by
  cases o with
  | list l => obtain ⟨xs, ⟨n, q⟩, r⟩ := x; exact ⟨xs, ⟨n, e _ q⟩, r.keep k⟩
  | dict es => obtain ⟨ds, ⟨o, es', ep, q, y⟩, r⟩ := x; exact ⟨ds, ⟨o, es', ep, e _ q, y⟩, r.keep k⟩
  | dictE es ep => obtain ⟨ds, ⟨o, es', q, y⟩, r⟩ := x; exact ⟨ds, ⟨o, es', e _ q, y⟩, r.keep k⟩
  | inst C dx => exact e _ x
  | rng n => obtain ⟨t, u, v, q⟩ := x; exact ⟨t, u, v, e _ q⟩
  | raw o => exact ⟨e _ x.1, x.2⟩

/-- one tracked object has been changed -/
theorem Rep.store (R : Rep prog w h₀ os env σ s) {a : Addr} {ao ao' : AO} {h' : Heap} {tk : Nat} (hH : σ.H a = some ao) (hs : Heap.ExtBut a s.heap h') (e : (TupKeep s.heap h') → OBJ prog w h' a ao') :
    Rep prog w h₀ os env (σ.put a ao') { s with heap := h', toks := tk } ∧ Grow env σ s (σ.put a ao') { s with heap := h', toks := tk } := by
  have nt : ∀ {b o}, s.heap.get? b = some o → b ≠ a → h'.get? b = some o := fun e n => hs _ _ n e
  have ta : ∀ {xs n}, s.heap.get? a ≠ some ⟨.type "tuple", none, .seq xs n, #[]⟩ := fun q => by
    rw [(R.tup q).2] at hH; cases hH
  have tk : TupKeep s.heap h' := fun b xs n q => nt q fun h => ta (h ▸ q)
  obtain ⟨_, h2, h3⟩ := R.objs a ao hH
  refine ⟨⟨fun b o q => nt (R.keep b o q) fun h => ?_, ?_, ?_, ?_, ?_, R.apart, R.inj, R.gens, R.os⟩, fun b o q => ?_, fun b o q n1 n2 => ?_⟩
  · rw [h] at q; rw [(R.new q).2] at hH; cases hH
  · obtain ⟨m', hn, hm⟩ := R.locs
    have : env.locals ≠ a := fun h => h3 (h ▸ List.mem_cons_self)
    exact ⟨m', hn.at' (fun _ q => hs _ _ this q), fun x hx => (hm x hx).keep tk⟩
  · intro x hx
    obtain ⟨c, v, h1, hc, ho⟩ := R.cels x hx
    have : c ≠ a := fun h => h3 (by rw [← h]; exact List.mem_cons_of_mem _ (List.mem_map.mpr ⟨_, mem_of_lookup h1, rfl⟩))
    exact ⟨c, v, h1, (let ⟨o, q, d⟩ := hc; ⟨o, hs _ _ this q, d⟩), ho.keep tk⟩
  · intro b o hb
    by_cases hba : b = a
    · subst hba
      rw [show (σ.put b ao').H b = some ao' from AH.put_self] at hb
      cases hb
      exact ⟨e tk, h2, h3⟩
    · rw [show (σ.put a ao').H b = σ.H b from AH.put_ne hba] at hb
      obtain ⟨k1, k2, k3⟩ := R.objs b o hb
      exact ⟨k1.keep tk fun _ q => nt q hba, k2, k3⟩
  · intro c hc
    obtain ⟨k1, o, q, n⟩ := R.owns c hc
    exact ⟨k1, o, nt q fun h => h3 (h ▸ hc), n⟩
  · by_cases hba : b = a
    · obtain ⟨ob, e', _⟩ := (e tk).notTup; exact ⟨ob, hba ▸ e'⟩
    · exact ⟨o, nt q hba⟩
  · have hba : b ≠ a := fun h => by rw [h] at n2; rw [n2] at hH; cases hH
    exact ⟨nt q hba, (AH.put_ne hba).trans n2⟩

/-- nothing of what was there has been touched -/
theorem Rep.ext (R : Rep prog w h₀ os env σ s) (k : ∀ b o, s.heap.get? b = some o → s'.heap.get? b = some o) (hg : s'.gens = s.gens) (ho : s'.os = s.os) :
    Rep prog w h₀ os env σ s' ∧ Grow env σ s σ s' := by
  have tk : TupKeep s.heap s'.heap := fun a _ _ e => k a _ e
  refine ⟨⟨fun b o e => k b o (R.keep b o e), ?_, ?_, ?_, ?_, R.apart, R.inj, hg.trans R.gens, ho.trans R.os⟩, fun b o e => ⟨o, k b o e⟩, fun b o e _ q => ⟨k b o e, q⟩⟩
  · obtain ⟨m', hn, hm⟩ := R.locs
    exact ⟨m', hn.keeps k, fun x hx => (hm x hx).keep tk⟩
  · intro x hx
    obtain ⟨c, v, h1, h2, h3⟩ := R.cels x hx
    exact ⟨c, v, h1, h2.keeps k, h3.keep tk⟩
  · intro a o e
    obtain ⟨h1, h2, h3⟩ := R.objs a o e
    exact ⟨h1.keep tk (k a), h2, h3⟩
  · intro c hc
    obtain ⟨h1, o, e, nt⟩ := R.owns c hc
    exact ⟨h1, o, k c o e, nt⟩

/-- an object that is neither tracked nor the frame's (an iterator) has been changed -/
theorem Rep.touch (R : Rep prog w h₀ os env σ s) {it : Addr} {o : Obj} {h' : Heap} {tk : Nat} (hn : h₀.objs.size ≤ it) (ho : it ∉ own env) (hH : σ.H it = none) (hi : s.heap.get? it = some o) (nt : notTup o) (hs : Heap.ExtBut it s.heap h') :
    Rep prog w h₀ os env σ { s with heap := h', toks := tk } ∧ TupKeep s.heap h' := by
  have tk : TupKeep s.heap h' := fun b xs n q => hs _ _ (fun e => by subst e; rw [hi] at q; cases q; exact nt _ _ rfl) q
  refine ⟨⟨fun b o q => hs _ _ (fun e => ?_) (R.keep b o q), ?_, ?_, ?_, ?_, R.apart, R.inj, R.gens, R.os⟩, tk⟩
  · subst e; exact absurd (Heap.lt_size q) (Nat.not_lt.mpr hn)
  · obtain ⟨m', hn, hm⟩ := R.locs
    have : env.locals ≠ it := fun e => ho (e ▸ List.mem_cons_self)
    exact ⟨m', hn.at' (fun _ q => hs _ _ this q), fun x hx => (hm x hx).keep tk⟩
  · intro x hx
    obtain ⟨c, v, h1, ⟨oc, hc, hd⟩, h3⟩ := R.cels x hx
    have : c ≠ it := fun e => ho (by rw [← e]; exact List.mem_cons_of_mem _ (List.mem_map.mpr ⟨_, mem_of_lookup h1, rfl⟩))
    exact ⟨c, v, h1, ⟨oc, hs _ _ this hc, hd⟩, h3.keep tk⟩
  · intro b ob hb
    have : b ≠ it := fun e => by subst e; rw [hH] at hb; cases hb
    obtain ⟨k1, k2, k3⟩ := R.objs b ob hb
    exact ⟨k1.keep tk fun _ q => hs _ _ this q, k2, k3⟩
  · intro c hc
    obtain ⟨k1, oc, q, n⟩ := R.owns c hc
    exact ⟨k1, oc, hs _ _ (fun e => ho (e ▸ hc)) q, n⟩
theorem Grow.but (g : Grow env σ s σ' s') {it : Addr} {h' : Heap} {tk : Nat} (hi : s.heap.get? it = none) (hs : Heap.ExtBut it s'.heap h') : Grow env σ s σ' { s' with heap := h', toks := tk } :=
  ⟨fun b o e => let ⟨o', e'⟩ := g.1 b o e; ⟨o', hs _ _ (fun x => by subst x; rw [hi] at e; cases e) e'⟩, fun b o e n q => let ⟨e1, q1⟩ := g.2 b o e n q; ⟨hs _ _ (fun x => by subst x; rw [hi] at e; cases e) e1, q1⟩⟩

/-- a local name is stored -/
theorem Rep.setLocal (R : Rep prog w h₀ os env σ s) {x : Str} {v : Value} {a : AV} {m' : Str → Option Value} {h' : Heap} {tk : Nat} (hx : env.kindOf x = some .local) (hm : ∀ y, env.kindOf y = some .local → ORel s.heap (m' y) (σ.m y)) (r : VRel s.heap v a)
    (hn : h'.Ns env.locals (fun y => if y = x then some v else m' y)) (hs : Heap.SameBut env.locals s.heap h') :
    Rep prog w h₀ os env (σ.set x a) { s with heap := h', toks := tk } ∧ Grow env σ s (σ.set x a) { s with heap := h', toks := tk } := by
  have hL : env.locals ∈ own env := List.mem_cons_self
  have up : ∀ {b o}, b ≠ env.locals → s.heap.get? b = some o → h'.get? b = some o := fun n q => (hs.2 _ n).trans q
  have tk : TupKeep s.heap h' := fun b xs n q => up (fun e => (R.tup q).1 (e ▸ hL)) q
  refine ⟨⟨fun b o q => up (fun e => (R.new q).1 (e ▸ hL)) (R.keep b o q), ⟨_, hn, fun y hy => ?_⟩, ?_, ?_, ?_, R.apart, R.inj, R.gens, R.os⟩, fun b o q => ?_, fun b o q n1 n2 => ⟨up (fun e => n1 (e ▸ hL)) q, n2⟩⟩
  · show ORel h' _ (upd σ.m x a y)
    unfold upd
    by_cases e : y = x
    · rw [if_pos e, if_pos e]; exact .some (r.keep tk)
    · rw [if_neg e, if_neg e]; exact (hm y hy).keep tk
  · intro y hy
    obtain ⟨c, u, h1, ⟨oc, hc, hd⟩, h3⟩ := R.cels y hy
    have hne : c ≠ env.locals := fun e => R.apart (by rw [← e]; exact List.mem_map.mpr ⟨_, mem_of_lookup h1, rfl⟩)
    refine ⟨c, u, h1, ⟨oc, up hne hc, hd⟩, ?_⟩
    show ORel h' u (upd σ.m x a y)
    unfold upd
    rw [if_neg fun e => by rw [e, hx] at hy; cases hy]
    exact h3.keep tk
  · intro b ob hb
    obtain ⟨k1, k2, k3⟩ := R.objs b ob hb
    exact ⟨k1.keep tk fun _ q => up (fun e => k3 (e ▸ hL)) q, k2, k3⟩
  · intro c hc
    obtain ⟨k1, oc, q, n⟩ := R.owns c hc
    by_cases e : c = env.locals
    · obtain ⟨o, es, ep, ho, hd, _⟩ := hn
      exact ⟨k1, o, e ▸ ho, fun xs n e2 => by rw [e2] at hd; cases hd⟩
    · exact ⟨k1, oc, up e q, n⟩
  · by_cases e : b = env.locals
    · obtain ⟨o', es, ep, ho, _⟩ := hn; exact ⟨o', e ▸ ho⟩
    · exact ⟨o, up e q⟩
/-- a cell's name is stored -/
theorem Rep.setCell (R : Rep prog w h₀ os env σ s) {x : Str} {c : Addr} {v : Value} {a : AV} {h' : Heap} {tk : Nat} (hx : env.kindOf x = some .cell) (hc : env.cells.lookup x = some c) (r : VRel s.heap v a)
    (hn : h'.IsCell c (some v)) (hs : Heap.SameBut c s.heap h') :
    Rep prog w h₀ os env (σ.set x a) { s with heap := h', toks := tk } ∧ Grow env σ s (σ.set x a) { s with heap := h', toks := tk } := by
  have hm : c ∈ env.cells.map (·.2) := List.mem_map.mpr ⟨_, mem_of_lookup hc, rfl⟩
  have hL : c ∈ own env := List.mem_cons_of_mem _ hm
  have up : ∀ {b o}, b ≠ c → s.heap.get? b = some o → h'.get? b = some o := fun n q => (hs.2 _ n).trans q
  have tk : TupKeep s.heap h' := fun b xs n q => up (fun e => (R.tup q).1 (e ▸ hL)) q
  have hne : env.locals ≠ c := fun e => R.apart (e ▸ hm)
  refine ⟨⟨fun b o q => up (fun e => (R.new q).1 (e ▸ hL)) (R.keep b o q), ?_, ?_, ?_, ?_, R.apart, R.inj, R.gens, R.os⟩, fun b o q => ?_, fun b o q n1 n2 => ⟨up (fun e => n1 (e ▸ hL)) q, n2⟩⟩
  · obtain ⟨m', hq, hm'⟩ := R.locs
    refine ⟨m', hq.at' fun _ q => up hne q, fun y hy => ?_⟩
    show ORel h' _ (upd σ.m x a y)
    unfold upd
    rw [if_neg fun e => by rw [e, hx] at hy; cases hy]
    exact (hm' y hy).keep tk
  · intro y hy
    obtain ⟨d, u, h1, ⟨oc, hd', hd⟩, h3⟩ := R.cels y hy
    show ∃ c v, env.cells.lookup y = some c ∧ h'.IsCell c v ∧ ORel h' v (upd σ.m x a y)
    unfold upd
    by_cases e : y = x
    · rw [if_pos e]; exact ⟨c, some v, e ▸ hc, hn, .some (r.keep tk)⟩
    · rw [if_neg e]
      exact ⟨d, u, h1, ⟨oc, up (fun e2 => e (R.inj y x c hy hx (e2 ▸ h1) hc)) hd', hd⟩, h3.keep tk⟩
  · intro b ob hb
    obtain ⟨k1, k2, k3⟩ := R.objs b ob hb
    exact ⟨k1.keep tk fun _ q => up (fun e => k3 (e ▸ hL)) q, k2, k3⟩
  · intro d hd
    obtain ⟨k1, oc, q, n⟩ := R.owns d hd
    by_cases e : d = c
    · obtain ⟨o, ho, hdd⟩ := hn
      exact ⟨k1, o, e ▸ ho, fun xs n e2 => by rw [e2] at hdd; cases hdd⟩
    · exact ⟨k1, oc, up e q, n⟩
  · by_cases e : b = c
    · obtain ⟨o', ho, _⟩ := hn; exact ⟨o', e ▸ ho⟩
    · exact ⟨o, up e q⟩
/-- what is known may be forgotten -/
theorem Rep.weaken (R : Rep prog w h₀ os env σ s) {H' : AH} (hH : ∀ a o, H' a = some o → σ.H a = some o) : Rep prog w h₀ os env ⟨σ.m, H'⟩ s :=
  ⟨R.keep, R.locs, R.cels, fun a o e => R.objs a o (hH a o e), R.owns, R.apart, R.inj, R.gens, R.os⟩
end

/-- where a def's body stands -/
structure Cx where
  prog : Program
  w : World
  A : Around
  env : Env
  h₀ : Heap
  os : OsState
  K : Frag
  mg : Str → Option Value
  mb : Str → Option Value
  X : St → Shared → Value → Shared → Prop
  hK : K.In h₀
  hg : h₀.Ns mainGlobals mg
  hb : h₀.Ns builtinsNs mb
  hlim : h₀.NoLimit
  hsys : sysModules < h₀.objs.size
  hk : env.scope.kind = .function
  eg : env.globals = mainGlobals
  eb : env.builtins = builtinsNs
  clo : ∀ σ s σ1 s1 e s', Rep prog w h₀ os env σ s → Grow env σ s σ1 s1 → X σ1 s1 e s' → X σ s e s'

abbrev Cx.R (C : Cx) (σ : St) (s : Shared) : Prop := Rep C.prog C.w C.h₀ C.os C.env σ s
abbrev Cx.G (C : Cx) (σ : St) (s : Shared) (σ' : St) (s' : Shared) : Prop := Grow C.env σ s σ' s'
abbrev Cx.M (C : Cx) : Model := model C.prog C.w

def Post (C : Cx) {α β : Type} (R : Heap → α → β → Prop) (σ : St) (s : Shared) (Q : β → St → Prop) (a : α) (s' : Shared) : Prop :=
  ∃ b σ', R s'.heap a b ∧ C.R σ' s' ∧ C.G σ s σ' s' ∧ Q b σ'

/-- t, run with the values vs held (they are as), ends as Q says -/
def TV (C : Cx) {α β : Type} (vs : List Value) (as : List AV) (R : Heap → α → β → Prop) (t : Sem α) (σ : St) (Q : β → St → Prop) : Prop :=
  ∀ s, C.R σ s → VRels s.heap vs as → wpAny C.M C.A t (Post C R σ s Q) (C.X σ s) s

abbrev RB : Heap → Bool → Bool → Prop := fun _ a b => a = b
abbrev RU : Heap → Unit → Unit → Prop := fun _ _ _ => True
abbrev RP : Heap → Value × List Value → AV × List AV → Prop := fun h a b => VRel h a.1 b.1 ∧ VRels h a.2 b.2

section
variable {C : Cx} {α β γ δ : Type} {vs : List Value} {as : List AV} {R : Heap → α → β → Prop} {t : Sem α} {σ σ1 σ2 : St} {s s1 s2 : Shared} {Q Q' : β → St → Prop}

theorem Post.mono {a : α} {s' : Shared} (h : Post C R σ s Q a s') (k : ∀ b σ', Q b σ' → Q' b σ') : Post C R σ s Q' a s' := by
  obtain ⟨b, σ', h1, h2, h3, h4⟩ := h; exact ⟨b, σ', h1, h2, h3, k _ _ h4⟩
theorem TV.mono (h : TV C vs as R t σ Q) (k : ∀ b σ', Q b σ' → Q' b σ') : TV C vs as R t σ Q' :=
  fun s hs hv => wpAny_mono (h s hs hv) (fun _ _ p => p.mono k) fun _ _ x => x

/-- run t behind what has been run, and go on -/
theorem TV.andThen (h : TV C vs as R t σ1 Q) {Z : α → Shared → Prop} (R0 : C.R σ s) (R1 : C.R σ1 s1) (g : C.G σ s σ1 s1) (hv : VRels s1.heap vs as)
    (k : ∀ a b σ2 s2, R s2.heap a b → C.R σ2 s2 → C.G σ s σ2 s2 → C.G σ1 s1 σ2 s2 → TupKeep s1.heap s2.heap → Q b σ2 → Z a s2) : wpAny C.M C.A t Z (C.X σ s) s1 :=
  wpAny_mono (h s1 R1 hv) (fun _ _ ⟨b, σ', r, R', g', q⟩ => k _ b σ' _ r R' (g.trans g') g' (g'.tups R1) q) fun _ _ x => C.clo _ _ _ _ _ _ R0 g x
theorem TV.last (h : TV C vs as R t σ1 Q) (R0 : C.R σ s) (R1 : C.R σ1 s1) (g : C.G σ s σ1 s1) (hv : VRels s1.heap vs as) : wpAny C.M C.A t (Post C R σ s Q) (C.X σ s) s1 :=
  h.andThen R0 R1 g hv fun _ b σ2 _ r R2 g2 _ _ q => ⟨b, σ2, r, R2, g2, q⟩
theorem TV.here (h : TV C vs as R t σ Q) (R0 : C.R σ s) (hv : VRels s.heap vs as) {Z : α → Shared → Prop}
    (k : ∀ a b σ2 s2, R s2.heap a b → C.R σ2 s2 → C.G σ s σ2 s2 → TupKeep s.heap s2.heap → Q b σ2 → Z a s2) : wpAny C.M C.A t Z (C.X σ s) s :=
  h.andThen R0 R0 (Grow.refl _ _ _) hv fun _ _ _ _ r R2 g _ tk q => k _ _ _ _ r R2 g tk q

theorem Post.same {a : α} {b : β} (r : R s1.heap a b) (R0 : C.R σ s) (k : ∀ b o, s.heap.get? b = some o → s1.heap.get? b = some o) (hg : s1.gens = s.gens) (ho : s1.os = s.os) (q : Q b σ) : Post C R σ s Q a s1 :=
  let ⟨R1, g⟩ := R0.ext k hg ho
  ⟨b, σ, r, R1, g, q⟩
theorem Post.toks {a : α} {b : β} {tk : Nat} (r : R s.heap a b) (R0 : C.R σ s) (q : Q b σ) : Post C R σ s Q a { s with toks := tk } :=
  Post.same (s1 := { s with toks := tk }) r R0 (fun _ _ e => e) rfl rfl q

end

abbrev TE (C : Cx) (e : PySem.Expr) (σ : St) (Q : AV → St → Prop) : Prop := TV C [] [] VRel (eval e C.env) σ Q
abbrev TB (C : Cx) (e : PySem.Expr) (σ : St) (Q : Bool → St → Prop) : Prop := TV C [] [] RB (isTrue e C.env (eval e C.env)) σ Q
def TBin (C : Cx) (op : PySem.Operator) (a b : AV) (σ : St) (Q : AV → St → Prop) : Prop := ∀ va vb, TV C [va, vb] [a, b] VRel (binaryOp op va vb) σ Q
def TInp (C : Cx) (op : PySem.Operator) (a b : AV) (σ : St) (Q : AV → St → Prop) : Prop := ∀ va vb, TV C [va, vb] [a, b] VRel (inplaceOp op va vb) σ Q
def TCmp (C : Cx) (op : PySem.CmpOp) (a b : AV) (σ : St) (Q : AV → St → Prop) : Prop := ∀ va vb, TV C [va, vb] [a, b] VRel (compareOp op va vb) σ Q
def TTr (C : Cx) (a : AV) (σ : St) (Q : Bool → St → Prop) : Prop := ∀ va, TV C [va] [a] RB (truthy va) σ Q
def TUn (C : Cx) (op : PySem.UnaryOp) (a : AV) (σ : St) (Q : AV → St → Prop) : Prop := ∀ va, TV C [va] [a] VRel (unaryOp op va) σ Q
def TSub (C : Cx) (value slice : PySem.Expr) (a b : AV) (σ : St) (Q : AV → St → Prop) : Prop := ∀ va vb, TV C [va, vb] [a, b] VRel (subscriptTail value slice va vb) σ Q
def TSet (C : Cx) (o i v : AV) (σ : St) (Q : Unit → St → Prop) : Prop := ∀ vo vi vv, TV C [vo, vi, vv] [o, i, v] RU (setItem vo vi vv) σ Q
def TL (C : Cx) (es : List PySem.Expr) (σ : St) (Q : List AV → St → Prop) : Prop := ∀ pos, TV C [] [] VRels (spliced (backTo pos (starEach es C.env))) σ Q
def TSt (C : Cx) (x : Str) (a : AV) (σ : St) (Q : Unit → St → Prop) : Prop := ∀ va, TV C [va] [a] RU (storeName C.env x va) σ Q

inductive AFl where
  | next | brk | cont | ret (v : AV)
inductive RF (h : Heap) : Flow → AFl → Prop
  | next : RF h .next .next
  | brk : RF h .brk .brk
  | cont : RF h .cont .cont
  | ret {v : Value} {a : AV} : VRel h v a → RF h (.ret v) (.ret a)
abbrev TX (C : Cx) (st : Stmt) (σ : St) (Q : AFl → St → Prop) : Prop := TV C [] [] RF (exec st C.env) σ Q
abbrev TS (C : Cx) (sts : List Stmt) (σ : St) (Q : AFl → St → Prop) : Prop := TV C [] [] RF (execs sts C.env) σ Q

section
variable {C : Cx} {σ : St} {sc : Scope}

theorem VRels.inv1 {h : Heap} {v : Value} {a : AV} (r : VRels h [v] [a]) : VRel h v a := by cases r with | cons e _ => exact e
theorem VRels.inv2 {h : Heap} {v w : Value} {a b : AV} (r : VRels h [v, w] [a, b]) : VRel h v a ∧ VRel h w b := by cases r with | cons e q => exact ⟨e, q.inv1⟩
theorem VRels.inv3 {h : Heap} {v w u : Value} {a b c : AV} (r : VRels h [v, w, u] [a, b, c]) : VRel h v a ∧ VRel h w b ∧ VRel h u c := by cases r with | cons e q => exact ⟨e, q.inv2⟩
theorem VRels.mk2 {h : Heap} {v w : Value} {a b : AV} (x : VRel h v a) (y : VRel h w b) : VRels h [v, w] [a, b] := .cons x (.one y)
theorem VRels.mk3 {h : Heap} {v w u : Value} {a b c : AV} (x : VRel h v a) (y : VRel h w b) (z : VRel h u c) : VRels h [v, w, u] [a, b, c] := .cons x (.mk2 y z)

/-! names -/
def TLd (C : Cx) (x : Str) (σ : St) (Q : AV → St → Prop) : Prop := TV C [] [] VRel (loadName C.env x) σ Q
theorem TLd.local {x : Str} {a : AV} {Q : AV → St → Prop} (hs : C.env.scope = sc) (hx : sc.names.lookup x = some .local) (hv : σ.m x = some a) (q : Q a σ) : TLd C x σ Q := by
  intro s hR _
  obtain ⟨m', hn, hm⟩ := hR.locs
  have hx' : C.env.kindOf x = some .local := by unfold Env.kindOf; rw [hs]; exact hx
  have o := hm x hx'
  rw [hv] at o
  cases hq : m' x with
  | none => rw [hq] at o; cases o
  | some v =>
    rw [hq] at o
    cases o with
    | some r => exact wpAny_loadName_local C.hk hx' hn hq (Post.toks (tk := s.toks) r hR q)
theorem TLd.cell {x : Str} {a : AV} {Q : AV → St → Prop} (hs : C.env.scope = sc) (hx : sc.names.lookup x = some .cell) (hv : σ.m x = some a) (q : Q a σ) : TLd C x σ Q := by
  intro s hR _
  have hx' : C.env.kindOf x = some .cell := by unfold Env.kindOf; rw [hs]; exact hx
  obtain ⟨c, v, hc, hcell, o⟩ := hR.cels x hx'
  rw [hv] at o
  cases o with
  | some r => exact wpAny_loadName_cell C.hk hx' hc hcell (Post.toks (tk := s.toks) r hR q)
theorem TE.name {x : Str} {pos : Pos} {Q : AV → St → Prop} (h : TLd C x σ Q) (hd : (x == ("__debug__" : Str)) = false := by decide) : TE C (.Name x pos) σ Q :=
  fun s hR hv => wpAny_Name (h s hR hv) hd
theorem TE.glob {x : Str} {pos : Pos} {v : Value} {Q : AV → St → Prop} (hs : C.env.scope = sc) (hx : sc.names.lookup x = some .globalImplicit) (hv : C.mg x = some v) (hp : plainV v = true) (q : Q (.con v) σ)
    (hd : (x == ("__debug__" : Str)) = false := by decide) : TE C (.Name x pos) σ Q := by
  intro s hR _
  have hx' : C.env.kindOf x = some .globalImplicit := by unfold Env.kindOf; rw [hs]; exact hx
  exact Name_function_global C.hk hx' (loadGlobal_global (env := C.env) (by rw [C.eg]; exact C.hg.keeps hR.keep) hv (Post.toks (tk := s.toks) (.con hp) hR q)) hd
theorem TE.bltn {x : Str} {pos : Pos} {v : Value} {Q : AV → St → Prop} (hs : C.env.scope = sc) (hx : sc.names.lookup x = some .globalImplicit) (hn : C.mg x = none) (hv : C.mb x = some v) (hp : plainV v = true) (q : Q (.con v) σ)
    (hd : (x == ("__debug__" : Str)) = false := by decide) : TE C (.Name x pos) σ Q := by
  intro s hR _
  have hx' : C.env.kindOf x = some .globalImplicit := by unfold Env.kindOf; rw [hs]; exact hx
  exact Name_function_global C.hk hx' (loadGlobal_builtin (env := C.env) (by rw [C.eg]; exact C.hg.keeps hR.keep) hn (by rw [C.eb]; exact C.hb.keeps hR.keep) hv (Post.toks (tk := s.toks) (.con hp) hR q)) hd

/-! constants -/
theorem TE.cint {i : Int} {k} {pos : Pos} {Q : AV → St → Prop} (q : Q (.int i) σ) : TE C (.Constant (.int i) k pos) σ Q :=
  fun s hR _ => wpAny_Constant_int (Post.toks (.int i _) hR q)
theorem TE.cstr {x : Str} {k} {pos : Pos} {Q : AV → St → Prop} (q : Q (.str x) σ) : TE C (.Constant (.str x) k pos) σ Q :=
  fun s hR _ => wpAny_Constant_str (Post.toks (.str x _) hR q)
theorem TE.cbool {b : Bool} {k} {pos : Pos} {Q : AV → St → Prop} (q : Q (.con (.bool b)) σ) : TE C (.Constant (.bool b) k pos) σ Q :=
  fun s hR _ => wpAny_Constant_bool (Post.toks (tk := s.toks) (.con rfl) hR q)
theorem TE.cnone {k} {pos : Pos} {Q : AV → St → Prop} (q : Q (.con .none) σ) : TE C (.Constant .none k pos) σ Q :=
  fun s hR _ => wpAny_Constant_none (Post.toks (tk := s.toks) (.con rfl) hR q)

/-! operators -/
theorem TE.bin {l r : PySem.Expr} {op pos} {Q : AV → St → Prop} (h : TE C l σ fun a σ1 => TE C r σ1 fun b σ2 => TBin C op a b σ2 Q) : TE C (.BinOp l op r pos) σ Q := by
  intro s R0 _
  refine wpAny_BinOp (h.here R0 .nil fun va a σ1 s1 ra R1 g1 k1 q => ?_)
  refine q.andThen R0 R1 g1 .nil fun vb b σ2 s2 rb R2 g2 _ k2 q => ?_
  exact (q va vb).last R0 R2 g2 (.mk2 (ra.keep k2) rb)
theorem TE.cmp {l r : PySem.Expr} {op pos} {Q : AV → St → Prop} (h : TE C l σ fun a σ1 => TE C r σ1 fun b σ2 => TCmp C op a b σ2 Q) (hm : behindInMarks op r = false := by with_unfolding_all rfl) : TE C (.Compare l [op] [r] pos) σ Q := by
  intro s R0 _
  refine wpAny_Compare1 (h.here R0 .nil fun va a σ1 s1 ra R1 g1 k1 q => ?_) hm
  refine q.andThen R0 R1 g1 .nil fun vb b σ2 s2 rb R2 g2 _ k2 q => ?_
  exact (q va vb).last R0 R2 g2 (.mk2 (ra.keep k2) rb)
theorem TE.un {x : PySem.Expr} {op pos} {Q : AV → St → Prop} (h : TE C x σ fun a σ1 => TUn C op a σ1 Q) : TE C (.UnaryOp op x pos) σ Q := by
  intro s R0 _
  refine wpAny_UnaryOp (h.here R0 .nil fun va a σ1 s1 ra R1 g1 k1 q => ?_)
  exact (q va).last R0 R1 g1 (.one ra)
theorem TE.ifExp {t b o : PySem.Expr} {pos} {Q : AV → St → Prop} (h : TB C t σ fun c σ1 => if c then TE C b σ1 Q else TE C o σ1 Q) : TE C (.IfExp t b o pos) σ Q := by
  intro s R0 _
  refine wpAny_IfExp (h.here R0 .nil fun vc c σ1 s1 rc R1 g1 k1 q => ?_)
  cases rc
  cases vc
  · simp only [Bool.false_eq_true, if_false] at q ⊢; exact q.last R0 R1 g1 .nil
  · simp only [if_true] at q ⊢; exact q.last R0 R1 g1 .nil
theorem TE.and2 {x y : PySem.Expr} {pos} {Q : AV → St → Prop} (h : TE C x σ fun a σ1 => TTr C a σ1 fun b σ2 => if b then TE C y σ2 Q else Q a σ2) : TE C (.BoolOp .And [x, y] pos) σ Q := by
  intro s R0 _
  refine wpAny_And2 (h.here R0 .nil fun va a σ1 s1 ra R1 g1 k1 q => ?_)
  refine (q va).andThen R0 R1 g1 (.one ra) fun vb b σ2 s2 rb R2 g2 _ k2 q => ?_
  cases rb
  cases vb
  · simp only [Bool.false_eq_true, if_false] at q ⊢; exact ⟨a, σ2, ra.keep k2, R2, g2, q⟩
  · simp only [if_true] at q ⊢; exact q.last R0 R2 g2 .nil

/-! tests -/
theorem TB.cmp {l r : PySem.Expr} {op pos} {Q : Bool → St → Prop} (h : TE C l σ fun a σ1 => TE C r σ1 fun b σ2 => TCmp C op a b σ2 fun c σ3 => TTr C c σ3 Q) (hm : behindInMarks op r = false := by with_unfolding_all rfl) :
    TB C (.Compare l [op] [r] pos) σ Q := by
  intro s R0 _
  refine wpAny_isTrue_Compare1 (h.here R0 .nil fun va a σ1 s1 ra R1 g1 k1 q => ?_) hm
  refine q.andThen R0 R1 g1 .nil fun vb b σ2 s2 rb R2 g2 _ k2 q => ?_
  refine (q va vb).andThen R0 R2 g2 (.mk2 (ra.keep k2) rb) fun vc c σ3 s3 rc R3 g3 _ k3 q => ?_
  exact (q vc).last R0 R3 g3 (.one rc)
theorem TB.not {x : PySem.Expr} {pos} {Q : Bool → St → Prop} (h : TB C x σ fun b σ1 => Q (!b) σ1) : TB C (.UnaryOp .Not x pos) σ Q := by
  intro s R0 _
  refine wpAny_isTrue_Not (h.here R0 .nil fun va a σ1 s1 ra R1 g1 k1 q => ?_)
  cases ra
  exact ⟨_, σ1, rfl, R1, g1, q⟩
def TAll (C : Cx) (op : BoolOp) (es : List PySem.Expr) (σ : St) (Q : Bool → St → Prop) : Prop := TV C [] [] RB (allTrue op es C.env) σ Q
theorem TB.bool {op} {es : List PySem.Expr} {pos} {Q : Bool → St → Prop} (h : TAll C op es σ Q) : TB C (.BoolOp op es pos) σ Q :=
  fun s R0 hv => wpAny_isTrue_BoolOp (h s R0 hv)
theorem TAll.and_nil {Q : Bool → St → Prop} (q : Q true σ) : TAll C .And [] σ Q := fun s R0 _ => wpAny_allTrue_And_nil (Post.toks (tk := s.toks) rfl R0 q)
theorem TAll.or_nil {Q : Bool → St → Prop} (q : Q false σ) : TAll C .Or [] σ Q := fun s R0 _ => wpAny_allTrue_Or_nil (Post.toks (tk := s.toks) rfl R0 q)
theorem TAll.and_cons {x : PySem.Expr} {r : List PySem.Expr} {Q : Bool → St → Prop} (h : TB C x σ fun b σ1 => if b then TAll C .And r σ1 Q else Q false σ1) : TAll C .And (x :: r) σ Q := by
  intro s R0 _
  refine wpAny_allTrue_And_cons (h.here R0 .nil fun va a σ1 s1 ra R1 g1 k1 q => ?_)
  cases ra
  cases va
  · simp only [Bool.false_eq_true, if_false] at q ⊢; exact ⟨_, σ1, rfl, R1, g1, q⟩
  · simp only [if_true] at q ⊢; exact TV.last q R0 R1 g1 .nil
theorem TAll.or_cons {x : PySem.Expr} {r : List PySem.Expr} {Q : Bool → St → Prop} (h : TB C x σ fun b σ1 => if b then Q true σ1 else TAll C .Or r σ1 Q) : TAll C .Or (x :: r) σ Q := by
  intro s R0 _
  refine wpAny_allTrue_Or_cons (h.here R0 .nil fun va a σ1 s1 ra R1 g1 k1 q => ?_)
  cases ra
  cases va
  · simp only [Bool.false_eq_true, if_false] at q ⊢; exact TV.last q R0 R1 g1 .nil
  · simp only [if_true] at q ⊢; exact ⟨_, σ1, rfl, R1, g1, q⟩
theorem TB.value {e : PySem.Expr} {Q : Bool → St → Prop} (h : TE C e σ fun a σ1 => TTr C a σ1 Q)
    (he : isTrue e C.env (eval e C.env) = (do let v ← eval e C.env; standAt e.pos; holding [v] (truthy v)) := by rfl) : TB C e σ Q := by
  intro s R0 _
  refine wpAny_isTrue_value (h.here R0 .nil fun va a σ1 s1 ra R1 g1 k1 q => ?_) he
  exact (q va).last R0 R1 g1 (.one ra)
theorem TTr.bool {b : Bool} {Q : Bool → St → Prop} (q : Q b σ) : TTr C (.con (.bool b)) σ Q := by
  intro va s R0 hv
  have := hv.inv1
  cases this
  exact wpAny_truthy_bool (Post.toks (tk := s.toks) rfl R0 q)

/-! lists of expressions, displays -/
theorem TL.nil {Q : List AV → St → Prop} (q : Q [] σ) : TL C [] σ Q := fun _ s R0 _ => wpAny_pure (Post.toks (tk := s.toks) .nil R0 q)
theorem TL.cons {e : PySem.Expr} {r : List PySem.Expr} {Q : List AV → St → Prop} (h : TE C e σ fun a σ1 => TL C r σ1 fun as σ2 => Q (a :: as) σ2)
    (he : starEach (e :: r) C.env = (false, eval e C.env) :: starEach r C.env := by rfl) : TL C (e :: r) σ Q := by
  intro pos s R0 _
  rw [he]
  refine spliced_cons (h.here R0 .nil fun va a σ1 s1 ra R1 g1 k1 q => ?_)
  refine (q pos).andThen R0 R1 g1 .nil fun vs as σ2 s2 rs R2 g2 _ k2 q => ?_
  exact ⟨_, σ2, .cons (ra.keep k2) rs, R2, g2, q⟩

theorem TE.tuple {es : List PySem.Expr} {k} {pos} {Q : AV → St → Prop} (h : TL C es σ fun as σ1 => as.length ≤ 16777216 ∧ Q (.tup as) σ1) : TE C (.Tuple es k pos) σ Q := by
  intro s R0 _
  refine wpAny_Tuple_spliced ((h pos).here R0 .nil fun vs as σ1 s1 rs R1 g1 _ q => ⟨?_, ?_⟩)
  · rw [rs.length, sizeLine_eq]; exact q.1
  · have k : ∀ b o, s1.heap.get? b = some o → (s1.heap.push { cls := .type "tuple", data := .seq vs.toArray }).get? b = some o := fun b o e => Heap.get?_push_of_some _ e
    obtain ⟨R2, g2⟩ := R1.ext (s' := { s1 with heap := s1.heap.push { cls := .type "tuple", data := .seq vs.toArray } }) k rfl rfl
    exact ⟨_, σ1, .tup (Heap.get?_push_size _ rfl) (rs.keep fun a _ _ e => k a _ e), R2, g1.trans g2, q.2⟩

theorem Rep.alloc {prog : Program} {w : World} {h₀ : Heap} {os : OsState} {env : Env} {s : Shared} {s1 : Shared} {a : Addr} {ao : AO} (R : Rep prog w h₀ os env σ s) (ha : s.heap.objs.size ≤ a)
    (k : ∀ b o, s.heap.get? b = some o → s1.heap.get? b = some o) (e : OBJ prog w s1.heap a ao) (hg : s1.gens = s.gens) (ho : s1.os = s.os) :
    Rep prog w h₀ os env (σ.put a ao) s1 ∧ Grow env σ s (σ.put a ao) s1 ∧ σ.H a = none := by
  have f := R.free ha
  obtain ⟨R1, g⟩ := R.ext (s' := s1) k hg ho
  refine ⟨⟨R1.keep, R1.locs, R1.cels, ?_, R1.owns, R1.apart, R1.inj, R1.gens, R1.os⟩, ⟨fun b o e1 => ⟨o, k b o e1⟩, fun b o e1 n q => ⟨k b o e1, ?_⟩⟩, f.2⟩
  · intro b o hb
    by_cases hba : b = a
    · subst hba
      rw [show (σ.put b ao).H b = some ao from AH.put_self] at hb
      cases hb
      exact ⟨e, Nat.le_trans R.size ha, f.1⟩
    · rw [show (σ.put a ao).H b = σ.H b from AH.put_ne hba] at hb
      exact R1.objs b o hb
  · have hba : b ≠ a := fun h => absurd (Heap.lt_size e1) (by rw [h]; exact Nat.not_lt.mpr ha)
    exact (AH.put_ne hba).trans q
theorem Rep.allocPush {prog : Program} {w : World} {h₀ : Heap} {os : OsState} {env : Env} {s : Shared} {ob : Obj} {ao : AO} (R : Rep prog w h₀ os env σ s)
    (e : OBJ prog w (s.heap.push ob) s.heap.objs.size ao) :
    Rep prog w h₀ os env (σ.put s.heap.objs.size ao) { s with heap := s.heap.push ob } ∧ Grow env σ s (σ.put s.heap.objs.size ao) { s with heap := s.heap.push ob } ∧ σ.H s.heap.objs.size = none :=
  R.alloc (s1 := { s with heap := s.heap.push ob }) (Nat.le_refl _) (fun b o e => Heap.get?_push_of_some _ e) e rfl rfl

theorem TE.list {es : List PySem.Expr} {pos} {Q : AV → St → Prop} (h : TL C es σ fun as σ1 => as.length ≤ 16777216 ∧ ∀ a, σ1.H a = none → Q (.con (.ref a)) (σ1.put a (.list as))) : TE C (.List es pos) σ Q := by
  intro s R0 _
  refine wpAny_List_spliced ((h pos).here R0 .nil fun vs as σ1 s1 rs R1 g1 _ q => ⟨?_, ?_⟩)
  · rw [rs.length, sizeLine_eq]; exact q.1
  · have k : ∀ b o, s1.heap.get? b = some o → (s1.heap.push { cls := .type "list", data := .seq vs.toArray }).get? b = some o := fun b o e => Heap.get?_push_of_some _ e
    obtain ⟨R2, g2, fr⟩ := R1.allocPush (ob := { cls := .type "list", data := .seq vs.toArray }) (ao := .list as) ⟨vs, ⟨0, Heap.get?_push_size _ rfl⟩, rs.keep fun a _ _ e => k a _ e⟩
    exact ⟨_, _, .con rfl, R2, g1.trans g2, q.2 _ fr⟩
theorem TE.dict0 {pos} {Q : AV → St → Prop} (q : ∀ a, σ.H a = none → Q (.con (.ref a)) (σ.put a (.dict []))) : TE C (.Dict [] [] pos) σ Q := by
  intro s R0 _
  refine wpAny_Dict_empty ?_
  obtain ⟨R2, g2, fr⟩ := R0.allocPush (ob := { cls := .type "dict", data := .dict #[] }) (ao := .dict []) ⟨[], ⟨_, #[], 0, Heap.get?_push_size _ rfl, ⟨rfl, rfl, rfl⟩, rfl, (fun _ h => by simp at h), .nil, .nil⟩, .nil⟩
  exact ⟨_, _, .con rfl, R2, g2, q _ fr⟩
end

theorem Rep.locFalse {C : Cx} : (C.env.scope.kind == .class || (C.env.scope.kind == .module && C.env.locals != C.env.globals)) = false := by rw [C.hk]; rfl

section
variable {C : Cx} {σ : St} {sc : Scope}

/-! stores -/
theorem TSt.local {x : Str} {a : AV} {Q : Unit → St → Prop} (hs : C.env.scope = sc) (hx : sc.names.lookup x = some .local) (q : Q () (σ.set x a)) : TSt C x a σ Q := by
  intro va s R0 hv
  have hx' : C.env.kindOf x = some .local := by unfold Env.kindOf; rw [hs]; exact hx
  obtain ⟨m', hn, hm⟩ := R0.locs
  refine wpAny_storeName_local hx' hn (fun h' hn' hs' => ?_) Rep.locFalse
  obtain ⟨R1, g1⟩ := R0.setLocal (tk := s.toks + 1) hx' hm hv.inv1 hn' hs'
  exact ⟨(), _, trivial, R1, g1, q⟩
theorem TSt.cell {x : Str} {a : AV} {Q : Unit → St → Prop} (hs : C.env.scope = sc) (hx : sc.names.lookup x = some .cell) (q : Q () (σ.set x a)) : TSt C x a σ Q := by
  intro va s R0 hv
  have hx' : C.env.kindOf x = some .cell := by unfold Env.kindOf; rw [hs]; exact hx
  obtain ⟨c, v, hc, hcell, _⟩ := R0.cels x hx'
  refine wpAny_storeName_cell C.hk hx' hc hcell fun h' hn' hs' => ?_
  obtain ⟨R1, g1⟩ := R0.setCell (tk := s.toks) hx' hc hv.inv1 hn' hs'
  exact ⟨(), _, trivial, R1, g1, q⟩

/-! targets -/
def TAsg (C : Cx) (t : PySem.Expr) (a : AV) (σ : St) (Q : Unit → St → Prop) : Prop := ∀ va, TV C [va] [a] RU (assign t C.env va) σ Q
theorem TAsg.name {x : Str} {pos : Pos} {a : AV} {Q : Unit → St → Prop} (h : TSt C x a σ Q) : TAsg C (.Name x pos) a σ Q :=
  fun va s R0 hv => wpAny_assign_Name (h va s R0 hv)
def TOrd (C : Cx) (ts : List (Value → Sem Unit)) (as : List AV) (σ : St) (Q : Unit → St → Prop) : Prop := ∀ vs, TV C vs as RU (assignInOrder ts vs) σ Q
theorem TOrd.nil {Q : Unit → St → Prop} (q : Q () σ) : TOrd C [] [] σ Q :=
  fun vs s R0 _ => assignInOrder_nil (Post.toks (tk := s.toks) trivial R0 q)
theorem TOrd.cons {t : PySem.Expr} {ts : List (Value → Sem Unit)} {a : AV} {as : List AV} {Q : Unit → St → Prop} (h : TAsg C t a σ fun _ σ1 => TOrd C ts as σ1 Q) : TOrd C (assign t C.env :: ts) (a :: as) σ Q := by
  intro vs s R0 hv
  cases hv with
  | cons e r =>
    refine assignInOrder_cons ((h _).here R0 (.one e) fun _ _ σ1 s1 _ R1 g1 k1 q => ?_)
    exact (q _).last R0 R1 g1 (r.keep k1)
theorem TOrd.consB {x : Str} {ts : List (Value → Sem Unit)} {a : AV} {as : List AV} {Q : Unit → St → Prop} (h : TSt C x a σ fun _ σ1 => TOrd C ts as σ1 Q) : TOrd C (bindName C.env x :: ts) (a :: as) σ Q := by
  intro vs s R0 hv
  cases hv with
  | cons e r =>
    refine assignInOrder_cons (wpAny_bindName ((h _).here R0 (.one e) fun _ _ σ1 s1 _ R1 g1 k1 q => ?_))
    exact (q _).last R0 R1 g1 (r.keep k1)
theorem TAsg.tuple {es : List PySem.Expr} {k} {pos : Pos} {as : List AV} {ts : List (Value → Sem Unit)} {Q : Unit → St → Prop} (hh : C.A.handled = none) (ht : (assignEach es C.env).map (·.2) = ts) (hl : ts.length = as.length)
    (hst : (assignEach es C.env).findIdx? (·.1) = none) (h : TOrd C ts as σ Q) : TAsg C (.Tuple es k pos) (.tup as) σ Q := by
  intro va s R0 hv
  cases hv.inv1 with
  | tup e r =>
    rename_i a xs n
    refine wpAny_assign_Tuple (items := xs.toArray) hh ⟨_, e, rfl, n, rfl⟩ ?_ hst fun h' he => ?_
    · rw [← List.length_map (f := (·.2)), ht, hl, List.size_toArray, r.length]
    · rw [ht]
      obtain ⟨fr1, fr2⟩ := R0.free (Nat.le_refl _)
      have k : ∀ b o, s.heap.get? b = some o → h'.get? b = some o := fun b o q => he b o (Nat.ne_of_lt (Heap.lt_size q)) q
      obtain ⟨R1, g1⟩ := R0.ext (s' := { s with heap := h' }) k rfl rfl
      exact (h _).last R0 R1 g1 (r.keep fun b _ _ q => k b _ q)

/-! statements -/
theorem TS.nil {Q : AFl → St → Prop} (q : Q .next σ) : TS C [] σ Q := fun s R0 _ => wpAny_execs_nil (Post.toks (tk := s.toks) .next R0 q)
def andThen (Z : St → Prop) (Q : AFl → St → Prop) (f : AFl) (σ : St) : Prop := match f with | .next => Z σ | f => Q f σ
theorem TS.cons {st : Stmt} {r : List Stmt} {Q : AFl → St → Prop} (h : TX C st σ (andThen (fun σ1 => TS C r σ1 Q) Q)) : TS C (st :: r) σ Q := by
  intro s R0 _
  refine wpAny_execs_cons (h.here R0 .nil fun vf f σ1 s1 rf R1 g1 _ q => ?_)
  cases rf with
  | next => exact TV.last q R0 R1 g1 .nil
  | brk => exact ⟨.brk, σ1, .brk, R1, g1, q⟩
  | cont => exact ⟨.cont, σ1, .cont, R1, g1, q⟩
  | ret e => exact ⟨.ret _, σ1, .ret e, R1, g1, q⟩
theorem TX.assign {x : Str} {p pos : Pos} {e : PySem.Expr} {Q : AFl → St → Prop} (h : TE C e σ fun a σ1 => TSt C x a σ1 fun _ σ2 => Q .next σ2)
    (hsw : swapsWith e (some (.Name x p)) pos.line C.env = pure false := by rfl) : TX C (.Assign [.Name x p] e pos) σ Q := by
  intro s R0 _
  refine wpAny_Assign_Name (h.here R0 .nil fun va a σ1 s1 ra R1 g1 k1 q => ?_) hsw
  exact (q va).andThen R0 R1 g1 (.one ra) fun _ _ σ2 s2 _ R2 g2 _ _ q => ⟨.next, σ2, .next, R2, g2, q⟩
theorem TX.assignSub {o i e : PySem.Expr} {p pos : Pos} {Q : AFl → St → Prop} (h : TE C e σ fun a σ1 => TE C o σ1 fun b σ2 => TE C i σ2 fun c σ3 => TSet C b c a σ3 fun _ σ4 => Q .next σ4)
    (hsw : swapsWith e (some (.Subscript o i p)) pos.line C.env = pure false := by rfl) : TX C (.Assign [.Subscript o i p] e pos) σ Q := by
  intro s R0 _
  refine wpAny_Assign_Subscript (h.here R0 .nil fun va a σ1 s1 ra R1 g1 k1 q => ?_) hsw
  refine q.andThen R0 R1 g1 .nil fun vb b σ2 s2 rb R2 g2 _ k2 q => ?_
  refine q.andThen R0 R2 g2 .nil fun vc c σ3 s3 rc R3 g3 _ k3 q => ?_
  exact (q vb vc va).andThen R0 R3 g3 (.mk3 (rb.keep k3) rc ((ra.keep k2).keep k3)) fun _ _ σ2 s2 _ R2 g2 _ _ q => ⟨.next, σ2, .next, R2, g2, q⟩
theorem TX.assignTup {es : List PySem.Expr} {k} {p pos : Pos} {e : PySem.Expr} {Q : AFl → St → Prop} (h : TE C e σ fun a σ1 => TAsg C (.Tuple es k p) a σ1 fun _ σ2 => Q .next σ2)
    (hs : swapsWithSole [.Tuple es k p] e pos.line C.env = pure false) (hw : swappedStores [.Tuple es k p] e C.env = pure none) : TX C (.Assign [.Tuple es k p] e pos) σ Q := by
  intro s R0 _
  refine Assign_Tuple (h.here R0 .nil fun va a σ1 s1 ra R1 g1 k1 q => ?_) hs hw
  exact (q va).andThen R0 R1 g1 (.one ra) fun _ _ σ2 s2 _ R2 g2 _ _ q => ⟨.next, σ2, .next, R2, g2, q⟩
theorem TX.assignSwap {es : List PySem.Expr} {k} {p pos : Pos} {e : PySem.Expr} {names : List Str} {Q : AFl → St → Prop} (hh : C.A.handled = none)
    (h : TE C e σ fun a σ1 => ∃ as, a = .tup as ∧ as.length = names.length ∧ TOrd C (names.reverse.map fun n => bindName C.env n) as.reverse σ1 fun _ σ2 => Q .next σ2)
    (hs : swapsWithSole [.Tuple es k p] e pos.line C.env = pure false) (hw : swappedStores [.Tuple es k p] e C.env = pure (some names)) : TX C (.Assign [.Tuple es k p] e pos) σ Q := by
  intro s R0 _
  refine Assign_Tuple_swapped (names := names) (h.here R0 .nil fun va a σ1 s1 ra R1 g1 k1 q => ?_) hs hw
  obtain ⟨as, rfl, hl, q⟩ := q
  cases ra with
  | tup e r =>
    rename_i a xs n
    rw [show names.length = xs.toArray.size from by rw [List.size_toArray, r.length, hl]]
    refine wpAny_unpackItems_tuple hh ⟨_, e, rfl, n, rfl⟩ fun h' he => ?_
    have k : ∀ b o, s1.heap.get? b = some o → h'.get? b = some o := fun b o q => he b o (Nat.ne_of_lt (Heap.lt_size q)) q
    obtain ⟨R2, g2⟩ := R1.ext (s' := { s1 with heap := h' }) k rfl rfl
    have r' : VRels h' xs as := r.keep fun b _ _ q => k b _ q
    have rev : ∀ {l : List Value} {m : List AV}, VRels h' l m → VRels h' l.reverse m.reverse := by
      intro l
      induction l with
      | nil => intro m r; cases r; exact .nil
      | cons v l ih => intro m r; cases r with | cons e r => rw [List.reverse_cons, List.reverse_cons]; exact (ih r).append (.one e)
    exact (q _).andThen R0 R2 (g1.trans g2) (rev r') fun _ _ σ2 s2 _ R2 g2 _ _ q => ⟨.next, σ2, .next, R2, g2, q⟩
theorem TX.aug {x : Str} {p pos : Pos} {op} {e : PySem.Expr} {Q : AFl → St → Prop} (h : TLd C x σ fun a σ1 => TE C e σ1 fun b σ2 => TInp C op a b σ2 fun c σ3 => TSt C x c σ3 fun _ σ4 => Q .next σ4) :
    TX C (.AugAssign (.Name x p) op e pos) σ Q := by
  intro s R0 _
  refine wpAny_AugAssign_Name (h.here R0 .nil fun va a σ1 s1 ra R1 g1 k1 q => ?_)
  refine q.andThen R0 R1 g1 .nil fun vb b σ2 s2 rb R2 g2 _ k2 q => ?_
  refine (q va vb).andThen R0 R2 g2 (.mk2 (ra.keep k2) rb) fun vc c σ3 s3 rc R3 g3 _ k3 q => ?_
  exact (q vc).andThen R0 R3 g3 (.one rc) fun _ _ σ2 s2 _ R2 g2 _ _ q => ⟨.next, σ2, .next, R2, g2, q⟩
theorem TX.expr {e : PySem.Expr} {pos : Pos} {Q : AFl → St → Prop} (h : TE C e σ fun _ σ1 => Q .next σ1) (hi : interactive C.env = false) (hs : swapsWith e none pos.line C.env = pure false := by rfl) : TX C (.Expr e pos) σ Q := by
  intro s R0 _
  exact wpAny_Expr_any (h.here R0 .nil fun _ _ σ1 s1 _ R1 g1 _ q => ⟨.next, σ1, .next, R1, g1, q⟩) hi hs
theorem TX.ret {e : PySem.Expr} {pos : Pos} {Q : AFl → St → Prop} (h : TE C e σ fun a σ1 => Q (.ret a) σ1) : TX C (.Return (some e) pos) σ Q := by
  intro s R0 _
  exact wpAny_Return_some (h.here R0 .nil fun _ a σ1 s1 r R1 g1 _ q => ⟨.ret a, σ1, .ret r, R1, g1, q⟩)
theorem TX.ifS {t : PySem.Expr} {b o : List Stmt} {pos : Pos} {Q : AFl → St → Prop} (h : TB C t σ fun c σ1 => if c then TS C b σ1 Q else TS C o σ1 Q) : TX C (.If t b o pos) σ Q := by
  intro s R0 _
  refine wpAny_If (h.here R0 .nil fun vc c σ1 s1 rc R1 g1 k1 q => ?_)
  cases rc
  cases vc
  · simp only [Bool.false_eq_true, if_false] at q ⊢; exact TV.last q R0 R1 g1 .nil
  · simp only [if_true] at q ⊢; exact TV.last q R0 R1 g1 .nil
end

/-- what flies out of a loop's turn is what flies out of the loop -/
def Cx.Loops (C : Cx) : Prop := ∀ σ s e s', C.X σ s e s' → notedBy C.M C.A C.env (cameBackBy C.M C.A C.env (C.X σ s)) e s'
/-- nothing flies -/
def Cx.Calm (C : Cx) : Prop := ∀ σ s e s', ¬ C.X σ s e s'
theorem Cx.Calm.loops {C : Cx} (h : C.Calm) : C.Loops := fun σ s e s' x => (h σ s e s' x).elim

section
variable {C : Cx} {α β : Type} {vs : List Value} {as : List AV} {R : Heap → α → β → Prop} {t : Sem α} {σ σ1 σ2 : St} {s s1 s2 : Shared} {Q Q' : β → St → Prop}
theorem TV.thenE (h : TV C vs as R t σ1 Q) {Z : α → Shared → Prop} {E : Value → Shared → Prop} (R0 : C.R σ s) (R1 : C.R σ1 s1) (g : C.G σ s σ1 s1) (hv : VRels s1.heap vs as) (hE : ∀ e s', C.X σ s e s' → E e s')
    (k : ∀ a b σ2 s2, R s2.heap a b → C.R σ2 s2 → C.G σ s σ2 s2 → C.G σ1 s1 σ2 s2 → TupKeep s1.heap s2.heap → Q b σ2 → Z a s2) : wpAny C.M C.A t Z E s1 :=
  wpAny_mono (h.andThen R0 R1 g hv k) (fun _ _ x => x) hE
end

def Objs (prog : Program) (w : World) (h : Heap) (H : AH) : Prop := ∀ a o, H a = some o → OBJ prog w h a o
theorem Rep.Objs {prog : Program} {w : World} {h₀ : Heap} {os : OsState} {env : Env} {σ : St} {s : Shared} (R : Rep prog w h₀ os env σ s) : Mine.Objs prog w s.heap σ.H := fun a o e => (R.objs a o e).1
structure ItOk (prog : Program) (w : World) (A : Around) (it : Addr) (xs : List AV) (ok : AH → Prop) (It : Nat → Heap → Prop) : Prop where
  item : ∀ i x H s (Q : Option Value → Shared → Prop) (E : Value → Shared → Prop), xs[i]? = some x → Objs prog w s.heap H → ok H → It i s.heap →
    (∀ v h' tk, VRel h' v x → It (i + 1) h' → Heap.ExtBut it s.heap h' → Q (some v) { s with heap := h', toks := tk }) → wpAny (model prog w) A (pyNext (.ref it)) Q E s
  done : ∀ H s (Q : Option Value → Shared → Prop) (E : Value → Shared → Prop), Objs prog w s.heap H → ok H → It xs.length s.heap → (∀ h' tk, Heap.ExtBut it s.heap h' → Q none { s with heap := h', toks := tk }) → wpAny (model prog w) A (pyNext (.ref it)) Q E s
  keep : ∀ i h h', It i h → TupKeep h h' → (∀ o, h.get? it = some o → h'.get? it = some o) → It i h'
  go : ∀ i (target : PySem.Expr) v s (Q : Unit → Shared → Prop) (E : Value → Shared → Prop), It i s.heap → Q () s → wpAny (model prog w) A (letOwnedTupleGo target (.ref it) v) Q E s
  obj : ∀ i h, It i h → ∃ o, h.get? it = some o ∧ notTup o
  self : ∀ i s (Q : Value → Shared → Prop) (E : Value → Shared → Prop), It i s.heap → Q (.ref it) s → wpAny (model prog w) A (pyIter (.ref it)) Q E s

def FEnd (I : Nat → St → Prop) (i : Nat) (Q : AFl → St → Prop) : AFl → St → Prop
  | .next, σ => I (i + 1) σ
  | .cont, σ => I (i + 1) σ
  | .brk, σ => Q .next σ
  | .ret v, σ => Q (.ret v) σ

section
variable {C : Cx} {σ σ1 : St} {s s1 : Shared} {it : Addr} {xs : List AV} {ok : AH → Prop} {It : Nat → Heap → Prop}

theorem for_run {target : PySem.Expr} {body : List Stmt} {Q : AFl → St → Prop} (hL : C.Loops) (W : ItOk C.prog C.w C.A it xs ok It) (I : Nat → St → Prop) (hok : ∀ i σ, i ≤ xs.length → I i σ → ok σ.H)
    (R0 : C.R σ s) (R1 : C.R σ1 s1) (g1 : C.G σ s σ1 s1) (hi : It 0 s1.heap) (fr : s.heap.get? it = none) (ho : it ∉ own C.env) (hH : σ1.H it = none) (hz : C.h₀.objs.size ≤ it) (h0 : I 0 σ1)
    (turn : ∀ i x σ2, xs[i]? = some x → I i σ2 → TAsg C target x σ2 fun _ σ3 => TS C body σ3 (FEnd I i Q))
    (fin : ∀ σ2, I xs.length σ2 → Q .next σ2) :
    codeAny C.M C.A (.forLoop target (.ref it) body [] C.env) (fun r s' => match r with | .ok f => Post C RF σ s Q f s' | .error e => cameBackBy C.M C.A C.env (C.X σ s) e s') s1 := by
  refine codeAny_forLoop_any (fun k s' => ∃ i σ', k + i = xs.length + 1 ∧ i ≤ xs.length ∧ C.R σ' s' ∧ C.G σ s σ' s' ∧ It i s'.heap ∧ σ'.H it = none ∧ I i σ') ?_ (xs.length + 1) ⟨0, σ1, rfl, Nat.zero_le _, R1, g1, hi, hH, h0⟩
  rintro k s' ⟨i, σ', hk, hle, R', g', hI, hH', hinv⟩
  obtain ⟨o, hob, nt⟩ := W.obj i _ hI
  by_cases hlt : i < xs.length
  · have hx : xs[i]? = some xs[i] := by simp [hlt]
    refine W.item i _ σ'.H s' _ _ hx R'.Objs (hok i σ' hle hinv) hI fun v h' tk rv hI' hs' => ?_
    obtain ⟨R2, tk2⟩ := R'.touch (tk := tk) hz ho hH' hob nt hs'
    have g2 := g'.but (tk := tk) fr hs'
    refine W.go (i + 1) _ _ _ _ _ hI' ?_
    refine (turn i _ σ' hx hinv v).thenE R0 R2 g2 (.one rv) (fun e s' x => hL _ _ _ _ x) fun _ _ σ3 s3 _ R3 g3 g23 k3 q => ?_
    obtain ⟨o', hob', _⟩ := W.obj (i + 1) _ hI'
    have e3 := g23.2 it o' hob' ho hH'
    refine TV.thenE q R0 R3 g3 .nil (fun e s' x => hL _ _ _ _ x) fun vf f σ4 s4 rf R4 g4 g34 k4 q => ?_
    have e4 := g34.2 it o' e3.1 ho e3.2
    have hI4 : It (i + 1) s4.heap := W.keep _ _ _ (W.keep _ _ _ hI' k3 fun o q => by rw [hob'] at q; cases q; exact e3.1) k4 fun o q => by rw [e3.1] at q; cases q; exact e4.1
    cases rf with
    | next => exact ⟨k - 1, by omega, i + 1, σ4, by omega, hlt, R4, g4, hI4, e4.2, q⟩
    | cont => exact ⟨k - 1, by omega, i + 1, σ4, by omega, hlt, R4, g4, hI4, e4.2, q⟩
    | brk => exact ⟨.next, σ4, .next, R4, g4, q⟩
    | ret e => exact ⟨.ret _, σ4, .ret e, R4, g4, q⟩
  · have he : i = xs.length := by omega
    subst he
    refine W.done σ'.H s' _ _ R'.Objs (hok _ σ' hle hinv) hI fun h' tk hs' => ?_
    obtain ⟨R2, _⟩ := R'.touch (tk := tk) hz ho hH' hob nt hs'
    exact wpAny_execs_nil ⟨.next, σ', .next, R2, g'.but fr hs', fin σ' hinv⟩

end
section
variable {C : Cx} {prog : Program} {w : World} {A : Around} {σ σ1 : St} {s s1 : Shared} {it : Addr} {xs : List AV} {ok : AH → Prop} {It : Nat → Heap → Prop}
/-! the iterators -/
theorem go_plain {M : Model} {A : Around} {E : Value → Shared → Prop} {s : Shared} {o : Obj} {n : String} {it : Addr} {target : PySem.Expr} {v : Value} {Q : Unit → Shared → Prop} (ho : s.heap.get? it = some o) (hc : o.cls = .type n) (hd : ∃ vs, o.data = .fields vs)
    (hn : (["enumerate", "zip", "dict_itemiterator", "dict_reverseitemiterator", "odict_iterator", "itertools.zip_longest", "itertools.pairwise"] : List String).contains n = false) (q : Q () s) : wpAny M A (letOwnedTupleGo target (.ref it) v) Q E s := by
  obtain ⟨c, d, dt, sl⟩ := o
  dsimp only at hc hd
  subst hc
  obtain ⟨vs, rfl⟩ := hd
  have key : ∀ r, v = .ref r → wpAny M A (do
      let o ← load it
      match o.cls, o.data with
      | .type n, .fields vs =>
        if (["enumerate", "zip", "dict_itemiterator", "dict_reverseitemiterator", "odict_iterator", "itertools.zip_longest", "itertools.pairwise"] : List String).contains n && vs[0]? == some (rawInt r) then
          rule "for.unpacks-the-owned-tuple"
          updateField it 0 .none
      | _, _ => pure ()) Q E s := fun r _ => by
    refine wpAny_bind (wpAny_load ho ?_)
    dsimp only
    rw [hn]
    exact wpAny_pure q
  cases target <;> first | exact wpAny_pure q | skip
  · cases v <;> first | exact wpAny_pure q | exact key _ rfl
  · cases v <;> first | exact wpAny_pure q | exact key _ rfl

theorem ext_tups {h h' : Heap} {it : Addr} {o : Obj} {T : String} (ho : h.get? it = some o) (hc : o.cls = .type T) (hT : (T == "tuple") = false) (hs : Heap.ExtBut it h h') : TupKeep h h' := fun b xs n q => hs b _ (fun x => by
  subst x; rw [ho] at q; cases q; cases hc; exact absurd hT (by decide)) q

theorem itList {l : Addr} (hh : A.handled = none) : ItOk prog w A it xs (fun H => H l = some (.list xs)) (fun i h => h.IsListIter it l i) where
  item := fun i x H s Q E hx R0 hok hI k => by
    obtain ⟨ys, ⟨n, e⟩, r⟩ := (R0 l _ hok)
    obtain ⟨v, hv, rv⟩ := r.get hx
    refine wpAny_pyNext_list_item hI ⟨_, e, rfl, n, rfl⟩ (by simpa using hv) fun h' hI' hs' => ?_
    obtain ⟨o, ho, hc, hd⟩ := hI
    exact k v h' s.toks (rv.keep (ext_tups ho hc rfl hs'.extBut)) hI' hs'.extBut
  done := fun H s Q E R0 hok hI k => by
    obtain ⟨ys, ⟨n, e⟩, r⟩ := (R0 l _ hok)
    exact wpAny_pyNext_list_end hh hI ⟨_, e, rfl, n, rfl⟩ (by simp [r.length]) fun h' hs' => k h' s.toks hs'
  keep := fun i h h' hI _ e => hI.at e
  go := fun i target v s Q E ⟨o, ho, hc, hd⟩ q => go_plain ho hc ⟨_, hd⟩ (by decide) q
  obj := fun i h ⟨o, ho, hc, hd⟩ => ⟨o, ho, fun xs n q => by rw [q] at hd; cases hd⟩
  self := fun i s Q E hI q => wpAny_pyIter_listiter hI q
theorem itTuple {t : Addr} (hh : A.handled = none) : ItOk prog w A it xs (fun _ => True) (fun i h => h.IsTupleIter it t i ∧ ∃ ys n, h.get? t = some ⟨.type "tuple", none, .seq ys.toArray n, #[]⟩ ∧ VRels h ys xs) where
  item := fun i x H s Q E hx R0 _ hI k => by
    obtain ⟨hI, ys, n, e, r⟩ := hI
    obtain ⟨v, hv, rv⟩ := r.get hx
    refine wpAny_pyNext_tuple_item hI ⟨_, e, rfl, n, rfl⟩ (by simpa using hv) fun h' hI' hs' => ?_
    obtain ⟨o, ho, hc, hd⟩ := hI
    have tk := ext_tups ho hc rfl hs'.extBut
    exact k v h' s.toks (rv.keep tk) ⟨hI', ys, n, tk _ _ _ e, r.keep tk⟩ hs'.extBut
  done := fun H s Q E R0 _ hI k => by
    obtain ⟨hI, ys, n, e, r⟩ := hI
    exact wpAny_pyNext_tuple_end hh hI ⟨_, e, rfl, n, rfl⟩ (by simp [r.length]) fun h' hs' => k h' s.toks hs'
  keep := fun i h h' ⟨hI, ys, n, e, r⟩ tk ke => ⟨let ⟨o, ho, rr⟩ := hI; ⟨o, ke _ ho, rr⟩, ys, n, tk _ _ _ e, r.keep tk⟩
  go := fun i target v s Q E ⟨⟨o, ho, hc, hd⟩, _⟩ q => go_plain ho hc ⟨_, hd⟩ (by decide) q
  obj := fun i h ⟨⟨o, ho, hc, hd⟩, _⟩ => ⟨o, ho, fun xs n q => by rw [q] at hd; cases hd⟩
  self := fun i s Q E hI q => wpAny_pyIter_tupleiter hI.1 q
def intsA (n : Nat) : List AV := (List.range n).map fun i : Nat => AV.int (i : Int)
theorem itRange {n : Nat} (hh : A.handled = none) : ItOk prog w A it (intsA n) (fun _ => True) (fun i h => IsRangeIter h it i ((n : Int) - i) 1) where
  item := fun i x H s Q E hx R0 _ hI k => by
    have hi : i < n := by
      have := (List.getElem?_eq_some_iff.mp hx).1
      simpa [intsA] using this
    have hx' : x = .int i := by
      simp only [intsA, List.getElem?_map, List.getElem?_range hi, Option.map_some, Option.some.injEq] at hx
      exact hx.symm
    subst hx'
    refine wpAny_pyNext_range_item hI (by omega) fun h' hI' hs' => ?_
    have e : ((n : Int) - (i : Int) - 1) = (n : Int) - ((i + 1 : Nat) : Int) := by omega
    rw [e] at hI'
    exact k _ h' (s.toks + 1) (.int _ _) (by simpa using hI') hs'.extBut
  done := fun H s Q E R0 _ hI k => by
    have hn : (intsA n).length = n := by simp [intsA]
    rw [hn] at hI
    exact wpAny_pyNext_range_end hh hI (by omega) fun h' hs' => k h' s.toks hs'
  keep := fun i h h' hI _ e => e _ hI
  go := fun i target v s Q E hI q => go_plain hI rfl ⟨_, rfl⟩ (by decide) q
  obj := fun i h hI => ⟨_, hI, fun xs n q => by injection q with q1; injection q1 with q2; exact absurd q2 (by decide)⟩
  self := fun i s Q E hI q => wpAny_pyIter_rangeiter hI q
theorem ItOk.mono {ok' : AH → Prop} (W : ItOk prog w A it xs ok It) (h : ∀ H, ok' H → ok H) : ItOk prog w A it xs ok' It :=
  ⟨fun i x σ s Q E hx R0 o => W.item i x σ s Q E hx R0 (h _ o), fun σ s Q E R0 o => W.done σ s Q E R0 (h _ o), W.keep, W.go, W.obj, W.self⟩

/-- what a for runs through -/
def IterAs (C : Cx) (a : AV) (xs : List AV) (ok : AH → Prop) : Prop :=
  ∀ va σ s, C.R σ s → ok σ.H → VRel s.heap va a → ∀ (Q : Value → Shared → Prop) (E : Value → Shared → Prop),
    (∀ h' It, (∀ b o, s.heap.get? b = some o → h'.get? b = some o) → It 0 h' → ItOk C.prog C.w C.A s.heap.objs.size xs ok It → Q (.ref s.heap.objs.size) { s with heap := h' }) → wpAny C.M C.A (pyIter va) Q E s
theorem IterAs.list {l : Addr} (hh : C.A.handled = none) : IterAs C (.con (.ref l)) xs (fun H => H l = some (.list xs)) := by
  intro va σ s R0 hok rv Q E k
  cases rv
  obtain ⟨ys, ⟨n, e⟩, r⟩ := (R0.objs l _ hok).1
  exact wpAny_pyIter_list ⟨_, e, rfl, n, rfl⟩ (k _ (fun i h => h.IsListIter s.heap.objs.size l i) (fun b o q => Heap.get?_push_of_some _ q) ⟨_, Heap.get?_push_size _ rfl, rfl, rfl⟩ (itList hh))
theorem IterAs.tuple (hh : C.A.handled = none) : IterAs C (.tup xs) xs (fun _ => True) := by
  intro va σ s R0 hok rv Q E k
  cases rv with
  | tup e r =>
    rename_i t ys n
    have kp : ∀ b o, s.heap.get? b = some o → (s.heap.push { cls := .type "tuple_iterator", data := .fields #[.ref t, .int 0 0] }).get? b = some o := fun b o q => Heap.get?_push_of_some _ q
    exact wpAny_pyIter_tuple ⟨_, e, rfl, n, rfl⟩ (k _ _ kp ⟨⟨_, Heap.get?_push_size _ rfl, rfl, rfl⟩, ys, n, kp _ _ e, r.keep fun a _ _ e => kp a _ e⟩ (itTuple (t := t) hh))
theorem rangeSize_nat (n : Nat) : Builtin.Range.rangeSize 0 (n : Int) 1 = (n : Int) := by
  unfold Builtin.Range.rangeSize
  simp only [show (1 : Int) > 0 from by decide, if_true]
  split
  · omega
  · omega
theorem range_small {n : Nat} (hn : n ≤ 16777216) : Builtin.Range.small 0 (n : Int) 1 = true := by
  unfold Builtin.Range.small
  rw [rangeSize_nat]
  have : ∀ i : Int, -10 ≤ i → i ≤ 16777226 → Builtin.Range.rangeFitsLong i = true := fun i h1 h2 => by
    unfold Builtin.Range.rangeFitsLong
    simp only [Bool.and_eq_true, decide_eq_true_eq]
    omega
  simp only [this 0 (by omega) (by omega), this n (by omega) (by omega), this 1 (by omega) (by omega), this ((n : Int) + (1 - 1)) (by omega) (by omega), Bool.and_self, Bool.true_and, show (1 : Int) > 0 from by decide, if_true, Bool.or_true]
theorem IterAs.range {r : Addr} {n : Nat} (hh : C.A.handled = none) (hn : n ≤ 16777216) : IterAs C (.con (.ref r)) (intsA n) (fun H => H r = some (.rng n)) := by
  intro va σ s R0 hok rv Q E k
  cases rv
  obtain ⟨t, u, v, e⟩ := (R0.objs r _ hok).1
  refine wpAny_pyIter_range e (range_small hn) (k _ (fun i h => IsRangeIter h s.heap.objs.size i ((n : Int) - i) 1) (fun b o q => Heap.get?_push_of_some _ q) ?_ ((itRange hh).mono fun _ _ => trivial))
  rw [rangeSize_nat]
  simpa using Heap.get?_push_size s.heap (o := { cls := .type "range_iterator", data := .fields #[rawInt 0, rawInt (n : Int), rawInt 1] }) rfl
theorem Cx.notSys (C : Cx) {d : Addr} (h : C.h₀.objs.size ≤ d) : (d == sysModules) = false := by
  have := C.hsys
  simp only [beq_eq_false_iff_ne, ne_eq]
  intro e; subst e; exact absurd this (Nat.not_lt.mpr h)
theorem TX.for {target iter : PySem.Expr} {body : List Stmt} {pos : Pos} {Q : AFl → St → Prop} (hL : C.Loops)
    (h : TE C iter σ fun a σ1 => ∃ xs ok I, IterAs C a xs ok ∧ (∀ i σ, i ≤ xs.length → I i σ → ok σ.H) ∧ I 0 σ1 ∧
      (∀ i x σ2, xs[i]? = some x → I i σ2 → TAsg C target x σ2 fun _ σ3 => TS C body σ3 (FEnd I i Q)) ∧ (∀ σ2, I xs.length σ2 → Q .next σ2))
    (hf : ∀ x, foldedSetIterable iter C.env x = pure x := by intro _; rfl) : TX C (.For target iter body [] pos) σ Q := by
  intro s R0 _
  refine wpAny_For (h.here R0 .nil fun va a σ1 s1 ra R1 g1 k1 q => ?_) hf
  obtain ⟨xs, ok, I, hi, hok, h0, turn, fin⟩ := q
  refine hi va σ1 s1 R1 (hok 0 σ1 (Nat.zero_le _) h0) ra _ _ fun h' It kp hI W => ?_
  obtain ⟨R2, g2⟩ := R1.ext (s' := { s1 with heap := h' }) kp rfl rfl
  obtain ⟨f1, f2⟩ := R1.free (Nat.le_refl _)
  exact for_run hL W I hok R0 R2 (g1.trans g2) hI g1.fresh f1 f2 R1.size h0 turn fin
end

section
variable {C : Cx} {σ σ1 : St} {s s1 : Shared}

def WEnd (I : Nat → St → Prop) (n : Nat) (Q : AFl → St → Prop) : AFl → St → Prop
  | .next, σ => ∃ m, m < n ∧ I m σ
  | .cont, σ => ∃ m, m < n ∧ I m σ
  | .brk, σ => Q .next σ
  | .ret v, σ => Q (.ret v) σ
theorem TX.while {test : PySem.Expr} {body : List Stmt} {pos : Pos} {Q : AFl → St → Prop} (hL : C.Loops) (I : Nat → St → Prop) (n : Nat) (h0 : I n σ)
    (turn : ∀ n σ1, I n σ1 → TB C test σ1 fun b σ2 => if b then TS C body σ2 (WEnd I n Q) else Q .next σ2) : TX C (.While test body [] pos) σ Q := by
  intro s R0 _
  refine wpAny_While (codeAny_whileLoop (fun k s' => ∃ σ', C.R σ' s' ∧ C.G σ s σ' s' ∧ I k σ') ?_ n ⟨σ, R0, Grow.refl _ _ _, h0⟩)
  rintro k s' ⟨σ', R', g', hI⟩
  refine (turn k σ' hI).thenE R0 R' g' .nil (fun e s' x => hL _ _ _ _ x) fun vb b σ2 s2 rb R2 g2 _ _ q => ?_
  cases rb
  cases vb
  · simp only [Bool.false_eq_true, if_false] at q ⊢
    exact wpAny_execs_nil ⟨.next, σ2, .next, R2, g2, q⟩
  · simp only [if_true] at q ⊢
    refine TV.thenE q R0 R2 g2 .nil (fun e s' x => hL _ _ _ _ x) fun vf f σ4 s4 rf R4 g4 g34 k4 q => ?_
    cases rf with
    | next => obtain ⟨m, hm, hI⟩ := q; exact ⟨m, hm, σ4, R4, g4, hI⟩
    | cont => obtain ⟨m, hm, hI⟩ := q; exact ⟨m, hm, σ4, R4, g4, hI⟩
    | brk => exact ⟨.next, σ4, .next, R4, g4, q⟩
    | ret e => exact ⟨.ret _, σ4, .ret e, R4, g4, q⟩

/-! comprehensions -/
def relab (sc : Scope) : Scope := { sc with names := sc.names.map fun p => if p.2 == .free then (p.1, .cell) else p }
theorem relabel_eq {sc : Scope} {env : Env} (hk : env.scope.kind = .function) (hf : ∀ p ∈ sc.names, p.2 = .free → env.kindOf p.1 = some .cell) : relabel sc env = relab sc := by
  unfold relabel relab
  congr 1
  refine List.map_congr_left fun p hp => ?_
  obtain ⟨n, k⟩ := p
  by_cases h : k = .free
  · subst h
    have := hf _ hp rfl
    simp [hk, this]
  · have h' : (k == NameKind.free) = false := by simpa using h
    simp [h']
def closeL (c : Str → Addr) : List (Str × NameKind) → List (Str × Addr) → List (Str × Addr)
  | [], acc => acc
  | p :: r, acc => if p.2 == .free then closeL c r ((p.1, c p.1) :: acc) else closeL c r acc
theorem closureFor_eq {sc : Scope} {env : Env} (c : Str → Addr) (h : ∀ p ∈ sc.names, p.2 = .free → env.cells.lookup p.1 = some (c p.1)) : closureFor sc env = pure (closeL c sc.names []) := by
  unfold closureFor
  have key : ∀ (l : List (Str × NameKind)) (acc : List (Str × Addr)), (∀ p ∈ l, p.2 = .free → env.cells.lookup p.1 = some (c p.1)) →
      (forIn l acc fun p cs => (do
        let (name, kind) := p
        if kind == .free then do
          let __x ← cellOf env name
          pure (ForInStep.yield ((name, __x) :: cs))
        else pure (ForInStep.yield cs) : Sem (ForInStep (List (Str × Addr))))) = (pure (closeL c l acc) : Sem _) := by
    intro l
    induction l with
    | nil => intro acc _; rfl
    | cons p r ih =>
      intro acc hl
      rw [List.forIn_cons]
      obtain ⟨n, k⟩ := p
      by_cases hk : k = .free
      · subst hk
        have e := hl _ List.mem_cons_self rfl
        dsimp only at e
        simp only [beq_self_eq_true, if_true, cellOf, e, closeL]
        exact ih _ fun p hp => hl p (List.mem_cons_of_mem _ hp)
      · have h' : (k == NameKind.free) = false := by simpa using hk
        simp only [h', Bool.false_eq_true, if_false, closeL]
        exact ih _ fun p hp => hl p (List.mem_cons_of_mem _ hp)
  have := key sc.names [] h
  simp only [] at this ⊢
  show (forIn sc.names [] _ >>= fun cs => pure cs) = _
  rw [show (forIn sc.names [] _ : Sem (List (Str × Addr))) = pure (closeL c sc.names []) from this]
  rfl
theorem closeL_mem {c : Str → Addr} : ∀ {l : List (Str × NameKind)} {acc : List (Str × Addr)} {q : Str × Addr}, q ∈ closeL c l acc → q ∈ acc ∨ (q.2 = c q.1 ∧ (q.1, NameKind.free) ∈ l)
  | [], _, _, h => .inl h
  | p :: r, acc, q, h => by
    unfold closeL at h
    obtain ⟨n, k⟩ := p
    by_cases hk : k = .free
    · subst hk
      simp only [beq_self_eq_true, if_true] at h
      rcases closeL_mem h with h | ⟨h1, h2⟩
      · rcases List.mem_cons.mp h with rfl | h
        · exact .inr ⟨rfl, List.mem_cons_self⟩
        · exact .inl h
      · exact .inr ⟨h1, List.mem_cons_of_mem _ h2⟩
    · have h' : (k == NameKind.free) = false := by simpa using hk
      simp only [h', Bool.false_eq_true, if_false] at h
      rcases closeL_mem h with h | ⟨h1, h2⟩
      · exact .inl h
      · exact .inr ⟨h1, List.mem_cons_of_mem _ h2⟩
theorem closeL_has {c : Str → Addr} {x : Str} : ∀ {l : List (Str × NameKind)} {acc : List (Str × Addr)}, (∀ q ∈ acc, q.2 = c q.1) → ((x, NameKind.free) ∈ l ∨ (acc.lookup x).isSome = true) → (closeL c l acc).lookup x = some (c x)
  | [], acc, ha, h => by
    rcases h with h | h
    · cases h
    · obtain ⟨d, hd⟩ := Option.isSome_iff_exists.mp h
      have := ha _ (mem_of_lookup hd)
      dsimp only at this
      unfold closeL; rw [hd, this]
  | p :: r, acc, ha, h => by
    unfold closeL
    obtain ⟨n, k⟩ := p
    by_cases hk : k = .free
    · subst hk
      simp only [beq_self_eq_true, if_true]
      refine closeL_has (fun q hq => ?_) ?_
      · rcases List.mem_cons.mp hq with rfl | hq
        · rfl
        · exact ha q hq
      · by_cases hx : x = n
        · right; rw [List.lookup_cons]; simp [hx]
        · rcases h with h | h
          · rcases List.mem_cons.mp h with e | h
            · exact absurd (Prod.mk.inj e).1 hx
            · exact .inl h
          · right; rw [List.lookup_cons]; have : (x == n) = false := by simpa using hx
            rw [this]; exact h
    · have h' : (k == NameKind.free) = false := by simpa using hk
      simp only [h', Bool.false_eq_true, if_false]
      refine closeL_has ha ?_
      rcases h with h | h
      · rcases List.mem_cons.mp h with e | h
        · exact absurd (Prod.mk.inj e).2.symm hk
        · exact .inl h
      · exact .inr h
theorem relab_cell {sc : Scope} (hc : ∀ p ∈ sc.names, p.2 ≠ .cell) {x : Str} (h : (relab sc).names.lookup x = some .cell) : (x, NameKind.free) ∈ sc.names := by
  have := mem_of_lookup h
  obtain ⟨p, hp, e⟩ := List.mem_map.mp this
  obtain ⟨n, k⟩ := p
  by_cases hk : k = .free
  · subst hk; simp at e; subst e; exact hp
  · have h' : (k == NameKind.free) = false := by simpa using hk
    simp only [h', Bool.false_eq_true, if_false] at e
    cases e; exact absurd rfl (hc _ hp)

@[reducible] def Cx.comp (C : Cx) (sc : Scope) (cl : List (Str × Addr)) (L : Addr) (hk : sc.kind = .function) : Cx :=
  { C with env := { scope := relab sc, locals := L, globals := C.env.globals, cells := cl, qual := C.env.qual, func := none, code := C.env.code, frame := C.env.frame, builtins := C.env.builtins }
           X := fun _ _ _ _ => False
           hk := hk
           clo := fun _ _ _ _ _ _ _ _ h => h }
theorem Cx.comp_calm (C : Cx) (sc : Scope) (cl : List (Str × Addr)) (L : Addr) (hk : sc.kind = .function) : (C.comp sc cl L hk).Calm := fun _ _ _ _ h => h
end

section
variable {C : Cx} {α β : Type} {vs : List Value} {as : List AV} {R : Heap → α → β → Prop} {t : Sem α} {σ σ1 σ2 : St} {s s1 s2 : Shared} {Q Q' : β → St → Prop}
theorem leN {a b : Nat} (h : a ≤ b) : a ≤ b := h
theorem TV.calm (hC : C.Calm) (h : TV C vs as R t σ1 Q) {Z : α → Shared → Prop} {E : Value → Shared → Prop} (R1 : C.R σ1 s1) (hv : VRels s1.heap vs as)
    (k : ∀ a b σ2 s2, R s2.heap a b → C.R σ2 s2 → C.G σ1 s1 σ2 s2 → TupKeep s1.heap s2.heap → Q b σ2 → Z a s2) : wpAny C.M C.A t Z E s1 :=
  wpAny_mono (h s1 R1 hv) (fun _ _ ⟨b, σ', r, R', g', q⟩ => k _ b σ' _ r R' g' (g'.tups R1) q) fun _ _ x => (hC _ _ _ _ x).elim
end

def mcOf (sc : Scope) (m : Str → Option AV) : Str → Option AV := fun x => if (relab sc).names.lookup x = some .cell then m x else none
def Same (sc : Scope) (m0 m : Str → Option AV) : Prop := ∀ x, (relab sc).names.lookup x = some .cell → m x = m0 x
theorem Same.mc {sc : Scope} {m : Str → Option AV} : Same sc m (mcOf sc m) := fun x hx => by unfold mcOf; rw [if_pos hx]
theorem Same.upd {sc : Scope} {m0 m : Str → Option AV} {y : Str} {v : AV} (h : Same sc m0 m) (hy : (relab sc).names.lookup y = some .local) : Same sc m0 (upd m y v) := fun x hx => by
  unfold Mine.upd
  rw [if_neg fun e => by rw [e, hy] at hx; cases hx]
  exact h x hx

section
variable {C : Cx} {σ σ1 : St} {s s1 : Shared} {sc : Scope} {c : Str → Addr} {L : Addr}

theorem comp_enter {s4 : Shared} (hk : sc.kind = .function) (R1 : C.R σ1 s1) (hcell : ∀ p ∈ sc.names, p.2 ≠ .cell) (hfree : ∀ p ∈ sc.names, p.2 = .free → C.env.kindOf p.1 = some .cell)
    (hc : ∀ p ∈ sc.names, p.2 = .free → C.env.cells.lookup p.1 = some (c p.1)) (k : ∀ b o, s1.heap.get? b = some o → s4.heap.get? b = some o) (hn : s4.heap.Ns L fun _ => none) (hL : s1.heap.get? L = none) (hz : C.h₀.objs.size ≤ L)
    (hg : s4.gens = s1.gens) (ho : s4.os = s1.os) : (C.comp sc (closeL c sc.names []) L hk).R ⟨mcOf sc σ1.m, σ1.H⟩ s4 := by
  have tk : TupKeep s1.heap s4.heap := fun a _ _ e => k a _ e
  have hin : ∀ d ∈ (closeL c sc.names []).map (·.2), d ∈ own C.env := fun d hd => by
    obtain ⟨q, hq, rfl⟩ := List.mem_map.mp hd
    rcases closeL_mem hq with h | ⟨h1, h2⟩
    · cases h
    · rw [h1]; exact List.mem_cons_of_mem _ (List.mem_map.mpr ⟨_, mem_of_lookup (hc _ h2 rfl), rfl⟩)
  have hLo : L ∉ own C.env := fun q => by obtain ⟨_, o, e, _⟩ := R1.owns L q; rw [hL] at e; cases e
  have hcl : ∀ x d, (closeL c sc.names []).lookup x = some d → (x, NameKind.free) ∈ sc.names ∧ d = c x := fun x d h => by
    rcases closeL_mem (mem_of_lookup h) with h | ⟨h1, h2⟩
    · cases h
    · exact ⟨h2, h1⟩
  refine ⟨fun b o e => k b o (R1.keep b o e), ⟨_, hn, fun x hx => ?_⟩, fun x hx => ?_, fun a o e => ?_, fun d hd => ?_, fun h => hLo (hin _ h), fun x y d hx hy e1 e2 => ?_, hg.trans R1.gens, ho.trans R1.os⟩
  · have : (relab sc).names.lookup x = some .local := hx
    show ORel _ none (mcOf sc σ1.m x)
    unfold mcOf; rw [this, if_neg (by decide)]; exact .none
  · have hx' : (relab sc).names.lookup x = some .cell := hx
    have hm := relab_cell hcell hx'
    obtain ⟨c0, v, h1, h2, h3⟩ := R1.cels x (hfree _ hm rfl)
    have e : c0 = c x := Option.some.inj (h1.symm.trans (hc _ hm rfl))
    subst e
    refine ⟨c x, v, closeL_has (fun _ h => by cases h) (.inl hm), h2.keeps k, ?_⟩
    show ORel _ v (mcOf sc σ1.m x)
    unfold mcOf; rw [if_pos hx']; exact h3.keep tk
  · obtain ⟨h1, h2, h3⟩ := R1.objs a o e
    refine ⟨h1.keep tk (k a), h2, fun q => ?_⟩
    rcases List.mem_cons.mp q with q | q
    · obtain ⟨ob, e', _⟩ := h1.notTup; rw [q, show (C.comp sc (closeL c sc.names []) L hk).env.locals = L from rfl, hL] at e'; cases e'
    · exact h3 (hin _ q)
  · rcases List.mem_cons.mp hd with q | q
    · obtain ⟨o, es, ep, e, hd', _⟩ := hn
      exact ⟨q ▸ hz, o, q ▸ e, fun xs n e2 => by rw [e2] at hd'; cases hd'⟩
    · obtain ⟨h1, o, e, nt⟩ := R1.owns d (hin _ q)
      exact ⟨h1, o, k _ _ e, nt⟩
  · have hx' := relab_cell hcell hx
    have hy' := relab_cell hcell hy
    obtain ⟨_, rfl⟩ := hcl _ _ e1
    obtain ⟨_, e4⟩ := hcl _ _ e2
    exact R1.inj x y (c x) (hfree _ hx' rfl) (hfree _ hy' rfl) (hc _ hx' rfl) (e4 ▸ hc _ hy' rfl)

theorem comp_back {s4 : Shared} {σ' : St} {m1 : Str → Option AV} (hk : sc.kind = .function) (R1 : C.R σ1 s1) (hcell : ∀ p ∈ sc.names, p.2 ≠ .cell) (hfree : ∀ p ∈ sc.names, p.2 = .free → C.env.kindOf p.1 = some .cell)
    (hc : ∀ p ∈ sc.names, p.2 = .free → C.env.cells.lookup p.1 = some (c p.1)) (hrel : ∀ p ∈ sc.names, p.2 = .free → (relab sc).names.lookup p.1 = some .cell) (hL : s1.heap.get? L = none)
    (R4 : (C.comp sc (closeL c sc.names []) L hk).R σ' s4) (g : Grow (C.comp sc (closeL c sc.names []) L hk).env ⟨m1, σ1.H⟩ s1 σ' s4) (hs : Same sc σ1.m σ'.m) :
    C.R ⟨σ1.m, σ'.H⟩ s4 ∧ C.G σ1 s1 ⟨σ1.m, σ'.H⟩ s4 := by
  have hin : ∀ d ∈ (closeL c sc.names []).map (·.2), ∃ x, (x, NameKind.free) ∈ sc.names ∧ d = c x := fun d hd => by
    obtain ⟨q, hq, rfl⟩ := List.mem_map.mp hd
    rcases closeL_mem hq with h | ⟨h1, h2⟩
    · cases h
    · exact ⟨_, h2, h1⟩
  have hown : ∀ d o, s1.heap.get? d = some o → d ∈ own (C.comp sc (closeL c sc.names []) L hk).env → ∃ x, (x, NameKind.free) ∈ sc.names ∧ d = c x := fun d o e q => by
    rcases List.mem_cons.mp q with q | q
    · rw [q, show (C.comp sc (closeL c sc.names []) L hk).env.locals = L from rfl, hL] at e; cases e
    · exact hin _ q
  have hcin : ∀ x, (x, NameKind.free) ∈ sc.names → c x ∈ C.env.cells.map (·.2) := fun x hx => List.mem_map.mpr ⟨_, mem_of_lookup (hc _ hx rfl), rfl⟩
  have gt : TupKeep s1.heap s4.heap := fun a xs n e => by
    have := R1.tup e
    refine (g.2 a _ e (fun q => ?_) this.2).1
    obtain ⟨x, hx, rfl⟩ := hown _ _ e q
    exact this.1 (List.mem_cons_of_mem _ (hcin x hx))
  have hLk : ∀ o, s1.heap.get? C.env.locals = some o → s4.heap.get? C.env.locals = some o ∧ σ'.H C.env.locals = none := fun o e => by
    refine g.2 _ _ e (fun q => ?_) ?_
    · obtain ⟨x, hx, e2⟩ := hown _ _ e q
      exact R1.apart (e2 ▸ hcin x hx)
    · cases q : σ1.H C.env.locals with
      | none => rfl
      | some o' => exact absurd List.mem_cons_self (R1.objs _ _ q).2.2
  have hck : ∀ x d, C.env.kindOf x = some .cell → C.env.cells.lookup x = some d → (∃ y, (y, NameKind.free) ∈ sc.names ∧ d = c y) → (x, NameKind.free) ∈ sc.names := fun x d hx h1 ⟨y, hy, e⟩ => by
    have := R1.inj x y d hx (hfree _ hy rfl) h1 (e ▸ hc _ hy rfl)
    subst this; exact hy
  have hown2 : ∀ d ∈ own C.env, ∃ o, s1.heap.get? d = some o ∧ notTup o ∧ σ1.H d = none := fun d hd => by
    obtain ⟨_, o, e, nt⟩ := R1.owns d hd
    refine ⟨o, e, nt, ?_⟩
    cases q : σ1.H d with
    | none => rfl
    | some o' => exact absurd hd (R1.objs _ _ q).2.2
  refine ⟨⟨R4.keep, ?_, fun x hx => ?_, fun a o e => ?_, fun d hd => ?_, R1.apart, R1.inj, R4.gens, R4.os⟩, g.1, fun b o e n1 n2 => ?_⟩
  · obtain ⟨m', hn, hm⟩ := R1.locs
    exact ⟨m', hn.at' fun o e => (hLk o e).1, fun x hx => (hm x hx).keep gt⟩
  · obtain ⟨d, v, h1, ⟨oc, h2, hd⟩, h3⟩ := R1.cels x hx
    by_cases q : ∃ y, (y, NameKind.free) ∈ sc.names ∧ d = c y
    · have hxf := hck x d hx h1 q
      have hxc : (C.comp sc (closeL c sc.names []) L hk).env.kindOf x = some .cell := hrel _ hxf rfl
      obtain ⟨d', v', e1, e2, e3⟩ := R4.cels x hxc
      have ed : d' = c x := Option.some.inj (e1.symm.trans (closeL_has (fun _ h => by cases h) (.inl hxf)))
      rw [hs x (hrel _ hxf rfl)] at e3
      exact ⟨d', v', ed ▸ hc _ hxf rfl, e2, e3⟩
    · have hH : σ1.H d = none := by
        obtain ⟨_, _, _, h⟩ := hown2 d (List.mem_cons_of_mem _ (List.mem_map.mpr ⟨_, mem_of_lookup h1, rfl⟩)); exact h
      exact ⟨d, v, h1, ⟨oc, (g.2 d oc h2 (fun h => q (hown _ _ h2 h)) hH).1, hd⟩, h3.keep gt⟩
  · obtain ⟨k1, k2, k3⟩ := R4.objs a o e
    refine ⟨k1, k2, fun q => ?_⟩
    obtain ⟨ob, e1, _, hH⟩ := hown2 a q
    by_cases h : a ∈ own (C.comp sc (closeL c sc.names []) L hk).env
    · exact k3 h
    · have := (g.2 a ob e1 h hH).2; rw [show σ'.H a = some o from e] at this; cases this
  · obtain ⟨h1, o, e, nt⟩ := R1.owns d hd
    by_cases h : d ∈ own (C.comp sc (closeL c sc.names []) L hk).env
    · obtain ⟨_, o', e', nt'⟩ := R4.owns d h; exact ⟨h1, o', e', nt'⟩
    · obtain ⟨_, _, _, hH⟩ := hown2 d hd
      exact ⟨h1, o, (g.2 d o e h hH).1, nt⟩
  · refine g.2 b o e (fun q => ?_) n2
    obtain ⟨x, hx, rfl⟩ := hown _ _ e q
    exact n1 (List.mem_cons_of_mem _ (hcin x hx))
end

/-- a turn of a comprehension -/
def CTurn (C : Cx) (sc : Scope) (m0 : Str → Option AV) (target elt : PySem.Expr) (I : Nat → List AV → AH → Prop) (i : Nat) (x : AV) (acc : List AV) (σ : St) : Option PySem.Expr → Prop
  | none => TAsg C target x σ fun _ σ2 => TE C elt σ2 fun y σ4 => Same sc m0 σ4.m ∧ I (i + 1) (acc ++ [y]) σ4.H
  | some c => TAsg C target x σ fun _ σ2 => TB C c σ2 fun b σ3 => if b then TE C elt σ3 fun y σ4 => Same sc m0 σ4.m ∧ I (i + 1) (acc ++ [y]) σ4.H else Same sc m0 σ3.m ∧ I (i + 1) acc σ3.H

section
variable {C : Cx} {σ1 : St} {s1 : Shared} {sc : Scope} {it D : Addr} {xs : List AV} {ok : AH → Prop} {It : Nat → Heap → Prop}

structure CInv (C : Cx) (sc : Scope) (σ1 : St) (s1 : Shared) (it D : Addr) (It : Nat → Heap → Prop) (I : Nat → List AV → AH → Prop) (i : Nat) (acc : List AV) (σ' : St) (s' : Shared) : Prop where
  rep : C.R σ' s'
  grow : Grow C.env ⟨mcOf sc σ1.m, σ1.H⟩ s1 σ' s'
  itr : It i s'.heap
  itH : σ'.H it = none
  lst : ∃ ys, s'.heap.PlainList D ys.toArray ∧ VRels s'.heap ys acc
  DH : σ'.H D = none
  same : Same sc σ1.m σ'.m
  inv : I i acc σ'.H
  len : acc.length ≤ i

theorem CInv.append {A : Around} {I : Nat → List AV → AH → Prop} {i : Nat} {acc : List AV} {σ2 σ' : St} {s' s2 : Shared} {y : AV} {vy : Value} {Z : Value → Shared → Prop} {E : Value → Shared → Prop} (W : ItOk C.prog C.w A it xs ok It)
    (hit : it ∉ own C.env) (hD : D ∉ own C.env) (hne : D ≠ it) (hDz : C.h₀.objs.size ≤ D) (fD : s1.heap.get? D = none)
    (g' : Grow C.env ⟨mcOf sc σ1.m, σ1.H⟩ s1 σ' s') (hI : It (i + 1) s'.heap) (hH : σ'.H it = none) (hl : ∃ ys, s'.heap.PlainList D ys.toArray ∧ VRels s'.heap ys acc) (hDH : σ'.H D = none) (hlen : acc.length ≤ i) (hi : i < 16777216)
    (R' : C.R σ' s') (R2 : C.R σ2 s2) (g2 : C.G σ' s' σ2 s2) (ry : VRel s2.heap vy y) (hs : Same sc σ1.m σ2.m) (hinv : I (i + 1) (acc ++ [y]) σ2.H)
    (k : ∀ s3, CInv C sc σ1 s1 it D It I (i + 1) (acc ++ [y]) σ2 s3 → Z .none s3) : wpAny C.M A (call (.builtin "list.append") [.ref D, vy]) Z E s2 := by
  obtain ⟨ys, ⟨n, e⟩, r⟩ := hl
  obtain ⟨o, ho, _⟩ := W.obj _ _ hI
  have tk := g2.tups R'
  have e2 := g2.2 D _ e hD hDH
  have i2 := g2.2 it _ ho hit hH
  have r2 := r.keep tk
  refine wpAny_list_append_plain (hsz := by rw [List.size_toArray, r.length, sizeLine_eq]; omega) ⟨n, e2.1⟩ fun h' hp hs' => ?_
  obtain ⟨n', hp'⟩ := hp
  obtain ⟨R3, tk3⟩ := R2.touch (tk := s2.toks) hDz hD e2.2 e2.1 (fun xs n q => by injection q with q1; injection q1 with q2; exact absurd q2 (by decide)) hs'.extBut
  refine k _ ⟨R3, (g'.trans g2).but fD hs'.extBut, ?_, i2.2, ⟨ys ++ [vy], ⟨n', ?_⟩, (r2.keep tk3).append (.one (ry.keep tk3))⟩, e2.2, hs, hinv, by rw [List.length_append, List.length_singleton]; omega⟩
  · refine W.keep _ _ _ (W.keep _ _ _ hI tk fun o' q => by rw [ho] at q; cases q; exact i2.1) tk3 fun o' q => ?_
    exact hs'.extBut _ _ (Ne.symm hne) q
  · rw [hp']; simp

theorem CInv.keep {A : Around} {j : Nat} {acc : List AV} {σ2 σ' : St} {s' s2 : Shared} (W : ItOk C.prog C.w A it xs ok It)
    (hit : it ∉ own C.env) (hD : D ∉ own C.env) (hI : It j s'.heap) (hH : σ'.H it = none) (hl : ∃ ys, s'.heap.PlainList D ys.toArray ∧ VRels s'.heap ys acc) (hDH : σ'.H D = none) (g' : Grow C.env ⟨mcOf sc σ1.m, σ1.H⟩ s1 σ' s')
    (R' : C.R σ' s') (R2 : C.R σ2 s2) (g2 : C.G σ' s' σ2 s2) : It j s2.heap ∧ σ2.H it = none ∧ (∃ ys, s2.heap.PlainList D ys.toArray ∧ VRels s2.heap ys acc) ∧ σ2.H D = none ∧ Grow C.env ⟨mcOf sc σ1.m, σ1.H⟩ s1 σ2 s2 := by
  obtain ⟨ys, ⟨n, e⟩, r⟩ := hl
  obtain ⟨o, ho, _⟩ := W.obj _ _ hI
  have tk := g2.tups R'
  have e2 := g2.2 D _ e hD hDH
  have i2 := g2.2 it _ ho hit hH
  exact ⟨W.keep _ _ _ hI tk fun o' q => by rw [ho] at q; cases q; exact i2.1, i2.2, ⟨ys, ⟨n, e2.1⟩, r.keep tk⟩, e2.2, g'.trans g2⟩

def CFin (C : Cx) (sc : Scope) (σ1 : St) (s1 : Shared) (D : Addr) (I : Nat → List AV → AH → Prop) (n : Nat) (s' : Shared) : Prop :=
  ∃ acc σ', C.R σ' s' ∧ Grow C.env ⟨mcOf sc σ1.m, σ1.H⟩ s1 σ' s' ∧ (∃ ys, s'.heap.PlainList D ys.toArray ∧ VRels s'.heap ys acc) ∧ σ'.H D = none ∧ Same sc σ1.m σ'.m ∧ I n acc σ'.H

theorem comp_loop {target elt iter : PySem.Expr} {test : Option PySem.Expr} {scope : Scope} {pos : Pos} {I : Nat → List AV → AH → Prop} {σ4 : St} {s4 : Shared} {RR : Result → Shared → Prop} (hC : C.Calm) (W : ItOk C.prog C.w C.A it xs ok It)
    (hit : it ∉ own C.env) (hD : D ∉ own C.env) (hne : D ≠ it) (hDz : C.h₀.objs.size ≤ D) (hiz : C.h₀.objs.size ≤ it) (fD : s1.heap.get? D = none) (fi : s1.heap.get? it = none) (hn : xs.length ≤ 16777216)
    (hok : ∀ i acc H, i ≤ xs.length → I i acc H → ok H) (h0 : CInv C sc σ1 s1 it D It I 0 [] σ4 s4)
    (turn : ∀ i x acc σ2, xs[i]? = some x → I i acc σ2.H → Same sc σ1.m σ2.m → CTurn C sc σ1.m target elt I i x acc σ2 test)
    (fin : ∀ s', CFin C sc σ1 s1 D I xs.length s' → RR (.ok .next) s') :
    codeAny C.M C.A (.compLoop (.ListComp elt [⟨target, iter, test.toList, 0⟩] scope pos) 0 (.ref it) (.ref D) C.env) RR s4 := by
  let J : Nat → Shared → Prop := fun k s' => ∃ i acc σ', k + i = xs.length + 1 ∧ i ≤ xs.length ∧ CInv C sc σ1 s1 it D It I i acc σ' s'
  have hJ : J (xs.length + 1) s4 := ⟨0, [], σ4, rfl, Nat.zero_le _, h0⟩
  have pn : ∀ k s' (Z : Option Value → Shared → Prop) (E : Value → Shared → Prop), J k s' →
      (∀ s'', CFin C sc σ1 s1 D I xs.length s'' → Z none s'') →
      (∀ i x acc σ' s'' v, k + i = xs.length + 1 → xs[i]? = some x → VRel s''.heap v x → C.R σ' s'' → Grow C.env ⟨mcOf sc σ1.m, σ1.H⟩ s1 σ' s'' → It (i + 1) s''.heap → σ'.H it = none →
        (∃ ys, s''.heap.PlainList D ys.toArray ∧ VRels s''.heap ys acc) → σ'.H D = none → Same sc σ1.m σ'.m → I i acc σ'.H → acc.length ≤ i → Z (some v) s'') → wpAny C.M C.A (pyNext (.ref it)) Z E s' := by
    rintro k s' Z E ⟨i, acc, σ', hk, hle, V⟩ hdone hitem
    obtain ⟨o, hob, nt⟩ := W.obj i _ V.itr
    obtain ⟨ys, ⟨n, e⟩, r⟩ := V.lst
    by_cases hlt : i < xs.length
    · have hx : xs[i]? = some xs[i] := by simp [hlt]
      refine W.item i _ σ'.H s' _ _ hx V.rep.Objs (hok i acc σ'.H hle V.inv) V.itr fun v h' tk rv hI' hs' => ?_
      obtain ⟨R2, tk2⟩ := V.rep.touch (tk := tk) hiz hit V.itH hob nt hs'
      exact hitem i _ acc σ' { s' with heap := h', toks := tk } v hk hx rv R2 (V.grow.but fi hs') hI' V.itH ⟨ys, ⟨n, hs' _ _ hne e⟩, r.keep tk2⟩ V.DH V.same V.inv V.len
    · have he : i = xs.length := by omega
      subst he
      refine W.done σ'.H s' _ _ V.rep.Objs (hok _ acc σ'.H hle V.inv) V.itr fun h' tk hs' => ?_
      obtain ⟨R2, tk2⟩ := V.rep.touch (tk := tk) hiz hit V.itH hob nt hs'
      exact hdone _ ⟨acc, σ', R2, V.grow.but fi hs', ⟨ys, ⟨n, hs' _ _ hne e⟩, r.keep tk2⟩, V.DH, V.same, V.inv⟩
  cases test with
  | none =>
    refine PySem.W.kcp_loop J (fun k s' hJ' => pn k s' _ _ hJ' (fun s'' h => fin s'' h) fun i x acc σ' s'' v hk hx rv R' g' hI hiH hl hDH hsm hinv hlen => ?_) _ hJ
    refine W.go (i + 1) _ _ _ _ _ hI ?_
    refine TV.calm hC (turn i x acc σ' hx hinv hsm v) R' (.one rv) fun _ _ σ2 s2 _ R2 g2 k2 q => ?_
    obtain ⟨a1, a2, a3, a4, a5⟩ := CInv.keep W hit hD hI hiH hl hDH g' R' R2 g2
    refine TV.calm hC q R2 .nil fun vy y σ3 s3 ry R3 g3 k3 q => ?_
    have hi := (List.getElem?_eq_some_iff.mp hx).1
    exact CInv.append (I := I) W hit hD hne hDz fD a5 a1 a2 a3 a4 hlen (by omega) R2 R3 g3 ry q.1 q.2 fun s5 V => ⟨k - 1, by omega, i + 1, _, σ3, by omega, hi, V⟩
  | some c =>
    refine PySem.W.kct_loop J (fun k s' hJ' => pn k s' _ _ hJ' (fun s'' h => fin s'' h) fun i x acc σ' s'' v hk hx rv R' g' hI hiH hl hDH hsm hinv hlen => ?_) _ hJ
    refine W.go (i + 1) _ _ _ _ _ hI ?_
    refine TV.calm hC (turn i x acc σ' hx hinv hsm v) R' (.one rv) fun _ _ σ2 s2 _ R2 g2 k2 q => ?_
    obtain ⟨a1, a2, a3, a4, a5⟩ := CInv.keep W hit hD hI hiH hl hDH g' R' R2 g2
    refine TV.calm hC q R2 .nil fun vb b σ3 s3 rb R3 g3 k3 q => ?_
    obtain ⟨b1, b2, b3, b4, b5⟩ := CInv.keep W hit hD a1 a2 a3 a4 a5 R2 R3 g3
    have hi := (List.getElem?_eq_some_iff.mp hx).1
    cases rb
    cases vb
    · simp only [Bool.false_eq_true, if_false] at q ⊢
      exact ⟨k - 1, by omega, i + 1, acc, σ3, by omega, hi, R3, b5, b1, b2, b3, b4, q.1, q.2, by omega⟩
    · simp only [if_true] at q ⊢
      refine TV.calm hC q R3 .nil fun vy y σ4 s4 ry R4 g4 k4 q => ?_
      exact CInv.append (I := I) W hit hD hne hDz fD b5 b1 b2 b3 b4 hlen (by omega) R3 R4 g4 ry q.1 q.2 fun s5 V => ⟨k - 1, by omega, i + 1, _, σ4, by omega, hi, V⟩
end

section
variable {C : Cx} {σ : St} {s : Shared} {sc : Scope}

structure CompOk (C : Cx) (sc : Scope) : Prop where
  kind : sc.kind = .function
  cell : ∀ p ∈ sc.names, p.2 ≠ .cell
  free : ∀ p ∈ sc.names, p.2 = .free → C.env.kindOf p.1 = some .cell
  rel : ∀ p ∈ sc.names, p.2 = .free → (relab sc).names.lookup p.1 = some .cell
  names : ∀ p ∈ sc.names, p.2 = .local → sc.names.lookup p.1 = some .local

/-- a comprehension; use: what is done with it while its block still stands -/
theorem comp_main {target elt iter : PySem.Expr} {test : Option PySem.Expr} {pos cpos : Pos} {use : Option (Value → Sem Unit)} {Q : AV → St → Prop} {Z : Value → Shared → Prop} (K : CompOk C sc) (hC : C.Calm)
    (h : TE C iter σ fun a σ1 => ∃ xs ok I, IterAs C a xs ok ∧ xs.length ≤ 16777216 ∧ (∀ i acc H, i ≤ xs.length → I i acc H → ok H) ∧ I 0 [] σ1.H ∧
      (∀ cl L i x acc σ2, xs[i]? = some x → I i acc σ2.H → Same sc σ1.m σ2.m → CTurn (C.comp sc cl L K.kind) sc σ1.m target elt I i x acc σ2 test) ∧
      (∀ acc H D, I xs.length acc H → H D = none → Q (.con (.ref D)) ⟨σ1.m, H.put D (.list acc)⟩))
    (hu : ∀ D σ' s' L, Q (.con (.ref D)) σ' → C.R σ' s' → C.G σ s σ' s' → s.heap.get? L = none → σ'.H L = none → L ∉ own C.env → C.h₀.objs.size ≤ L → (∃ m, s'.heap.Ns L m) → compPost C.M C.A (C.X σ s) use Z (.ref D) L (.ok .next) s')
    (R0 : C.R σ s) (hs : ∀ x, foldedSetIterable iter C.env x = pure x := by intro _; rfl) :
    wpAny C.M C.A (comprehension (.ListComp elt [⟨target, iter, test.toList, 0⟩] sc cpos) sc C.env pos (newList []) false (eval iter C.env) use) Z (C.X σ s) s := by
  have hce : ∀ p ∈ sc.names, p.2 = .free → ∃ c, C.env.cells.lookup p.1 = some c := fun p hp e => let ⟨c, _, h, _⟩ := R0.cels _ (K.free p hp e); ⟨c, h⟩
  let c : Str → Addr := fun x => (C.env.cells.lookup x).getD 0
  have hc : ∀ p ∈ sc.names, p.2 = .free → C.env.cells.lookup p.1 = some (c p.1) := fun p hp e => by obtain ⟨d, hd⟩ := hce p hp e; show _ = some ((C.env.cells.lookup p.1).getD 0); rw [hd]; rfl
  refine wpAny_comprehension_free rfl hs (closureFor_eq c hc) K.kind K.names (h.here R0 .nil fun va a σ1 s1 ra R1 g1 k1 q => ?_)
  obtain ⟨xs, ok, I, hi, hn, hok, h0, turn, fin⟩ := q
  refine hi va σ1 s1 R1 (hok 0 [] _ (Nat.zero_le _) h0) ra _ _ fun h2 It kp2 hI W => ?_
  refine wpAny_newObj_type (wpAny_newFunctionEnv K.cell (by intro y hy; simp at hy) (fun h4 hns hsb => ?_) K.kind) (by show ([] : List Value).toArray.size ≤ sizeLine; exact Nat.zero_le _)
  dsimp only at hns hsb ⊢
  have hi1 : s1.heap.objs.size < h2.objs.size := by obtain ⟨o, ho, _⟩ := W.obj _ _ hI; exact ltN (Heap.lt_size ho)
  generalize hH3 : h2.push { cls := .type "list", dict := none, data := .seq ([] : List Value).toArray } = h3 at hns hsb ⊢
  have hz3 : h3.objs.size = h2.objs.size + 1 := by rw [← hH3, Heap.size_push]
  have kp3 : ∀ b o, s1.heap.get? b = some o → h3.get? b = some o := fun b o e => hH3 ▸ Heap.get?_push_of_some _ (kp2 b o e)
  have up4 : ∀ b o, b ≠ h3.objs.size → h3.get? b = some o → h4.get? b = some o := fun b o n e => hsb.extBut b o n (Heap.get?_push_of_some _ e)
  have kp4 : ∀ b o, s1.heap.get? b = some o → h4.get? b = some o := fun b o e => up4 b o (Nat.ne_of_lt (by have := ltN (Heap.lt_size e); omega)) (kp3 b o e)
  have fr : ∀ b, s1.heap.objs.size ≤ b → s1.heap.get? b = none := fun b hb => by
    cases e : s1.heap.get? b with
    | none => rfl
    | some o => exact absurd (Heap.lt_size e) (Nat.not_lt.mpr hb)
  have fs : ∀ b, s1.heap.objs.size ≤ b → s.heap.get? b = none := fun b hb => by
    cases e : s.heap.get? b with
    | none => rfl
    | some o => obtain ⟨o', e'⟩ := g1.1 _ _ e; rw [fr b hb] at e'; cases e'
  have z1 := R1.size
  have hL := fr h3.objs.size (by first | omega | exact leN (by omega) | exact neN (by omega))
  have hCc := C.comp_calm sc (closeL c sc.names []) h3.objs.size K.kind
  have R4 := comp_enter (s4 := { s1 with heap := h4, toks := s1.toks }) K.kind R1 K.cell K.free hc kp4 hns hL (by first | omega | exact leN (by omega) | exact neN (by omega)) rfl rfl
  have e4 : ∀ tk, (C.comp sc (closeL c sc.names []) h3.objs.size K.kind).R ⟨mcOf sc σ1.m, σ1.H⟩ { s1 with heap := h4, toks := tk } := fun tk => ⟨R4.keep, R4.locs, R4.cels, R4.objs, R4.owns, R4.apart, R4.inj, R4.gens, R4.os⟩
  have notIn : ∀ b, s1.heap.objs.size ≤ b → b ≠ h3.objs.size → b ∉ own (C.comp sc (closeL c sc.names []) h3.objs.size K.kind).env := fun b hb hne q => by
    rcases List.mem_cons.mp q with q | q
    · exact hne q
    · obtain ⟨p, hp, rfl⟩ := List.mem_map.mp q
      rcases closeL_mem hp with h | ⟨h1, h2⟩
      · cases h
      · have := (R1.free hb).1
        exact this (List.mem_cons_of_mem _ (List.mem_map.mpr ⟨_, mem_of_lookup (hc _ h2 rfl), h1.symm⟩))
  have hpl : h4.PlainList h2.objs.size ([] : List Value).toArray := ⟨0, up4 _ _ (by first | omega | exact leN (by omega) | exact neN (by omega)) (hH3 ▸ Heap.get?_push_size _ rfl)⟩
  obtain ⟨oi, hoi, _⟩ := W.obj _ _ hI
  have hI4 : It 0 h4 := W.keep _ _ _ hI (fun a xs n e => up4 _ _ (Nat.ne_of_lt (by have := ltN (Heap.lt_size e); omega)) (hH3 ▸ Heap.get?_push_of_some _ e)) fun o e => up4 _ _ (by first | omega | exact leN (by omega) | exact neN (by omega)) (hH3 ▸ Heap.get?_push_of_some _ e)
  have loop : ∀ tk, codeAny C.M C.A (.compLoop (.ListComp elt [⟨target, iter, test.toList, 0⟩] sc cpos) 0 (.ref s1.heap.objs.size) (.ref h2.objs.size) (C.comp sc (closeL c sc.names []) h3.objs.size K.kind).env)
      (compPost C.M C.A (C.X σ s) use Z (.ref h2.objs.size) h3.objs.size) { s1 with heap := h4, toks := tk } := fun tk => by
    refine comp_loop (C := C.comp sc (closeL c sc.names []) h3.objs.size K.kind) (s1 := s1) (σ1 := σ1) (sc := sc) (I := I) (D := h2.objs.size) (it := s1.heap.objs.size) hCc W (notIn _ (Nat.le_refl _) (by first | omega | exact leN (by omega) | exact neN (by omega))) (notIn _ (by first | omega | exact leN (by omega) | exact neN (by omega)) (by first | omega | exact leN (by omega) | exact neN (by omega))) (by first | omega | exact leN (by omega) | exact neN (by omega)) (leN (a := C.h₀.objs.size) (b := h2.objs.size) (by omega)) (leN (a := C.h₀.objs.size) (b := s1.heap.objs.size) (by omega))
      (fr _ (by first | omega | exact leN (by omega) | exact neN (by omega))) (fr _ (Nat.le_refl _)) hn hok ⟨e4 tk, ⟨fun b o e => ⟨o, kp4 b o e⟩, fun b o e _ q => ⟨kp4 b o e, q⟩⟩, hI4, (R1.free (Nat.le_refl _)).2, ⟨[], hpl, .nil⟩, (R1.free (by first | omega | exact leN (by omega) | exact neN (by omega))).2, Same.mc, h0, Nat.le_refl _⟩ (turn _ _) ?_
    rintro s' ⟨acc, σ', R5, g5, ⟨ys, ⟨n, e⟩, r⟩, hDH, hsm, hinv⟩
    obtain ⟨R6, g6⟩ := comp_back K.kind R1 K.cell K.free hc K.rel hL R5 g5 hsm
    have q := fin acc σ'.H h2.objs.size hinv hDH
    have hDo : h2.objs.size ∉ own C.env := (R1.free (by first | omega | exact leN (by omega) | exact neN (by omega))).1
    have hLo : h3.objs.size ∉ own C.env := (R1.free (by first | omega | exact leN (by omega) | exact neN (by omega))).1
    have hLH : σ'.H h3.objs.size = none := by
      cases q : σ'.H h3.objs.size with
      | none => rfl
      | some o => exact absurd List.mem_cons_self (R5.objs _ _ q).2.2
    have R7 : C.R ⟨σ1.m, σ'.H.put h2.objs.size (.list acc)⟩ s' := ⟨R6.keep, R6.locs, R6.cels, fun a o ha => by
      by_cases hab : a = h2.objs.size
      · subst hab
        have ha' : (AH.put σ'.H h2.objs.size (.list acc)) h2.objs.size = some o := ha
        rw [AH.put_self] at ha'
        have ha := ha'
        cases ha
        exact ⟨⟨ys, ⟨n, e⟩, r⟩, leN (by omega), hDo⟩
      · have ha' : (AH.put σ'.H h2.objs.size (.list acc)) a = some o := ha
        rw [AH.put_ne hab] at ha'
        exact R6.objs a o ha', R6.owns, R6.apart, R6.inj, R6.gens, R6.os⟩
    have g7 : C.G σ1 s1 ⟨σ1.m, σ'.H.put h2.objs.size (.list acc)⟩ s' := ⟨g6.1, fun b o e n q => by
      obtain ⟨e1, q1⟩ := g6.2 b o e n q
      exact ⟨e1, (AH.put_ne fun x => absurd (Heap.lt_size e) (by rw [x]; exact Nat.not_lt.mpr (leN (by omega)))).trans q1⟩⟩
    obtain ⟨mL, hnL, _⟩ := R5.locs
    exact hu _ _ s' _ q R7 (g1.trans g7) (fs _ (by first | omega | exact leN (by omega) | exact neN (by omega))) ((AH.put_ne (by first | omega | exact leN (by omega) | exact neN (by omega))).trans hLH) hLo (by first | omega | exact leN (by omega) | exact neN (by omega)) ⟨mL, hnL⟩
  show codeAny C.M C.A (.compStart _ 0 (.ref s1.heap.objs.size) (.ref h2.objs.size) { (newEnv sc h3.objs.size C.env.globals (closeL c sc.names []) C.env.qual none Value.none (some C.env) 0) with scope := relabel sc C.env }) _ _
  rw [relabel_eq C.hk K.free]
  exact codeAny_compStart_list (loop _) (W.self 0 _ _ _ hI4 (loop _))

theorem TE.comp {target elt iter : PySem.Expr} {test : Option PySem.Expr} {cpos : Pos} {ifs : List PySem.Expr} {Q : AV → St → Prop} (hifs : test.toList = ifs) (K : CompOk C sc) (hC : C.Calm)
    (h : TE C iter σ fun a σ1 => ∃ xs ok I, IterAs C a xs ok ∧ xs.length ≤ 16777216 ∧ (∀ i acc H, i ≤ xs.length → I i acc H → ok H) ∧ I 0 [] σ1.H ∧
      (∀ cl L i x acc σ2, xs[i]? = some x → I i acc σ2.H → Same sc σ1.m σ2.m → CTurn (C.comp sc cl L K.kind) sc σ1.m target elt I i x acc σ2 test) ∧
      (∀ acc H D, I xs.length acc H → H D = none → Q (.con (.ref D)) ⟨σ1.m, H.put D (.list acc)⟩))
    (hs : ∀ x, foldedSetIterable iter C.env x = pure x := by intro _; rfl) : TE C (.ListComp elt [⟨target, iter, ifs, 0⟩] sc cpos) σ Q := by
  intro s R0 _
  subst hifs
  rw [eval_ListComp]
  refine comp_main (use := none) (Q := Q) K hC h ?_ R0 hs
  intro D σ' s' L q R' g' fL hL ho hz ⟨m, hn⟩
  refine ⟨m, hn, fun h' hs' => ?_⟩
  obtain ⟨o, es, ep, e, hd, _⟩ := hn
  obtain ⟨R2, tk⟩ := R'.touch (tk := s'.toks) hz ho hL e (fun xs n q => by rw [q] at hd; cases hd) hs'.extBut
  exact ⟨_, σ', .con rfl, R2, g'.but fL hs'.extBut, q⟩
end

/-! data: ints, texts and tuples of these -/
mutual
def pdOf : AV → PyData
  | .int i => .int i
  | .str x => .str x
  | .tup l => .tuple (pdsOf l)
  | .con _ => .none
def pdsOf : List AV → List PyData
  | [] => []
  | a :: r => pdOf a :: pdsOf r
end
inductive DataA : Nat → AV → Prop
  | int (n : Nat) (i : Int) : DataA n (.int i)
  | str (n : Nat) (x : Str) (h : PyData.strOk x = true) : DataA n (.str x)
  | tup (n : Nat) (l : List AV) (h : ∀ a ∈ l, DataA n a) : DataA (n + 1) (.tup l)
section
variable {h : Heap}
mutual
theorem reads_of : ∀ {v : Value} {a : AV} {n : Nat}, VRel h v a → DataA n a → ∃ as, Reads h v (pdOf a) as
  | _, _, _, .int i t, _ => ⟨_, Reads.int i t⟩
  | _, _, _, .str x t, _ => ⟨_, Reads.str x t⟩
  | _, _, _, .con _, k => nomatch k
  | _, _, _, .tup e r, .tup n _ k => by
    obtain ⟨as, q⟩ := readsAll_of r k
    rw [pdOf]
    exact ⟨as, reads_tuple_at e rfl rfl (by simpa using q)⟩
theorem readsAll_of : ∀ {vs : List Value} {as : List AV} {n : Nat}, VRels h vs as → (∀ a ∈ as, DataA n a) → ∃ bs, ReadsAll h vs (pdsOf as) bs
  | _, _, _, .nil, _ => ⟨_, ReadsAll.nil⟩
  | _, _, _, .cons e r, k => by
    obtain ⟨as, q⟩ := reads_of e (k _ List.mem_cons_self)
    obtain ⟨bs, p⟩ := readsAll_of r fun d hm => k d (List.mem_cons_of_mem _ hm)
    rw [pdsOf]
    exact ⟨_, ReadsAll.cons q p⟩
end
end
theorem pds_map (l : List AV) : pdsOf l = l.map pdOf := by
  induction l with
  | nil => rfl
  | cons a r ih => rw [pdsOf, ih]; rfl
theorem canLayAll_of {l : List PyData} (h : ∀ d ∈ l, d.canLay0 = true) : PyData.canLayAll0 l = true := by
  induction l with
  | nil => rfl
  | cons d r ih =>
    rw [PyData.canLayAll0, h d List.mem_cons_self, ih fun x hx => h x (List.mem_cons_of_mem _ hx)]; rfl
theorem depthAll_of {n : Nat} {l : List PyData} (h : ∀ d ∈ l, d.depth ≤ n) : PyData.depthAll l ≤ n := by
  induction l with
  | nil => exact Nat.zero_le _
  | cons d r ih =>
    rw [PyData.depthAll]
    exact Nat.max_le.mpr ⟨h d List.mem_cons_self, ih fun x hx => h x (List.mem_cons_of_mem _ hx)⟩
theorem DataA.lay {n : Nat} {a : AV} (k : DataA n a) : (pdOf a).canLay0 = true ∧ (pdOf a).depth ≤ n := by
  induction k with
  | int n i => exact ⟨rfl, Nat.zero_le _⟩
  | str n x h => exact ⟨by rw [pdOf, PyData.canLay0]; exact h, Nat.zero_le _⟩
  | tup n l h ih =>
    rw [pdOf, pds_map]
    constructor
    · rw [PyData.canLay0]
      refine canLayAll_of fun d hd => ?_
      obtain ⟨a, ha, rfl⟩ := List.mem_map.mp hd; exact (ih a ha).1
    · rw [PyData.depth]
      have := depthAll_of (n := n) (l := l.map pdOf) fun d hd => by obtain ⟨a, ha, rfl⟩ := List.mem_map.mp hd; exact (ih a ha).2
      omega
theorem eqvAll_iff {l m : List AV} (h : ∀ a ∈ l, ∀ b ∈ m, PyData.eqv (pdOf a) (pdOf b) = true ↔ a = b) : PyData.eqvAll (pdsOf l) (pdsOf m) = true ↔ l = m := by
  induction l generalizing m with
  | nil => cases m <;> simp [pdsOf, PyData.eqvAll]
  | cons a l ih =>
    cases m with
    | nil => simp [pdsOf, PyData.eqvAll]
    | cons b m =>
      have h1 := h a List.mem_cons_self b List.mem_cons_self
      have h2 := ih (m := m) fun x hx y hy => h x (List.mem_cons_of_mem _ hx) y (List.mem_cons_of_mem _ hy)
      simp only [pdsOf, PyData.eqvAll, Bool.and_eq_true, h1, h2, List.cons.injEq]
theorem DataA.eqv {n : Nat} {a : AV} (k : DataA n a) : ∀ {m : Nat} {b : AV}, DataA m b → (PyData.eqv (pdOf a) (pdOf b) = true ↔ a = b) := by
  induction k with
  | int n i => intro m b j; cases j <;> simp [pdOf, PyData.eqv]
  | str n x h => intro m b j; cases j <;> simp [pdOf, PyData.eqv]
  | tup n l h ih =>
    intro m b j
    cases j with
    | int m i => simp [pdOf, PyData.eqv]
    | str m x h => simp [pdOf, PyData.eqv]
    | tup m l' h' =>
      simp only [pdOf, PyData.eqv, AV.tup.injEq]
      exact eqvAll_iff fun a ha b hb => ih a ha (h' b hb)
open Classical in
theorem DataA.eqvB {n m : Nat} {a b : AV} (k : DataA n a) (j : DataA m b) : PyData.eqv (pdOf a) (pdOf b) = decide (a = b) := by
  by_cases h : a = b
  · rw [decide_eq_true h]; exact (k.eqv j).mpr h
  · rw [decide_eq_false h]; exact Bool.eq_false_iff.mpr fun x => h ((k.eqv j).mp x)
theorem DataA.shaped {n : Nat} {a : AV} (k : DataA n a) (hn : n ≤ 64) : SeqAt.shaped (pdOf a) = true := by
  unfold SeqAt.shaped; rw [k.lay.1, Bool.true_and]; exact decide_eq_true (Nat.le_trans k.lay.2 hn)

section
variable {C : Cx} {σ : St}

theorem VRel.int_inv {h : Heap} {v : Value} {i : Int} (r : VRel h v (.int i)) : ∃ t, v = .int i t := by cases r; exact ⟨_, rfl⟩
theorem VRel.str_inv {h : Heap} {v : Value} {x : Str} (r : VRel h v (.str x)) : ∃ t, v = .str x t := by cases r; exact ⟨_, rfl⟩
theorem VRel.con_inv {h : Heap} {v w : Value} (r : VRel h v (.con w)) : v = w := by cases r; rfl
theorem VRel.tup_inv {h : Heap} {v : Value} {l : List AV} (r : VRel h v (.tup l)) : ∃ a xs n, v = .ref a ∧ h.get? a = some ⟨.type "tuple", none, .seq xs.toArray n, #[]⟩ ∧ VRels h xs l := by cases r with | tup e r => exact ⟨_, _, _, rfl, e, r⟩

/-! ints -/
theorem TBin.addI {i j : Int} {Q : AV → St → Prop} (q : Q (.int (i + j)) σ) : TBin C .Add (.int i) (.int j) σ Q := by
  intro va vb s R0 hv
  obtain ⟨t, rfl⟩ := hv.inv2.1.int_inv; obtain ⟨u, rfl⟩ := hv.inv2.2.int_inv
  exact PyProof.Rows.add_int (Post.toks (.int _ _) R0 q)
theorem TBin.subI {i j : Int} {Q : AV → St → Prop} (q : Q (.int (i - j)) σ) : TBin C .Sub (.int i) (.int j) σ Q := by
  intro va vb s R0 hv
  obtain ⟨t, rfl⟩ := hv.inv2.1.int_inv; obtain ⟨u, rfl⟩ := hv.inv2.2.int_inv
  exact PyProof.Rows.sub_int (Post.toks (.int _ _) R0 q)
theorem TBin.modI {i j : Int} {Q : AV → St → Prop} (h0 : j ≠ 0) (q : Q (.int (i.fmod j)) σ) : TBin C .Mod (.int i) (.int j) σ Q := by
  intro va vb s R0 hv
  obtain ⟨t, rfl⟩ := hv.inv2.1.int_inv; obtain ⟨u, rfl⟩ := hv.inv2.2.int_inv
  exact PyProof.Rows.mod_int h0 (Post.toks (.int _ _) R0 q)
theorem TBin.divI {i j : Int} {Q : AV → St → Prop} (h0 : j ≠ 0) (hj : j.natAbs < 1073741824) (q : Q (.int (i.fdiv j)) σ) : TBin C .FloorDiv (.int i) (.int j) σ Q := by
  intro va vb s R0 hv
  obtain ⟨t, rfl⟩ := hv.inv2.1.int_inv; obtain ⟨u, rfl⟩ := hv.inv2.2.int_inv
  exact PyProof.Rows.floordiv_int h0 (Post.toks (.int _ _) R0 q) (.inl (PyProof.noPylong_small hj))
theorem TUn.neg {i : Int} {Q : AV → St → Prop} (q : Q (.int (-i)) σ) : TUn C .USub (.int i) σ Q := by
  intro va s R0 hv
  obtain ⟨t, rfl⟩ := hv.inv1.int_inv
  exact PySem.P.neg_int (Post.toks (.int _ _) R0 q)
theorem TCmp.ltI {i j : Int} {Q : AV → St → Prop} (q : Q (.con (.bool (decide (i < j)))) σ) : TCmp C .Lt (.int i) (.int j) σ Q := by
  intro va vb s R0 hv
  obtain ⟨t, rfl⟩ := hv.inv2.1.int_inv; obtain ⟨u, rfl⟩ := hv.inv2.2.int_inv
  exact PyProof.Rows.lt_int (Post.toks (tk := s.toks) (.con rfl) R0 q)
theorem TCmp.gtI {i j : Int} {Q : AV → St → Prop} (q : Q (.con (.bool (decide (j < i)))) σ) : TCmp C .Gt (.int i) (.int j) σ Q := by
  intro va vb s R0 hv
  obtain ⟨t, rfl⟩ := hv.inv2.1.int_inv; obtain ⟨u, rfl⟩ := hv.inv2.2.int_inv
  exact PyProof.Rows.gt_int (Post.toks (tk := s.toks) (.con rfl) R0 q)
theorem TCmp.geI {i j : Int} {Q : AV → St → Prop} (q : Q (.con (.bool (decide (j ≤ i)))) σ) : TCmp C .GtE (.int i) (.int j) σ Q := by
  intro va vb s R0 hv
  obtain ⟨t, rfl⟩ := hv.inv2.1.int_inv; obtain ⟨u, rfl⟩ := hv.inv2.2.int_inv
  exact PySem.P.ge_int (Post.toks (tk := s.toks) (.con rfl) R0 q)

/-! data compared -/
open Classical in
theorem TCmp.eqD {a b : AV} {n m : Nat} {Q : AV → St → Prop} (hu : C.A.units + 64 < cLine) (ka : DataA n a) (kb : DataA m b) (hn : n ≤ 64) (hm : m ≤ 64) (q : Q (.con (.bool (decide (a = b)))) σ) : TCmp C .Eq a b σ Q := by
  intro va vb s R0 hv
  obtain ⟨_, ra⟩ := reads_of hv.inv2.1 ka
  obtain ⟨_, rb⟩ := reads_of hv.inv2.2 kb
  exact eq_dataH ra rb (ka.shaped hn) (kb.shaped hm) hu (by rw [ka.eqvB kb]; exact Post.toks (tk := s.toks) (.con rfl) R0 q)
open Classical in
theorem TCmp.neD {a b : AV} {n m : Nat} {Q : AV → St → Prop} (hu : C.A.units + 64 < cLine) (ka : DataA n a) (kb : DataA m b) (hn : n ≤ 64) (hm : m ≤ 64) (q : Q (.con (.bool (!decide (a = b)))) σ) : TCmp C .NotEq a b σ Q := by
  intro va vb s R0 hv
  obtain ⟨_, ra⟩ := reads_of hv.inv2.1 ka
  obtain ⟨_, rb⟩ := reads_of hv.inv2.2 kb
  exact ne_dataH ra rb (ka.shaped hn) (kb.shaped hm) hu (by rw [ka.eqvB kb]; exact Post.toks (tk := s.toks) (.con rfl) R0 q)
theorem reads_list {s : Shared} {a : Addr} {xs : List AV} {n : Nat} (R0 : C.R σ s) (hH : σ.H a = some (.list xs)) (h : ∀ x ∈ xs, DataA n x) : ∃ as, Reads s.heap (.ref a) (.list (pdsOf xs)) as := by
  obtain ⟨ys, ⟨k, e⟩, r⟩ := (R0.objs a _ hH).1
  obtain ⟨bs, q⟩ := readsAll_of r h
  exact ⟨_, reads_list_at e rfl rfl (by simpa using q)⟩
theorem shaped_list {xs : List AV} {n : Nat} (h : ∀ x ∈ xs, DataA n x) (hn : n < 64) : SeqAt.shaped (.list (pdsOf xs)) = true := by
  have l := (DataA.tup n xs h).lay
  unfold SeqAt.shaped
  rw [show (PyData.list (pdsOf xs)).canLay0 = true from l.1, Bool.true_and]
  exact decide_eq_true (Nat.le_trans (show (PyData.list (pdsOf xs)).depth ≤ n + 1 from l.2) (by omega))
open Classical in
theorem eqv_list {xs ys : List AV} {n m : Nat} (h : ∀ x ∈ xs, DataA n x) (k : ∀ y ∈ ys, DataA m y) : PyData.eqv (.list (pdsOf xs)) (.list (pdsOf ys)) = decide (xs = ys) := by
  have := (DataA.tup n xs h).eqvB (DataA.tup m ys k)
  simp only [pdOf, PyData.eqv, AV.tup.injEq] at this ⊢
  exact this
open Classical in
theorem TCmp.neL {a b : Addr} {xs ys : List AV} {n m : Nat} {Q : AV → St → Prop} (hu : C.A.units + 64 < cLine) (ha : σ.H a = some (.list xs)) (hb : σ.H b = some (.list ys)) (ka : ∀ x ∈ xs, DataA n x) (kb : ∀ y ∈ ys, DataA m y) (hn : n < 64) (hm : m < 64)
    (q : Q (.con (.bool (!decide (xs = ys)))) σ) : TCmp C .NotEq (.con (.ref a)) (.con (.ref b)) σ Q := by
  intro va vb s R0 hv
  have e1 := hv.inv2.1.con_inv; have e2 := hv.inv2.2.con_inv
  subst e1; subst e2
  obtain ⟨_, ra⟩ := reads_list R0 ha ka
  obtain ⟨_, rb⟩ := reads_list R0 hb kb
  exact ne_dataH ra rb (shaped_list ka hn) (shaped_list kb hm) hu (by rw [eqv_list ka kb]; exact Post.toks (tk := s.toks) (.con rfl) R0 q)
/-- a list against the empty one -/
theorem TCmp.neNil {a b : Addr} {xs : List AV} {Q : AV → St → Prop} (hu : C.A.units + 64 < cLine) (ha : σ.H a = some (.list xs)) (hb : σ.H b = some (.list [])) (q : Q (.con (.bool (!xs.isEmpty))) σ) : TCmp C .NotEq (.con (.ref a)) (.con (.ref b)) σ Q := by
  intro va vb s R0 hv
  have e1 := hv.inv2.1.con_inv; have e2 := hv.inv2.2.con_inv
  subst e1; subst e2
  obtain ⟨ys, ⟨k, e⟩, r⟩ := (R0.objs a _ ha).1
  obtain ⟨zs, ⟨k2, e2⟩, r2⟩ := (R0.objs b _ hb).1
  cases r2
  refine cmp_ofNotEq ?_
  cases xs with
  | nil =>
    cases r
    exact (SeqAt.RcNeAt.lists (e := fun _ => true) ⟨_, e, rfl, k, rfl⟩ ⟨_, e2, rfl, k2, rfl⟩ rfl (by omega) (fun j h => absurd h (by simp))) _ _ _ _ (Post.toks (tk := s.toks) (.con rfl) R0 q)
  | cons x xs =>
    have hl := r.length
    exact (SeqAt.RcNeAt.lists_lengths ⟨_, e, rfl, k, rfl⟩ ⟨_, e2, rfl, k2, rfl⟩ (by simp [hl]) (by omega)) _ _ _ _ (Post.toks (tk := s.toks) (.con rfl) R0 q)
theorem TCmp.eqNil {a b : Addr} {xs : List AV} {Q : AV → St → Prop} (hu : C.A.units + 64 < cLine) (ha : σ.H a = some (.list xs)) (hb : σ.H b = some (.list [])) (q : Q (.con (.bool xs.isEmpty)) σ) : TCmp C .Eq (.con (.ref a)) (.con (.ref b)) σ Q := by
  intro va vb s R0 hv
  have e1 := hv.inv2.1.con_inv; have e2 := hv.inv2.2.con_inv
  subst e1; subst e2
  obtain ⟨ys, ⟨k, e⟩, r⟩ := (R0.objs a _ ha).1
  obtain ⟨zs, ⟨k2, e2⟩, r2⟩ := (R0.objs b _ hb).1
  cases r2
  cases xs with
  | nil =>
    cases r
    exact SeqAt.eq_listAt (e := fun _ => true) ⟨_, e, rfl, k, rfl⟩ ⟨_, e2, rfl, k2, rfl⟩ rfl (by omega) (fun j h => absurd h (by simp)) (Post.toks (tk := s.toks) (.con rfl) R0 q)
  | cons x xs =>
    have hl := r.length
    exact SeqAt.eq_list_lengthsAt ⟨_, e, rfl, k, rfl⟩ ⟨_, e2, rfl, k2, rfl⟩ (by simp [hl]) (by omega) (Post.toks (tk := s.toks) (.con rfl) R0 q)
theorem ORel.isSome {h : Heap} {v : Option Value} {a : Option AV} (o : ORel h v a) : v.isSome = a.isSome := by cases o <;> rfl
def DictIs (H : AH) (d : Addr) (es : List (Str × AV)) : Prop := H d = some (.dict es) ∨ ∃ ep, H d = some (.dictE es ep)
theorem DictIs.of {s : Shared} {d : Addr} {es : List (Str × AV)} (h : DictIs σ.H d es) (R0 : C.R σ s) : (∃ ds, s.heap.DictOf (PySem.strKind C.prog C.w) d ds ∧ DRel s.heap ds es) ∧ (d == sysModules) = false := by
  rcases h with h | ⟨ep, h⟩
  · obtain ⟨⟨ds, h1, h2⟩, hz, _⟩ := R0.objs d _ h; exact ⟨⟨ds, h1, h2⟩, C.notSys hz⟩
  · obtain ⟨⟨ds, h1, h2⟩, hz, _⟩ := R0.objs d _ h; exact ⟨⟨ds, h1.dictOf, h2⟩, C.notSys hz⟩
/-! is -/
theorem TCmp.isNotC {v w : Value} {Q : AV → St → Prop} (hp : plainIs v w = true) (q : Q (.con (.bool (!(v == w)))) σ) : TCmp C .IsNot (.con v) (.con w) σ Q := by
  intro va vb s R0 hv
  have e1 := hv.inv2.1.con_inv; have e2 := hv.inv2.2.con_inv
  subst e1; subst e2
  exact wpAny_isNot_plain hp (Post.toks (tk := s.toks) (.con rfl) R0 q)
theorem TCmp.isC {v w : Value} {Q : AV → St → Prop} (hp : plainIs v w = true) (q : Q (.con (.bool (v == w))) σ) : TCmp C .Is (.con v) (.con w) σ Q := by
  intro va vb s R0 hv
  have e1 := hv.inv2.1.con_inv; have e2 := hv.inv2.2.con_inv
  subst e1; subst e2
  exact wpAny_is_plain hp (Post.toks (tk := s.toks) (.con rfl) R0 q)

/-! in -/
theorem TCmp.inDict {k : Str} {d : Addr} {es : List (Str × AV)} {Q : AV → St → Prop} (hd : DictIs σ.H d es) (q : Q (.con (.bool (valA es k).isSome)) σ) : TCmp C .In (.str k) (.con (.ref d)) σ Q := by
  intro va vb s R0 hv
  obtain ⟨t, rfl⟩ := hv.inv2.1.str_inv
  have e2 := hv.inv2.2.con_inv
  subst e2
  obtain ⟨⟨ds, h1, r1⟩, s1⟩ := hd.of R0
  refine wpAny_in_of (strKind_is C.prog C.w k t) s1 h1.mapOf ?_
  have o := r1.val k
  rw [show (valueAt ds k).isSome = (valA es k).isSome from o.isSome]
  exact Post.toks (.con rfl) R0 q
theorem TCmp.notInDict {k : Str} {d : Addr} {es : List (Str × AV)} {Q : AV → St → Prop} (hd : DictIs σ.H d es) (q : Q (.con (.bool (!(valA es k).isSome))) σ) : TCmp C .NotIn (.str k) (.con (.ref d)) σ Q := by
  intro va vb s R0 hv
  obtain ⟨t, rfl⟩ := hv.inv2.1.str_inv
  have e2 := hv.inv2.2.con_inv
  subst e2
  obtain ⟨⟨ds, h1, r1⟩, s1⟩ := hd.of R0
  refine wpAny_notIn_of (strKind_is C.prog C.w k t) s1 h1.mapOf ?_
  have o := r1.val k
  rw [show (valueAt ds k).isSome = (valA es k).isSome from o.isSome]
  exact Post.toks (.con rfl) R0 q
theorem any_mem {xs : List AV} {x : AV} {n m : Nat} (hx : DataA m x) (h : ∀ y ∈ xs, DataA n y) : ((pdsOf xs).any fun y => PyData.eqv y (pdOf x)) = true ↔ x ∈ xs := by
  induction xs with
  | nil => simp [pdsOf]
  | cons y ys ih =>
    have h1 := (h y List.mem_cons_self).eqv hx
    have h2 := ih fun z hz => h z (List.mem_cons_of_mem _ hz)
    simp only [pdsOf, List.any_cons, Bool.or_eq_true, h1, h2, List.mem_cons]
    constructor
    · rintro (e | e)
      · exact .inl e.symm
      · exact .inr e
    · rintro (e | e)
      · exact .inl e.symm
      · exact .inr e
open Classical in
theorem any_memB {xs : List AV} {x : AV} {n m : Nat} (hx : DataA m x) (h : ∀ y ∈ xs, DataA n y) : ((pdsOf xs).any fun y => PyData.eqv y (pdOf x)) = decide (x ∈ xs) := by
  by_cases q : x ∈ xs
  · rw [decide_eq_true q]; exact (any_mem hx h).mpr q
  · rw [decide_eq_false q]; exact Bool.eq_false_iff.mpr fun z => q ((any_mem hx h).mp z)
open Classical in
theorem TCmp.inL {x : AV} {l : Addr} {xs : List AV} {n m : Nat} {Q : AV → St → Prop} (hu : C.A.units + 64 < cLine) (hl : σ.H l = some (.list xs)) (h : ∀ y ∈ xs, DataA n y) (hx : DataA m x) (hm : m ≤ 60) (q : Q (.con (.bool (decide (x ∈ xs)))) σ) : TCmp C .In x (.con (.ref l)) σ Q := by
  intro va vb s R0 hv
  have e2 := hv.inv2.2.con_inv
  subst e2
  obtain ⟨_, rl⟩ := reads_list R0 hl h
  obtain ⟨_, rx⟩ := reads_of hv.inv2.1 hx
  refine SeqAt.in_list_reads rl rx (canLayAll_of fun d hd => ?_) hx.lay.1 ?_ (by rw [any_memB hx h]; exact Post.toks (tk := s.toks) (.con rfl) R0 q)
  · rw [pds_map] at hd; obtain ⟨a, ha, rfl⟩ := List.mem_map.mp hd; exact (h a ha).lay.1
  · have := hx.lay.2; have := Nat.min_le_right (PyData.depthAll (pdsOf xs)) (pdOf x).depth; omega
open Classical in
theorem TCmp.notInL {x : AV} {l : Addr} {xs : List AV} {n m : Nat} {Q : AV → St → Prop} (hu : C.A.units + 64 < cLine) (hl : σ.H l = some (.list xs)) (h : ∀ y ∈ xs, DataA n y) (hx : DataA m x) (hm : m ≤ 60) (q : Q (.con (.bool (!decide (x ∈ xs)))) σ) : TCmp C .NotIn x (.con (.ref l)) σ Q := by
  intro va vb s R0 hv
  have e2 := hv.inv2.2.con_inv
  subst e2
  obtain ⟨_, rl⟩ := reads_list R0 hl h
  obtain ⟨_, rx⟩ := reads_of hv.inv2.1 hx
  refine SeqAt.notIn_list_reads rl rx (canLayAll_of fun d hd => ?_) hx.lay.1 ?_ (by rw [any_memB hx h]; exact Post.toks (tk := s.toks) (.con rfl) R0 q)
  · rw [pds_map] at hd; obtain ⟨a, ha, rfl⟩ := List.mem_map.mp hd; exact (h a ha).lay.1
  · have := hx.lay.2; have := Nat.min_le_right (PyData.depthAll (pdsOf xs)) (pdOf x).depth; omega
end

section
variable {C : Cx} {σ : St}

theorem Rep.fr {s : Shared} (R : C.R σ s) : ∃ m', Fr C.h₀ C.env.locals s.heap m' := by
  obtain ⟨m', hn, _⟩ := R.locs
  exact ⟨m', hn, R.keep, (R.owns _ List.mem_cons_self).1⟩
theorem Rep.kin {s : Shared} (R : C.R σ s) : C.K.In s.heap := C.hK.keeps R.keep

/-! concatenation -/
theorem TBin.addT {l m : List AV} {Q : AV → St → Prop} (hz : l.length + m.length ≤ 16384) (q : Q (.tup (l ++ m)) σ) : TBin C .Add (.tup l) (.tup m) σ Q := by
  intro va vb s R0 hv
  obtain ⟨t, xs, n, rfl, e1, r1⟩ := hv.inv2.1.tup_inv
  obtain ⟨b, ys, k, rfl, e2, r2⟩ := hv.inv2.2.tup_inv
  obtain ⟨m', F⟩ := R0.fr
  have hz' : xs.toArray.toList.length + ys.toArray.toList.length ≤ 16384 := by simpa [r1.length, r2.length] using hz
  cases l with
  | nil =>
    cases r1
    exact kde_addT0 F News.nil ⟨_, e1, rfl, n, rfl⟩ ⟨_, e2, rfl, k, rfl⟩ rfl hz' (Post.toks (tk := s.toks) (.tup e2 r2) R0 q)
  | cons a l =>
    cases m with
    | nil =>
      cases r2
      refine kde_addT1 F News.nil ⟨_, e1, rfl, n, rfl⟩ ⟨_, e2, rfl, k, rfl⟩ ?_ rfl hz' (Post.toks (tk := s.toks) (.tup e1 r1) R0 (by simpa using q))
      cases r1; simp
    | cons b' m =>
      refine P.add_tuple e1 e2 (by cases r1; simp) (by cases r2; simp) ?_ (by rw [sizeLine_eq]; simp only [List.size_toArray]; simp at hz'; omega)
      have kp : ∀ b o, s.heap.get? b = some o → (s.heap.push { cls := .type "tuple", data := .seq (xs.toArray ++ ys.toArray) }).get? b = some o := fun b o e => Heap.get?_push_of_some _ e
      obtain ⟨R2, g2⟩ := R0.ext (s' := { s with heap := s.heap.push { cls := .type "tuple", data := .seq (xs.toArray ++ ys.toArray) } }) kp rfl rfl
      have e3 := Heap.get?_push_size s.heap (o := { cls := .type "tuple", data := .seq (xs.toArray ++ ys.toArray) }) rfl
      have e4 : xs.toArray ++ ys.toArray = (xs ++ ys).toArray := by simp
      refine ⟨_, σ, VRel.tup (xs := xs ++ ys) (n := 0) ?_ ((r1.append r2).keep fun a _ _ e => kp a _ e), R2, g2, q⟩
      rw [← e4]; exact e3
/-! items -/
theorem TE.sub {value slice : PySem.Expr} {pos} {Q : AV → St → Prop} (h : TE C value σ fun a σ1 => TE C slice σ1 fun b σ2 => TSub C value slice a b σ2 Q) : TE C (.Subscript value slice pos) σ Q := by
  intro s R0 _
  refine Subscript_ (h.here R0 .nil fun va a σ1 s1 ra R1 g1 k1 q => ?_)
  refine q.andThen R0 R1 g1 .nil fun vb b σ2 s2 rb R2 g2 _ k2 q => ?_
  exact (q va vb).last R0 R2 g2 (.mk2 (ra.keep k2) rb)
def subOps (slice : PySem.Expr) : Prop := ∀ o i, ∃ ops, subscripted slice false o i = operate ops (getItem o i)
theorem TSub.tup {value slice : PySem.Expr} {l : List AV} {i : Int} {j : Nat} {a : AV} {Q : AV → St → Prop} (hs : subOps slice) (hlo : -(2 ^ 63) ≤ i) (hhi : i < 2 ^ 63) (hj : seqIndex? i l.length = some j) (ha : l[j]? = some a) (q : Q a σ) : TSub C value slice (.tup l) (.int i) σ Q := by
  intro va vb s R0 hv
  obtain ⟨t, xs, n, rfl, e1, r1⟩ := hv.inv2.1.tup_inv
  obtain ⟨u, rfl⟩ := hv.inv2.2.int_inv
  obtain ⟨v, hv', rv⟩ := r1.get ha
  obtain ⟨ops, ho⟩ := hs (.ref t) (.int i u)
  have ht : IsTup s.heap t xs.toArray := ⟨_, e1, rfl, n, rfl⟩
  exact tail_any ht.typeIs slot_tuple_getitem.lookup (PyProof.Rows.getItem_tuple ht hlo hhi (by simpa [r1.length] using hj) (by simpa using hv') (Post.toks (tk := s.toks) rv R0 q)) ho
theorem TSub.list {value slice : PySem.Expr} {l : Addr} {xs : List AV} {i : Int} {a : AV} {Q : AV → St → Prop} (hs : subOps slice) (hl : σ.H l = some (.list xs)) (h0 : 0 ≤ i) (hi : i < 2 ^ 63) (ha : xs[i.toNat]? = some a) (q : Q a σ) : TSub C value slice (.con (.ref l)) (.int i) σ Q := by
  intro va vb s R0 hv
  have h1 := hv.inv2.1.con_inv
  subst h1
  obtain ⟨u, rfl⟩ := hv.inv2.2.int_inv
  obtain ⟨ys, ⟨n, e⟩, r⟩ := (R0.objs l _ hl).1
  obtain ⟨v, hv', rv⟩ := r.get ha
  obtain ⟨ops, ho⟩ := hs (.ref l) (.int i u)
  have hL : s.heap.IsList l ys.toArray := ⟨_, e, rfl, n, rfl⟩
  exact tail_any hL.typeIs slot_list_getitem.lookup (wpAny_getItem_list hL h0 hi (by simpa using hv') (Post.toks (tk := s.toks) rv R0 q)) ho
theorem TSub.listLast {value slice : PySem.Expr} {l : Addr} {xs : List AV} {a : AV} {Q : AV → St → Prop} (hs : subOps slice) (hl : σ.H l = some (.list (xs ++ [a]))) (q : Q a σ) : TSub C value slice (.con (.ref l)) (.int (-1)) σ Q := by
  intro va vb s R0 hv
  have h1 := hv.inv2.1.con_inv
  subst h1
  obtain ⟨u, rfl⟩ := hv.inv2.2.int_inv
  obtain ⟨ys, ⟨n, e⟩, r⟩ := (R0.objs l _ hl).1
  obtain ⟨ws, v, rfl, r2, rv⟩ := r.snoc
  obtain ⟨ops, ho⟩ := hs (.ref l) (.int (-1) u)
  have hL : s.heap.IsList l (ws ++ [v]).toArray := ⟨_, e, rfl, n, rfl⟩
  refine tail_any hL.typeIs slot_list_getitem.lookup (wpAny_getItem_list_neg hL (by decide) (by rw [List.size_toArray, List.length_append, List.length_singleton]; omega) (by decide) ?_ (Post.toks (tk := s.toks) rv R0 q)) ho
  have : ((-1 : Int) + ((ws ++ [v]).toArray.size : Nat)).toNat = ws.length := by rw [List.size_toArray, List.length_append, List.length_singleton]; omega
  rw [this, List.getElem?_toArray, List.getElem?_append_right (Nat.le_refl _), Nat.sub_self]; rfl
theorem TSub.dict {value slice : PySem.Expr} {d : Addr} {es : List (Str × AV)} {k : Str} {a : AV} {Q : AV → St → Prop} (hs : subOps slice) (hd : DictIs σ.H d es) (ha : valA es k = some a) (q : Q a σ) : TSub C value slice (.con (.ref d)) (.str k) σ Q := by
  intro va vb s R0 hv
  have h1 := hv.inv2.1.con_inv
  subst h1
  obtain ⟨u, rfl⟩ := hv.inv2.2.str_inv
  obtain ⟨⟨ds, h1, r1⟩, s1⟩ := hd.of R0
  have o := r1.val k
  rw [ha] at o
  obtain ⟨ops, ho⟩ := hs (.ref d) (.str k u)
  cases hq : valueAt ds k with
  | none => rw [hq] at o; cases o
  | some v =>
    rw [hq] at o
    cases o with
    | some rv => exact tail_any h1.typeIs slot_dict_getitem.lookup (wpAny_getItem_of (strKind_is C.prog C.w k u) h1.mapOf hq (Post.toks rv R0 q)) ho

/-! stores into a dict -/
theorem TSet.dict {d : Addr} {es : List (Str × AV)} {k : Str} {a : AV} {Q : Unit → St → Prop} (hd : σ.H d = some (.dict es)) (hz : es.length ≤ 16777215) (q : Q () (σ.put d (.dict (storeA es k a)))) : TSet C (.con (.ref d)) (.str k) a σ Q := by
  intro vo vi vv s R0 hv
  obtain ⟨r1, r2, r3⟩ := hv.inv3
  have h1 := r1.con_inv
  subst h1
  obtain ⟨u, rfl⟩ := r2.str_inv
  obtain ⟨ds, h1, rd⟩ := (R0.objs d _ hd).1
  refine wpAny_setItem_pairs (strKind_is C.prog C.w k u) h1 (fun h' hm' hs' => ?_) (by rw [sizeLine_eq, rd.length]; omega)
  obtain ⟨R2, g2⟩ := R0.store (ao' := .dict (storeA es k a)) (tk := s.toks + 1) hd hs'.extBut fun tk => ⟨_, hm', (rd.keep tk).store (r3.keep tk)⟩
  exact ⟨(), _, trivial, R2, g2, q⟩

/-! calls -/
def Cl (C : Cx) (f : Value) : Prop := ∀ h, C.K.In h → ∃ k, (k = Keeper.frame ∨ k = Keeper.machine ∨ k = Keeper.boundFrame) ∧ Looks C.M h (keeperOf f) k
theorem Cl.type (T : String) : Cl C (.type T) := fun _ _ => ⟨.machine, .inr (.inl rfl), Looks.of_pure rfl⟩
theorem Cl.builtin (T : String) : Cl C (.builtin T) := fun _ _ => ⟨.machine, .inr (.inl rfl), Looks.of_pure rfl⟩
theorem Cl.ref {a : Addr} (h : keepIn C.K (.ref a) = true) : Cl C (.ref a) := fun h' X => keeps_K h h' X

/-- a call of f upon the values as -/
def TCall (C : Cx) (f : Value) (as : List AV) (σ : St) (Q : AV → St → Prop) : Prop := ∀ vs, TV C vs as VRel (call f vs) σ Q
/-- .. and one more by a name -/
def TCallK (C : Cx) (f : Value) (as : List AV) (n : Str) (k : AV) (σ : St) (Q : AV → St → Prop) : Prop := ∀ vs w, TV C (w :: vs) (k :: as) VRel (call f vs [(n, w)]) σ Q
def TMeth (C : Cx) (a : AV) (name : Str) (σ : St) (Q : AV × List AV → St → Prop) : Prop := ∀ va pl, TV C [va] [a] RP (getMethod va name pl) σ Q

theorem callW {A : Around} {env : Env} {E : Value → Shared → Prop} {s : Shared} {f : Value} {pos : Pos} {first : List Value} {e : PySem.Expr} {rest : List PySem.Expr} {Q : Value → Shared → Prop} (hk : Cl C f)
    (h : wpAny C.M A (spliced (backTo pos (starEach (e :: rest) env))) (fun vs s₁ => C.K.In s₁.heap ∧ wpAny C.M A (call f (first ++ vs)) Q E s₁) E s)
    (he : starEach (e :: rest) env = (false, eval e env) :: starEach rest env) (hplain : (backTo pos (starEach rest env)).any (·.1) = false) :
    wpAny C.M A (callWith pos f first (backTo pos (starEach (e :: rest) env)) []) Q E s := by
  rw [he] at h ⊢
  exact callWith_of (P := fun h => C.K.In h) (by show ((false || (backTo pos (starEach rest env)).any (·.1)) || false) = false; rw [hplain]; rfl) hk (evalArgs_plain h)
theorem callW0 {A : Around} {env : Env} {E : Value → Shared → Prop} {s : Shared} {f : Value} {pos : Pos} {first : List Value} {Q : Value → Shared → Prop} (hk : Cl C f) (hX : C.K.In s.heap)
    (h : wpAny C.M A (call f (first ++ [])) Q E s) : wpAny C.M A (callWith pos f first (backTo pos (starEach [] env)) []) Q E s :=
  callWith_of (P := fun h => C.K.In h) rfl hk (evalArgs_nil3 ⟨hX, h⟩)
theorem callWK {A : Around} {env : Env} {E : Value → Shared → Prop} {s : Shared} {f : Value} {pos kp : Pos} {first : List Value} {e ke : PySem.Expr} {n : Str} {rest : List PySem.Expr} {Q : Value → Shared → Prop} (hk : Cl C f)
    (h : wpAny C.M A (spliced (backTo pos (starEach (e :: rest) env))) (fun vs s₁ => wpAny C.M A (eval ke env) (fun w s₂ => C.K.In s₂.heap ∧ wpAny C.M A (call f (first ++ vs) [(n, w)]) Q E s₂) E s₁) E s)
    (he : starEach (e :: rest) env = (false, eval e env) :: starEach rest env) (hplain : (backTo pos (starEach rest env)).any (·.1) = false) :
    wpAny C.M A (callWith pos f first (backTo pos (starEach (e :: rest) env)) (backToKw pos (keywordEach [⟨some n, ke, kp⟩] env))) Q E s := by
  refine callWith_of (P := fun h => C.K.In h) ?_ hk (evalArgs_kw2 rfl (wpAny_mono h (fun vs s1 h1 => kwAll_cons (wpAny_mono h1 (fun w s2 h2 => kwAll_nil h2) fun _ _ x => x)) fun _ _ x => x) he)
  rw [he]
  show (((false || (backTo pos (starEach rest env)).any (·.1)) || false) = false)
  rw [hplain]; rfl

def noStar (C : Cx) (es : List PySem.Expr) : Prop := ∀ pos, (backTo pos (starEach es C.env)).any (·.1) = false
theorem TE.call0 {x : Str} {np pos : Pos} {Q : AV → St → Prop} (h : TE C (.Name x np) σ fun f σ1 => ∃ vf, f = .con vf ∧ Cl C vf ∧ TCall C vf [] σ1 Q) : TE C (.Call (.Name x np) [] [] pos) σ Q := by
  intro s R0 _
  refine wpAny_Call_ofName (h.here R0 .nil fun vf f σ1 s1 rf R1 g1 k1 q => ?_)
  obtain ⟨w, rfl, hc, q⟩ := q
  have := rf.con_inv
  subst this
  exact callW0 hc R1.kin ((q []).last R0 R1 g1 .nil)
theorem TE.call {x : Str} {np pos : Pos} {e : PySem.Expr} {r : List PySem.Expr} {Q : AV → St → Prop}
    (h : TE C (.Name x np) σ fun f σ1 => ∃ vf, f = .con vf ∧ Cl C vf ∧ TL C (e :: r) σ1 fun as σ2 => TCall C vf as σ2 Q)
    (he : starEach (e :: r) C.env = (false, eval e C.env) :: starEach r C.env := by rfl) (hp : noStar C r := by intro _; rfl) : TE C (.Call (.Name x np) (e :: r) [] pos) σ Q := by
  intro s R0 _
  refine wpAny_Call_ofName (h.here R0 .nil fun vf f σ1 s1 rf R1 g1 k1 q => ?_)
  obtain ⟨w, rfl, hc, q⟩ := q
  have := rf.con_inv
  subst this
  refine callW hc ((q pos).andThen R0 R1 g1 .nil fun vs as σ2 s2 rs R2 g2 _ k2 q => ⟨R2.kin, ?_⟩) he (hp pos)
  exact (q vs).last R0 R2 g2 rs
def methForm (C : Cx) (o : PySem.Expr) (name : Str) (apos pos : Pos) (args : List PySem.Expr) (kws : List Keyword) (pl : Sem Bool) : Prop :=
  eval (.Call (.Attribute o name apos) args kws pos) C.env = (do
    let ov ← eval o C.env
    standAt apos.atName
    let (f, first) ← holding [ov] (getMethod ov name pl)
    callWith pos f first (backTo pos (starEach args C.env)) (backToKw pos (keywordEach kws C.env)))
theorem TE.meth0 {o : PySem.Expr} {name : Str} {apos pos : Pos} {pl : Sem Bool} {Q : AV → St → Prop} (hm : methForm C o name apos pos [] [] pl)
    (h : TE C o σ fun a σ1 => TMeth C a name σ1 fun p σ2 => ∃ vf, p.1 = .con vf ∧ Cl C vf ∧ TCall C vf p.2 σ2 Q) : TE C (.Call (.Attribute o name apos) [] [] pos) σ Q := by
  intro s R0 _
  refine methodCall_KW (pl := pl) (h.here R0 .nil fun va a σ1 s1 ra R1 g1 k1 q => ?_) hm
  refine (q va pl).andThen R0 R1 g1 (.one ra) fun fx p σ2 s2 rp R2 g2 _ k2 q => ?_
  obtain ⟨w, e, hc, q⟩ := q
  obtain ⟨r1, r2⟩ := rp
  rw [e] at r1
  rw [r1.con_inv]
  exact callW0 hc R2.kin ((q _).last R0 R2 g2 (by rw [List.append_nil]; exact r2))
theorem TE.meth {o : PySem.Expr} {name : Str} {apos pos : Pos} {pl : Sem Bool} {e : PySem.Expr} {r : List PySem.Expr} {Q : AV → St → Prop} (hm : methForm C o name apos pos (e :: r) [] pl)
    (h : TE C o σ fun a σ1 => TMeth C a name σ1 fun p σ2 => ∃ vf, p.1 = .con vf ∧ Cl C vf ∧ TL C (e :: r) σ2 fun as σ3 => TCall C vf (p.2 ++ as) σ3 Q)
    (he : starEach (e :: r) C.env = (false, eval e C.env) :: starEach r C.env := by rfl) (hp : noStar C r := by intro _; rfl) : TE C (.Call (.Attribute o name apos) (e :: r) [] pos) σ Q := by
  intro s R0 _
  refine methodCall_KW (pl := pl) (h.here R0 .nil fun va a σ1 s1 ra R1 g1 k1 q => ?_) hm
  refine (q va pl).andThen R0 R1 g1 (.one ra) fun fx p σ2 s2 rp R2 g2 _ k2 q => ?_
  obtain ⟨w, e, hc, q⟩ := q
  obtain ⟨r1, r2⟩ := rp
  rw [e] at r1
  rw [r1.con_inv]
  refine callW hc ((q pos).andThen R0 R2 g2 .nil fun vs as σ3 s3 rs R3 g3 _ k3 q => ⟨R3.kin, ?_⟩) he (hp pos)
  exact (q _).last R0 R3 g3 ((r2.keep k3).append rs)
theorem TE.methK {o : PySem.Expr} {name : Str} {apos pos kp : Pos} {pl : Sem Bool} {e ke : PySem.Expr} {n : Str} {r : List PySem.Expr} {Q : AV → St → Prop} (hm : methForm C o name apos pos (e :: r) [⟨some n, ke, kp⟩] pl)
    (h : TE C o σ fun a σ1 => TMeth C a name σ1 fun p σ2 => ∃ vf, p.1 = .con vf ∧ Cl C vf ∧ TL C (e :: r) σ2 fun as σ3 => TE C ke σ3 fun k σ4 => TCallK C vf (p.2 ++ as) n k σ4 Q)
    (he : starEach (e :: r) C.env = (false, eval e C.env) :: starEach r C.env := by rfl) (hp : noStar C r := by intro _; rfl) : TE C (.Call (.Attribute o name apos) (e :: r) [⟨some n, ke, kp⟩] pos) σ Q := by
  intro s R0 _
  refine methodCall_KW (pl := pl) (h.here R0 .nil fun va a σ1 s1 ra R1 g1 k1 q => ?_) hm
  refine (q va pl).andThen R0 R1 g1 (.one ra) fun fx p σ2 s2 rp R2 g2 _ k2 q => ?_
  obtain ⟨w, e, hc, q⟩ := q
  obtain ⟨r1, r2⟩ := rp
  rw [e] at r1
  rw [r1.con_inv]
  refine callWK hc ((q pos).andThen R0 R2 g2 .nil fun vs as σ3 s3 rs R3 g3 _ k3 q => ?_) he (hp pos)
  refine q.andThen R0 R3 g3 .nil fun vk kk σ4 s4 rk R4 g4 _ k4 q => ⟨R4.kin, ?_⟩
  exact (q _ _).last R0 R4 g4 (.cons rk (((r2.keep k3).append rs).keep k4))
def attrForm (C : Cx) (value : PySem.Expr) (attr : Str) (pos : Pos) : Prop :=
  eval (.Attribute value attr pos) C.env = (do let o ← eval value C.env; standAt pos.atName; let r ← holding [o] (getAttr o attr true); letTemporaryGo value o r; pure r)
def TAttr (C : Cx) (a : AV) (attr : Str) (σ : St) (Q : AV → St → Prop) : Prop := ∀ va, TV C [va] [a] VRel (getAttr va attr true) σ Q
theorem TE.attr {value : PySem.Expr} {attr : Str} {pos : Pos} {Q : AV → St → Prop} (hf : attrForm C value attr pos) (h : TE C value σ fun a σ1 => TAttr C a attr σ1 Q) : TE C (.Attribute value attr pos) σ Q := by
  intro s R0 _
  refine Attribute_any_ (h.here R0 .nil fun va a σ1 s1 ra R1 g1 k1 q => ?_) hf
  exact (q va).last R0 R1 g1 (.one ra)
end

inductive TyOf (H : AH) : AV → String → Prop
  | int (i : Int) : TyOf H (.int i) "int"
  | str (x : Str) : TyOf H (.str x) "str"
  | tup (l : List AV) : TyOf H (.tup l) "tuple"
  | list {a : Addr} {l : List AV} (h : H a = some (.list l)) : TyOf H (.con (.ref a)) "list"
  | dict {a : Addr} {es : List (Str × AV)} (h : DictIs H a es) : TyOf H (.con (.ref a)) "dict"

section
variable {C : Cx} {σ : St}

theorem TyOf.is {s : Shared} {v : Value} {a : AV} {T : String} (h : TyOf σ.H a T) (R0 : C.R σ s) (r : VRel s.heap v a) : s.TypeIs v T := by
  cases h with
  | int i => obtain ⟨t, rfl⟩ := r.int_inv; exact typeIs_int s i t
  | str x => obtain ⟨t, rfl⟩ := r.str_inv; exact typeIs_str s x t
  | tup l => obtain ⟨a, xs, n, rfl, e, _⟩ := r.tup_inv; exact ⟨_, e, rfl⟩
  | list h => rw [r.con_inv]; obtain ⟨ys, ⟨n, e⟩, _⟩ := (R0.objs _ _ h).1; exact ⟨_, e, rfl⟩
  | dict h => rw [r.con_inv]; obtain ⟨⟨ds, h1, _⟩, _⟩ := h.of R0; exact h1.typeIs
theorem TCall.type {a : AV} {T : String} {Q : AV → St → Prop} (h : TyOf σ.H a T) (q : Q (.con (.type T)) σ) : TCall C (.type "type") [a] σ Q := by
  intro vs s R0 hv
  cases hv with
  | cons e r =>
    cases r
    exact call_type_of (h.is R0 e) (by cases h <;> decide) (Post.toks (tk := s.toks) (.con rfl) R0 q)
theorem TCall.lenL {l : Addr} {xs : List AV} {Q : AV → St → Prop} (hl : σ.H l = some (.list xs)) (hz : xs.length ≤ 16777216) (q : Q (.int xs.length) σ) : TCall C (.builtin "len") [.con (.ref l)] σ Q := by
  intro vs s R0 hv
  cases hv with
  | cons e r =>
    cases r
    rw [e.con_inv]
    obtain ⟨ys, ⟨n, e⟩, r⟩ := (R0.objs l _ hl).1
    refine call_len_list ⟨_, e, rfl, n, rfl⟩ (by simp [r.length]; omega) ?_
    rw [List.size_toArray, r.length]
    exact Post.toks (.int _ _) R0 q
theorem TCall.lenT {l : List AV} {Q : AV → St → Prop} (hz : l.length ≤ 16777216) (q : Q (.int l.length) σ) : TCall C (.builtin "len") [.tup l] σ Q := by
  intro vs s R0 hv
  cases hv with
  | cons e r =>
    cases r
    obtain ⟨a, xs, n, rfl, e, r⟩ := e.tup_inv
    refine PyProof.Rows.len_tuple ⟨_, e, rfl, n, rfl⟩ (by simp [r.length]; omega) ?_
    rw [List.size_toArray, r.length]
    exact Post.toks (.int _ _) R0 q
theorem TCall.str {i : Int} {Q : AV → St → Prop} (hi : i.natAbs.log2 < 1920) (q : Q (.str (Str.ofString (toString i))) σ) : TCall C (.type "str") [.int i] σ Q := by
  intro vs s R0 hv
  cases hv with
  | cons e r =>
    cases r
    obtain ⟨t, rfl⟩ := e.int_inv
    exact P.str_of_int hi (Post.toks (.str _ _) R0 q)
theorem TCall.range {i : Nat} {Q : AV → St → Prop} (q : ∀ a, σ.H a = none → Q (.con (.ref a)) (σ.put a (.rng i))) : TCall C (.type "range") [.int i] σ Q := by
  intro vs s R0 hv
  cases hv with
  | cons e r =>
    cases r
    obtain ⟨t, rfl⟩ := e.int_inv
    refine call_range_1 ?_
    have kp : ∀ b o, s.heap.get? b = some o → (s.heap.push { cls := .type "range", data := .fields #[.int 0 s.toks, .int (i : Int) t, .int 1 (s.toks + 1)] }).get? b = some o := fun b o e => Heap.get?_push_of_some _ e
    obtain ⟨R2, g2, fr⟩ := R0.alloc (s1 := { s with heap := s.heap.push { cls := .type "range", data := .fields #[.int 0 s.toks, .int (i : Int) t, .int 1 (s.toks + 1)] }, toks := s.toks + 1 + 1 }) (ao := .rng i) (Nat.le_refl _) kp
      ⟨_, _, _, Heap.get?_push_size _ rfl⟩ rfl rfl
    exact ⟨_, _, .con rfl, R2, g2, q _ fr⟩
theorem VRels.of_get {h : Heap} {vs : List Value} {as : List AV} (hl : vs.length = as.length) (k : ∀ (j : Nat) (a : AV) (v : Value), as[j]? = some a → vs[j]? = some v → VRel h v a) : VRels h vs as := by
  induction vs generalizing as with
  | nil => cases as; exact .nil; simp at hl
  | cons v vs ih =>
    cases as with
    | nil => simp at hl
    | cons a as => exact .cons (k 0 a v rfl rfl) (ih (by simpa using hl) fun j a v h1 h2 => k (j + 1) a v (by simpa using h1) (by simpa using h2))
theorem TCall.listKeys {d : Addr} {es : List (Str × AV)} {Q : AV → St → Prop} (hh : C.A.handled = none) (hd : DictIs σ.H d es) (hz : es.length ≤ 16777216) (q : ∀ a, σ.H a = none → Q (.con (.ref a)) (σ.put a (.list (es.map fun e => .str e.1)))) :
    TCall C (.type "list") [.con (.ref d)] σ Q := by
  intro vs s R0 hv
  cases hv with
  | cons e r =>
    cases r
    rw [e.con_inv]
    obtain ⟨⟨ds, h1, r1⟩, s1⟩ := hd.of R0
    obtain ⟨ep, h2⟩ := h1.dictAt
    refine kdl_call (kdl_dict s1) hh h2 (by rw [sizeLine_eq, r1.length]; exact hz) fun h' tk acc' c' kp hS hi => ?_
    have hv : VRels h' acc'.toList (es.map fun e => AV.str e.1) := by
      refine VRels.of_get (by rw [Array.length_toList, hi.1, List.length_map, r1.length]) fun j a v ha hv => ?_
      obtain ⟨k, x, hk, hs⟩ := hi.2 j v (by rw [← Array.getElem?_toList]; exact hv)
      obtain ⟨t, rfl⟩ := Value.isStrOf_shape hs
      rw [List.getElem?_map] at ha
      obtain ⟨⟨kk, y⟩, he, rfl⟩ := Option.map_eq_some_iff.mp ha
      obtain ⟨v', hv', _⟩ := r1.at he
      rw [hk] at hv'; cases hv'
      exact .str _ _
    obtain ⟨R2, g2, fr⟩ := R0.alloc (s1 := { s with heap := h', toks := tk }) (ao := .list (es.map fun e => .str e.1)) (Nat.le_refl _) kp ⟨acc'.toList, ⟨c', by rw [Array.toArray_toList]; exact hS⟩, hv⟩ rfl rfl
    exact ⟨_, _, .con rfl, R2, g2, q _ fr⟩
theorem TCall.listRange {r : Addr} {n : Nat} {Q : AV → St → Prop} (hh : C.A.handled = none) (hr : σ.H r = some (.rng n)) (hz : n ≤ 16777216) (q : ∀ a, σ.H a = none → Q (.con (.ref a)) (σ.put a (.list (intsA n)))) : TCall C (.type "list") [.con (.ref r)] σ Q := by
  intro vs s R0 hv
  cases hv with
  | cons e rr =>
    cases rr
    rw [e.con_inv]
    obtain ⟨t, u, v, e1⟩ := (R0.objs r _ hr).1
    refine call_list_range hh e1 (range_small hz) (rangeSize_nat n) (by simpa using hz) fun h' tk acc' c' kp hS hi => ?_
    have hv : VRels h' acc'.toList (intsA n) := by
      refine VRels.of_get (by rw [Array.length_toList, hi.1, intsA, List.length_map, List.length_range]) fun j a v ha hv => ?_
      obtain ⟨t, rfl⟩ := hi.2 j v (by rw [← Array.getElem?_toList]; exact hv)
      have hj : j < n := by have := (List.getElem?_eq_some_iff.mp ha).1; simpa [intsA] using this
      simp only [intsA, List.getElem?_map, List.getElem?_range hj, Option.map_some, Option.some.injEq] at ha
      subst ha
      have : (0 : Int) + (j : Int) * 1 = (j : Int) := by omega
      rw [this]; exact .int _ _
    obtain ⟨R2, g2, fr⟩ := R0.alloc (s1 := { s with heap := h', toks := tk }) (ao := .list (intsA n)) (Nat.le_refl _) kp ⟨acc'.toList, ⟨c', by rw [Array.toArray_toList]; exact hS⟩, hv⟩ rfl rfl
    exact ⟨_, _, .con rfl, R2, g2, q _ fr⟩

/-! isinstance -/
theorem TCall.isinst {a : AV} {T U : String} {Q : AV → St → Prop} (h : TyOf σ.H a T) (hT : T ≠ "tuple") (hU : U = "list" ∨ U = "dict" ∨ U = "str")
    (q : Q (.con (.bool (decide (T = U)))) σ) : TCall C (.builtin "isinstance") [a, .con (.type U)] σ Q := by
  intro vs s R0 hv
  obtain ⟨v, w, rfl⟩ : ∃ v w, vs = [v, w] := by
    cases hv with
    | cons _ r => cases r with | cons _ r => cases r; exact ⟨_, _, rfl⟩
  obtain ⟨r1, r2⟩ := hv.inv2
  rw [r2.con_inv]
  have yes : ∀ {b : Bool} {tk : Nat}, Q (.con (.bool b)) σ → Post C VRel σ s Q (.bool b) { s with toks := tk } := fun q => Post.toks (.con rfl) R0 q
  cases h with
  | int i => obtain ⟨t, rfl⟩ := r1.int_inv; rcases hU with rfl | rfl | rfl <;> first | exact IsiPair.int_list (yes q) | exact IsiPair.int_dict (yes q) | exact IsiPair.int_str (yes q)
  | str x => obtain ⟨t, rfl⟩ := r1.str_inv; rcases hU with rfl | rfl | rfl <;> first | exact IsiPair.str_list (yes q) | exact IsiPair.str_dict (yes q) | exact IsiPair.str_str (yes (tk := s.toks) q)
  | tup l => exact absurd rfl hT
  | list h =>
    rw [r1.con_inv]; obtain ⟨ys, ⟨n, e⟩, _⟩ := (R0.objs _ _ h).1
    rcases hU with rfl | rfl | rfl <;> first | exact IsiPair.list_list e rfl (yes (tk := s.toks) q) | exact IsiPair.list_dict e rfl (yes q) | exact IsiPair.list_str e rfl (yes q)
  | dict h =>
    rw [r1.con_inv]; obtain ⟨⟨ds, h1, _⟩, _⟩ := h.of R0
    obtain ⟨o, es', ep, ho, hx, _⟩ := h1
    rcases hU with rfl | rfl | rfl <;> first | exact IsiPair.dict_list ho hx.1 (yes q) | exact IsiPair.dict_dict ho hx.1 (yes (tk := s.toks) q) | exact IsiPair.dict_str ho hx.1 (yes q)

/-! methods of the built-in types -/
theorem TMeth.list {l : Addr} {xs : List AV} {name : Str} {id : String} {Q : AV × List AV → St → Prop} (hl : σ.H l = some (.list xs)) (slot : Slot "list" name id) (hty : typeOf (.builtin id) = pure (.type "method_descriptor"))
    (q : Q (.con (.builtin id), [.con (.ref l)]) σ) : TMeth C (.con (.ref l)) name σ Q := by
  intro va pl s R0 hv
  have h1 := hv.inv1.con_inv
  subst h1
  obtain ⟨ys, ⟨n, e⟩, r⟩ := (R0.objs l _ hl).1
  refine getMethod_builtin (T := "list") ⟨_, e, rfl⟩ PySem.F.plainAttrs_list slot hty (fun a ha => by cases ha; exact ⟨_, e, rfl⟩) ?_
  exact Post.toks (tk := s.toks) (b := (AV.con (.builtin id), [AV.con (.ref l)])) ⟨.con rfl, .one (.con rfl)⟩ R0 q
theorem TCall.append {l : Addr} {xs : List AV} {a : AV} {Q : AV → St → Prop} (hl : σ.H l = some (.list xs)) (hz : xs.length ≤ 16777216) (q : Q (.con .none) (σ.put l (.list (xs ++ [a])))) : TCall C (.builtin "list.append") [.con (.ref l), a] σ Q := by
  intro vs s R0 hv
  obtain ⟨v, w, rfl⟩ : ∃ v w, vs = [v, w] := by
    cases hv with
    | cons _ r => cases r with | cons _ r => cases r; exact ⟨_, _, rfl⟩
  obtain ⟨r1, r2⟩ := hv.inv2
  rw [r1.con_inv]
  obtain ⟨ys, ⟨n, e⟩, r⟩ := (R0.objs l _ hl).1
  refine wpAny_list_append_plain ⟨n, e⟩ (fun h' hp hs' => ?_) (by rw [sizeLine_eq, List.size_toArray, r.length]; exact hz)
  obtain ⟨R2, g2⟩ := R0.store (ao' := .list (xs ++ [a])) (tk := s.toks) hl hs'.extBut fun tk => ⟨ys ++ [w], by simpa using hp, (r.keep tk).append (.one (r2.keep tk))⟩
  exact ⟨_, _, .con rfl, R2, g2, q⟩
end

def bindA : List (Str × AV) → (Str → Option AV) → Str → Option AV
  | [], m => m
  | (n, v) :: r, m => bindA r (upd m n v)

/-- the callee's context -/
@[reducible] def Cx.callee (C : Cx) (A : Around) (env : Env) (hk : env.scope.kind = .function) (eg : env.globals = mainGlobals) (eb : env.builtins = builtinsNs) : Cx :=
  { C with A := A.deeper env
           env := env
           X := fun _ _ _ _ => False
           hk := hk
           eg := eg
           eb := eb
           clo := fun _ _ _ _ _ _ _ _ h => h }

section
variable {C : Cx} {A : Around} {σ σ' : St} {s s1 s' : Shared} {env : Env}

theorem bind_rel {h : Heap} {kindOf : Str → Option NameKind} {x : Str} : ∀ {binds : List (Str × Value)} {ab : List (Str × AV)} {m cm : Str → Option Value} {ma : Str → Option AV}, DRel h binds ab → (kindOf x = some .local → ORel h (m x) (ma x)) → (kindOf x ≠ some .local → ORel h (cm x) (ma x)) →
    (kindOf x = some .local → ORel h (bindL kindOf binds m x) (bindA ab ma x)) ∧ (kindOf x ≠ some .local → ORel h (bindC kindOf binds cm x) (bindA ab ma x))
  | _, _, _, _, _, .nil, h1, h2 => ⟨h1, h2⟩
  | _, _, m, cm, ma, .cons (k := n) (v := v) (a := a) (ds := ds) (es := es) e r, h1, h2 => by
    unfold bindL bindC bindA
    refine bind_rel r (fun hx => ?_) fun hx => ?_
    · by_cases hn : n = x
      · subst hn; rw [if_pos hx]; unfold upd; simp only [if_true]; exact .some e
      · by_cases hk : kindOf n = some .local
        · rw [if_pos hk]; unfold upd; rw [if_neg (Ne.symm hn)]; simp only [if_neg (Ne.symm hn)]; exact h1 hx
        · rw [if_neg hk]; unfold upd; rw [if_neg (Ne.symm hn)]; exact h1 hx
    · by_cases hn : n = x
      · subst hn; rw [if_neg hx]; unfold upd; simp only [if_true]; exact .some e
      · by_cases hk : kindOf n = some .local
        · rw [if_pos hk]; unfold upd; rw [if_neg (Ne.symm hn)]; exact h2 hx
        · rw [if_neg hk]; unfold upd; rw [if_neg (Ne.symm hn)]; simp only [if_neg (Ne.symm hn)]; exact h2 hx

theorem call_enter {m cm : Str → Option Value} {ma : Str → Option AV} (R0 : C.R σ s) (kp : ∀ b o, s.heap.get? b = some o → s1.heap.get? b = some o) (hn : s1.heap.Ns env.locals m) (hL : s.heap.objs.size ≤ env.locals)
    (hc : ∀ n c, env.cells.lookup n = some c → s1.heap.IsCell c (cm n)) (ha : env.cells.Pairwise fun x y => x.2 ≠ y.2) (hab : ∀ n c, (n, c) ∈ env.cells → env.locals < c) (hnd : (env.cells.map (·.1)).Nodup)
    (hm : ∀ x, env.kindOf x = some .local → ORel s1.heap (m x) (ma x)) (hcm : ∀ x, env.kindOf x = some .cell → ORel s1.heap (cm x) (ma x)) (hcl : ∀ x, env.kindOf x = some .cell → (env.cells.lookup x).isSome = true)
    (hg : s1.gens = s.gens) (ho : s1.os = s.os) : Rep C.prog C.w C.h₀ C.os env ⟨ma, σ.H⟩ s1 ∧ ∀ d ∈ own env, s.heap.get? d = none := by
  have tk : TupKeep s.heap s1.heap := fun a _ _ e => kp a _ e
  have big : ∀ d ∈ own env, s.heap.objs.size ≤ d := fun d hd => by
    rcases List.mem_cons.mp hd with rfl | q
    · exact hL
    · obtain ⟨p, hp, rfl⟩ := List.mem_map.mp q
      exact Nat.le_trans hL (Nat.le_of_lt (hab p.1 p.2 hp))
  have lk : ∀ {l : List (Str × Addr)} {p : Str × Addr}, (l.map (·.1)).Nodup → p ∈ l → l.lookup p.1 = some p.2 := by
    intro l
    induction l with
    | nil => intro p _ h; cases h
    | cons q r ih =>
      intro p hd h
      rw [List.map_cons, List.nodup_cons] at hd
      obtain ⟨y, d⟩ := q
      rcases List.mem_cons.mp h with rfl | h
      · rw [List.lookup_cons, beq_self_eq_true]
      · rw [List.lookup_cons]
        have : (p.1 == y) = false := by
          rw [beq_eq_false_iff_ne]; intro e; exact hd.1 (List.mem_map.mpr ⟨p, h, e⟩)
        rw [this]; exact ih hd.2 h
  have fresh : ∀ d ∈ own env, s.heap.get? d = none := fun d hd => by
    cases q : s.heap.get? d with
    | none => rfl
    | some o => exact absurd (Heap.lt_size q) (Nat.not_lt.mpr (big d hd))
  refine ⟨⟨fun b o e => kp b o (R0.keep b o e), ⟨m, hn, hm⟩, fun x hx => ?_, fun a o e => ?_, fun d hd => ?_, fun q => ?_, fun x y c _ _ e1 e2 => ?_, hg.trans R0.gens, ho.trans R0.os⟩, fresh⟩
  · obtain ⟨c, h1⟩ := Option.isSome_iff_exists.mp (hcl x hx)
    exact ⟨c, cm x, h1, hc x c h1, hcm x hx⟩
  · obtain ⟨h1, h2, h3⟩ := R0.objs a o e
    refine ⟨h1.keep tk (kp a), h2, fun q => ?_⟩
    obtain ⟨ob, e', _⟩ := h1.notTup
    rw [fresh a q] at e'; cases e'
  · refine ⟨Nat.le_trans R0.size (big d hd), ?_⟩
    rcases List.mem_cons.mp hd with rfl | q
    · obtain ⟨o, es, ep, e, hd', _⟩ := hn
      exact ⟨o, e, fun xs n e2 => by rw [e2] at hd'; cases hd'⟩
    · obtain ⟨p, hp, rfl⟩ := List.mem_map.mp q
      obtain ⟨o, e, hd'⟩ := hc _ _ (lk hnd hp)
      exact ⟨o, e, fun xs n e2 => by rw [e2] at hd'; cases hd'⟩
  · obtain ⟨p, hp, e⟩ := List.mem_map.mp q
    exact absurd (hab p.1 p.2 hp) (by rw [e]; exact Nat.lt_irrefl _)
  · have m1 := mem_of_lookup e1
    have m2 := mem_of_lookup e2
    have inj : ∀ {l : List (Str × Addr)} {p q : Str × Addr}, (l.Pairwise fun x y => x.2 ≠ y.2) → p ∈ l → q ∈ l → p.2 = q.2 → p = q := by
      intro l
      induction l with
      | nil => intro p q _ h; cases h
      | cons z r ih =>
        intro p q hp h1 h2 e
        rw [List.pairwise_cons] at hp
        rcases List.mem_cons.mp h1 with a1 | a1 <;> rcases List.mem_cons.mp h2 with a2 | a2
        · rw [a1, a2]
        · exact absurd (by rw [← a1]; exact e) (hp.1 _ a2)
        · exact absurd (by rw [← a2]; exact e.symm) (hp.1 _ a1)
        · exact ih hp.2 a1 a2 e
    exact (Prod.mk.inj (inj ha m1 m2 rfl)).1

theorem call_back {ma : Str → Option AV} (R0 : C.R σ s) (kp : ∀ b o, s.heap.get? b = some o → s1.heap.get? b = some o) (fresh : ∀ d ∈ own env, s.heap.get? d = none)
    (R' : Rep C.prog C.w C.h₀ C.os env σ' s') (g : Grow env ⟨ma, σ.H⟩ s1 σ' s') : C.R ⟨σ.m, σ'.H⟩ s' ∧ C.G σ s ⟨σ.m, σ'.H⟩ s' := by
  have still : ∀ b o, s.heap.get? b = some o → σ.H b = none → s'.heap.get? b = some o ∧ σ'.H b = none := fun b o e n =>
    g.2 b o (kp b o e) (fun q => by rw [fresh b q] at e; cases e) n
  have tk : TupKeep s.heap s'.heap := fun a xs n e => (still a _ e (R0.tup e).2).1
  have hown : ∀ d ∈ own C.env, ∃ o, s.heap.get? d = some o ∧ notTup o ∧ σ.H d = none := fun d hd => by
    obtain ⟨_, o, e, nt⟩ := R0.owns d hd
    refine ⟨o, e, nt, ?_⟩
    cases q : σ.H d with
    | none => rfl
    | some o' => exact absurd hd (R0.objs _ _ q).2.2
  refine ⟨⟨R'.keep, ?_, fun x hx => ?_, fun a o e => ?_, fun d hd => ?_, R0.apart, R0.inj, R'.gens, R'.os⟩, fun b o e => g.1 b o (kp b o e), fun b o e _ n => still b o e n⟩
  · obtain ⟨m', hn, hm⟩ := R0.locs
    obtain ⟨_, _, _, hH⟩ := hown C.env.locals List.mem_cons_self
    exact ⟨m', hn.at' fun o e => (still _ o e hH).1, fun x hx => (hm x hx).keep tk⟩
  · obtain ⟨c, v, h1, ⟨o, h2, hd⟩, h3⟩ := R0.cels x hx
    obtain ⟨_, _, _, hH⟩ := hown c (List.mem_cons_of_mem _ (List.mem_map.mpr ⟨_, mem_of_lookup h1, rfl⟩))
    exact ⟨c, v, h1, ⟨o, (still c o h2 hH).1, hd⟩, h3.keep tk⟩
  · obtain ⟨k1, k2, k3⟩ := R'.objs a o e
    refine ⟨k1, k2, fun q => ?_⟩
    obtain ⟨ob, e1, _, hH⟩ := hown a q
    have := (still a ob e1 hH).2
    rw [show σ'.H a = some o from e] at this; cases this
  · obtain ⟨o, e, nt, hH⟩ := hown d hd
    exact ⟨(R0.owns d hd).1, o, (still d o e hH).1, nt⟩

def retOf : AFl → AV
  | .ret v => v
  | _ => .con .none

theorem cellsFrom_names {n n' : Nat} : ∀ {names : List (Str × NameKind)} {acc acc' : List (Str × Addr)}, acc.map (·.1) = acc'.map (·.1) → (cellsFrom n names acc).map (·.1) = (cellsFrom n' names acc').map (·.1) := by
  intro names
  induction names generalizing n n' with
  | nil => intro acc acc' h; exact h
  | cons p r ih =>
    intro acc acc' h
    obtain ⟨x, k⟩ := p
    unfold cellsFrom
    cases hk : k == .cell
    · simp only [Bool.false_eq_true, if_false]; exact ih h
    · simp only [if_true]; exact ih (by simp [h])

theorem code_user {R : Result → Shared → Prop} {name qual : Str} {params : Arguments} {body : List Stmt} {scope : Scope} {dV kV doc pm cdv ct oc : Value} {an od : Option Addr} {osl : Array (Option Value)} {f : Addr} {args : Args} {binds : List (Str × Value)} {ab : List (Str × AV)} {Q : AFl → St → Prop}
    (R0 : C.R σ s) (ho : C.K.lookup f = some ⟨oc, od, .func (fnOf name qual params body scope dV kV doc pm an cdv ct), osl⟩) (hcd : codeIn C.K cdv qual = true) (hroom : A.depth < recursionLimit)
    (hbind : BindsTo s (fnOf name qual params body scope dV kV doc pm an cdv ct) args binds) (hb : DRel s.heap binds ab)
    (hkind : (binds.all fun y => scope.names.lookup y.1 == some .local || scope.names.lookup y.1 == some .cell) = true) (hnd : ((cellsFrom 0 scope.names []).map (·.1)).Nodup)
    (hco : scope.isCoroutine = false) (hgen : scope.isGenerator = false) (hk : scope.kind = .function)
    (h : ∀ env hk eg eb, env.scope = scope → TS (C.callee A env hk eg eb) body ⟨bindA ab fun _ => none, σ.H⟩ Q)
    (fin : ∀ fl v σ' s', Q fl σ' → VRel s'.heap v (retOf fl) → C.R ⟨σ.m, σ'.H⟩ s' → C.G σ s ⟨σ.m, σ'.H⟩ s' → R (.ok (.ret v)) s') :
    codeAny C.M A (.call (.ref f) args) R s := by
  refine codeAny_call_function hroom (R0.kin f _ ho) rfl hco hgen rfl (codeRec_of R0.kin hcd) (hbind _ _ _ _ ?_)
  refine wpAny_newFunctionEnv_cells hk (kindsX hkind _) fun env he s1 x => ⟨C.hlim.keeps fun b o e => x.toInCall.keep b o (R0.keep b o e), codeAny_func ?_⟩
  have hs : env.scope = scope := by rw [he]; rfl
  have kp := x.toInCall.keep
  have tk : TupKeep s.heap s1.heap := fun a _ _ e => kp a _ e
  have rel := fun y => bind_rel (h := s1.heap) (kindOf := env.kindOf) (x := y) (m := fun _ => none) (cm := fun _ => none) (ma := fun _ => none) (hb.keep tk) (fun _ => .none) fun _ => .none
  obtain ⟨h1, tk1, e1⟩ := x.toInCall.same
  have hec : env.cells = cellsFrom (s.heap.objs.size + 1) scope.names [] := by rw [he]; rfl
  obtain ⟨RC, fr⟩ := call_enter (env := env) (ma := bindA ab fun _ => none) R0 kp x.toInCall.ns x.toInCall.fresh x.cell x.apart x.above
    (by rw [hec, cellsFrom_names (n' := 0) (acc' := []) rfl]; exact hnd) (fun y hy => (rel y).1 hy) (fun y hy => (rel y).2 (by rw [hy]; decide))
    (fun y hy => by
      rw [hec]
      refine cellsFrom_some _ _ _ (.inl ?_)
      have : env.scope.names.lookup y = some .cell := hy
      rwa [hs] at this) (by rw [e1]) (by rw [e1])
  have key := h env (by rw [hs]; exact hk) (by rw [he]; rfl) (by rw [he]; rfl) hs
  refine wpAny_mono (key s1 RC .nil) (fun fl s' p => ?_) fun _ _ x => x.elim
  obtain ⟨b, σ', rf, R', g, q⟩ := p
  obtain ⟨R2, g2⟩ := call_back R0 kp fr R' g
  cases rf with
  | next => exact fin .next .none σ' s' q (.con rfl) R2 g2
  | brk => exact fin .brk .none σ' s' q (.con rfl) R2 g2
  | cont => exact fin .cont .none σ' s' q (.con rfl) R2 g2
  | ret e => exact fin (.ret _) _ σ' s' q e R2 g2
end

section
variable {C : Cx} {σ : St}

theorem zip_rel {h : Heap} : ∀ {ps : List Str} {vs : List Value} {as : List AV}, VRels h vs as → DRel h (ps.zip vs) (ps.zip as)
  | [], _, _, _ => by simp [List.zip]; exact .nil
  | _ :: _, _, _, .nil => .nil
  | p :: ps, _, _, .cons e r => .cons e (zip_rel r)
theorem con_rel {h : Heap} : ∀ {ds : List (Str × Value)}, (∀ p ∈ ds, plainV p.2 = true) → DRel h ds (ds.map fun p => (p.1, AV.con p.2))
  | [], _ => .nil
  | _ :: _, k => .cons (.con (k _ List.mem_cons_self)) (con_rel fun p hp => k p (List.mem_cons_of_mem _ hp))

/-- a function of the program's, as K has it -/
structure FnAt (K : Frag) (f : Addr) (body : List Stmt) (scope : Scope) (fd : FuncData) : Prop where
  at_ : ∃ oc od name qual params dV kV doc pm an cdv ct osl, K.lookup f = some ⟨oc, od, .func fd, osl⟩ ∧ fd = fnOf name qual params body scope dV kV doc pm an cdv ct ∧ codeIn K cdv qual = true
  nd : ((cellsFrom 0 scope.names []).map (·.1)).Nodup
  co : scope.isCoroutine = false
  gen : scope.isGenerator = false
  kind : scope.kind = .function
def kindsOk (scope : Scope) (ps : List Str) : Bool := ps.all fun y => scope.names.lookup y == some .local || scope.names.lookup y == some .cell

theorem FnAt.code {A : Around} {s : Shared} {R : Result → Shared → Prop} {f : Addr} {body : List Stmt} {scope : Scope} {fd : FuncData} (F : FnAt C.K f body scope fd) {args : Args} {binds : List (Str × Value)} {ab : List (Str × AV)} {Q : AFl → St → Prop}
    (R0 : C.R σ s) (hroom : A.depth < recursionLimit) (hbind : BindsTo s fd args binds) (hb : DRel s.heap binds ab) (hk : kindsOk scope (ab.map (·.1)) = true)
    (h : ∀ env hk eg eb, env.scope = scope → TS (C.callee A env hk eg eb) body ⟨bindA ab fun _ => none, σ.H⟩ Q)
    (fin : ∀ fl v σ' s', Q fl σ' → VRel s'.heap v (retOf fl) → C.R ⟨σ.m, σ'.H⟩ s' → C.G σ s ⟨σ.m, σ'.H⟩ s' → R (.ok (.ret v)) s') : codeAny C.M A (.call (.ref f) args) R s := by
  obtain ⟨⟨oc, od, name, qual, params, dV, kV, doc, pm, an, cdv, ct, osl, e1, rfl, e2⟩, nd, co, gen, kind⟩ := F
  refine code_user R0 e1 e2 hroom hbind hb ?_ nd co gen kind h fin
  unfold kindsOk at hk
  rw [← hb.keys, List.all_map] at hk
  exact hk

theorem TCall.user {f : Addr} {body : List Stmt} {scope : Scope} {fd : FuncData} (F : FnAt C.K f body scope fd) {as : List AV} {ps : List Str} {ds : List (Str × Value)} {Q : AV → St → Prop}
    (hl : as.length = ps.length) (hds : ∀ p ∈ ds, plainV p.2 = true) (hroom : C.A.depth < recursionLimit) (hk : kindsOk scope (ps ++ ds.map (·.1)) = true)
    (hbind : ∀ vs s, vs.length = ps.length → C.K.In s.heap → BindsTo s fd ⟨vs, []⟩ (ps.zip vs ++ ds))
    (h : ∀ env hk eg eb, env.scope = scope → TS (C.callee C.A env hk eg eb) body ⟨bindA (ps.zip as ++ ds.map fun p => (p.1, AV.con p.2)) fun _ => none, σ.H⟩ fun fl σ' => Q (retOf fl) ⟨σ.m, σ'.H⟩) : TCall C (.ref f) as σ Q := by
  intro vs s R0 hv
  refine wpAny_call (F.code R0 hroom (hbind vs s (by rw [hv.length, hl]) R0.kin) ((zip_rel hv).append (con_rel hds)) ?_ h fun fl v σ' s' q r R' g => ⟨_, _, r, R', g, q⟩)
  rw [List.map_append, List.map_fst_zip (by omega), List.map_map]
  exact hk
/-! making an instance -/
theorem TCall.cls {c f : Addr} {body : List Stmt} {scope : Scope} {fd : FuncData} (F : FnAt C.K f body scope fd) {p : Str} {Q : AV → St → Prop} (hm : makesIn C.K c = true) (hi : findIn C.K (.ref c) "__init__" = some (some (.ref f))) (hf : isFn C.K (.ref f) = true)
    (hroom : (C.A.under (.builtin "type.__call__" ⟨[.ref c], []⟩)).depth < recursionLimit) (hk : kindsOk scope [p] = true)
    (hbind : ∀ v s, C.K.In s.heap → BindsTo s fd ⟨[v], []⟩ [(p, v)])
    (h : ∀ x dx, σ.H x = none → σ.H dx = none → x ≠ dx → ∀ env hk eg eb, env.scope = scope → TS (C.callee (C.A.under (.builtin "type.__call__" ⟨[.ref c], []⟩)) env hk eg eb) body ⟨bindA [(p, .con (.ref x))] fun _ => none, ((σ.put dx (.dict [])).put x (.inst c dx)).H⟩
      fun fl σ' => retOf fl = .con .none ∧ Q (.con (.ref x)) ⟨σ.m, σ'.H⟩) : TCall C (.ref c) [] σ Q := by
  intro vs s R0 hv
  cases hv
  have X := R0.kin
  obtain ⟨hh, g, d, t, os⟩ := s
  refine wpAny_call (make_core (makes_of X hm) (looks_findIn X hi) (fun self => bind_fn X self (beq_iff_eq.mp hf)) (.inl rfl) ?_)
  obtain ⟨R1, g1, n1⟩ := R0.allocPush (ob := emptyDict) (ao := .dict []) ⟨[], ⟨_, #[], 0, Heap.get?_push_size _ rfl, ⟨rfl, rfl, rfl⟩, rfl, (fun _ h => by simp at h), .nil, .nil⟩, .nil⟩
  obtain ⟨R2, g2, n2⟩ := R1.allocPush (ob := instObj c hh.objs.size) (ao := .inst c hh.objs.size) (Heap.get?_push_size _ rfl)
  simp only [Heap.size_push] at R2 g2 n2
  have hne : hh.objs.size + 1 ≠ hh.objs.size := Nat.succ_ne_self _
  have n2' : σ.H (hh.objs.size + 1) = none := (AH.put_ne (H := σ.H) (o := .dict []) (a := hh.objs.size) hne).symm.trans n2
  refine F.code (σ := (σ.put hh.objs.size (.dict [])).put (hh.objs.size + 1) (.inst c hh.objs.size)) (binds := [(p, .ref (hh.objs.size + 1))]) (ab := [(p, .con (.ref (hh.objs.size + 1)))]) R2 hroom (hbind _ _ R2.kin) (.cons (.con rfl) .nil) hk (h _ _ n2' n1 hne) ?_
  intro fl v σ' s' q r R' g'
  obtain ⟨q1, q2⟩ := q
  rw [q1] at r
  refine ⟨r.con_inv, _, _, .con rfl, R', (g1.trans g2).trans g', q2⟩

/-! attributes of an instance -/
theorem inst_at {s : Shared} {x c dx : Addr} {es : List (Str × AV)} (R0 : C.R σ s) (hx : σ.H x = some (.inst c dx)) (hd : σ.H dx = some (.dict es)) :
    ∃ ds n, InstAt s.heap x (instObj c dx) c (some (dictOf ds n)) ∧ Pairs (PySem.strKind C.prog C.w) ds (ds.map fun e => ((match e.key with | .str x _ => x | _ => default), e.val)) ∧
      DRel s.heap (ds.map fun e => ((match e.key with | .str x _ => x | _ => default), e.val)) es ∧ (∀ e ∈ ds, ∃ t, ∃ y : Str, e.key = .str y t) ∧ KeysOf (PySem.strKind C.prog C.w) ds.toArray := by
  obtain ⟨kvs, ⟨o, es', ep, e1, ⟨e2, e3, e4⟩, e5, ko, pr, nd⟩, rd⟩ := (R0.objs dx _ hd).1
  have hs : ∀ e ∈ es'.toList, ∃ t, ∃ y : Str, e.key = .str y t := fun e he => by
    obtain ⟨k, hk, _⟩ := ko e (by simpa using he)
    obtain ⟨t, ht⟩ := Value.isStrOf_shape hk
    exact ⟨t, k, ht⟩
  have hp : ∀ {l : List DictEntry} {kvs : List (Str × Value)}, Pairs (PySem.strKind C.prog C.w) l kvs → kvs = l.map fun e => ((match e.key with | .str x _ => x | _ => default), e.val) := by
    intro l kvs pr
    induction pr with
    | nil => rfl
    | cons a b _ ih =>
      obtain ⟨t, ht⟩ := Value.isStrOf_shape a
      rw [List.map_cons, ← ih, ht, b]
  have hk := hp pr
  subst hk
  refine ⟨es'.toList, ep, ⟨(R0.objs x _ hx).1, rfl, rfl, ?_⟩, pr, rd, hs, by simpa using ko⟩
  show s.heap.get? dx = some (dictOf es'.toList ep)
  rw [e1]
  obtain ⟨a, b, cc, dd⟩ := o
  dsimp only at e2 e3 e4 e5
  subst e2; subst e3; subst e4; subst e5
  simp [dictOf]
theorem getL_at {h : Heap} {name : Str} : ∀ {ds : List DictEntry} {es : List (Str × AV)}, DRel h (ds.map fun e => ((match e.key with | .str x _ => x | _ => default), e.val)) es → (∀ e ∈ ds, ∃ t, ∃ y : Str, e.key = .str y t) →
    match valA es name with | some a => ∃ v, getL name ds = some (some v) ∧ VRel h v a | none => getL name ds = some none := by
  intro ds es r hs
  have any : ∀ {l : List DictEntry}, (∀ e ∈ l, ∃ t, ∃ y : Str, e.key = .str y t) → l.any (·.refKey) = false := by
    intro l hl
    rw [List.any_eq_false]
    intro e he
    obtain ⟨t, y, hk⟩ := hl e he
    simp [DictEntry.refKey, hk]
  have fnd : ∀ {ds : List DictEntry} {es : List (Str × AV)}, DRel h (ds.map fun e => ((match e.key with | .str x _ => x | _ => default), e.val)) es → (∀ e ∈ ds, ∃ t, ∃ y : Str, e.key = .str y t) →
      match valA es name with | some a => ∃ e, ds.find? (·.key.isStr name) = some e ∧ VRel h e.val a | none => ds.find? (·.key.isStr name) = none := by
    intro ds
    induction ds with
    | nil => intro es r _; cases r; rfl
    | cons e l ih =>
      intro es r hs
      obtain ⟨t, y, hk⟩ := hs e List.mem_cons_self
      rw [List.map_cons, hk] at r
      cases r with
      | cons rv r =>
        have i := ih r fun e he => hs e (List.mem_cons_of_mem _ he)
        unfold valA at i ⊢
        rw [List.find?_cons, List.find?_cons, hk]
        by_cases hy : y = name
        · subst hy
          have : (Value.str y t).isStr y = true := by simp [Value.isStr]
          simp only [this, decide_true, Option.map_some]
          exact ⟨e, rfl, rv⟩
        · have : (Value.str y t).isStr name = false := by simp [Value.isStr, hy]
          simp only [this, hy, decide_false]
          exact i
  have f := fnd r hs
  unfold getL
  cases hq : valA es name with
  | none => rw [hq] at f; dsimp only at f ⊢; rw [f]; dsimp only; rw [any hs]; rfl
  | some a => rw [hq] at f; dsimp only at f ⊢; obtain ⟨e, f1, f2⟩ := f; rw [f1]; exact ⟨_, rfl, f2⟩

theorem TAttr.inst {x c dx : Addr} {es : List (Str × AV)} {name : Str} {a : AV} {Q : AV → St → Prop} (hx : σ.H x = some (.inst c dx)) (hd : σ.H dx = some (.dict es)) (hg : plainGet C.K c name = true) (hh : hasDictIn C.K c = true)
    (ha : findIn C.K (.ref c) name = some none) (hv : valA es name = some a) (hp : ∃ d, a = .con (.ref d)) (q : Q a σ) : TAttr C (.con (.ref x)) name σ Q := by
  intro va s R0 hr
  rw [hr.inv1.con_inv]
  obtain ⟨ds, n, I, _, rd, hs, _⟩ := inst_at R0 hx hd
  have g := getL_at (name := name) rd hs
  rw [hv] at g
  obtain ⟨v, g1, g2⟩ := g
  obtain ⟨m', F⟩ := R0.fr
  obtain ⟨d, rfl⟩ := hp
  rw [g2.con_inv] at g1
  exact get_own F C.hK I hg hh ha rfl g1 rfl (Post.toks (.con rfl) R0 q)
theorem TMeth.inst {x c dx f : Addr} {es : List (Str × AV)} {name : Str} {Q : AV × List AV → St → Prop} (hx : σ.H x = some (.inst c dx)) (hd : σ.H dx = some (.dict es)) (hg : plainGet C.K c name = true)
    (hf : findIn C.K (.ref c) name = some (some (.ref f))) (ht : isFn C.K (.ref f) = true) (hv : valA es name = none) (q : Q (.con (.ref f), [.con (.ref x)]) σ) : TMeth C (.con (.ref x)) name σ Q := by
  intro va pl s R0 hr
  rw [hr.inv1.con_inv]
  obtain ⟨ds, n, I, _, rd, hs, _⟩ := inst_at R0 hx hd
  have g := getL_at (name := name) rd hs
  rw [hv] at g
  obtain ⟨m', F⟩ := R0.fr
  exact method_inst F C.hK I hg hf ht g (Post.toks (tk := s.toks) (b := (AV.con (.ref f), [AV.con (.ref x)])) ⟨.con rfl, .one (.con rfl)⟩ R0 q)
end

section
variable {C : Cx} {σ : St}

def TSetA (C : Cx) (o : AV) (name : Str) (v : AV) (σ : St) (Q : Unit → St → Prop) : Prop := ∀ vo vv, TV C [vo, vv] [o, v] RU (setAttr vo name vv) σ Q
theorem TX.assignAttr {o e : PySem.Expr} {name : Str} {p pos : Pos} {Q : AFl → St → Prop} (h : TE C e σ fun a σ1 => TE C o σ1 fun b σ2 => TSetA C b name a σ2 fun _ σ3 => Q .next σ3)
    (hsw : swapsWith e (some (.Attribute o name p)) pos.line C.env = pure false := by rfl) : TX C (.Assign [.Attribute o name p] e pos) σ Q := by
  intro s R0 _
  refine plainObj_wpAny_Assign_Attribute (h.here R0 .nil fun va a σ1 s1 ra R1 g1 k1 q => ?_) hsw
  refine q.andThen R0 R1 g1 .nil fun vb b σ2 s2 rb R2 g2 _ k2 q => ?_
  exact (q vb va).andThen R0 R2 g2 (.mk2 rb (ra.keep k2)) fun _ _ σ3 s3 _ R3 g3 _ _ q => ⟨.next, σ3, .next, R3, g3, q⟩

/-- a first attribute laid into an instance's empty dict -/
theorem TSetA.first {x c dx : Addr} {name : Str} {a : AV} {Q : Unit → St → Prop} (hx : σ.H x = some (.inst c dx)) (hd : σ.H dx = some (.dict []))
    (hs : findIn C.K (.ref c) "__setattr__" = some (some (.builtin "object.__setattr__"))) (hp : plainOver C.K c = true) (ht : takerIn C.K c name = some none) (hh : hasDictIn C.K c = true)
    (q : Q () (σ.put dx (.dict [(name, a)]))) : TSetA C (.con (.ref x)) name a σ Q := by
  intro vo vv s R0 hr
  obtain ⟨r1, r2⟩ := hr.inv2
  rw [r1.con_inv]
  obtain ⟨ds, n, I, pr, rd, _, _⟩ := inst_at R0 hx hd
  have e0 : ds = [] := by
    cases ds with
    | nil => rfl
    | cons e l => cases rd
  subst e0
  have hdx : s.heap.get? dx = some (dictOf [] n) := I.dict
  have hX := R0.kin
  obtain ⟨cd, hc, hd'⟩ := any_some hh
  have hxx := (R0.objs x _ hx).1
  have U := Heap.get?_update_self (Obj.putName name (PyData.keyHash C.w.params name) (.str name (s.toks + 1)) vv) hdx (by rw [putName_dict]; rfl)
  rw [putName_dict] at U
  refine set_plain hX I hs (osa_open hX (od := some (dictOf [] n)) I hp ht fun b => ?_)
  refine wpAny_bind (wpAny_pure (wpAny_bind (wpAny_bind (wpAny_loadPart hxx (wpAny_bind (Looks.here (s := { s with toks := s.toks + 1 }) (looks_clsIn (h := s.heap) hX hc) ?_))))))
  rw [hd']
  refine wpAny_pure (a := some dx) (wpAny_bind (wpAny_pure (wpAny_bind ?_)))
  unfold nsSet
  refine wpAny_bind (wpAny_bind (wpAny_askSetting (wpAny_pure (wpAny_bind (wpAny_mkText (wpAny_bind (wpAny_loadPart hdx ?_)))))))
  dsimp only
  rw [aRefKeyMayBeTheName_at]
  have c0 : ((!(#[] : Array DictEntry).any fun x => x.key.isStr name) && (#[] : Array DictEntry).any fun x => x.refKey) = false := by simp
  rw [show (([] : List DictEntry).toArray) = #[] from rfl, c0]
  refine wpAny_updatePart (s := { s with toks := s.toks + 1 + 1 }) hdx ?_
  refine wpAny_bind (wpAny_lookBehind U (pastItsLine_dict (by rw [List.size_toArray, sizeLine_eq]; show 1 ≤ _; omega)) ?_)
  refine wpAny_pure ?_
  obtain ⟨R2, g2⟩ := R0.store (tk := s.toks + 1 + 1) (ao' := .dict [(name, a)]) hd (Heap.SameBut.update ..).extBut fun tk =>
    ⟨[(name, vv)], ⟨_, _, _, U, ⟨rfl, rfl, rfl⟩, rfl, fun e he => by
      have he : e = ⟨PyData.keyHash C.w.params name, .str name (s.toks + 1), vv⟩ := by simpa [putL] using he
      subst he
      exact ⟨name, strKind_is C.prog C.w name _, rfl⟩, .cons (strKind_is C.prog C.w name _) rfl .nil, by simp⟩, .cons (r2.keep tk) .nil⟩
  exact ⟨(), _, trivial, R2, g2, q⟩
end

theorem upd_same {m : Str → Option AV} {x : Str} {v : AV} : upd m x v x = some v := by simp [upd]
theorem upd_ne {m : Str → Option AV} {x y : Str} {v : AV} (h : y ≠ x) : upd m x v y = m y := by simp [upd, h]
theorem set_same {σ : St} {x : Str} {v : AV} : (σ.set x v).m x = some v := upd_same
theorem set_ne {σ : St} {x y : Str} {v : AV} (h : y ≠ x) : (σ.set x v).m y = σ.m y := upd_ne h
theorem put_m {σ : St} {a : Addr} {o : AO} {y : Str} : (σ.put a o).m y = σ.m y := rfl
theorem mk_m {m : Str → Option AV} {H : AH} {y : Str} : (St.mk m H).m y = m y := rfl
theorem putH_self {σ : St} {a : Addr} {o : AO} : (σ.put a o).H a = some o := AH.put_self
theorem putH_ne {σ : St} {a b : Addr} {o : AO} (h : b ≠ a) : (σ.put a o).H b = σ.H b := AH.put_ne h

/-- a context of the program whose written part is K, n calls deep -/
structure Wd (K : Frag) (C : Cx) (n : Nat) : Prop where
  K : C.K = K
  B : ∀ x : Str, x ≠ "__name__" → C.mb x = bootBuiltins x
  calm : C.Calm
  hand : C.A.handled = none
  depth : C.A.depth ≤ 310 + n
  units : C.A.units ≤ 100 + 10 * n

section
variable {C : Cx} {σ : St} {sc : Scope} {K : Frag} {n : Nat}
theorem Wd.room (W : Wd K C n) (h : n ≤ 100) : C.A.depth < recursionLimit := by have := W.depth; show C.A.depth < 1000; omega
theorem Wd.unit (W : Wd K C n) (h : n ≤ 100) : C.A.units + 64 < cLine := by have := W.units; show C.A.units + 64 < 9900; omega
theorem Wd.callee (W : Wd K C n) {env : Env} {hk eg eb} : Wd K (C.callee C.A env hk eg eb) (n + 1) :=
  ⟨W.K, W.B, fun _ _ _ _ h => h, W.hand, by show C.A.depth + 1 ≤ _; have := W.depth; omega, by show C.A.units + 3 ≤ _; have := W.units; omega⟩
theorem Wd.comp (W : Wd K C n) {sc cl L hk} : Wd K (C.comp sc cl L hk) n := ⟨W.K, W.B, fun _ _ _ _ h => h, W.hand, W.depth, W.units⟩

theorem TE.globK {x : Str} {pos : Pos} {v : Value} {Q : AV → St → Prop} (W : Wd K C n) (hs : C.env.scope = sc) (hx : sc.names.lookup x = some .globalImplicit) (e : nsIn K mainGlobals x = some (some v)) (hp : plainV v = true) (q : Q (.con v) σ)
    (hd : (x == ("__debug__" : Str)) = false := by decide) : TE C (.Name x pos) σ Q :=
  TE.glob hs hx (mg_of C.hK C.hg (by rw [W.K]; exact e)) hp q hd
theorem TE.bltnK {x : Str} {pos : Pos} {v : Value} {Q : AV → St → Prop} (W : Wd K C n) (hs : C.env.scope = sc) (hx : sc.names.lookup x = some .globalImplicit) (e : nsIn K mainGlobals x = some none) (hn : x ≠ "__name__") (hv : bootBuiltins x = some v) (hp : plainV v = true) (q : Q (.con v) σ)
    (hd : (x == ("__debug__" : Str)) = false := by decide) : TE C (.Name x pos) σ Q :=
  TE.bltn hs hx (mg_none_of C.hK C.hg (by rw [W.K]; exact e)) (by rw [W.B x hn]; exact hv) hp q hd

/-- what is no longer of interest is let go -/
theorem noInter (hs : C.env.scope = sc) (hk : sc.kind = .function) : interactive C.env = false := by unfold interactive; rw [hs, hk]; rfl
end

section
variable {C : Cx} {σ : St} {x y z u : Str} {px py pz pu pos : Pos} {k : Nat} {a b c d : AV} {Q : Unit → St → Prop}
theorem TSt.mono {Q' : Unit → St → Prop} (h : TSt C x a σ Q) (k : ∀ σ', Q () σ' → Q' () σ') : TSt C x a σ Q' := fun va => TV.mono (h va) fun _ σ' q => k σ' q
theorem TAsg.names2 (hh : C.A.handled = none) (h : TSt C x a σ fun _ σ1 => TSt C y b σ1 Q) : TAsg C (.Tuple [.Name x px, .Name y py] k pos) (.tup [a, b]) σ Q :=
  TAsg.tuple (ts := [PySem.assign (.Name x px) C.env, PySem.assign (.Name y py) C.env]) hh rfl rfl rfl (.cons (.name (h.mono fun _ h => .cons (.name (h.mono fun _ q => .nil q)))))
theorem TAsg.names3 (hh : C.A.handled = none) (h : TSt C x a σ fun _ σ1 => TSt C y b σ1 fun _ σ2 => TSt C z c σ2 Q) : TAsg C (.Tuple [.Name x px, .Name y py, .Name z pz] k pos) (.tup [a, b, c]) σ Q :=
  TAsg.tuple (ts := [PySem.assign (.Name x px) C.env, PySem.assign (.Name y py) C.env, PySem.assign (.Name z pz) C.env]) hh rfl rfl rfl (.cons (.name (h.mono fun _ h => .cons (.name (h.mono fun _ h => .cons (.name (h.mono fun _ q => .nil q)))))))
theorem TAsg.names4 (hh : C.A.handled = none) (h : TSt C x a σ fun _ σ1 => TSt C y b σ1 fun _ σ2 => TSt C z c σ2 fun _ σ3 => TSt C u d σ3 Q) : TAsg C (.Tuple [.Name x px, .Name y py, .Name z pz, .Name u pu] k pos) (.tup [a, b, c, d]) σ Q :=
  TAsg.tuple (ts := [PySem.assign (.Name x px) C.env, PySem.assign (.Name y py) C.env, PySem.assign (.Name z pz) C.env, PySem.assign (.Name u pu) C.env]) hh rfl rfl rfl (.cons (.name (h.mono fun _ h => .cons (.name (h.mono fun _ h => .cons (.name (h.mono fun _ h => .cons (.name (h.mono fun _ q => .nil q)))))))))
end
section
variable {C : Cx} {σ : St} {sc : Scope} {K : Frag} {n : Nat}
/-- what a comprehension asks for, the inner context opaque -/
def CompW (K : Frag) (n : Nat) (C : Cx) (sc : Scope) (target elt : PySem.Expr) (test : Option PySem.Expr) (a : AV) (σ1 : St) (F : List AV → AH → Addr → Prop) : Prop :=
  ∃ xs ok I, IterAs C a xs ok ∧ xs.length ≤ 16777216 ∧ (∀ i acc H, i ≤ xs.length → I i acc H → ok H) ∧ I 0 [] σ1.H ∧
    (∀ C2 i x acc σ2, Wd K C2 n → C2.env.scope = relab sc → C2.A.handled = none → xs[i]? = some x → I i acc σ2.H → Same sc σ1.m σ2.m → CTurn C2 sc σ1.m target elt I i x acc σ2 test) ∧
    (∀ acc H D, I xs.length acc H → H D = none → F acc H D)
theorem TE.compW {target elt iter : PySem.Expr} {test : Option PySem.Expr} {cpos : Pos} {ifs : List PySem.Expr} {Q : AV → St → Prop} (W : Wd K C n) (hifs : test.toList = ifs) (k : CompOk C sc)
    (h : TE C iter σ fun a σ1 => CompW K n C sc target elt test a σ1 fun acc H D => Q (.con (.ref D)) ⟨σ1.m, H.put D (.list acc)⟩)
    (hs : ∀ x, foldedSetIterable iter C.env x = pure x := by intro _; rfl) : TE C (.ListComp elt [⟨target, iter, ifs, 0⟩] sc cpos) σ Q := by
  refine TE.comp hifs k W.calm (TV.mono h ?_) hs
  rintro a σ1 ⟨xs, ok, I, h1, h2, h3, h4, h5, h6⟩
  exact ⟨xs, ok, I, h1, h2, h3, h4, fun cl L i x acc σ2 hx hI hm => h5 _ i x acc σ2 W.comp rfl W.hand hx hI hm, h6⟩
end

/-! slices of tuples -/
def clipN (i : Int) (n : Nat) : Nat := (if i < 0 then max (i + (n : Int)) 0 else min i (n : Int)).toNat
def loN (lo : Option Int) (n : Nat) : Nat := match lo with | none => 0 | some i => clipN i n
def hiN (hi : Option Int) (n : Nat) : Nat := match hi with | none => n | some i => clipN i n
theorem adjust_eq (lo hi : Option Int) (n : Nat) : Builtin.Slice.sliceAdjust lo hi 1 (n : Int) = ((loN lo n : Int), (hiN hi n : Int)) := by
  unfold Builtin.Slice.sliceAdjust loN hiN clipN
  have h1 : ¬ ((1 : Int) < 0) := by omega
  simp only [h1, if_false]
  congr 1
  · cases lo with
    | none => rfl
    | some i => dsimp only; split <;> omega
  · cases hi with
    | none => rfl
    | some i => dsimp only; split <;> omega
theorem places_eq (a b : Nat) : Builtin.Slice.slicePlaces (a : Int) (b : Int) 1 = b - a := by
  unfold Builtin.Slice.slicePlaces
  have h1 : (1 : Int) > 0 := by omega
  simp only [h1, if_true, Int.ediv_one]
  split <;> omega
theorem pick_eq (xs : Array Value) (a n : Nat) : ((List.range n).filterMap fun (k : Nat) => xs[((a : Int) + (k : Int) * 1).toNat]?).toArray = ((xs.toList.drop a).take n).toArray := by
  have e : (fun (k : Nat) => xs[((a : Int) + (k : Int) * 1).toNat]?) = fun k => xs[a + k]? := by
    funext k
    have : ((a : Int) + (k : Int) * 1).toNat = a + k := by omega
    rw [this]
  rw [e]
  have := pick_run xs a n
  rw [List.filterMap_map] at this
  have e2 : ((fun x => xs[x]?) ∘ fun x => a + x) = fun k => xs[a + k]? := rfl
  rw [e2] at this
  rw [this]

section
variable {prog : Program} {w : World} {A : Around} {E : Value → Shared → Prop} {s : Shared}
theorem slicePart_is {v : Value} {o : Option Int} {Q : Option Int → Shared → Prop} (p : IsPart v o) (h : Q o s) : wpAny (model prog w) A (Builtin.Slice.slicePartIndex v) Q E s := by
  cases p with
  | none => exact slicePart_none h
  | int i t => exact slicePart_int h
theorem sliceApplied_is {sl : Addr} {vl vu : Value} {lo hi : Option Int} {n : Nat} {Q : Int × Int × Nat → Shared → Prop} (hs : s.heap.IsSliceOf sl vl vu .none) (pl : IsPart vl lo) (pu : IsPart vu hi) (h : Q ((loN lo n : Int), 1, hiN hi n - loN lo n) s) :
    wpAny (model prog w) A (Builtin.Slice.sliceApplied (.ref sl) (pure (n : Int))) Q E s := by
  obtain ⟨os, hos, hcs, hds⟩ := id hs
  unfold Builtin.Slice.sliceApplied Builtin.Slice.sliceFields
  refine wpAny_bind (wpAny_bind (wpAny_field hos hds (x := vl) rfl (wpAny_bind (wpAny_field hos hds (x := vu) rfl (wpAny_bind (wpAny_field hos hds (x := .none) rfl (wpAny_pure ?_)))))))
  refine wpAny_bind (slicePart_none ?_)
  show wpAny _ _ (if ((1 : Int) == 0) = true then _ else _) _ _ s
  rw [if_neg (by decide)]
  refine wpAny_bind (slicePart_is pl (wpAny_bind (slicePart_is pu (wpAny_bind (wpAny_pure ?_)))))
  show wpAny _ _ (match Builtin.Slice.sliceAdjust lo hi 1 (n : Int) with | (lo, hi) => pure (lo, (1 : Int), Builtin.Slice.slicePlaces lo hi 1)) _ _ s
  rw [adjust_eq]
  show wpAny _ _ (pure (_, (1 : Int), Builtin.Slice.slicePlaces _ _ 1)) _ _ s
  rw [places_eq]
  exact wpAny_pure h
theorem getItem_tuple_slice {t sl : Addr} {items : Array Value} {vl vu : Value} {lo hi : Option Int} {Q : Value → Shared → Prop} (ht : IsTup s.heap t items) (hex : ∃ n, s.heap.get? t = some ⟨.type "tuple", none, .seq items n, #[]⟩) (hs : s.heap.IsSliceOf sl vl vu .none) (pl : IsPart vl lo) (pu : IsPart vu hi)
    (h0 : loN lo items.size = 0 → hiN hi items.size - loN lo items.size = items.size → Q (.ref t) s)
    (h : Q (.ref s.heap.objs.size) { s with heap := s.heap.push { cls := .type "tuple", data := .seq ((items.toList.drop (loN lo items.size)).take (hiN hi items.size - loN lo items.size)).toArray } })
    (hsz : items.size ≤ sizeLine := by size_fits) : wpAny (model prog w) A (getItem (.ref t) (.ref sl)) Q E s := by
  have hdrop : sizeOk (.seq ((items.toList.drop (loN lo items.size)).take (hiN hi items.size - loN lo items.size)).toArray) := by
    show (((items.toList.drop (loN lo items.size)).take (hiN hi items.size - loN lo items.size)).toArray).size ≤ sizeLine
    rw [List.size_toArray, List.length_take, List.length_drop, Array.length_toList]
    omega
  obtain ⟨os, hos, hcs, hds⟩ := id hs
  have hTs : s.TypeIs (.ref sl) "slice" := ⟨os, hos, hcs⟩
  unfold getItem
  try with_reducible refine wpAny_holding ?_
  first | refine wpAny_bind (wpAny_pure ?_) | skip
  refine wpAny_bind (wpAny_sequenceKey ht.typeIs (by decide) ?_)
  refine wpAny_bind (wpAny_callSpecial?_slot (name := Str.ofString "__getitem__") ht.typeIs slot_tuple_getitem
    (wpAny_call_entry slot_tuple_getitem ht.typeIs entry_tuple_getitem ?_ (args_tuple_getitem _ _)))
  show wpAny _ _ (Builtin.Tuple.tupleItemsOf (.ref t) >>= _) _ _ s
  refine wpAny_bind (tupleItemsOf_ ht ?_)
  refine wpAny_bind (wpAny_typeOf hTs ?_)
  rw [if_pos (by decide)]
  refine wpAny_bind (sliceApplied_is hs pl pu ?_)
  show wpAny _ _ (if ((loN lo items.size : Int) == 0 && (1 : Int) == 1 && (hiN hi items.size - loN lo items.size) == items.size) = true then _ else _) _ _ s
  split
  · rename_i hc
    simp only [beq_self_eq_true, Bool.and_true, Bool.and_eq_true, beq_iff_eq] at hc
    have hq := h0 (by omega) hc.2
    refine wpAny_bind (wpAny_bind (wpAny_typeOf ht.typeIs (wpAny_pure ?_)))
    rw [if_pos (by decide)]
    exact wpAny_bind (wpAny_rule (wpAny_pure ⟨_, rfl, wpAny_pure hq⟩))
  · rw [pick_eq]
    first
      | exact wpAny_bind (m := Builtin.Tuple.tupleExact _) (wpAny_newObj_type (wpAny_pure ⟨_, rfl, wpAny_pure h⟩) hdrop)
      | exact wpAny_bind (m := Builtin.Tuple.tupleExact _) (wpAny_newObj_type (wpAny_bind (wpAny_pure (wpAny_pure ⟨_, rfl, wpAny_pure h⟩))) hdrop)
      | exact wpAny_bind (wpAny_bind (m := Builtin.Tuple.tupleExact _) (wpAny_newObj_type (wpAny_pure (wpAny_pure ⟨_, rfl, wpAny_pure h⟩)) hdrop))
      | exact wpAny_bind (wpAny_bind (m := Builtin.Tuple.tupleExact _) (wpAny_newObj_type (wpAny_pure ⟨_, rfl, wpAny_pure h⟩) hdrop))
end
section
variable {C : Cx} {σ : St}
def TPart (C : Cx) (e : Option PySem.Expr) (σ : St) (Q : Option Int → St → Prop) : Prop := match e with
  | none => Q none σ
  | some e => TE C e σ fun a σ' => ∃ i, a = .int i ∧ Q (some i) σ'
theorem TE.sliceT {value : PySem.Expr} {lower upper : Option PySem.Expr} {p pos : Pos} {Q : AV → St → Prop}
    (h : TE C value σ fun a σ1 => TPart C lower σ1 fun lo σ2 => TPart C upper σ2 fun hi σ3 => ∃ l, a = .tup l ∧ l.length ≤ 16777216 ∧ Q (.tup ((l.drop (loN lo l.length)).take (hiN hi l.length - loN lo l.length))) σ3) : TE C (.Subscript value (.Slice lower upper none p) pos) σ Q := by
  intro s R0 _
  have part : ∀ {e : Option PySem.Expr} {σ1 : St} {s1 : Shared} {Q1 : Option Int → St → Prop} {Z : Value → Shared → Prop}, C.R σ1 s1 → C.G σ s σ1 s1 → TPart C e σ1 Q1 →
      (∀ v o σ2 s2, IsPart v o → C.R σ2 s2 → C.G σ s σ2 s2 → TupKeep s1.heap s2.heap → Q1 o σ2 → Z v s2) → wpAny C.M C.A (evalPart e C.env) Z (C.X σ s) s1 := by
    intro e σ1 s1 Q1 Z R1 g1 h k
    cases e with
    | none => rw [evalPart_none]; exact wpAny_pure (k _ _ _ _ .none R1 g1 (fun _ _ _ e => e) h)
    | some e =>
      show wpAny C.M C.A (eval e C.env) _ _ s1
      refine TV.andThen h R0 R1 g1 .nil fun va a σ2 s2 ra R2 g2 _ k2 q => ?_
      obtain ⟨i, rfl, q⟩ := q
      obtain ⟨t, rfl⟩ := ra.int_inv
      exact k _ _ _ _ (.int i t) R2 g2 k2 q
  refine Subscript_ (h.here R0 .nil fun va a σ1 s1 ra R1 g1 k1 q => wpAny_Slice ?_)
  refine part R1 g1 q fun vl lo σ2 s2 pl R2 g2 k2 q => ?_
  refine part R2 g2 q fun vu hi σ3 s3 pu R3 g3 k3 q => ?_
  obtain ⟨l, rfl, hz, q⟩ := q
  have ra3 := (ra.keep k2).keep k3
  obtain ⟨t, xs, n, rfl, e, r⟩ := ra3.tup_inv
  rw [evalPart_none]
  have hxl : xs.toArray.size = l.length := by rw [List.size_toArray, r.length]
  have e1 : (s3.heap.push { cls := .type "slice", data := .fields #[vl, vu, .none] }).get? t = some ⟨.type "tuple", none, .seq xs.toArray n, #[]⟩ := Heap.get?_push_of_some _ e
  have kp1 : ∀ b o, s3.heap.get? b = some o → (s3.heap.push { cls := .type "slice", data := .fields #[vl, vu, .none] }).get? b = some o := fun b o e => Heap.get?_push_of_some _ e
  have IT : IsTup (s3.heap.push { cls := .type "slice", data := .fields #[vl, vu, .none] }) t xs.toArray := ⟨_, e1, rfl, n, rfl⟩
  have hso : ∃ ops, subscripted (.Slice lower upper none p) false (.ref t) (.ref s3.heap.objs.size) = operate ops (getItem (.ref t) (.ref s3.heap.objs.size)) := ⟨_, rfl⟩
  obtain ⟨ops, hso⟩ := hso
  refine wpAny_pure (tail_any (T := "tuple") ⟨_, e1, rfl⟩ slot_tuple_getitem.lookup (getItem_tuple_slice (s := { s3 with heap := s3.heap.push { cls := .type "slice", data := .fields #[vl, vu, .none] } }) IT ⟨n, e1⟩ (Heap.IsSliceOf.new ..) pl pu (fun h0 h1 => ?_) ?_ (by rw [sizeLine_eq, hxl]; exact hz)) hso)
  · rw [hxl] at h0 h1
    obtain ⟨R4, g4⟩ := R3.ext (s' := { s3 with heap := s3.heap.push { cls := .type "slice", data := .fields #[vl, vu, .none] } }) kp1 rfl rfl
    refine ⟨_, σ3, .tup (xs := xs) e1 ?_, R4, g3.trans g4, q⟩
    rw [h1, h0, List.drop_zero, List.take_of_length_le (Nat.le_refl _)]
    exact r.keep fun a _ _ e => kp1 a _ e
  · rw [hxl]
    have kp2 : ∀ b o, s3.heap.get? b = some o → ((s3.heap.push { cls := .type "slice", data := .fields #[vl, vu, .none] }).push { cls := .type "tuple", data := .seq ((xs.drop (loN lo l.length)).take (hiN hi l.length - loN lo l.length)).toArray }).get? b = some o := fun b o e => Heap.get?_push_of_some _ (kp1 b o e)
    obtain ⟨R4, g4⟩ := R3.ext (s' := { s3 with heap := (s3.heap.push { cls := .type "slice", data := .fields #[vl, vu, .none] }).push { cls := .type "tuple", data := .seq ((xs.drop (loN lo l.length)).take (hiN hi l.length - loN lo l.length)).toArray } }) kp2 rfl rfl
    exact ⟨_, σ3, .tup (Heap.get?_push_size _ rfl) (((r.drop _).take _).keep fun a _ _ e => kp2 a _ e), R4, g3.trans g4, q⟩
end

theorem noI_tuple_add : typeLookup (.type "tuple") (dunderI "add") = pure none := by rw [typeLookup_type, builtinLookup_eq_fast]; kernel_rfl

section
variable {C : Cx} {σ : St}
theorem TInp.addT {l m : List AV} {Q : AV → St → Prop} (hz : l.length + m.length ≤ 16384) (q : Q (.tup (l ++ m)) σ) : TInp C .Add (.tup l) (.tup m) σ Q := by
  intro va vb s R0 hv
  obtain ⟨t, xs, n, rfl, e1, r1⟩ := hv.inv2.1.tup_inv
  obtain ⟨b, ys, k, rfl, e2, r2⟩ := hv.inv2.2.tup_inv
  refine wpAny_inplaceOp_concat (T := "tuple") ⟨_, e1, rfl⟩ ⟨_, e2, rfl⟩ noI_tuple_add noFill_tuple_add seq_tuple_add ?_
  by_cases hx : xs = []
  · refine call_meets PySem.F.slot_tuple_add ⟨_, e1, rfl⟩ PySem.F.entry_tuple_add (PySem.F.args_tuple_add_2 _ _) (tuple_addW0 t b xs.toArray ys.toArray n k none none #[] #[] (by simp [hx])) ⟨e1, e2, ?_⟩
    subst hx
    cases r1
    exact Post.toks (tk := s.toks) (.tup e2 r2) R0 q
  · by_cases hy : ys = []
    · refine call_meets PySem.F.slot_tuple_add ⟨_, e1, rfl⟩ PySem.F.entry_tuple_add (PySem.F.args_tuple_add_2 _ _) (tuple_addW1 t b xs.toArray ys.toArray n k none none #[] #[] (by simpa using hx) (by simp [hy])) ⟨e1, e2, ?_⟩
      subst hy
      cases r2
      rw [List.append_nil] at q
      exact Post.toks (tk := s.toks) (.tup e1 r1) R0 q
    · refine call_meets PySem.F.slot_tuple_add ⟨_, e1, rfl⟩ PySem.F.entry_tuple_add (PySem.F.args_tuple_add_2 _ _) (tuple_addW2 t b xs.toArray ys.toArray n k none none #[] #[] (by simpa using hx) (by simpa using hy) (by rw [List.size_toArray, List.size_toArray, r1.length, r2.length, sizeLine_eq]; omega)) ⟨e1, e2, ?_⟩
      have e : xs.toArray ++ ys.toArray = (xs ++ ys).toArray := by simp
      rw [e]
      have kp : ∀ b o, s.heap.get? b = some o → (s.heap.push { cls := .type "tuple", data := .seq (xs ++ ys).toArray }).get? b = some o := fun b o e => Heap.get?_push_of_some _ e
      obtain ⟨R2, g2⟩ := R0.ext (s' := { s with heap := s.heap.push { cls := .type "tuple", data := .seq (xs ++ ys).toArray } }) kp rfl rfl
      exact ⟨_, σ, .tup (Heap.get?_push_size _ rfl) ((r1.append r2).keep fun a _ _ e => kp a _ e), R2, g2, q⟩
theorem TInp.divI {i j : Int} {Q : AV → St → Prop} (h0 : j ≠ 0) (hj : j.natAbs < 1073741824) (q : Q (.int (i.fdiv j)) σ) : TInp C .FloorDiv (.int i) (.int j) σ Q := by
  intro va vb s R0 hv
  obtain ⟨t, rfl⟩ := hv.inv2.1.int_inv; obtain ⟨u, rfl⟩ := hv.inv2.2.int_inv
  exact PyProof.Rows.ifloordiv_int h0 (Post.toks (.int _ _) R0 q) (.inl (PyProof.noPylong_small hj))
theorem TBin.mulI {i j : Int} {Q : AV → St → Prop} (hi : -1000 ≤ i ∧ i ≤ 1000) (q : Q (.int (i * j)) σ) : TBin C .Mult (.int i) (.int j) σ Q := by
  intro va vb s R0 hv
  obtain ⟨t, rfl⟩ := hv.inv2.1.int_inv; obtain ⟨u, rfl⟩ := hv.inv2.2.int_inv
  exact P.mul_int (Post.toks (.int _ _) R0 q) (.of_left (PySem.intBits_le_64 (by omega) (by omega)))
theorem TCmp.isNotNoneT {l : List AV} {Q : AV → St → Prop} (q : Q (.con (.bool true)) σ) : TCmp C .IsNot (.tup l) (.con .none) σ Q := by
  intro va vb s R0 hv
  obtain ⟨t, xs, n, rfl, e1, r1⟩ := hv.inv2.1.tup_inv
  rw [hv.inv2.2.con_inv]
  exact wpAny_isNot_plain rfl (Post.toks (tk := s.toks) (.con rfl) R0 q)
/-- 'a' times 0 or 1 -/
theorem TBin.mulS {x : Str} {i : Int} {Q : AV → St → Prop} (hi : i = 0 ∨ i = 1) (q : Q (.str (if i = 0 then Str.empty else x)) σ) : TBin C .Mult (.str x) (.int i) σ Q := by
  intro va vb s R0 hv
  obtain ⟨t, rfl⟩ := hv.inv2.1.str_inv; obtain ⟨u, rfl⟩ := hv.inv2.2.int_inv
  rcases hi with rfl | rfl
  · exact PySem.P.mul_str_none (by omega) (by omega) (Post.toks (.str _ _) R0 q)
  · refine PySem.P.mul_str (by decide) (fun _ h => by simp at h) (fun _ h => by simp at h) ?_
    rw [if_neg (by omega), if_pos (by simp)]
    exact Post.toks (tk := s.toks) (.str _ _) R0 q
/-- a list of the ground's and one of the call's -/
theorem TBin.addG {a b : Addr} {vs : List Value} {xs ys : List AV} {Q : AV → St → Prop} (ha : C.h₀.IsList a vs.toArray) (hr : VRels C.h₀ vs xs) (hb : σ.H b = some (.list ys)) (hz : xs.length + ys.length ≤ 16777216) (q : ∀ c, σ.H c = none → Q (.con (.ref c)) (σ.put c (.list (xs ++ ys)))) :
    TBin C .Add (.con (.ref a)) (.con (.ref b)) σ Q := by
  intro va vb s R0 hv
  have h1 := hv.inv2.1.con_inv; have h2 := hv.inv2.2.con_inv
  subst h1; subst h2
  obtain ⟨ws, ⟨k, e2⟩, r2⟩ := (R0.objs b _ hb).1
  obtain ⟨⟨cls, dd, data, sl⟩, e1, c1, n, d1⟩ := ha
  simp only at c1 d1
  subst c1 d1
  have e1' := R0.keep _ _ e1
  have rr := hr.keep (h' := s.heap) fun a _ _ e => R0.keep a _ e
  have hsz : vs.length + ws.length ≤ sizeLine := by rw [rr.length, r2.length, sizeLine_eq]; exact hz
  refine concat_meets ⟨_, e1', rfl⟩ ⟨_, e2, rfl⟩ noFill_list_add seq_list_add PySem.F.slot_list_add PySem.F.entry_list_add (PySem.F.args_list_add_2 _ _) (list_addW a b vs.toArray ws.toArray n k dd none sl #[] (by simpa using hsz)) ⟨e1', e2, ?_⟩
  have e : vs.toArray ++ ws.toArray = (vs ++ ws).toArray := by simp
  rw [e]
  have kp : ∀ b o, s.heap.get? b = some o → (s.heap.push { cls := .type "list", data := .seq (vs ++ ws).toArray }).get? b = some o := fun b o e => Heap.get?_push_of_some _ e
  obtain ⟨R2, g2, fr⟩ := R0.allocPush (ob := { cls := .type "list", data := .seq (vs ++ ws).toArray }) (ao := .list (xs ++ ys)) ⟨vs ++ ws, ⟨0, Heap.get?_push_size _ rfl⟩, (rr.append r2).keep fun a _ _ e => kp a _ e⟩
  exact ⟨_, _, .con rfl, R2, g2, q _ fr⟩
theorem TCall.lenG {a : Addr} {vs : List Value} {Q : AV → St → Prop} (ha : C.h₀.IsList a vs.toArray) (hz : vs.length ≤ 16777216) (q : Q (.int vs.length) σ) : TCall C (.builtin "len") [.con (.ref a)] σ Q := by
  intro us s R0 hv
  cases hv with
  | cons e r =>
    cases r
    rw [e.con_inv]
    obtain ⟨o, e1, c1, n, d1⟩ := ha
    refine call_len_list ⟨o, R0.keep _ _ e1, c1, n, d1⟩ (by simp; omega) ?_
    rw [List.size_toArray]
    exact Post.toks (.int _ _) R0 q
end

section
variable {C : Cx} {σ : St}
theorem TCmp.neB {a b : Bool} {Q : AV → St → Prop} (q : Q (.con (.bool (a != b))) σ) : TCmp C .NotEq (.con (.bool a)) (.con (.bool b)) σ Q := by
  intro va vb s R0 hv
  rw [hv.inv2.1.con_inv, hv.inv2.2.con_inv]
  exact ne_bool (Post.toks (tk := s.toks) (.con rfl) R0 q)
/-- the front of a list of the call's -/
theorem TE.frontL {value upper : PySem.Expr} {p pos : Pos} {Q : AV → St → Prop}
    (h : TE C value σ fun a σ1 => TE C upper σ1 fun u σ2 => ∃ l xs, ∃ k : Nat, a = .con (.ref l) ∧ u = .int (k : Int) ∧ σ2.H l = some (.list xs) ∧ xs.length ≤ 16777216 ∧ ∀ b, σ2.H b = none → Q (.con (.ref b)) (σ2.put b (.list (xs.take k))))
    (ht : ∀ o r, letTemporaryGo value o r = pure ()) : TE C (.Subscript value (.Slice none (some upper) none p) pos) σ Q := by
  intro s R0 _
  refine wpAny_Subscript_list_slice (h.here R0 .nil fun va a σ1 s1 ra R1 g1 k1 q => ?_) ht
  refine wpAny_pure ?_
  show wpAny C.M C.A (eval upper C.env) _ _ s1
  refine q.andThen R0 R1 g1 .nil fun vu u σ2 s2 ru R2 g2 _ k2 q => ?_
  obtain ⟨l, xs, k, rfl, rfl, hl, hz, q⟩ := q
  have := ra.con_inv
  subst this
  obtain ⟨t, rfl⟩ := ru.int_inv
  obtain ⟨ys, ⟨n, e⟩, r⟩ := (R2.objs l _ hl).1
  refine ⟨l, ys.toArray, none, some (k : Int), rfl, ⟨_, e, rfl, n, rfl⟩, by rw [sizeLine_eq, List.size_toArray, r.length]; exact hz, .none, .int _ _, ?_⟩
  rw [slicePick_upto']
  obtain ⟨R3, g3⟩ := R2.ext (s' := { s2 with heap := s2.heap.push { cls := .type "slice", data := .fields #[.none, .int (k : Int) t, .none] } }) (fun b o e => Heap.get?_push_of_some _ e) rfl rfl
  have kp : ∀ b o, s2.heap.get? b = some o → ((s2.heap.push { cls := .type "slice", data := .fields #[.none, .int (k : Int) t, .none] }).push { cls := .type "list", data := .seq (ys.take k).toArray }).get? b = some o := fun b o e => Heap.get?_push_of_some _ (Heap.get?_push_of_some _ e)
  obtain ⟨R4, g4, fr⟩ := R3.allocPush (ob := { cls := .type "list", data := .seq (ys.take k).toArray }) (ao := .list (xs.take k)) ⟨ys.take k, ⟨0, Heap.get?_push_size _ rfl⟩, (r.take k).keep fun a _ _ e => kp a _ e⟩
  simp only [Heap.size_push] at R4 g4 fr
  exact ⟨_, _, .con rfl, R4, (g2.trans g3).trans g4, q _ fr⟩
end

theorem eqAt_types {A : Around} {s : Shared} {X Y : String} (hX : ∀ s' : Shared, s'.TypeIs (.type X) "type") (hY : ∀ s' : Shared, s'.TypeIs (.type Y) "type") (hne : (Value.type X == Value.type Y) = false) : SeqAt.EqAt A s (.type X) (.type Y) false := fun prog w E Q h => by
  unfold eqBool
  refine wpAny_holding ?_
  rw [hne]
  simp only [Bool.false_eq_true, if_false]
  refine wpAny_bind (wpAny_mono (PySem.TypeEq.eq_type_other (Q := fun v s' => v = .bool false ∧ Q false s') hX hY hne ⟨rfl, h⟩) (fun v s' hv => ?_) fun _ _ e => e)
  obtain ⟨rfl, hv⟩ := hv
  exact wpAny_truthy_bool hv
section
variable {C : Cx} {σ : St}
theorem TCmp.inIntStr {T : String} (hT : T = "int" ∨ T = "str" ∨ T = "dict" ∨ T = "list") {Q : AV → St → Prop} (q : Q (.con (.bool (decide (T = "int" ∨ T = "str")))) σ) : TCmp C .In (.con (.type T)) (.tup [.con (.type "int"), .con (.type "str")]) σ Q := by
  intro va vb s R0 hv
  rw [hv.inv2.1.con_inv]
  obtain ⟨t, xs, n, rfl, e1, r1⟩ := hv.inv2.2.tup_inv
  obtain ⟨v1, v2, rfl⟩ : ∃ v1 v2, xs = [v1, v2] := by
    cases r1 with
    | cons _ r => cases r with | cons _ r => cases r; exact ⟨_, _, rfl⟩
  obtain ⟨ra, rb⟩ := r1.inv2
  have h1 := ra.con_inv
  have h2 := rb.con_inv
  subst h1; subst h2
  refine SeqAt.in_tupleAt (fun y => y == .type T) ⟨_, e1, rfl, n, rfl⟩ (fun y hy => ?_) ?_
  · have hy' : y = .type "int" ∨ y = .type "str" := by simpa using hy
    have mT : ∀ s' : Shared, s'.TypeIs (.type T) "type" := by
      rcases hT with rfl | rfl | rfl | rfl
      · exact PySem.TypeEq.meta_int
      · exact PySem.TypeEq.meta_str
      · exact PySem.TypeEq.meta_dict
      · exact PySem.TypeEq.meta_list
    rcases hy' with rfl | rfl
    · by_cases h : "int" = T
      · subst h; rw [show (Value.type "int" == Value.type "int") = true from by simp]; exact SeqAt.EqAt.same _
      · have : (Value.type "int" == Value.type T) = false := by simp [h]
        rw [this]; exact eqAt_types PySem.TypeEq.meta_int mT this
    · by_cases h : "str" = T
      · subst h; rw [show (Value.type "str" == Value.type "str") = true from by simp]; exact SeqAt.EqAt.same _
      · have : (Value.type "str" == Value.type T) = false := by simp [h]
        rw [this]; exact eqAt_types PySem.TypeEq.meta_str mT this
  · have : (([Value.type "int", Value.type "str"].toArray).any fun y => y == .type T) = decide (T = "int" ∨ T = "str") := by
      rcases hT with rfl | rfl | rfl | rfl <;> simp
    rw [this]
    exact Post.toks (tk := s.toks) (.con rfl) R0 q
end

theorem leaves_newW {M : Model} {A : Around} {E : Value → Shared → Prop} {s : Shared} {base h : Heap} {env : Env} {outer : List Env} {L e : Addr} {cls : String} {Q : Unit → Shared → Prop}
    (hfr : A.frames = some (env :: outer)) (hf : env.frame = some L) (hkb : base.StaysIn h) (hl : h.FunFrames base (env :: outer)) (hx : Heap.NewExc h s.heap e cls)
    (hQ : ∀ h' t, Heap.FlyingW base outer e (.type cls) t h' → s.heap.UpToSlots h' → Q () { s with heap := h' }) : wpAny M A (leaving env (.ref e)) Q E s := by
  obtain ⟨ob, t, he, hc, hd⟩ := hx.there
  have fresh : ∀ b, h.get? b = none → base.get? b = none := fun b hb => by
    cases hq : base.get? b with
    | none => rfl
    | some o' => have := hkb b o' hq; rw [hb] at this; cases this
  refine wpAny_leaving_firstW (a0 := t) hfr (hl.of_keeps fun b o hb _ => ⟨o, hx.keeps b o hb, rfl⟩) hf he (fun b o hb => hx.keeps b o (hkb b o hb)) (fresh e hx.new) hd rfl rfl fun h' hL => ?_
  obtain ⟨k1, ⟨_, _, k2⟩, k3, k4⟩ := hL
  rw [hc] at k3
  exact hQ h' t ⟨k1, fresh e hx.new, k2, k3⟩ k4

/-- a KeyError is on its way out of env; at hr, when it was raised, all stood as σr says -/
def Fly (C : Cx) (outer : List Env) (F : St → Prop) (σ : St) (s : Shared) (e : Value) (s3 : Shared) : Prop :=
  ∃ ea hr σr a0 hid, e = .ref ea ∧ C.R σr { s3 with heap := hr } ∧ C.G σ s σr { s3 with heap := hr } ∧ F σr ∧ Heap.FlyingW (hideAll hr hid) outer ea (.type "KeyError") a0 s3.heap ∧ hr.UpToSlots s3.heap ∧
    (∀ a ∈ hid, a = C.env.locals ∨ (∃ o, σr.H a = some (.raw o)) ∨ s.heap.get? a = none) ∧ ∀ a ∈ hid, ∀ o, hr.get? a = some o → notTup o
theorem Fly.clo {C : Cx} {outer : List Env} {F : St → Prop} {σ σ1 : St} {s s1 s3 : Shared} {e : Value} (g : C.G σ s σ1 s1) (x : Fly C outer F σ1 s1 e s3) : Fly C outer F σ s e s3 := by
  obtain ⟨ea, hr, σr, a0, hid, h1, h2, h3, h4, h5, h6, h7, h8⟩ := x
  refine ⟨ea, hr, σr, a0, hid, h1, h2, g.trans h3, h4, h5, h6, fun a ha => (h7 a ha).imp id (Or.imp id fun n => ?_), h8⟩
  cases q : s.heap.get? a with
  | none => rfl
  | some o => obtain ⟨o', e'⟩ := g.1 a o q; rw [n] at e'; cases e'

/-- C with a KeyError let out of its frame, F then -/
@[reducible] def Cx.outX (C : Cx) (outer : List Env) (F : St → Prop) : Cx :=
  { C with X := fun σ s e s' => wpAny C.M C.A (leaving C.env e) (fun _ s3 => Fly C outer F σ s e s3) (fun _ _ => False) s'
           clo := fun _ _ _ _ _ _ _ g x => wpAny_mono x (fun _ _ y => y.clo g) fun _ _ y => y }
theorem Cx.outX_loops (C : Cx) (outer : List Env) (F : St → Prop) : (C.outX outer F).Loops := fun _ _ e s' x => PassesOwn.leaving e s' x
/-- what is calm may stand in any context that differs in X alone -/
theorem TV.calmIn {C C' : Cx} (hp : C'.prog = C.prog) (hw : C'.w = C.w) (hA : C'.A = C.A) (he : C'.env = C.env) (hh : C'.h₀ = C.h₀) (ho : C'.os = C.os) (hC : C.Calm) {α β : Type} {vs : List Value} {as : List AV} {R : Heap → α → β → Prop} {t : Sem α} {σ : St} {Q : β → St → Prop} (h : TV C vs as R t σ Q) : TV C' vs as R t σ Q := by
  intro s R0 hv
  have R1 : C.R σ s := by show Rep C.prog C.w C.h₀ C.os C.env σ s; rw [← hp, ← hw, ← he, ← hh, ← ho]; exact R0
  show wpAny (model C'.prog C'.w) C'.A t _ _ s
  rw [hp, hw, hA]
  refine wpAny_mono (h s R1 hv) (fun a s' p => ?_) fun _ _ x => (hC _ _ _ _ x).elim
  obtain ⟨b, σ', r, R', g, q⟩ := p
  refine ⟨b, σ', r, ?_, ?_, q⟩
  · show Rep C'.prog C'.w C'.h₀ C'.os C'.env σ' s'; rw [hp, hw, he, hh, ho]; exact R'
  · show Grow C'.env σ s σ' s'; rw [he]; exact g

/-- the callers' frames, tracked as they are -/
def Frames (outer : List Env) (H : AH) : Prop := ∀ env ∈ outer, env.scope.kind ≠ .module ∧ ∃ L o, env.frame = some L ∧ H L = some (.raw o) ∧ ∀ vs, o.data ≠ .fields vs
def hidOf (env : Env) (outer : List Env) : List Addr := env.locals :: outer.filterMap (·.frame)
theorem hideAll_stays (h : Heap) (l : List Addr) : (hideAll h l).StaysIn h := fun _ _ e => of_hideAll l e
theorem funFrames_of {C : Cx} {σ : St} {s : Shared} {hid : List Addr} (R : C.R σ s) : ∀ {outer : List Env}, (∀ env ∈ outer, ∀ L, env.frame = some L → L ∈ hid) → Frames outer σ.H → s.heap.FunFrames (hideAll s.heap hid) outer
  | [], _, _ => trivial
  | env :: r, k, h => by
    obtain ⟨h1, L, o, h2, h4, h5⟩ := h env List.mem_cons_self
    exact ⟨h1, ⟨L, o, h2, hideAll_none _ (k env List.mem_cons_self L h2), (R.objs L _ h4).1.1, h5⟩, funFrames_of R (fun e he => k e (List.mem_cons_of_mem _ he)) fun e he => h e (List.mem_cons_of_mem _ he)⟩
theorem funFrames_own {C : Cx} {σ : St} {s : Shared} {outer : List Env} (R : C.R σ s) (hf : C.env.frame = some C.env.locals) (h : Frames outer σ.H) : s.heap.FunFrames (hideAll s.heap (hidOf C.env outer)) (C.env :: outer) := by
  obtain ⟨m', ⟨o, es, ep, e, hd, _⟩, _⟩ := R.locs
  exact ⟨by rw [C.hk]; decide, ⟨_, o, hf, hideAll_none _ List.mem_cons_self, e, fun vs x => by rw [x] at hd; cases hd⟩, funFrames_of R (fun env he L hL => List.mem_cons_of_mem _ (List.mem_filterMap.mpr ⟨env, he, hL⟩)) h⟩

section
variable {C : Cx} {σ : St} {outer : List Env} {F : St → Prop}
theorem TX.raiseKey {x : Str} {np cpos pos : Pos} {e : PySem.Expr} {Q : AFl → St → Prop} (hh : C.A.handled = none) (hfr : C.A.frames = some (C.env :: outer)) (hf : C.env.frame = some C.env.locals)
    (h : TE (C.outX outer F) (.Name x np) σ fun f σ1 => f = .con (.type "KeyError") ∧ TL (C.outX outer F) [e] σ1 fun as σ2 => as.length ≤ 1 ∧ F σ2 ∧ Frames outer σ2.H)
    (he : starEach [e] C.env = (false, eval e C.env) :: starEach [] C.env := by rfl) : TX (C.outX outer F) (.Raise (some (.Call (.Name x np) [e] [] cpos)) none pos) σ Q := by
  intro s R0 _
  refine Raise_new hh (wpAny_Call_ofName (h.here R0 .nil fun vf f σ1 s1 rf R1 g1 k1 q => ?_))
  obtain ⟨rfl, q⟩ := q
  rw [rf.con_inv]
  refine callW (C := C.outX outer F) (Cl.type "KeyError") ((q cpos).andThen R0 R1 g1 .nil fun vs as σ2 s2 rs R2 g2 _ k2 q => ⟨R2.kin, ?_⟩) he rfl
  obtain ⟨hl, hF, hA⟩ := q
  refine call_exc_raise excClass_KeyError (fun h' ea hx => ?_) (by show ([] ++ vs).length ≤ _; rw [List.nil_append, rs.length, sizeLine_eq]; omega)
  show wpAny C.M C.A (leaving C.env (.ref ea)) _ _ _
  refine leaves_newW (base := hideAll s2.heap (hidOf C.env outer)) (h := s2.heap) hfr hf (hideAll_stays _ _) (funFrames_own (C := C) R2 hf hA) hx fun h3 t fly up => ?_
  refine ⟨ea, s2.heap, σ2, t, _, rfl, R2, g2, hF, fly, (Heap.UpToSlots.of_keeps hx.keeps).trans up, fun a ha => ?_, fun a ha o ho => ?_⟩
  · rcases List.mem_cons.mp ha with ha | ha
    · exact .inl ha
    · obtain ⟨env, h1, h2⟩ := List.mem_filterMap.mp ha
      obtain ⟨_, L, o, h3, h4, _⟩ := hA env h1
      rw [h2] at h3; cases h3
      exact .inr (.inl ⟨o, h4⟩)
  · rcases List.mem_cons.mp ha with ha | ha
    · obtain ⟨_, o', e', nt⟩ := R2.owns C.env.locals List.mem_cons_self
      rw [ha, e'] at ho; cases ho; exact nt
    · obtain ⟨env, h1, h2⟩ := List.mem_filterMap.mp ha
      obtain ⟨_, L, o', h3, h4, _⟩ := hA env h1
      rw [h2] at h3; cases h3
      obtain ⟨e', nt⟩ := (R2.objs _ _ h4).1
      rw [e'] at ho; cases ho; exact nt
end

def dropA (H : AH) (a : Addr) : AH := fun b => if b = a then none else H b
theorem dropA_self {H : AH} {a : Addr} : dropA H a a = none := by simp [dropA]
theorem dropA_ne {H : AH} {a b : Addr} (h : b ≠ a) : dropA H a b = H b := by simp [dropA, h]
theorem Rep.track {prog : Program} {w : World} {h₀ : Heap} {os : OsState} {env : Env} {σ : St} {s : Shared} (R : Rep prog w h₀ os env σ s) {L : Addr} {o : Obj} (e : s.heap.get? L = some o) (nt : notTup o) (hz : h₀.objs.size ≤ L) (hn : L ∉ own env) :
    Rep prog w h₀ os env (σ.put L (.raw o)) s :=
  ⟨R.keep, R.locs, R.cels, fun a ao ha => by
    by_cases h : a = L
    · subst h; rw [putH_self] at ha; cases ha; exact ⟨⟨e, nt⟩, hz, hn⟩
    · rw [putH_ne h] at ha; exact R.objs a ao ha, R.owns, R.apart, R.inj, R.gens, R.os⟩
theorem Rep.drop {prog : Program} {w : World} {h₀ : Heap} {os : OsState} {env : Env} {σ : St} {s : Shared} (R : Rep prog w h₀ os env σ s) (L : Addr) : Rep prog w h₀ os env ⟨σ.m, dropA σ.H L⟩ s :=
  ⟨R.keep, R.locs, R.cels, fun a ao ha => by
    by_cases h : a = L
    · subst h; rw [show (⟨σ.m, dropA σ.H a⟩ : St).H a = none from dropA_self] at ha; cases ha
    · rw [show (⟨σ.m, dropA σ.H L⟩ : St).H a = σ.H a from dropA_ne h] at ha; exact R.objs a ao ha, R.owns, R.apart, R.inj, R.gens, R.os⟩
section
variable {C : Cx} {σ σ' : St} {s s1 s' : Shared} {env : Env}
theorem call_backX {ma : Str → Option AV} {oL : Obj} (R0 : C.R σ s) (kp : ∀ b o, s.heap.get? b = some o → s1.heap.get? b = some o) (fresh : ∀ d ∈ own env, s.heap.get? d = none) (eL : s.heap.get? C.env.locals = some oL)
    (R' : Rep C.prog C.w C.h₀ C.os env σ' s') (g : Grow env ⟨ma, σ.H.put C.env.locals (.raw oL)⟩ s1 σ' s') (hL : σ'.H C.env.locals = some (.raw oL)) :
    C.R ⟨σ.m, dropA σ'.H C.env.locals⟩ s' ∧ C.G σ s ⟨σ.m, dropA σ'.H C.env.locals⟩ s' := by
  have R2 := R'.drop C.env.locals
  refine call_back (σ' := ⟨σ'.m, dropA σ'.H C.env.locals⟩) (ma := ma) R0 kp fresh R2 ⟨g.1, fun b o e n q => ?_⟩
  by_cases h : b = C.env.locals
  · subst h
    have h1 := (R'.objs _ _ hL).1.1
    rw [kp _ _ eL] at e
    cases e
    exact ⟨h1, dropA_self⟩
  · obtain ⟨a1, a2⟩ := g.2 b o e n ((AH.put_ne h).trans q)
    exact ⟨a1, (dropA_ne h).trans a2⟩
theorem code_userX {A : Around} {outer : List Env} {R : Result → Shared → Prop} {name qual : Str} {params : Arguments} {body : List Stmt} {scope : Scope} {dV kV doc pm cdv ct oc : Value} {an od : Option Addr} {osl : Array (Option Value)} {f : Addr} {args : Args} {binds : List (Str × Value)} {ab : List (Str × AV)} {Q : Obj → AFl → St → Prop} {F : Obj → St → Prop}
    (R0 : C.R σ s) (ho : C.K.lookup f = some ⟨oc, od, .func (fnOf name qual params body scope dV kV doc pm an cdv ct), osl⟩) (hcd : codeIn C.K cdv qual = true) (hroom : A.depth < recursionLimit)
    (hbind : BindsTo s (fnOf name qual params body scope dV kV doc pm an cdv ct) args binds) (hb : DRel s.heap binds ab)
    (hkind : (binds.all fun y => scope.names.lookup y.1 == some .local || scope.names.lookup y.1 == some .cell) = true) (hnd : ((cellsFrom 0 scope.names []).map (·.1)).Nodup)
    (hco : scope.isCoroutine = false) (hgen : scope.isGenerator = false) (hk : scope.kind = .function)
    (h : ∀ env hk eg eb oL, env.scope = scope → env.frame = some env.locals → (∀ vs, oL.data ≠ .fields vs) → TS ((C.callee A env hk eg eb).outX (C.env :: outer) (F oL)) body ⟨bindA ab fun _ => none, σ.H.put C.env.locals (.raw oL)⟩ (Q oL))
    (hQ : ∀ oL fl σ', Q oL fl σ' → σ'.H C.env.locals = some (.raw oL)) (hF : ∀ oL σ', F oL σ' → σ'.H C.env.locals = some (.raw oL))
    (fin : ∀ oL fl v σ' s', Q oL fl σ' → VRel s'.heap v (retOf fl) → C.R ⟨σ.m, dropA σ'.H C.env.locals⟩ s' → C.G σ s ⟨σ.m, dropA σ'.H C.env.locals⟩ s' → R (.ok (.ret v)) s')
    (finX : ∀ oL σr ea hr a0 hid s3, F oL σr → C.R ⟨σ.m, dropA σr.H C.env.locals⟩ { s3 with heap := hr } → C.G σ s ⟨σ.m, dropA σr.H C.env.locals⟩ { s3 with heap := hr } → Heap.FlyingW (hideAll hr hid) (C.env :: outer) ea (.type "KeyError") a0 s3.heap → hr.UpToSlots s3.heap →
      (∀ a ∈ hid, a = C.env.locals ∨ (∃ o, dropA σr.H C.env.locals a = some (.raw o)) ∨ s.heap.get? a = none) → (∀ a ∈ hid, ∀ o, hr.get? a = some o → notTup o) → R (.error (.ref ea)) s3) :
    codeAny C.M A (.call (.ref f) args) R s := by
  refine codeAny_call_function hroom (R0.kin f _ ho) rfl hco hgen rfl (codeRec_of R0.kin hcd) (hbind _ _ _ _ ?_)
  refine wpAny_newFunctionEnv_cells hk (kindsX hkind _) fun env he s1 x => ⟨C.hlim.keeps fun b o e => x.toInCall.keep b o (R0.keep b o e), codeAny_func ?_⟩
  have hs : env.scope = scope := by rw [he]; rfl
  have kp := x.toInCall.keep
  have tk : TupKeep s.heap s1.heap := fun a _ _ e => kp a _ e
  have rel := fun y => bind_rel (h := s1.heap) (kindOf := env.kindOf) (x := y) (m := fun _ => none) (cm := fun _ => none) (ma := fun _ => none) (hb.keep tk) (fun _ => .none) fun _ => .none
  obtain ⟨h1, tk1, e1⟩ := x.toInCall.same
  have hec : env.cells = cellsFrom (s.heap.objs.size + 1) scope.names [] := by rw [he]; rfl
  obtain ⟨RC, fr⟩ := call_enter (env := env) (ma := bindA ab fun _ => none) R0 kp x.toInCall.ns x.toInCall.fresh x.cell x.apart x.above
    (by rw [hec, cellsFrom_names (n' := 0) (acc' := []) rfl]; exact hnd) (fun y hy => (rel y).1 hy) (fun y hy => (rel y).2 (by rw [hy]; decide))
    (fun y hy => by
      rw [hec]
      refine cellsFrom_some _ _ _ (.inl ?_)
      have : env.scope.names.lookup y = some .cell := hy
      rwa [hs] at this) (by rw [e1]) (by rw [e1])
  obtain ⟨hLz, oL, eL, ntL⟩ := R0.owns C.env.locals List.mem_cons_self
  have hLd : ∀ vs, oL.data ≠ .fields vs := by
    obtain ⟨m', ⟨o, es, ep, e, hd, _⟩, _⟩ := R0.locs
    rw [eL] at e; cases e
    intro vs q; rw [q] at hd; cases hd
  have RC2 := RC.track (kp _ _ eL) ntL hLz fun q => by have := fr _ q; rw [eL] at this; cases this
  have key := h env (by rw [hs]; exact hk) (by rw [he]; rfl) (by rw [he]; rfl) oL hs (by rw [he]; rfl) hLd
  refine wpAny_mono (key s1 RC2 .nil) (fun fl s' p => ?_) fun e s' p => wpAny_mono p (fun _ s3 y => ?_) fun _ _ y => y.elim
  · obtain ⟨b, σ', rf, R', g, q⟩ := p
    obtain ⟨R2, g2⟩ := call_backX R0 kp fr eL R' g (hQ _ _ _ q)
    cases rf with
    | next => exact fin oL .next .none σ' s' q (.con rfl) R2 g2
    | brk => exact fin oL .brk .none σ' s' q (.con rfl) R2 g2
    | cont => exact fin oL .cont .none σ' s' q (.con rfl) R2 g2
    | ret e => exact fin oL (.ret _) _ σ' s' q e R2 g2
  · obtain ⟨ea, hr, σr, a0, hid, rfl, R', g, hFr, fly, up, hh, hnt⟩ := y
    obtain ⟨R2, g2⟩ := call_backX R0 kp fr eL R' g (hF _ _ hFr)
    refine finX oL σr ea hr a0 hid s3 hFr R2 g2 fly up (fun a ha => ?_) hnt
    by_cases hC : a = C.env.locals
    · exact .inl hC
    · rcases hh a ha with q | ⟨o, q⟩ | q
      · exact .inr (.inr (fr a (q ▸ List.mem_cons_self)))
      · exact .inr (.inl ⟨o, (dropA_ne hC).trans q⟩)
      · refine .inr (.inr ?_)
        cases w : s.heap.get? a with
        | none => rfl
        | some o => rw [kp a o w] at q; cases q
end

section
variable {C : Cx} {σ : St} {outer : List Env} {F0 : St → Prop}
/-- a call in a frame that lets its KeyError out -/
theorem TCallX.user {f : Addr} {body : List Stmt} {scope : Scope} {fd : FuncData} (Fn : FnAt C.K f body scope fd) {as : List AV} {ps : List Str} {ds : List (Str × Value)} {Q : AV → St → Prop} {F : Obj → St → Prop}
    (hl : as.length = ps.length) (hds : ∀ p ∈ ds, plainV p.2 = true) (hroom : C.A.depth < recursionLimit) (hk : kindsOk scope (ps ++ ds.map (·.1)) = true)
    (hbind : ∀ vs s, vs.length = ps.length → C.K.In s.heap → BindsTo s fd ⟨vs, []⟩ (ps.zip vs ++ ds)) (hfr : C.A.frames = some (C.env :: outer)) (hf : C.env.frame = some C.env.locals)
    (h : ∀ env hk eg eb oL, env.scope = scope → env.frame = some env.locals → (∀ vs, oL.data ≠ .fields vs) →
      TS ((C.callee C.A env hk eg eb).outX (C.env :: outer) (F oL)) body ⟨bindA (ps.zip as ++ ds.map fun p => (p.1, AV.con p.2)) fun _ => none, σ.H.put C.env.locals (.raw oL)⟩ fun fl σ' => σ'.H C.env.locals = some (.raw oL) ∧ Q (retOf fl) ⟨σ.m, dropA σ'.H C.env.locals⟩)
    (hF : ∀ oL σ', F oL σ' → σ'.H C.env.locals = some (.raw oL) ∧ F0 ⟨σ.m, dropA σ'.H C.env.locals⟩) : TCall (C.outX outer F0) (.ref f) as σ Q := by
  intro vs s R0 hv
  obtain ⟨⟨oc, od, name, qual, params, dV, kV, doc, pm, an, cdv, ct, osl, e1, rfl, e2⟩, nd, co, gen, kind⟩ := Fn
  refine wpAny_call (code_userX (C := C) (outer := outer) (Q := fun oL fl σ' => σ'.H C.env.locals = some (.raw oL) ∧ Q (retOf fl) ⟨σ.m, dropA σ'.H C.env.locals⟩) (F := F) R0 e1 e2 hroom (hbind vs s (by rw [hv.length, hl]) R0.kin) ((zip_rel hv).append (con_rel hds)) ?_ nd co gen kind h (fun _ _ _ q => q.1) (fun oL σ' q => (hF oL σ' q).1)
    (fun oL fl v σ' s' q r R' g => ⟨_, _, r, R', g, q.2⟩) fun oL σr ea hr a0 hid s3 hFr R2 g2 fly up hh hnt => ?_)
  · unfold kindsOk at hk
    have : (ps.zip vs ++ ds).map (·.1) = ps ++ ds.map (·.1) := by rw [List.map_append, List.map_fst_zip (by rw [hv.length, hl]; exact Nat.le_refl _)]
    rw [← this, List.all_map] at hk
    exact hk
  · show wpAny C.M C.A (leaving C.env (.ref ea)) _ _ s3
    refine wpAny_leaves_onW hfr hf fly fun h' fly' up' => ?_
    exact ⟨ea, hr, _, a0, hid, rfl, R2, g2, (hF oL σr hFr).2, fly', up.trans up', hh, hnt⟩
end

/-- C within a try: a KeyError may come, F then -/
@[reducible] def Cx.inX (C : Cx) (outer : List Env) (F : St → Prop) : Cx :=
  { C with X := fun σ s e s' => Fly C (C.env :: outer) F σ s e s'
           clo := fun _ _ _ _ _ _ _ g x => x.clo g }
section
variable {C : Cx} {σ : St} {outer : List Env} {F0 : St → Prop}
theorem TCallT.user {f : Addr} {body : List Stmt} {scope : Scope} {fd : FuncData} (Fn : FnAt C.K f body scope fd) {as : List AV} {ps : List Str} {ds : List (Str × Value)} {Q : AV → St → Prop} {F : Obj → St → Prop}
    (hl : as.length = ps.length) (hds : ∀ p ∈ ds, plainV p.2 = true) (hroom : C.A.depth < recursionLimit) (hk : kindsOk scope (ps ++ ds.map (·.1)) = true)
    (hbind : ∀ vs s, vs.length = ps.length → C.K.In s.heap → BindsTo s fd ⟨vs, []⟩ (ps.zip vs ++ ds))
    (h : ∀ env hk eg eb oL, env.scope = scope → env.frame = some env.locals → (∀ vs, oL.data ≠ .fields vs) →
      TS ((C.callee C.A env hk eg eb).outX (C.env :: outer) (F oL)) body ⟨bindA (ps.zip as ++ ds.map fun p => (p.1, AV.con p.2)) fun _ => none, σ.H.put C.env.locals (.raw oL)⟩ fun fl σ' => σ'.H C.env.locals = some (.raw oL) ∧ Q (retOf fl) ⟨σ.m, dropA σ'.H C.env.locals⟩)
    (hF : ∀ oL σ', F oL σ' → σ'.H C.env.locals = some (.raw oL) ∧ F0 ⟨σ.m, dropA σ'.H C.env.locals⟩) : TCall (C.inX outer F0) (.ref f) as σ Q := by
  intro vs s R0 hv
  obtain ⟨⟨oc, od, name, qual, params, dV, kV, doc, pm, an, cdv, ct, osl, e1, rfl, e2⟩, nd, co, gen, kind⟩ := Fn
  refine wpAny_call (code_userX (C := C) (outer := outer) (Q := fun oL fl σ' => σ'.H C.env.locals = some (.raw oL) ∧ Q (retOf fl) ⟨σ.m, dropA σ'.H C.env.locals⟩) (F := F) R0 e1 e2 hroom (hbind vs s (by rw [hv.length, hl]) R0.kin) ((zip_rel hv).append (con_rel hds)) ?_ nd co gen kind h (fun _ _ _ q => q.1) (fun oL σ' q => (hF oL σ' q).1)
    (fun oL fl v σ' s' q r R' g => ⟨_, _, r, R', g, q.2⟩) fun oL σr ea hr a0 hid s3 hFr R2 g2 fly up hh hnt => ?_)
  · unfold kindsOk at hk
    have : (ps.zip vs ++ ds).map (·.1) = ps ++ ds.map (·.1) := by rw [List.map_append, List.map_fst_zip (by rw [hv.length, hl]; exact Nat.le_refl _)]
    rw [← this, List.all_map] at hk
    exact hk
  · exact ⟨ea, hr, _, a0, hid, rfl, R2, g2, (hF oL σr hFr).2, fly, up, hh, hnt⟩
theorem Rep.after {s s0 : Shared} {σ0 : St} {hr h5 : Heap} {hid : List Addr} {l : List Env} {ea : Addr} {cls a0 : Value} (R0 : C.R σ0 s0) (R : C.R σ { s with heap := hr }) (fly : Heap.FlyingW (hideAll hr hid) l ea cls a0 h5) (up : hr.UpToSlots h5)
    (hh : ∀ a ∈ hid, a = C.env.locals ∨ s0.heap.get? a = none) (hnt : ∀ a ∈ hid, ∀ o, hr.get? a = some o → notTup o) (hH : ∀ a o, σ.H a = some o → ∃ o', σ0.H a = some o') : C.R σ { s with heap := h5 } := by
  have alive : ∀ a o, s0.heap.get? a = some o → a ≠ C.env.locals → a ∉ hid := fun a o e n q => by
    rcases hh a q with q | q
    · exact n q
    · rw [q] at e; cases e
  have keep : ∀ a o, a ∉ hid → hr.get? a = some o → h5.get? a = some o := fun a o n e => fly.1 a o (hideAll_get _ e n)
  have tk : TupKeep hr h5 := fun a xs n e => keep a _ (fun q => hnt a q _ e xs n rfl) e
  obtain ⟨m', hn, hm⟩ := R.locs
  have hn5 := Heap.UpToSlots.ns up hn
  refine ⟨fun b o e => ?_, ⟨m', hn5, fun x hx => (hm x hx).keep tk⟩, fun x hx => ?_, fun a o e => ?_, fun c hc => ?_, R.apart, R.inj, R.gens, R.os⟩
  · exact keep b o (alive b o (R0.keep b o e) fun q => (R0.new e).1 (q ▸ List.mem_cons_self)) (R.keep b o e)
  · obtain ⟨c, v, h1, ⟨o, h2, h3⟩, h4⟩ := R.cels x hx
    have hc : c ∈ C.env.cells.map (·.2) := List.mem_map.mpr ⟨_, mem_of_lookup h1, rfl⟩
    obtain ⟨_, o', e', _⟩ := R0.owns c (List.mem_cons_of_mem _ hc)
    exact ⟨c, v, h1, ⟨o, keep c o (alive c o' e' fun q => R0.apart (q ▸ hc)) h2, h3⟩, h4.keep tk⟩
  · obtain ⟨k1, k2, k3⟩ := R.objs a o e
    obtain ⟨o', e'⟩ := hH a o e
    obtain ⟨x1, _, x3⟩ := R0.objs a o' e'
    obtain ⟨ob, e1, _⟩ := x1.notTup
    have na := alive a ob e1 fun q => x3 (q ▸ List.mem_cons_self)
    exact ⟨k1.keep tk fun ob e => keep a ob na e, k2, k3⟩
  · obtain ⟨k1, o, k2, k3⟩ := R.owns c hc
    refine ⟨k1, ?_⟩
    rcases List.mem_cons.mp hc with rfl | q
    · obtain ⟨o', es, ep, e, hd, _⟩ := hn5
      exact ⟨o', e, fun xs n x => by rw [x] at hd; cases hd⟩
    · obtain ⟨_, o', e', _⟩ := R0.owns c hc
      exact ⟨o, keep c o (alive c o' e' fun z => R0.apart (z ▸ q)) k2, k3⟩
end

/-- C in a handler -/
@[reducible] def Cx.inH (C : Cx) (e : Value) : Cx := { C with A := C.A.mark (some e), X := fun _ _ _ _ => False, clo := fun _ _ _ _ _ _ _ _ h => h }
section
variable {C : Cx} {σ : St} {outer : List Env} {F : St → Prop}
theorem TX.tryKey {body : List Stmt} {b₀ : Stmt} {suite : List Stmt} {np hpos pos : Pos} {Q : AFl → St → Prop} (hfr : C.A.frames = some (C.env :: outer)) (hf : C.env.frame = some C.env.locals)
    (h : TS (C.inX outer F) body σ Q) (hFH : ∀ σr, F σr → ∀ a o, σr.H a = some o → (∃ o', σ.H a = some o') ∧ ∀ o', o ≠ .raw o')
    (hx : C.env.kindOf "KeyError" = some .globalImplicit) (hmg : C.mg "KeyError" = none) (hmb : C.mb "KeyError" = some (.type "KeyError"))
    (hk : ∀ e σr, F σr → TS (C.inH e) (b₀ :: suite) σr Q) : TX C (.Try body [.ExceptHandler (some (.Name "KeyError" np)) none (b₀ :: suite) hpos] [] [] pos) σ Q := by
  intro s R0 hv
  refine wpAny_Try_except (wpAny_mono (h s R0 hv) (fun fl s1 p => ?_) fun e s1 x => ?_)
  · obtain ⟨b, σ', rf, R', g, q⟩ := p
    cases rf with
    | next => exact wpAny_execs_nil ⟨.next, σ', .next, R', g, q⟩
    | brk => exact ⟨.brk, σ', .brk, R', g, q⟩
    | cont => exact ⟨.cont, σ', .cont, R', g, q⟩
    | ret e => exact ⟨.ret _, σ', .ret e, R', g, q⟩
  · obtain ⟨ea, hr, σr, a0, hid, rfl, R1, g1, hF, fly, up, hh, hnt⟩ := x
    refine wpAny_looks_onW hfr hf fly fun h4 held up4 => ?_
    refine wpAny_landsW held fun h5 fly5 up5 => ?_
    have hhid : ∀ a ∈ hid, a = C.env.locals ∨ s.heap.get? a = none := fun a ha => (hh a ha).imp id fun q => by
      rcases q with ⟨o, q⟩ | q
      · exact absurd rfl ((hFH σr hF a _ q).2 o)
      · exact q
    have R5 : C.R σr { s1 with heap := h5 } := Rep.after R0 R1 fly5 ((up.trans up4).trans up5) hhid hnt fun a o e => (hFH σr hF a o e).1
    have F := excClass_KeyError
    obtain ⟨ob, hob, hobc⟩ := fly5.there
    refine wpAny_handleBy_builtin (X := "KeyError") (T := "KeyError") (b := true) F.base (by rw [isSubtype_type]; kernel_rfl) F.self ?_
    refine Name_function_global C.hk hx (loadGlobal_builtin (env := C.env) (by rw [C.eg]; exact C.hg.keeps R5.keep) hmg (by rw [C.eb]; exact C.hb.keeps R5.keep) hmb ⟨rfl, ⟨ob, hob, hobc⟩, ?_⟩) (by decide)
    rw [if_pos rfl]
    refine lands_againW fly5 fun h6 fly6 up6 => ?_
    have R6 : C.R σr { s1 with heap := h6 } := Rep.after R0 R1 fly6 (((up.trans up4).trans up5).trans up6) hhid hnt fun a o e => (hFH σr hF a o e).1
    refine wpAny_mono (hk (.ref ea) σr hF { s1 with heap := h6 } R6 .nil) (fun fl s2 p => ?_) fun _ _ x => x.elim
    obtain ⟨b, σ', rf, R', g, q⟩ := p
    have keep6 : ∀ a o, a ∉ hid → hr.get? a = some o → h6.get? a = some o := fun a o n e => fly6.1 a o (hideAll_get _ e n)
    have g6 : C.G σ s σr { s1 with heap := h6 } := by
      refine ⟨fun a o e => ?_, fun a o e n1 n2 => ?_⟩
      · by_cases ha : a ∈ hid
        · rcases hhid a ha with w | w
          · obtain ⟨_, o', e', _⟩ := R6.owns C.env.locals List.mem_cons_self
            exact ⟨o', w ▸ e'⟩
          · rw [w] at e; cases e
        · obtain ⟨o', e'⟩ := g1.1 a o e
          exact ⟨o', keep6 a o' ha e'⟩
      · obtain ⟨e1, e2⟩ := g1.2 a o e n1 n2
        refine ⟨keep6 a o (fun ha => ?_) e1, e2⟩
        rcases hhid a ha with w | w
        · exact n1 (w ▸ List.mem_cons_self)
        · rw [w] at e; cases e
    exact ⟨b, σ', rf, R', g6.trans g, q⟩
end

/-- as Wd, but something may fly -/
structure Wx (K : Frag) (C : Cx) (n : Nat) : Prop where
  K : C.K = K
  B : ∀ x : Str, x ≠ "__name__" → C.mb x = bootBuiltins x
  hand : C.A.handled = none
  depth : C.A.depth ≤ 310 + n
  units : C.A.units ≤ 100 + 10 * n
section
variable {C : Cx} {σ : St} {sc : Scope} {K : Frag} {n : Nat}
theorem Wd.outX (W : Wd K C n) {outer : List Env} {F : St → Prop} : Wx K (C.outX outer F) n := ⟨W.K, W.B, W.hand, W.depth, W.units⟩
theorem Wd.inX (W : Wd K C n) {outer : List Env} {F : St → Prop} : Wx K (C.inX outer F) n := ⟨W.K, W.B, W.hand, W.depth, W.units⟩
theorem TE.globX {x : Str} {pos : Pos} {v : Value} {Q : AV → St → Prop} (W : Wx K C n) (hs : C.env.scope = sc) (hx : sc.names.lookup x = some .globalImplicit) (e : nsIn K mainGlobals x = some (some v)) (hp : plainV v = true) (q : Q (.con v) σ)
    (hd : (x == ("__debug__" : Str)) = false := by decide) : TE C (.Name x pos) σ Q :=
  TE.glob hs hx (mg_of C.hK C.hg (by rw [W.K]; exact e)) hp q hd
theorem TE.bltnX {x : Str} {pos : Pos} {v : Value} {Q : AV → St → Prop} (W : Wx K C n) (hs : C.env.scope = sc) (hx : sc.names.lookup x = some .globalImplicit) (e : nsIn K mainGlobals x = some none) (hn : x ≠ "__name__") (hv : bootBuiltins x = some v) (hp : plainV v = true) (q : Q (.con v) σ)
    (hd : (x == ("__debug__" : Str)) = false := by decide) : TE C (.Name x pos) σ Q :=
  TE.bltn hs hx (mg_none_of C.hK C.hg (by rw [W.K]; exact e)) (by rw [W.B x hn]; exact hv) hp q hd
/-- what is the frame's own is not tracked -/
theorem TV.own {α β : Type} {vs : List Value} {as : List AV} {R : Heap → α → β → Prop} {t : Sem α} {Q : β → St → Prop} (h : σ.H C.env.locals = none → TV C vs as R t σ Q) : TV C vs as R t σ Q := fun s R0 hv =>
  h (by
    cases q : σ.H C.env.locals with
    | none => rfl
    | some o => exact absurd List.mem_cons_self (R0.objs _ _ q).2.2) s R0 hv
end

/-- what a swap asks of the frame is its scope alone -/
theorem swapped_of {env : Env} {sc : Scope} (hs : env.scope = sc) {ts : List PySem.Expr} {v : PySem.Expr} {r : Sem (Option (List Str))} (h : swappedStores ts v (envOf Str.empty sc 0 0 .none) = r) : swappedStores ts v env = r := by
  subst hs
  exact h
section
variable {C : Cx} {σ : St} {outer : List Env} {F0 : St → Prop}
theorem TCallTK.user {f : Addr} {body : List Stmt} {scope : Scope} {fd : FuncData} (Fn : FnAt C.K f body scope fd) {as : List AV} {ps : List Str} {nk : Str} {k : AV} {Q : AV → St → Prop} {F : Obj → St → Prop}
    (hl : as.length = ps.length) (hroom : C.A.depth < recursionLimit) (hk : kindsOk scope (ps ++ [nk]) = true)
    (hbind : ∀ vs w s, vs.length = ps.length → C.K.In s.heap → BindsTo s fd ⟨vs, [(nk, w)]⟩ (ps.zip vs ++ [(nk, w)]))
    (h : ∀ env hk eg eb oL, env.scope = scope → env.frame = some env.locals → (∀ vs, oL.data ≠ .fields vs) →
      TS ((C.callee C.A env hk eg eb).outX (C.env :: outer) (F oL)) body ⟨bindA (ps.zip as ++ [(nk, k)]) fun _ => none, σ.H.put C.env.locals (.raw oL)⟩ fun fl σ' => σ'.H C.env.locals = some (.raw oL) ∧ Q (retOf fl) ⟨σ.m, dropA σ'.H C.env.locals⟩)
    (hF : ∀ oL σ', F oL σ' → σ'.H C.env.locals = some (.raw oL) ∧ F0 ⟨σ.m, dropA σ'.H C.env.locals⟩) : TCallK (C.inX outer F0) (.ref f) as nk k σ Q := by
  intro vs w s R0 hv
  cases hv with
  | cons e hv =>
    obtain ⟨⟨oc, od, name, qual, params, dV, kV, doc, pm, an, cdv, ct, osl, e1, rfl, e2⟩, nd, co, gen, kind⟩ := Fn
    refine wpAny_call (code_userX (C := C) (outer := outer) (Q := fun oL fl σ' => σ'.H C.env.locals = some (.raw oL) ∧ Q (retOf fl) ⟨σ.m, dropA σ'.H C.env.locals⟩) (F := F) R0 e1 e2 hroom (hbind vs w s (by rw [hv.length, hl]) R0.kin) ((zip_rel hv).append (.cons e .nil)) ?_ nd co gen kind h (fun _ _ _ q => q.1) (fun oL σ' q => (hF oL σ' q).1)
      (fun oL fl v σ' s' q r R' g => ⟨_, _, r, R', g, q.2⟩) fun oL σr ea hr a0 hid s3 hFr R2 g2 fly up hh hnt => ?_)
    · unfold kindsOk at hk
      have : (ps.zip vs ++ [(nk, w)]).map (·.1) = ps ++ [nk] := by rw [List.map_append, List.map_fst_zip (by rw [hv.length, hl]; exact Nat.le_refl _)]; rfl
      rw [← this, List.all_map] at hk
      exact hk
    · exact ⟨ea, hr, _, a0, hid, rfl, R2, g2, (hF oL σr hFr).2, fly, up, hh, hnt⟩
end

/-! the book: what stands at which path -/
inductive Key where
  | nm (s : Str)
  | pl (n : Nat)
inductive Th where
  | tab
  | lst
  | int (n : Nat)
  | txt (b : Bool)
def keyA : Key → AV
  | .nm s => .str s
  | .pl n => .int (n : Int)
def thA : Th → AV
  | .tab => .str "table"
  | .lst => .str "list"
  | .int n => .int (n : Int)
  | .txt b => .str (if b then "a" else Str.empty)
abbrev Path := List Key
abbrev BRow := Path × Th
def pathA (p : Path) : AV := .tup (p.map keyA)
def browA (r : BRow) : AV := .tup [pathA r.1, thA r.2]
def Th.box : Th → Prop
  | .tab => True
  | .lst => True
  | _ => False

theorem keyA_inj {a b : Key} (h : keyA a = keyA b) : a = b := by
  cases a <;> cases b <;> simp only [keyA, AV.str.injEq, AV.int.injEq, reduceCtorEq] at h
  · rw [h]
  · congr 1; omega
theorem keysA_inj : ∀ {p q : Path}, p.map keyA = q.map keyA → p = q
  | [], [], _ => rfl
  | [], _ :: _, h => by simp at h
  | _ :: _, [], h => by simp at h
  | a :: p, b :: q, h => by
    simp only [List.map_cons, List.cons.injEq] at h
    rw [keyA_inj h.1, keysA_inj h.2]
theorem pathA_inj {p q : Path} (h : pathA p = pathA q) : p = q := keysA_inj (AV.tup.inj h)
theorem thA_inj {a b : Th} (h : thA a = thA b) : a = b := by
  cases a <;> cases b <;> simp only [thA, AV.str.injEq, AV.int.injEq, reduceCtorEq] at h
  · rfl
  · exact absurd h (by decide)
  · rename_i b; cases b <;> exact absurd h (by decide)
  · exact absurd h (by decide)
  · rfl
  · rename_i b; cases b <;> exact absurd h (by decide)
  · congr 1; omega
  · rename_i b; cases b <;> exact absurd h (by decide)
  · rename_i b; cases b <;> exact absurd h (by decide)
  · rename_i b c; cases b <;> cases c <;> first | rfl | exact absurd h (by decide)
theorem browA_inj {a b : BRow} (h : browA a = browA b) : a = b := by
  have := AV.tup.inj h
  simp only [List.cons.injEq, and_true] at this
  exact Prod.ext (pathA_inj this.1) (thA_inj this.2)
theorem mem_map_inj {α β : Type} {f : α → β} (hf : ∀ a b, f a = f b → a = b) {a : α} {l : List α} : f a ∈ l.map f ↔ a ∈ l := by
  constructor
  · intro h; obtain ⟨b, hb, e⟩ := List.mem_map.mp h; rw [← hf _ _ e]; exact hb
  · intro h; exact List.mem_map.mpr ⟨a, h, rfl⟩

def KeyOk : Key → Prop
  | .nm s => PyData.strOk s = true
  | .pl _ => True
theorem keyA_data {n : Nat} {k : Key} (h : KeyOk k) : DataA n (keyA k) := by
  cases k with
  | nm s => exact .str n s h
  | pl i => exact .int n _
theorem thA_data {n : Nat} {t : Th} : DataA n (thA t) := by
  cases t with
  | tab => exact .str n _ (by decide +kernel)
  | lst => exact .str n _ (by decide +kernel)
  | int i => exact .int n _
  | txt b => cases b <;> exact .str n _ (by decide +kernel)
theorem pathA_data {n : Nat} {p : Path} (h : ∀ k ∈ p, KeyOk k) : DataA (n + 1) (pathA p) :=
  .tup n _ fun a ha => by obtain ⟨k, hk, rfl⟩ := List.mem_map.mp ha; exact keyA_data (h k hk)
theorem browA_data {n : Nat} {r : BRow} (h : ∀ k ∈ r.1, KeyOk k) : DataA (n + 2) (browA r) :=
  .tup (n + 1) _ fun a ha => by
    simp only [List.mem_cons, List.not_mem_nil, or_false] at ha
    rcases ha with rfl | rfl
    · exact pathA_data h
    · exact thA_data

open Classical in
/-- what stands right behind p -/
noncomputable def kids (B : List BRow) (p : Path) : List (Key × Th) := B.filterMap fun r => if r.1.dropLast = p then r.1.getLast?.map (·, r.2) else none
noncomputable def belowB (B : List BRow) (p : Path) : List Key := (kids B p).map (·.1)

theorem snocRec {α : Type} {P : List α → Prop} (nil : P []) (snoc : ∀ l a, P l → P (l ++ [a])) (l : List α) : P l := by
  have key : ∀ n (l : List α), l.length = n → P l := by
    intro n
    induction n with
    | zero => intro l h; rw [List.length_eq_zero_iff.mp h]; exact nil
    | succ n ih =>
      intro l h
      have hne : l ≠ [] := by intro e; subst e; simp at h
      rw [← List.dropLast_concat_getLast hne]
      exact snoc _ _ (ih _ (by rw [List.length_dropLast]; omega))
  exact key _ l rfl
theorem snoc_cases (p : Path) : p = [] ∨ ∃ q k, p = q ++ [k] := by
  rcases List.eq_nil_or_concat p with h | ⟨q, k, h⟩
  · exact .inl h
  · exact .inr ⟨q, k, by simpa using h⟩
theorem mem_kids {B : List BRow} {p : Path} {k : Key} {t : Th} : (k, t) ∈ kids B p ↔ (p ++ [k], t) ∈ B := by
  unfold kids
  rw [List.mem_filterMap]
  constructor
  · rintro ⟨⟨q, t'⟩, h, e⟩
    dsimp only at e
    split at e
    · rename_i hq
      rcases snoc_cases q with rfl | ⟨q', k', rfl⟩
      · simp at e
      · simp at e hq
        rw [← hq, ← e.1, ← e.2]; exact h
    · cases e
  · intro h
    exact ⟨_, h, by simp⟩
theorem mem_below {B : List BRow} {p : Path} {k : Key} : k ∈ belowB B p ↔ ∃ t, (p ++ [k], t) ∈ B := by
  unfold belowB
  rw [List.mem_map]
  constructor
  · rintro ⟨⟨k', t⟩, h, rfl⟩; exact ⟨t, mem_kids.mp h⟩
  · rintro ⟨t, h⟩; exact ⟨_, mem_kids.mpr h, rfl⟩
open Classical in
theorem kids_snoc {B : List BRow} {p q : Path} {k : Key} {t : Th} : kids (B ++ [(p ++ [k], t)]) q = kids B q ++ if p = q then [(k, t)] else [] := by
  unfold kids
  rw [List.filterMap_append]
  congr 1
  by_cases h : p = q
  · simp [h]
  · simp [h]
theorem kids_same {B : List BRow} {p : Path} {k : Key} {t : Th} : kids (B ++ [(p ++ [k], t)]) p = kids B p ++ [(k, t)] := by rw [kids_snoc, if_pos rfl]
theorem kids_ne {B : List BRow} {p q : Path} {k : Key} {t : Th} (h : p ≠ q) : kids (B ++ [(p ++ [k], t)]) q = kids B q := by rw [kids_snoc, if_neg h, List.append_nil]
theorem below_same {B : List BRow} {p : Path} {k : Key} {t : Th} : belowB (B ++ [(p ++ [k], t)]) p = belowB B p ++ [k] := by unfold belowB; rw [kids_same]; simp
theorem below_ne {B : List BRow} {p q : Path} {k : Key} {t : Th} (h : p ≠ q) : belowB (B ++ [(p ++ [k], t)]) q = belowB B q := by unfold belowB; rw [kids_ne h]
theorem kids_len {B : List BRow} {p : Path} : (kids B p).length ≤ B.length := List.length_filterMap_le _ _
theorem below_len {B : List BRow} {p : Path} : (belowB B p).length ≤ B.length := by unfold belowB; rw [List.length_map]; exact kids_len

/-! the layout -/
def valT (adr : Path → Addr) (p : Path) : Th → AV
  | .int n => .int (n : Int)
  | .txt b => .str (if b then "a" else Str.empty)
  | _ => .con (.ref (adr p))
def nameK : Key → Str
  | .nm s => s
  | .pl _ => Str.empty
noncomputable def entsB (B : List BRow) (adr : Path → Addr) (p : Path) : List (Str × AV) := (kids B p).map fun e => (nameK e.1, valT adr (p ++ [e.1]) e.2)
noncomputable def itemsB (B : List BRow) (adr : Path → Addr) (p : Path) : List AV := (kids B p).map fun e => valT adr (p ++ [e.1]) e.2

structure Inv (B : List BRow) (adr : Path → Addr) (H : AH) : Prop where
  nd : (B.map (·.1)).Nodup
  root : (([] : Path), Th.tab) ∈ B
  par : ∀ p k t, (p ++ [k], t) ∈ B → (∃ x, k = .nm x ∧ (p, .tab) ∈ B) ∨ ∃ i, k = .pl i ∧ (p, .lst) ∈ B
  row : ∀ p, (p, Th.lst) ∈ B → belowB B p = (List.range (belowB B p).length).map .pl
  ok : ∀ r ∈ B, ∀ k ∈ r.1, KeyOk k
  dep : ∀ r ∈ B, r.1.length ≤ 8
  tab : ∀ p, (p, Th.tab) ∈ B → H (adr p) = some (.dict (entsB B adr p))
  lst : ∀ p, (p, Th.lst) ∈ B → H (adr p) = some (.list (itemsB B adr p))
  inj : ∀ p q t u, (p, t) ∈ B → t.box → (q, u) ∈ B → u.box → adr p = adr q → p = q
def Inv.Adr (B : List BRow) (adr : Path → Addr) (a : Addr) : Prop := ∃ p t, (p, t) ∈ B ∧ Th.box t ∧ adr p = a

section
variable {B : List BRow} {adr : Path → Addr} {H H' : AH}
theorem Inv.uniq (I : Inv B adr H) {p : Path} {t u : Th} (h : (p, t) ∈ B) (h' : (p, u) ∈ B) : t = u := by
  have key : ∀ {B : List BRow}, (B.map (·.1)).Nodup → (p, t) ∈ B → (p, u) ∈ B → t = u := by
    intro B
    induction B with
    | nil => intro _ h; cases h
    | cons r B ih =>
      intro hd h h'
      rw [List.map_cons, List.nodup_cons] at hd
      rcases List.mem_cons.mp h with e | h <;> rcases List.mem_cons.mp h' with e' | h'
      · rw [← e] at e'; exact (Prod.mk.inj e').2.symm
      · exact absurd (List.mem_map.mpr ⟨_, h', by rw [← e]⟩) hd.1
      · exact absurd (List.mem_map.mpr ⟨_, h, by rw [← e']⟩) hd.1
      · exact ih hd.2 h h'
  exact key I.nd h h'
theorem Inv.get (I : Inv B adr H) {p : Path} {t : Th} (h : (p, t) ∈ B) (hb : t.box) : ∃ o, H (adr p) = some o ∧ ((t = .tab ∧ o = .dict (entsB B adr p)) ∨ (t = .lst ∧ o = .list (itemsB B adr p))) := by
  cases t with
  | tab => exact ⟨_, I.tab p h, .inl ⟨rfl, rfl⟩⟩
  | lst => exact ⟨_, I.lst p h, .inr ⟨rfl, rfl⟩⟩
  | int n => exact hb.elim
  | txt b => exact hb.elim
theorem Inv.keep (I : Inv B adr H) (h : ∀ a o, Inv.Adr B adr a → H a = some o → H' a = some o) : Inv B adr H' :=
  ⟨I.nd, I.root, I.par, I.row, I.ok, I.dep, fun p hp => h _ _ ⟨p, _, hp, trivial, rfl⟩ (I.tab p hp), fun p hp => h _ _ ⟨p, _, hp, trivial, rfl⟩ (I.lst p hp), I.inj⟩
theorem Inv.ext (I : Inv B adr H) (h : ∀ a o, H a = some o → H' a = some o) : Inv B adr H' := I.keep fun a o _ => h a o
theorem Inv.adrSome (I : Inv B adr H) {a : Addr} (h : Inv.Adr B adr a) : ∃ o, H a = some o ∧ ((∃ es, o = .dict es) ∨ ∃ xs, o = .list xs) := by
  obtain ⟨p, t, h1, h2, rfl⟩ := h
  obtain ⟨o, e, h⟩ := I.get h1 h2
  exact ⟨o, e, by rcases h with ⟨_, h⟩ | ⟨_, h⟩; exact .inl ⟨_, h⟩; exact .inr ⟨_, h⟩⟩

theorem Inv.tabKey (I : Inv B adr H) {p : Path} {k : Key} {t : Th} (hp : (p, .tab) ∈ B) (h : (p ++ [k], t) ∈ B) : ∃ x, k = .nm x := by
  rcases I.par _ _ _ h with ⟨x, hx, _⟩ | ⟨i, _, h2⟩
  · exact ⟨x, hx⟩
  · exact absurd (I.uniq hp h2) (by intro x; cases x)
theorem Inv.lstKey (I : Inv B adr H) {p : Path} {k : Key} {t : Th} (hp : (p, .lst) ∈ B) (h : (p ++ [k], t) ∈ B) : ∃ x, k = .pl x := by
  rcases I.par _ _ _ h with ⟨x, _, h2⟩ | ⟨i, h1, h2⟩
  · exact absurd (I.uniq hp h2) (by intro x; cases x)
  · exact ⟨i, h1⟩

theorem kids_nodup (hB : (B.map (·.1)).Nodup) {p : Path} : ((kids B p).map (·.1)).Nodup := by
  induction B with
  | nil => exact List.nodup_nil
  | cons r B ih =>
    rw [List.map_cons, List.nodup_cons] at hB
    unfold kids at ih ⊢
    rw [List.filterMap_cons]
    split
    · exact ih hB.2
    · rename_i e he
      split at he
      · rename_i hp
        rcases snoc_cases r.1 with h | ⟨q, k, h⟩
        · rw [h] at he; simp at he
        · rw [h] at he hp
          simp at he hp
          subst he
          rw [List.map_cons, List.nodup_cons]
          refine ⟨fun hm => ?_, ih hB.2⟩
          have : k ∈ belowB B p := hm
          obtain ⟨t, ht⟩ := mem_below.mp this
          exact hB.1 (List.mem_map.mpr ⟨_, ht, by rw [h, hp]⟩)
      · cases he

/-- what a table has under a name -/
theorem Inv.val (I : Inv B adr H) {p : Path} {x : Str} {t : Th} (hp : (p, .tab) ∈ B) (h : (p ++ [.nm x], t) ∈ B) : valA (entsB B adr p) x = some (valT adr (p ++ [.nm x]) t) := by
  have hk : (Key.nm x, t) ∈ kids B p := mem_kids.mpr h
  have nm : ∀ e ∈ kids B p, ∃ y, e.1 = .nm y := fun e he => I.tabKey hp (mem_kids.mp (show (e.1, e.2) ∈ kids B p from he))
  have nd := kids_nodup I.nd (p := p)
  unfold entsB
  revert hk nm nd
  generalize kids B p = l
  induction l with
  | nil => intro h; cases h
  | cons e l ih =>
    intro hk nm nd
    obtain ⟨k, u⟩ := e
    obtain ⟨y, hy⟩ := nm _ List.mem_cons_self
    dsimp only at hy
    subst hy
    rw [List.map_cons, List.nodup_cons] at nd
    unfold valA
    rw [List.map_cons, List.find?_cons]
    by_cases hyx : y = x
    · subst hyx
      rcases List.mem_cons.mp hk with e | hk
      · cases e; simp [nameK]
      · exact absurd (List.mem_map.mpr ⟨_, hk, rfl⟩) nd.1
    · rcases List.mem_cons.mp hk with e | hk
      · cases e; exact absurd rfl hyx
      · simp only [nameK, hyx, decide_false]
        exact ih hk (fun e he => nm e (List.mem_cons_of_mem _ he)) nd.2
theorem Inv.noVal (I : Inv B adr H) {p : Path} {x : Str} (hp : (p, .tab) ∈ B) (h : Key.nm x ∉ belowB B p) : valA (entsB B adr p) x = none := by
  unfold valA
  rw [Option.map_eq_none_iff, List.find?_eq_none]
  intro e he
  unfold entsB at he
  obtain ⟨⟨k, u⟩, h1, rfl⟩ := List.mem_map.mp he
  obtain ⟨y, hy⟩ := I.tabKey hp (mem_kids.mp h1)
  subst hy
  simp only [nameK]
  intro e
  have e := of_decide_eq_true e
  subst e
  exact h (List.mem_map.mpr ⟨_, h1, rfl⟩)

noncomputable def adrN (adr : Path → Addr) (p : Path) (d : Addr) : Path → Addr := open Classical in fun q => if q = p then d else adr q
theorem adrN_self {p : Path} {d : Addr} : adrN adr p d p = d := by simp [adrN]
theorem adrN_ne {p q : Path} {d : Addr} (h : q ≠ p) : adrN adr p d q = adr q := by simp [adrN, h]

def emptyT : Th → Option AO
  | .tab => some (.dict [])
  | .lst => some (.list [])
  | _ => none
theorem nodup_snoc {α : Type} {l : List α} {a : α} : (l ++ [a]).Nodup ↔ l.Nodup ∧ a ∉ l := by
  rw [List.nodup_append]
  constructor
  · rintro ⟨h1, _, h3⟩; exact ⟨h1, fun h => h3 a h a (by simp) rfl⟩
  · rintro ⟨h1, h2⟩
    refine ⟨h1, by simp, fun x hx y hy e => ?_⟩
    rw [List.mem_singleton.mp hy] at e; subst e; exact h2 hx
/-- a thing laid at a new place -/
theorem Inv.add (I : Inv B adr H) {p : Path} {k : Key} {t tp : Th} {d : Addr} (hp : (p, tp) ∈ B) (hk : (tp = .tab ∧ ∃ x, k = .nm x) ∨ (tp = .lst ∧ k = .pl (belowB B p).length)) (hn : k ∉ belowB B p) (hok : KeyOk k) (hlen : p.length ≤ 7)
    (hd : t.box → H d = none ∧ H' d = emptyT t)
    (h1 : tp = .tab → H' (adr p) = some (.dict (entsB B adr p ++ [(nameK k, valT (adrN adr (p ++ [k]) d) (p ++ [k]) t)])))
    (h2 : tp = .lst → H' (adr p) = some (.list (itemsB B adr p ++ [valT (adrN adr (p ++ [k]) d) (p ++ [k]) t])))
    (hr : ∀ a o, Inv.Adr B adr a → a ≠ adr p → H a = some o → H' a = some o) : Inv (B ++ [(p ++ [k], t)]) (adrN adr (p ++ [k]) d) H' := by
  have hno : ∀ u, (p ++ [k], u) ∉ B := fun u h => hn (mem_below.mpr ⟨u, h⟩)
  have had : ∀ q u, (q, u) ∈ B → adrN adr (p ++ [k]) d q = adr q := fun q u h => adrN_ne fun e => hno u (e ▸ h)
  have hbp : tp.box := by rcases hk with ⟨rfl, _⟩ | ⟨rfl, _⟩ <;> trivial
  have kidv : ∀ q : Path, (kids B q).map (fun e => (nameK e.1, valT (adrN adr (p ++ [k]) d) (q ++ [e.1]) e.2)) = entsB B adr q := fun q =>
    List.map_congr_left fun e he => by
      have hm := mem_kids.mp (show (e.1, e.2) ∈ kids B q from he)
      congr 1
      unfold valT; rw [had _ _ hm]
  have kidi : ∀ q : Path, (kids B q).map (fun e => valT (adrN adr (p ++ [k]) d) (q ++ [e.1]) e.2) = itemsB B adr q := fun q =>
    List.map_congr_left fun e he => by
      have hm := mem_kids.mp (show (e.1, e.2) ∈ kids B q from he)
      unfold valT; rw [had _ _ hm]
  have kid0 : kids (B ++ [(p ++ [k], t)]) (p ++ [k]) = [] := by
    rw [kids_ne (by intro e; have := congrArg List.length e; simp at this)]
    rw [List.eq_nil_iff_forall_not_mem]
    rintro ⟨k', u⟩ h
    rcases I.par _ _ _ (mem_kids.mp h) with ⟨_, _, h⟩ | ⟨_, _, h⟩ <;> exact hno _ h
  have cs : ∀ {q u}, (q, u) ∈ B ++ [(p ++ [k], t)] → (q, u) ∈ B ∨ (q = p ++ [k] ∧ u = t) := fun h => by
    rcases List.mem_append.mp h with h | h
    · exact .inl h
    · exact .inr (Prod.mk.inj (List.mem_singleton.mp h))
  refine ⟨?_, List.mem_append_left _ I.root, fun q k' u h => ?_, fun q h => ?_, fun r h => ?_, fun r h => ?_, fun q h => ?_, fun q h => ?_, fun q q' u u' h hb h' hb' e => ?_⟩
  · rw [List.map_append, List.map_cons, List.map_nil, nodup_snoc]
    refine ⟨I.nd, fun h => ?_⟩
    obtain ⟨⟨q, u⟩, h1, h2⟩ := List.mem_map.mp h
    dsimp only at h2
    subst h2
    exact hno u h1
  · rcases cs h with h | ⟨e0, rfl⟩
    · rcases I.par _ _ _ h with ⟨x, h1, h2⟩ | ⟨x, h1, h2⟩
      · exact .inl ⟨x, h1, List.mem_append_left _ h2⟩
      · exact .inr ⟨x, h1, List.mem_append_left _ h2⟩
    · obtain ⟨rfl, hk'⟩ := List.append_inj' e0 rfl
      have hk' : k' = k := by simpa using hk'
      subst hk'
      rcases hk with ⟨rfl, x, rfl⟩ | ⟨rfl, rfl⟩
      · exact .inl ⟨x, rfl, List.mem_append_left _ hp⟩
      · exact .inr ⟨_, rfl, List.mem_append_left _ hp⟩
  · rcases cs h with h0 | ⟨rfl, rfl⟩
    · by_cases hq : p = q
      · subst hq
        have : tp = .lst := I.uniq hp h0
        subst this
        rcases hk with ⟨hx, _⟩ | ⟨_, rfl⟩
        · cases hx
        · rw [below_same, List.length_append, List.length_singleton, List.range_succ, List.map_append, ← I.row _ h0]; rfl
      · rw [below_ne hq]; exact I.row q h0
    · unfold belowB; rw [kid0]; rfl
  · obtain ⟨q, u⟩ := r
    rcases cs h with h | ⟨rfl, rfl⟩
    · exact I.ok _ h
    · intro k' hk'
      rcases List.mem_append.mp hk' with h | h
      · exact I.ok _ hp k' h
      · rw [List.mem_singleton.mp h]; exact hok
  · obtain ⟨q, u⟩ := r
    rcases cs h with h | ⟨rfl, rfl⟩
    · exact I.dep _ h
    · simp; exact hlen
  · rcases cs h with h | ⟨rfl, rfl⟩
    · rw [had _ _ h]
      by_cases hq : p = q
      · subst hq
        have : tp = .tab := I.uniq hp h
        rw [h1 this]
        unfold entsB
        rw [kids_same, List.map_append, kidv]; rfl
      · have e : entsB (B ++ [(p ++ [k], t)]) (adrN adr (p ++ [k]) d) q = entsB B adr q := by unfold entsB; rw [kids_ne hq]; exact kidv q
        rw [e]
        exact hr _ _ ⟨q, _, h, trivial, rfl⟩ (fun e => hq (I.inj _ _ _ _ hp hbp h trivial e.symm)) (I.tab q h)
    · rw [adrN_self, (hd trivial).2]
      unfold entsB; rw [kid0]; rfl
  · rcases cs h with h | ⟨rfl, rfl⟩
    · rw [had _ _ h]
      by_cases hq : p = q
      · subst hq
        have : tp = .lst := I.uniq hp h
        rw [h2 this]
        unfold itemsB
        rw [kids_same, List.map_append, kidi]; rfl
      · have e : itemsB (B ++ [(p ++ [k], t)]) (adrN adr (p ++ [k]) d) q = itemsB B adr q := by unfold itemsB; rw [kids_ne hq]; exact kidi q
        rw [e]
        exact hr _ _ ⟨q, _, h, trivial, rfl⟩ (fun e => hq (I.inj _ _ _ _ hp hbp h trivial e.symm)) (I.lst q h)
    · rw [adrN_self, (hd trivial).2]
      unfold itemsB; rw [kid0]; rfl
  · have nd : ∀ {q u}, (q, u) ∈ B → u.box → t.box → adr q ≠ d := fun h hb ht e => by
      obtain ⟨o, e', _⟩ := I.get h hb
      rw [e, (hd ht).1] at e'; cases e'
    rcases cs h with a | ⟨rfl, rfl⟩ <;> rcases cs h' with b | ⟨rfl, rfl⟩
    · rw [had _ _ a, had _ _ b] at e; exact I.inj _ _ _ _ a hb b hb' e
    · rw [had _ _ a, adrN_self] at e; exact absurd e (nd a hb hb')
    · rw [adrN_self, had _ _ b] at e; exact absurd e.symm (nd b hb' hb)
    · rfl

/-! what is reached by names -/
inductive Rch (B : List BRow) (lists : Bool) : Path → List Str → Prop
  | nil : Rch B lists [] []
  | nm {p : Path} {ns : List Str} (x : Str) : Rch B lists p ns → Rch B lists (p ++ [.nm x]) (ns ++ [x])
  | pl {p : Path} {ns : List Str} (i : Nat) : Rch B lists p ns → lists = true → (belowB B p).getLast? = some (.pl i) → Rch B lists (p ++ [.pl i]) ns
theorem snoc_inj {p q : Path} {k l : Key} (h : p ++ [k] = q ++ [l]) : p = q ∧ k = l := by
  obtain ⟨h1, h2⟩ := List.append_inj' h rfl
  exact ⟨h1, by simpa using h2⟩
theorem Rch.inv_nm {lists : Bool} {p : Path} {x : Str} {ns : List Str} (h : Rch B lists (p ++ [.nm x]) ns) : ∃ ms, ns = ms ++ [x] ∧ Rch B lists p ms := by
  generalize e : p ++ [.nm x] = q at h
  cases h with
  | nil => simp at e
  | nm y h => obtain ⟨rfl, h2⟩ := snoc_inj e; cases h2; exact ⟨_, rfl, h⟩
  | pl i h h1 h2 => obtain ⟨rfl, h3⟩ := snoc_inj e; cases h3
theorem Rch.inv_pl {lists : Bool} {p : Path} {i : Nat} {ns : List Str} (h : Rch B lists (p ++ [.pl i]) ns) : Rch B lists p ns ∧ lists = true ∧ (belowB B p).getLast? = some (.pl i) := by
  generalize e : p ++ [.pl i] = q at h
  cases h with
  | nil => simp at e
  | nm y h => obtain ⟨rfl, h2⟩ := snoc_inj e; cases h2
  | pl i h h1 h2 => obtain ⟨rfl, h3⟩ := snoc_inj e; have h3 := Key.pl.inj h3; subst h3; exact ⟨h, h1, h2⟩
theorem Rch.inv_nil {lists : Bool} {ns : List Str} (h : Rch B lists [] ns) : ns = [] := by
  generalize e : ([] : Path) = q at h
  cases h with
  | nil => rfl
  | nm y h => simp at e
  | pl i h h1 h2 => simp at e
theorem Rch.uniq {lists : Bool} {p : Path} {ns ms : List Str} (h : Rch B lists p ns) (h' : Rch B lists p ms) : ns = ms := by
  induction h generalizing ms with
  | nil => exact h'.inv_nil.symm
  | nm x _ ih => obtain ⟨l, rfl, h⟩ := h'.inv_nm; rw [ih h]
  | pl i _ _ _ ih => exact ih h'.inv_pl.1
theorem Rch.at_pl {lists : Bool} {p : Path} {ns : List Str} (h : Rch B lists p ns) {j i : Nat} (hj : p[j]? = some (.pl i)) : lists = true ∧ (belowB B (p.take j)).getLast? = some (.pl i) := by
  induction h with
  | nil => simp at hj
  | @nm p ns x h ih =>
    by_cases hl : j < p.length
    · rw [List.getElem?_append_left hl] at hj
      rw [List.take_append_of_le_length (by omega)]
      exact ih hj
    · rw [List.getElem?_append_right (by omega)] at hj
      have : j - p.length = 0 := by
        have := (List.getElem?_eq_some_iff.mp hj).1; simp at this; omega
      rw [this] at hj; simp at hj
  | @pl p ns i' h h1 h2 ih =>
    by_cases hl : j < p.length
    · rw [List.getElem?_append_left hl] at hj
      rw [List.take_append_of_le_length (by omega)]
      exact ih hj
    · rw [List.getElem?_append_right (by omega)] at hj
      have e : j = p.length := by
        have := (List.getElem?_eq_some_iff.mp hj).1; simp at this; omega
      rw [e] at hj ⊢; simp at hj
      subst hj
      refine ⟨h1, ?_⟩
      rw [List.take_append_of_le_length (Nat.le_refl _), List.take_of_length_le (Nat.le_refl _)]
      exact h2
/-- lists hold tables alone and are never empty -/
structure Tame (B : List BRow) : Prop where
  item : ∀ p i t, (p ++ [.pl i], t) ∈ B → t = .tab
  some_ : ∀ p, (p, Th.lst) ∈ B → belowB B p ≠ []
/-- the next table by a name -/
def Next (B : List BRow) (lists : Bool) (p : Path) (x : Str) (q : Path) : Prop :=
  (q = p ++ [.nm x] ∧ (q, .tab) ∈ B) ∨ (lists = true ∧ (p ++ [.nm x], .lst) ∈ B ∧ ∃ i, (belowB B (p ++ [.nm x])).getLast? = some (.pl i) ∧ q = p ++ [.nm x] ++ [.pl i])
theorem Rch.step (I : Inv B adr H) (T : Tame B) {lists : Bool} {q : Path} {ns : List Str} {x : Str} (hq : (q, .tab) ∈ B) (h : Rch B lists q (ns ++ [x])) : ∃ p, (p, .tab) ∈ B ∧ Rch B lists p ns ∧ Next B lists p x q := by
  rcases snoc_cases q with rfl | ⟨r, k, rfl⟩
  · have := h.inv_nil; simp at this
  · rcases I.par _ _ _ hq with ⟨y, rfl, h2⟩ | ⟨i, rfl, h2⟩
    · obtain ⟨ms, e, h3⟩ := h.inv_nm
      obtain ⟨rfl, e2⟩ := List.append_inj' e rfl
      have : x = y := by simpa using e2
      subst this
      exact ⟨r, h2, h3, .inl ⟨rfl, hq⟩⟩
    · obtain ⟨h3, h4, h5⟩ := h.inv_pl
      rcases snoc_cases r with rfl | ⟨r', k', rfl⟩
      · exact absurd (I.uniq I.root h2) (by intro x; cases x)
      · rcases I.par _ _ _ h2 with ⟨y, rfl, h6⟩ | ⟨j, rfl, h6⟩
        · obtain ⟨ms, e, h7⟩ := h3.inv_nm
          obtain ⟨rfl, e2⟩ := List.append_inj' e rfl
          have : x = y := by simpa using e2
          subst this
          exact ⟨r', h6, h7, .inr ⟨h4, h2, i, h5, rfl⟩⟩
        · exact absurd (T.item _ _ _ h2) (by intro x; cases x)
theorem Next.uniq (I : Inv B adr H) {lists : Bool} {p q q' : Path} {x : Str} (n : Next B lists p x q) (n' : Next B lists p x q') : q = q' := by
  rcases n with ⟨rfl, h⟩ | ⟨h1, h, i, h2, rfl⟩ <;> rcases n' with ⟨rfl, h'⟩ | ⟨h1', h', i', h2', rfl⟩
  · rfl
  · exact absurd (I.uniq h h') (by intro x; cases x)
  · exact absurd (I.uniq h h') (by intro x; cases x)
  · rw [h2] at h2'; cases h2'; rfl
theorem Rch.nil_path (I : Inv B adr H) {lists : Bool} {q : Path} (hq : (q, .tab) ∈ B) (T : Tame B) (h : Rch B lists q []) : q = [] := by
  rcases snoc_cases q with rfl | ⟨r, k, rfl⟩
  · rfl
  · rcases I.par _ _ _ hq with ⟨y, rfl, h2⟩ | ⟨i, rfl, h2⟩
    · obtain ⟨ms, e, h3⟩ := h.inv_nm; simp at e
    · obtain ⟨h3, h4, h5⟩ := h.inv_pl
      rcases snoc_cases r with rfl | ⟨r', k', rfl⟩
      · exact absurd (I.uniq I.root h2) (by intro x; cases x)
      · rcases I.par _ _ _ h2 with ⟨y, rfl, h6⟩ | ⟨j, rfl, h6⟩
        · obtain ⟨ms, e, h7⟩ := h3.inv_nm; simp at e
        · exact absurd (T.item _ _ _ h2) (by intro x; cases x)
theorem Rch.path_uniq (I : Inv B adr H) (T : Tame B) {lists : Bool} : ∀ {ns : List Str} {p q : Path}, (p, Th.tab) ∈ B → (q, Th.tab) ∈ B → Rch B lists p ns → Rch B lists q ns → p = q := by
  intro ns
  induction ns using snocRec with
  | nil => intro p q hp hq h h'; rw [h.nil_path I hp T, h'.nil_path I hq T]
  | snoc ns x ih =>
    intro p q hp hq h h'
    obtain ⟨p', a1, a2, a3⟩ := h.step I T hp
    obtain ⟨q', b1, b2, b3⟩ := h'.step I T hq
    have := ih a1 b1 a2 b2
    subst this
    exact a3.uniq I b3
theorem Rch.len (I : Inv B adr H) (T : Tame B) {lists : Bool} : ∀ {ns : List Str} {p : Path}, (p, Th.tab) ∈ B → Rch B lists p ns → p.length ≤ 2 * ns.length := by
  intro ns
  induction ns using snocRec with
  | nil => intro p hp h; rw [h.nil_path I hp T]; simp
  | snoc ns x ih =>
    intro p hp h
    obtain ⟨p', a1, a2, a3⟩ := h.step I T hp
    have := ih a1 a2
    rw [List.length_append, List.length_singleton]
    rcases a3 with ⟨rfl, _⟩ | ⟨_, _, i, _, rfl⟩ <;> simp <;> omega
theorem Rch.pre (I : Inv B adr H) (T : Tame B) {lists : Bool} : ∀ {ns : List Str} {p : Path}, (p, Th.tab) ∈ B → Rch B lists p ns → ∀ i, i ≤ ns.length → ∃ q, (q, Th.tab) ∈ B ∧ Rch B lists q (ns.take i) := by
  intro ns
  induction ns using snocRec with
  | nil => intro p hp h i hi; exact ⟨p, hp, by simpa using h⟩
  | snoc ns x ih =>
    intro p hp h i hi
    rw [List.length_append, List.length_singleton] at hi
    by_cases hl : i = ns.length + 1
    · subst hl
      refine ⟨p, hp, ?_⟩
      rw [List.take_of_length_le (by simp)]; exact h
    · obtain ⟨p', a1, a2, a3⟩ := h.step I T hp
      obtain ⟨q, h1, h2⟩ := ih a1 a2 i (by omega)
      refine ⟨q, h1, ?_⟩
      rw [List.take_append_of_le_length (by omega)]; exact h2
/-- what _law_find finds -/
structure Found (B : List BRow) (lists : Bool) (key : List Str) (best : Path) (size : Nat) : Prop where
  le : size ≤ key.length
  mem : (best, Th.tab) ∈ B
  rch : Rch B lists best (key.take size)
  max : ∀ q n, (q, Th.tab) ∈ B → n ≤ key.length → Rch B lists q (key.take n) → n ≤ size
end

/-! tables added one behind the other -/
def nms (xs : List Str) : Path := xs.map .nm
def addN (B : List BRow) (p : Path) (xs : List Str) : Nat → List BRow
  | 0 => B
  | j + 1 => addN B p xs j ++ [(p ++ nms (xs.take (j + 1)), .tab)]

section
variable {B B' : List BRow} {adr adr' : Path → Addr} {H H' : AH} {p : Path} {xs : List Str} {j : Nat}
theorem nms_take (h : j < xs.length) : nms (xs.take (j + 1)) = nms (xs.take j) ++ [.nm xs[j]] := by
  unfold nms
  rw [List.take_succ, List.getElem?_eq_getElem h, List.map_append]; rfl
theorem mem_addN {r : BRow} : r ∈ addN B p xs j → r ∈ B ∨ ∃ i, 1 ≤ i ∧ i ≤ j ∧ r = (p ++ nms (xs.take i), .tab) := by
  induction j with
  | zero => exact .inl
  | succ j ih =>
    intro h
    rcases List.mem_append.mp h with h | h
    · rcases ih h with h | ⟨i, h1, h2, h3⟩
      · exact .inl h
      · exact .inr ⟨i, h1, by omega, h3⟩
    · exact .inr ⟨j + 1, by omega, Nat.le_refl _, List.mem_singleton.mp h⟩
theorem addN_len : (addN B p xs j).length = B.length + j := by
  induction j with
  | zero => rfl
  | succ j ih => unfold addN; rw [List.length_append, ih]; rfl
theorem addN_last (h : 1 ≤ j) : (p ++ nms (xs.take j), Th.tab) ∈ addN B p xs j := by
  cases j with
  | zero => omega
  | succ j => unfold addN; simp
/-- a path below a new name is new -/
theorem Inv.noPath (I : Inv B adr H) {y : Str} {ys : List Str} (hn : Key.nm y ∉ belowB B p) {u : Th} : (p ++ nms (y :: ys), u) ∉ B := by
  intro h
  have hl : p.length + 1 ≤ (p ++ nms (y :: ys)).length := by simp [nms]
  have key : ∀ {q : Path} {t : Th}, (q, t) ∈ B → ∀ i, i ≤ q.length → ∃ u, (q.take i, u) ∈ B := by
    intro q
    induction q using snocRec with
    | nil => intro t h i hi; exact ⟨t, by simpa using h⟩
    | snoc q k ih =>
      intro t h i hi
      by_cases hl : i ≤ q.length
      · obtain ⟨u, hu⟩ : ∃ u, (q, u) ∈ B := by
          rcases I.par _ _ _ h with ⟨_, _, h⟩ | ⟨_, _, h⟩ <;> exact ⟨_, h⟩
        rw [List.take_append_of_le_length hl]
        exact ih hu i hl
      · rw [List.take_of_length_le (by simp at hi ⊢; omega)]; exact ⟨t, h⟩
  obtain ⟨t, ht⟩ := key h (p.length + 1) hl
  have e : (p ++ nms (y :: ys)).take (p.length + 1) = p ++ [.nm y] := by
    rw [List.take_append, List.take_of_length_le (Nat.le_succ _)]
    simp [nms]
  rw [e] at ht
  exact hn (mem_below.mpr ⟨t, ht⟩)
theorem Inv.emptyNew (I : Inv B adr H) (hj : 1 ≤ j) (hjl : j ≤ xs.length) (hn : ∀ x r, xs = x :: r → Key.nm x ∉ belowB B p) : belowB (addN B p xs j) (p ++ nms (xs.take j)) = [] := by
  rw [List.eq_nil_iff_forall_not_mem]
  intro k hk
  obtain ⟨t, ht⟩ := mem_below.mp hk
  obtain ⟨y, ys, e⟩ : ∃ y ys, xs = y :: ys := by
    cases xs with
    | nil => simp at hjl; omega
    | cons y ys => exact ⟨y, ys, rfl⟩
  obtain ⟨i, rfl⟩ : ∃ i, j = i + 1 := ⟨j - 1, by omega⟩
  have e2 : xs.take (i + 1) = y :: ys.take i := by rw [e]; rfl
  rcases mem_addN ht with h | ⟨i', h1, h2, h3⟩
  · have : ∃ u, (p ++ nms (xs.take (i + 1)), u) ∈ B := by rcases I.par _ _ _ h with ⟨_, _, h⟩ | ⟨_, _, h⟩ <;> exact ⟨_, h⟩
    obtain ⟨u, hu⟩ := this
    rw [e2] at hu
    exact I.noPath (hn y ys e) hu
  · have := congrArg (fun r : BRow => r.1.length) h3
    simp only [List.length_append, List.length_singleton, nms, List.length_map, List.length_take] at this
    omega

structure Grown (B : List BRow) (adr : Path → Addr) (H : AH) (B' : List BRow) (adr' : Path → Addr) (H' : AH) : Prop where
  inv : Inv B' adr' H'
  sub : ∀ r ∈ B, r ∈ B'
  same : ∀ p t, (p, t) ∈ B → adr' p = adr p
  rest : ∀ a o, H a = some o → ¬ Inv.Adr B adr a → H' a = some o
  new : ∀ p t, (p, t) ∈ B' → t.box → (p, t) ∈ B ∨ H (adr' p) = none
theorem Grown.refl (I : Inv B adr H) : Grown B adr H B adr H := ⟨I, fun _ h => h, fun _ _ _ => rfl, fun _ _ h _ => h, fun _ _ h _ => .inl h⟩
theorem Grown.adrs (G : Grown B adr H B' adr' H') {a : Addr} (h : Inv.Adr B' adr' a) : Inv.Adr B adr a ∨ H a = none := by
  obtain ⟨p, t, h1, h2, rfl⟩ := h
  rcases G.new p t h1 h2 with h | h
  · rw [G.same p t h]; exact .inl ⟨p, t, h, h2, rfl⟩
  · exact .inr h
theorem Grown.fresh (G : Grown B adr H B' adr' H') {a : Addr} (h : H' a = none) : H a = none := by
  cases e : H a with
  | none => rfl
  | some o =>
    by_cases ha : Inv.Adr B adr a
    · obtain ⟨p, t, h1, h2, rfl⟩ := ha
      obtain ⟨o', e', _⟩ := G.inv.get (G.sub _ h1) h2
      rw [G.same _ _ h1, h] at e'; cases e'
    · have := G.rest a o e ha; rw [h] at this; cases this
theorem Grown.trans {B2 : List BRow} {adr2 : Path → Addr} {H2 : AH} (G : Grown B adr H B' adr' H') (K : Grown B' adr' H' B2 adr2 H2) : Grown B adr H B2 adr2 H2 := by
  refine ⟨K.inv, fun r h => K.sub r (G.sub r h), fun p t h => (K.same p t (G.sub _ h)).trans (G.same p t h), fun a o h hn => ?_, fun p t h hb => ?_⟩
  · refine K.rest a o (G.rest a o h hn) fun ha => ?_
    rcases G.adrs ha with ha | ha
    · exact hn ha
    · rw [h] at ha; cases ha
  · rcases K.new p t h hb with h1 | h1
    · rcases G.new p t h1 hb with h2 | h2
      · exact .inl h2
      · rw [K.same p t h1]; exact .inr h2
    · exact .inr (G.fresh h1)
/-- a thing laid at a new place, the rest as it was -/
theorem Grown.add (I : Inv B adr H) {k : Key} {t tp : Th} {d : Addr} (hp : (p, tp) ∈ B) (hk : (tp = .tab ∧ ∃ x, k = .nm x) ∨ (tp = .lst ∧ k = .pl (belowB B p).length)) (hn : k ∉ belowB B p) (hok : KeyOk k) (hlen : p.length ≤ 7)
    (hd : t.box → H d = none ∧ H' d = emptyT t)
    (h1 : tp = .tab → H' (adr p) = some (.dict (entsB B adr p ++ [(nameK k, valT (adrN adr (p ++ [k]) d) (p ++ [k]) t)])))
    (h2 : tp = .lst → H' (adr p) = some (.list (itemsB B adr p ++ [valT (adrN adr (p ++ [k]) d) (p ++ [k]) t])))
    (hr : ∀ a o, a ≠ adr p → H a = some o → H' a = some o) : Grown B adr H (B ++ [(p ++ [k], t)]) (adrN adr (p ++ [k]) d) H' := by
  have hno : ∀ u, (p ++ [k], u) ∉ B := fun u h => hn (mem_below.mpr ⟨u, h⟩)
  have hbp : tp.box := by rcases hk with ⟨rfl, _⟩ | ⟨rfl, _⟩ <;> trivial
  refine ⟨I.add hp hk hn hok hlen hd h1 h2 fun a o _ h e => hr a o h e, fun r h => List.mem_append_left _ h, fun q u h => adrN_ne fun e => hno u (e ▸ h), fun a o h hna => hr a o (fun e => hna ⟨p, tp, hp, hbp, e.symm⟩) h, fun q u h hb => ?_⟩
  rcases List.mem_append.mp h with h | h
  · exact .inl h
  · have := Prod.mk.inj (List.mem_singleton.mp h)
    rw [this.1, adrN_self]
    exact .inr (hd (this.2 ▸ hb)).1

theorem Tame.addTab (T : Tame B) (hroot : (([] : Path), Th.tab) ∈ B) (I : Inv B adr H) {k : Key} {t : Th} (hp : (p, Th.tab) ∈ B) (hk : ∃ x, k = .nm x) (ht : t ≠ .lst) : Tame (B ++ [(p ++ [k], t)]) := by
  obtain ⟨x, rfl⟩ := hk
  refine ⟨fun q i u h => ?_, fun q h => ?_⟩
  · rcases List.mem_append.mp h with h | h
    · exact T.item q i u h
    · have := (snoc_inj (Prod.mk.inj (List.mem_singleton.mp h)).1).2; cases this
  · rcases List.mem_append.mp h with h | h
    · have := T.some_ q h
      rw [below_ne fun e => by subst e; exact absurd (I.uniq hp h) (by intro x; cases x)]
      exact this
    · exact absurd (Prod.mk.inj (List.mem_singleton.mp h)).2.symm ht
end

section
variable {B B' : List BRow} {adr adr' : Path → Addr} {H H' : AH} {p : Path} {x : Str}
theorem Inv.below0 (I : Inv B adr H) {q : Path} (hno : ∀ u, (q, u) ∉ B) : belowB B q = [] := by
  rw [List.eq_nil_iff_forall_not_mem]
  intro k hk
  obtain ⟨t, ht⟩ := mem_below.mp hk
  rcases I.par _ _ _ ht with ⟨_, _, h⟩ | ⟨_, _, h⟩ <;> exact hno _ h
/-- a list with a table in it laid under a new name -/
theorem Grown.addList (I : Inv B adr H) {l d : Addr} (hp : (p, Th.tab) ∈ B) (hn : Key.nm x ∉ belowB B p) (hok : PyData.strOk x = true) (hlen : p.length ≤ 6) (hl : H l = none) (hd : H d = none) (hld : l ≠ d)
    (h1 : H' l = some (.list [.con (.ref d)])) (h2 : H' d = some (.dict [])) (h3 : H' (adr p) = some (.dict (entsB B adr p ++ [(x, .con (.ref l))]))) (hr : ∀ a o, a ≠ adr p → H a = some o → H' a = some o) :
    ∃ adr', Grown B adr H (B ++ [(p ++ [.nm x], .lst)] ++ [(p ++ [.nm x] ++ [.pl 0], .tab)]) adr' H' ∧ adr' (p ++ [.nm x]) = l := by
  have hnl : adr p ≠ l := fun e => by have := I.tab _ hp; rw [e, hl] at this; cases this
  have hnd : adr p ≠ d := fun e => by have := I.tab _ hp; rw [e, hd] at this; cases this
  have hno : ∀ u, (p ++ [.nm x], u) ∉ B := fun u h => hn (mem_below.mpr ⟨u, h⟩)
  have keep : ∀ {a b : Addr} {o v : AO}, H b = none → H a = some v → (H.put b o) a = some v := fun hb h => (AH.put_ne fun e => by rw [e, hb] at h; cases h).trans h
  have e1 := Grown.add (H := H) (H' := (H.put l (.list [])).put (adr p) (.dict (entsB B adr p ++ [(x, .con (.ref l))]))) I (k := .nm x) (t := .lst) (d := l) hp (.inl ⟨rfl, x, rfl⟩) hn hok (by omega)
    (fun _ => ⟨hl, (AH.put_ne hnl.symm).trans AH.put_self⟩) (fun _ => by simp only [valT, adrN_self, nameK]; exact AH.put_self) (fun h => by cases h) (fun a o hne2 h => (AH.put_ne hne2).trans (keep hl h))
  have hmem : (p ++ [.nm x], Th.lst) ∈ B ++ [(p ++ [.nm x], .lst)] := by simp
  have hb0 : belowB (B ++ [(p ++ [.nm x], Th.lst)]) (p ++ [.nm x]) = [] := by
    rw [below_ne (by intro e; have := congrArg List.length e; simp at this)]
    exact I.below0 hno
  have hdn : ((H.put l (.list [])).put (adr p) (.dict (entsB B adr p ++ [(x, .con (.ref l))]))) d = none := (AH.put_ne hnd.symm).trans ((AH.put_ne hld.symm).trans hd)
  have e2 := Grown.add (H' := H') e1.inv (k := .pl 0) (t := .tab) (d := d) hmem (.inr ⟨rfl, by rw [hb0]; rfl⟩) (by rw [hb0]; exact fun h => nomatch h) trivial (by simp; omega)
    (fun _ => ⟨hdn, h2⟩) (fun h => by cases h)
    (fun _ => by
      have hi0 : ∀ a, itemsB (B ++ [(p ++ [.nm x], Th.lst)]) a (p ++ [.nm x]) = [] := fun a => by
        have : (itemsB (B ++ [(p ++ [.nm x], Th.lst)]) a (p ++ [.nm x])).length = (belowB (B ++ [(p ++ [.nm x], Th.lst)]) (p ++ [.nm x])).length := by unfold itemsB belowB; rw [List.length_map, List.length_map]
        exact List.eq_nil_of_length_eq_zero (by rw [this, hb0]; rfl)
      rw [adrN_self, hi0]
      simp only [valT, adrN_self]
      exact h1)
    (fun a o hne2 h => by
      rw [adrN_self] at hne2
      by_cases ea : a = adr p
      · subst ea
        rw [AH.put_self] at h; rw [h3]; exact h
      · rw [AH.put_ne ea, AH.put_ne hne2] at h
        exact hr a o ea h)
  refine ⟨_, e1.trans e2, ?_⟩
  rw [adrN_ne (by intro e; have := congrArg List.length e; simp at this), adrN_self]
theorem Tame.addList (T : Tame B) (I : Inv B adr H) (hp : (p, Th.tab) ∈ B) (hno : ∀ u, (p ++ [Key.nm x], u) ∉ B) : Tame (B ++ [(p ++ [.nm x], .lst)] ++ [(p ++ [.nm x] ++ [.pl 0], .tab)]) := by
  refine ⟨fun q i u h => ?_, fun q h => ?_⟩
  · rcases List.mem_append.mp h with h | h
    · rcases List.mem_append.mp h with h | h
      · exact T.item q i u h
      · have := (snoc_inj (Prod.mk.inj (List.mem_singleton.mp h)).1).2; cases this
    · exact (Prod.mk.inj (List.mem_singleton.mp h)).2
  · rcases List.mem_append.mp h with h | h
    · by_cases hq : q = p ++ [.nm x]
      · subst hq; rw [below_same]; simp
      · rw [below_ne (Ne.symm hq)]
        rcases List.mem_append.mp h with h | h
        · rw [below_ne fun e => by subst e; exact absurd (I.uniq hp h) (by intro x; cases x)]
          exact T.some_ q h
        · exact absurd (Prod.mk.inj (List.mem_singleton.mp h)).1 hq
    · exact absurd (Prod.mk.inj (List.mem_singleton.mp h)).2 (by intro x; cases x)
theorem Tame.addN (I : Inv B adr H) (T : Tame B) {xs : List Str} (hp : (p, Th.tab) ∈ B) (hn : ∀ y r, xs = y :: r → Key.nm y ∉ belowB B p) : ∀ j, j ≤ xs.length → Tame (Mine.addN B p xs j) := by
  intro j
  induction j with
  | zero => intro _; exact T
  | succ j ih =>
    intro hj
    have T' := ih (by omega)
    unfold Mine.addN
    rw [nms_take (by omega), ← List.append_assoc]
    refine ⟨fun q i u h => ?_, fun q h => ?_⟩
    · rcases List.mem_append.mp h with h | h
      · exact T'.item q i u h
      · have := (snoc_inj (Prod.mk.inj (List.mem_singleton.mp h)).1).2; cases this
    · rcases List.mem_append.mp h with h | h
      · rw [below_ne]
        · exact T'.some_ q h
        · rintro rfl
          rcases mem_addN h with h | ⟨i, h1, h2, h3⟩
          · by_cases h0 : j = 0
            · subst h0
              have e : p ++ nms (xs.take 0) = p := by simp [nms]
              rw [e] at h
              exact absurd (I.uniq hp h) (by intro x; cases x)
            · obtain ⟨y, ys, e⟩ : ∃ y ys, xs = y :: ys := by
                cases xs with
                | nil => simp at hj
                | cons y ys => exact ⟨y, ys, rfl⟩
              obtain ⟨i, rfl⟩ : ∃ i, j = i + 1 := ⟨j - 1, by omega⟩
              have e2 : xs.take (i + 1) = y :: ys.take i := by rw [e]; rfl
              rw [e2] at h
              exact I.noPath (hn y ys e) h
          · exact absurd (Prod.mk.inj h3).2 (by intro x; cases x)
      · exact absurd (Prod.mk.inj (List.mem_singleton.mp h)).2 (by intro x; cases x)
end

open_top hd01 for PySem.Challenge.rw_kq0029_01

local macro_rules | `(tactic| walk_at "lk") => `(tactic| (first
  | assumption
  | with_reducible exact set_same
  | with_reducible exact upd_same
  | ((with_reducible refine (set_ne ?hne).trans ?hgo); (case hne => decide); (case hgo => walk_at "lk"))
  | ((with_reducible refine (upd_ne ?hne).trans ?hgo); (case hne => decide); (case hgo => walk_at "lk"))
  | ((with_reducible refine put_m.trans ?_); walk_at "lk")
  | ((with_reducible refine mk_m.trans ?_); walk_at "lk")))
local macro_rules | `(tactic| walk_at "w0") => `(tactic| (first
  | with_reducible refine TS.cons ?_
  | with_reducible refine TS.nil ?_
  | ((with_reducible refine TX.assign ?hh ?hs); (case hs => rfl))
  | ((with_reducible refine TX.assignSub ?hh ?hs); (case hs => rfl))
  | ((with_reducible refine TX.expr ?hh (noInter (by assumption) ?h1) ?h2); (case h1 => rfl); (case h2 => rfl))
  | with_reducible refine TX.ifS ?_
  | with_reducible refine TX.ret ?_
  | with_reducible refine TX.aug ?_
  | with_reducible refine TE.cint ?_
  | with_reducible refine TE.cstr ?_
  | with_reducible refine TE.cbool ?_
  | with_reducible refine TE.cnone ?_
  | with_reducible refine TE.bin ?_
  | ((with_reducible refine TE.cmp ?hh ?hs); (case hs => rfl))
  | with_reducible refine TE.un ?_
  | with_reducible refine TE.sub ?_
  | ((with_reducible refine TB.cmp ?hh ?hs); (case hs => rfl))
  | with_reducible refine TB.not ?_
  | with_reducible refine TB.bool ?_
  | with_reducible refine TAll.and_cons ?_
  | with_reducible refine TAll.or_cons ?_
  | with_reducible refine TAll.and_nil ?_
  | with_reducible refine TAll.or_nil ?_
  | with_reducible refine TTr.bool ?_
  | with_reducible refine TL.nil ?_
  | ((with_reducible refine TL.cons ?hh ?hs); (case hs => rfl))
  | with_reducible refine TE.list ?_
  | with_reducible refine TE.tuple ?_
  | with_reducible refine TE.dict0 ?_
  | ((with_reducible refine TSt.local (by assumption) ?h1 ?hh); (case h1 => rfl))
  | ((with_reducible refine TSt.cell (by assumption) ?h1 ?hh); (case h1 => rfl))
  | ((with_reducible refine' TE.name (TLd.local (by assumption) ?h1 ?h2 ?hh) ?hd); (case h1 => rfl); (case hd => decide); (case h2 => walk_at "lk"))
  | ((with_reducible refine' TE.name (TLd.cell (by assumption) ?h1 ?h2 ?hh) ?hd); (case h1 => rfl); (case hd => decide); (case h2 => walk_at "lk"))
  | ((with_reducible refine' TE.globK (by assumption) (by assumption) ?h1 ?h2 ?h3 ?hh ?hd); (case h1 => rfl); (case hd => decide); (case h2 => rfl); (case h3 => rfl))
  | ((with_reducible refine' TE.bltnK (by assumption) (by assumption) ?h1 ?h2 ?h3 ?h4 ?h5 ?hh ?hd); (case h1 => rfl); (case hd => decide); (case h2 => rfl); (case h3 => decide); (case h4 => rfl); (case h5 => rfl))
  | ((with_reducible refine' TE.globX (by assumption) (by assumption) ?h1 ?h2 ?h3 ?hh ?hd); (case h1 => rfl); (case hd => decide); (case h2 => rfl); (case h3 => rfl))
  | ((with_reducible refine' TE.bltnX (by assumption) (by assumption) ?h1 ?h2 ?h3 ?h4 ?h5 ?hh ?hd); (case h1 => rfl); (case hd => decide); (case h2 => rfl); (case h3 => decide); (case h4 => rfl); (case h5 => rfl))
  | ((with_reducible refine TE.call ?hh ?he ?hp); (case he => rfl); (case hp => intro _; rfl))
  | (with_reducible refine TE.call0 ?_)
  | ((with_reducible refine' TE.meth ?hm ?hh ?he ?hp); (case hm => exact rfl); (case he => rfl); (case hp => intro _; rfl))
  | ((with_reducible refine' TE.meth0 ?hm ?hh); (case hm => exact rfl))
  | ((with_reducible refine TE.attr ?hm ?hh); (case hm => exact rfl))
  | refine ⟨_, rfl, Cl.builtin _, ?_⟩
  | refine ⟨_, rfl, Cl.type _, ?_⟩
  | with_reducible refine TAsg.names2 (by assumption) ?_
  | with_reducible refine TAsg.names3 (by assumption) ?_
  | with_reducible refine TAsg.names4 (by assumption) ?_
  | with_reducible refine TAsg.name ?_
  | with_reducible refine TOrd.cons ?_
  | with_reducible refine TOrd.nil ?_
  | ((with_reducible refine' TLd.local (by assumption) ?h1 ?h2 ?hh); (case h1 => rfl); (case h2 => walk_at "lk"))
  | with_reducible refine TBin.addI ?_
  | with_reducible refine TBin.subI ?_
  | with_reducible refine TCmp.ltI ?_
  | with_reducible refine TCmp.gtI ?_
  | with_reducible refine TCmp.geI ?_
  | with_reducible refine TUn.neg ?_
  | ((with_reducible refine TB.value ?hh ?hs); (case hs => rfl))))
local macro_rules | `(tactic| walk_at "w") => `(tactic| first | (walk_at "w0"; try dsimp only [andThen, FEnd, WEnd]) | (dsimp only [andThen, FEnd, WEnd]; walk_at "w0"; try dsimp only [andThen, FEnd, WEnd]))
local macro_rules | `(tactic| walk_at "ws") => `(tactic| repeat (walk_at "w"))
local macro_rules | `(tactic| walk_at "cl") => `(tactic| (first | exact Cl.builtin _ | exact Cl.type _))

local macro_rules | `(tactic| walk_at "si") => `(tactic| repeat (first | walk_at "w" | simp only [String.reduceEq, decide_true, decide_false, Bool.not_true, Bool.not_false, Bool.false_eq_true, if_true, if_false, reduceCtorEq, Option.isSome_some, Option.isSome_none]))

noncomputable def digitsD (P : Params) : Σ' (body : List Stmt) (scope : Scope) (fd : FuncData), FnAt (hd01.heap_39 P) 57 body scope fd :=
  ⟨_, _, _, ⟨⟨_, _, _, _, _, _, _, _, _, _, _, _, _, rfl, rfl, rfl⟩, by decide, rfl, rfl, rfl⟩⟩
noncomputable def belowD (P : Params) : Σ' (body : List Stmt) (scope : Scope) (fd : FuncData), FnAt (hd01.heap_39 P) 62 body scope fd :=
  ⟨_, _, _, ⟨⟨_, _, _, _, _, _, _, _, _, _, _, _, _, rfl, rfl, rfl⟩, by decide, rfl, rfl, rfl⟩⟩
noncomputable def namesD (P : Params) : Σ' (body : List Stmt) (scope : Scope) (fd : FuncData), FnAt (hd01.heap_39 P) 69 body scope fd :=
  ⟨_, _, _, ⟨⟨_, _, _, _, _, _, _, _, _, _, _, _, _, rfl, rfl, rfl⟩, by decide, rfl, rfl, rfl⟩⟩
noncomputable def findD (P : Params) : Σ' (body : List Stmt) (scope : Scope) (fd : FuncData), FnAt (hd01.heap_39 P) 76 body scope fd :=
  ⟨_, _, _, ⟨⟨_, _, _, _, _, _, _, _, _, _, _, _, _, rfl, rfl, rfl⟩, by decide, rfl, rfl, rfl⟩⟩
noncomputable def agreesD (P : Params) : Σ' (body : List Stmt) (scope : Scope) (fd : FuncData), FnAt (hd01.heap_39 P) 81 body scope fd :=
  ⟨_, _, _, ⟨⟨_, _, _, _, _, _, _, _, _, _, _, _, _, rfl, rfl, rfl⟩, by decide, rfl, rfl, rfl⟩⟩
noncomputable def initD (P : Params) : Σ' (body : List Stmt) (scope : Scope) (fd : FuncData), FnAt (hd01.heap_39 P) 28 body scope fd :=
  ⟨_, _, _, ⟨⟨_, _, _, _, _, _, _, _, _, _, _, _, _, rfl, rfl, rfl⟩, by decide, rfl, rfl, rfl⟩⟩
noncomputable def nestD (P : Params) : Σ' (body : List Stmt) (scope : Scope) (fd : FuncData), FnAt (hd01.heap_39 P) 36 body scope fd :=
  ⟨_, _, _, ⟨⟨_, _, _, _, _, _, _, _, _, _, _, _, _, rfl, rfl, rfl⟩, by decide, rfl, rfl, rfl⟩⟩
noncomputable def appD (P : Params) : Σ' (body : List Stmt) (scope : Scope) (fd : FuncData), FnAt (hd01.heap_39 P) 43 body scope fd :=
  ⟨_, _, _, ⟨⟨_, _, _, _, _, _, _, _, _, _, _, _, _, rfl, rfl, rfl⟩, by decide, rfl, rfl, rfl⟩⟩
noncomputable def lawD (P : Params) : Σ' (body : List Stmt) (scope : Scope) (fd : FuncData), FnAt (hd01.heap_39 P) 88 body scope fd :=
  ⟨_, _, _, ⟨⟨_, _, _, _, _, _, _, _, _, _, _, _, _, rfl, rfl, rfl⟩, by decide, rfl, rfl, rfl⟩⟩

def three : List Str := ["a", " A.b ", ""]
theorem three_ok : ∀ x ∈ three, PyData.strOk x = true := by decide +kernel
def Ext (H H' : AH) : Prop := ∀ a o, H a = some o → H' a = some o
theorem Ext.refl (H : AH) : Ext H H := fun _ _ e => e
theorem Ext.trans {H H1 H2 : AH} (x : Ext H H1) (y : Ext H1 H2) : Ext H H2 := fun a o e => y a o (x a o e)
theorem Ext.put {H H1 : AH} {a : Addr} {o : AO} (x : Ext H H1) (h : H a = none) : Ext H (H1.put a o) := fun b p e => by
  rw [AH.put_ne]; exact x b p e
  intro q; subst q; rw [h] at e; cases e
theorem put_ext {H : AH} {a : Addr} {o : AO} (h : H a = none) : Ext H (H.put a o) := (Ext.refl H).put h
theorem put_other {H : AH} {a b : Addr} {o v w : AO} (hb : H b = some w) (h : H a = some v) (hne : v ≠ w) : (H.put b o) a = some v := (AH.put_ne fun e => by rw [e, hb] at h; exact hne (Option.some.inj h.symm)).trans h
theorem put_keep {H : AH} {a b : Addr} {o v : AO} (hb : H b = none) (h : H a = some v) : (H.put b o) a = some v := (AH.put_ne fun e => by rw [e, hb] at h; cases h).trans h

theorem digits_walk (P : Params) {C : Cx} {n : Nat} (W : Wd (hd01.heap_39 P) C n) (hn : n ≤ 50) (hs : C.env.scope = (digitsD P).2.1) {m : Str → Option AV} {H : AH} {l : Addr} {vs : List Value} {ns : List Int}
    (hl : C.h₀.IsList l vs.toArray) (hr : VRels C.h₀ vs (ns.map .int)) (hz : ns.length ≤ 63) (h1 : m "script" = some (.con (.ref l))) (h2 : m "base" = some (.int 7872)) (h3 : m "most" = some (.int 40)) :
    TS C (digitsD P).1 ⟨m, H⟩ fun fl σ' => ∃ (ds : List Int) (a : Addr), ds.length ≤ 40 ∧ (∀ d ∈ ds, 0 ≤ d) ∧ retOf fl = .con (.ref a) ∧ σ'.H a = some (.list (ds.map .int)) ∧ H a = none ∧ Ext H σ'.H := by
  have hh := W.hand
  have hvl := hr.length
  rw [List.length_map] at hvl
  unfold digitsD; dsimp only
  walk_at "ws"
  refine ⟨by simp, fun dl hdl => ?_⟩
  walk_at "ws"
  refine TX.for W.calm.loops ?_ (by intro _; rfl)
  walk_at "ws"
  refine TCall.lenG hl (by omega) ?_
  walk_at "ws"
  refine ⟨by simp, fun l2 hl2 => ?_⟩
  refine TBin.addG hl hr AH.put_self (by simp; omega) fun c hc => ?_
  have hd1 : (((⟨m, H⟩ : St).put dl (.list [])).set "digits" (.con (.ref dl))).H dl = some (.list []) := AH.put_self
  refine ⟨ns.map .int ++ [.int (vs.length : Int)], _, fun i σ => ∃ ds : List Int, σ.m "digits" = some (.con (.ref dl)) ∧ σ.m "base" = some (.int 7872) ∧ σ.m "most" = some (.int 40) ∧ σ.H dl = some (.list (ds.map .int)) ∧ σ.H c = some (.list (ns.map .int ++ [.int (vs.length : Int)])) ∧ ds.length ≤ i + 40 ∧ (∀ d ∈ ds, 0 ≤ d) ∧ Ext H σ.H,
    IterAs.list hh, fun i σ _ hI => ?_, ?_, ?_, ?_⟩
  · obtain ⟨ds, _, _, _, _, h, _⟩ := hI; exact h
  · refine ⟨[], by walk_at "lk", by walk_at "lk", by walk_at "lk", ?_, AH.put_self, by simp, by simp, ?_⟩
    · exact put_keep hc (put_keep hl2 hd1)
    · have e1 : Ext H (((⟨m, H⟩ : St).put dl (.list [])).set "digits" (.con (.ref dl))).H := put_ext hdl
      exact (e1.trans (put_ext hl2)).trans (put_ext hc)
  · rintro i x σ2 hx ⟨ds, a1, a2, a3, a4, a5, a6, a7, a8⟩
    have hil := (List.getElem?_eq_some_iff.mp hx).1
    simp at hil
    obtain ⟨k, rfl⟩ : ∃ k : Int, x = .int k := by
      have := List.mem_of_getElem? hx
      rcases List.mem_append.mp this with h | h
      · obtain ⟨k, _, rfl⟩ := List.mem_map.mp h; exact ⟨k, rfl⟩
      · exact ⟨_, List.mem_singleton.mp h⟩
    walk_at "ws"
    refine TE.ifExp ?_
    walk_at "ws"
    have hcd : c ≠ dl := fun e => by
      subst e; rw [a4] at a5
      have := AO.list.inj (Option.some.inj a5)
      have h2 := put_keep (o := AO.list [AV.int (vs.length : Int)]) hl2 hd1
      exact absurd hc (by intro hc; exact nomatch h2.symm.trans hc)
    have body : ∀ v : Int, 0 ≤ v → TS C (((digitsD P).1.tail.head?.map fun st => match st with | .For _ _ b _ _ => b.tail | _ => []).getD []) ((σ2.set "x" (.int k)).set "n" (.int v))
        (FEnd (fun i σ => ∃ ds : List Int, σ.m "digits" = some (.con (.ref dl)) ∧ σ.m "base" = some (.int 7872) ∧ σ.m "most" = some (.int 40) ∧ σ.H dl = some (.list (ds.map .int)) ∧ σ.H c = some (.list (ns.map .int ++ [.int (vs.length : Int)])) ∧ ds.length ≤ i + 40 ∧ (∀ d ∈ ds, 0 ≤ d) ∧ Ext H σ.H) i
          (andThen (fun σ1 => TS C ((digitsD P).1.drop 2) σ1 fun fl σ' => ∃ (ds : List Int) (a : Addr), ds.length ≤ 40 ∧ (∀ d ∈ ds, 0 ≤ d) ∧ retOf fl = .con (.ref a) ∧ σ'.H a = some (.list (ds.map .int)) ∧ H a = none ∧ Ext H σ'.H) fun fl σ' => ∃ (ds : List Int) (a : Addr), ds.length ≤ 40 ∧ (∀ d ∈ ds, 0 ≤ d) ∧ retOf fl = .con (.ref a) ∧ σ'.H a = some (.list (ds.map .int)) ∧ H a = none ∧ Ext H σ'.H)) := by
      intro v hv
      unfold digitsD; dsimp only [List.tail, List.head?, Option.map, Option.getD, List.drop]
      walk_at "ws"
      refine TMeth.list a4 PySem.F.slot_list_append rfl ?_
      walk_at "ws"
      refine TBin.modI (by decide) ?_
      walk_at "ws"
      refine TCall.append a4 (by simp; omega) ?_
      walk_at "ws"
      refine TInp.divI (by decide) (by decide) ?_
      walk_at "ws"
      have hm0 : 0 ≤ v.fmod 7872 := Int.fmod_nonneg_of_pos _ (by decide)
      refine TX.while W.calm.loops (fun k σ => ∃ (v : Int) (ds : List Int), k = v.toNat ∧ 0 ≤ v ∧ σ.m "n" = some (.int v) ∧ σ.m "digits" = some (.con (.ref dl)) ∧ σ.m "base" = some (.int 7872) ∧ σ.m "most" = some (.int 40) ∧ σ.H dl = some (.list (ds.map .int)) ∧ σ.H c = some (.list (ns.map .int ++ [.int (vs.length : Int)])) ∧ ds.length ≤ i + 1 + 40 ∧ (∀ d ∈ ds, 0 ≤ d) ∧ Ext H σ.H) (v.fdiv 7872).toNat
        ⟨_, ds ++ [v.fmod 7872], rfl, Int.fdiv_nonneg hv (by decide), by walk_at "lk", by walk_at "lk", by walk_at "lk", by walk_at "lk", ?_, ?_, by simp; omega, ?_, a8.put hdl⟩ ?_
      · refine AH.put_self.trans ?_; simp
      · exact (AH.put_ne hcd).trans a5
      · intro d hd
        rcases List.mem_append.mp hd with hd | hd
        · exact a7 d hd
        · rw [List.mem_singleton.mp hd]; exact hm0
      · rintro k σ1 ⟨v, ds, rfl, hv, b0, b1, b2, b3, b4, b5, b6, b7, b8⟩
        walk_at "ws"
        by_cases hi : 0 < v
        · simp only [hi, decide_true, if_true]
          walk_at "ws"
          refine TCall.lenL b4 (by simp; omega) ?_
          walk_at "ws"
          by_cases hl2 : ds.length < 40
          · have e : decide (((ds.map AV.int).length : Int) < 40) = true := by simp; omega
            simp only [e, if_true]
            refine TAll.and_nil ?_
            simp only [if_true]
            walk_at "ws"
            refine TMeth.list b4 PySem.F.slot_list_append rfl ?_
            walk_at "ws"
            refine TBin.modI (by decide) ?_
            walk_at "ws"
            refine TCall.append b4 (by simp; omega) ?_
            walk_at "ws"
            refine TInp.divI (by decide) (by decide) ?_
            walk_at "ws"
            have hdv : v.fdiv 7872 = v / 7872 := Int.fdiv_eq_ediv_of_nonneg _ (by decide)
            refine ⟨(v.fdiv 7872).toNat, by rw [hdv]; omega, _, ds ++ [v.fmod 7872], rfl, Int.fdiv_nonneg hv (by decide), by walk_at "lk", by walk_at "lk", by walk_at "lk", by walk_at "lk", ?_, (AH.put_ne hcd).trans b5, by simp; omega, ?_, b8.put hdl⟩
            · refine AH.put_self.trans ?_; simp
            · intro d hd
              rcases List.mem_append.mp hd with hd | hd
              · exact b7 d hd
              · rw [List.mem_singleton.mp hd]; exact Int.fmod_nonneg_of_pos _ (by decide)
          · have e : decide (((ds.map AV.int).length : Int) < 40) = false := by simp; omega
            simp only [e, Bool.false_eq_true, if_false]
            walk_at "ws"
            exact ⟨ds, b1, b2, b3, b4, b5, by omega, b7, b8⟩
        · simp only [hi, decide_false, Bool.false_eq_true, if_false]
          walk_at "ws"
          exact ⟨ds, b1, b2, b3, b4, b5, by omega, b7, b8⟩
    by_cases hk : 0 ≤ k
    · simp only [hk, decide_true, if_true]
      walk_at "ws"
      refine TBin.mulI (by omega) ?_
      walk_at "w"
      exact body (2 * k) (by omega)
    · simp only [hk, decide_false, Bool.false_eq_true, if_false]
      walk_at "ws"
      refine TBin.mulI (by omega) ?_
      walk_at "w"
      walk_at "w"
      walk_at "w"
      exact body (-2 * k - 1) (by omega)
  · rintro σ2 ⟨ds, a1, a2, a3, a4, a5, a6, a7, a8⟩
    walk_at "w"
    walk_at "w"
    refine TE.frontL ?_ ?ht
    case ht => intro _ _; rfl
    walk_at "ws"
    refine ⟨dl, ds.map .int, 40, rfl, rfl, a4, ?_, fun b hb => ⟨ds.take 40, b, by rw [List.length_take]; omega, fun d hd => a7 d (List.mem_of_mem_take hd), rfl, ?_, ?_, a8.put ?_⟩⟩
    · rw [List.length_append, List.length_map, List.length_singleton] at a6
      rw [List.length_map]; omega
    · refine AH.put_self.trans ?_
      rw [List.map_take]
    · cases e : H b with
      | none => rfl
      | some o => have := a8 b o e; rw [hb] at this; cases this
    · cases e : H b with
      | none => rfl
      | some o => have := a8 b o e; rw [hb] at this; cases this

theorem two_of {vs : List Value} (h : vs.length = 2) : ∃ v w, vs = [v, w] := by
  match vs, h with
  | [v, w], _ => exact ⟨v, w, rfl⟩
theorem three_of {vs : List Value} (h : vs.length = 3) : ∃ v w u, vs = [v, w, u] := by
  match vs, h with
  | [v, w, u], _ => exact ⟨v, w, u, rfl⟩

/-- rows that can be compared -/
structure BookOk (B : List BRow) : Prop where
  ok : ∀ r ∈ B, ∀ k ∈ r.1, KeyOk k
  dep : ∀ r ∈ B, r.1.length ≤ 8
  len : B.length ≤ 10000
theorem belowB_snoc {B : List BRow} {p : Path} {r : BRow} {k : Key} (h : r.1 = p ++ [k]) : belowB (B ++ [r]) p = belowB B p ++ [k] := by
  obtain ⟨q, t⟩ := r
  dsimp only at h
  subst h
  exact below_same
theorem belowB_skip {B : List BRow} {p : Path} {r : BRow} (h : ∀ k, r.1 ≠ p ++ [k]) : belowB (B ++ [r]) p = belowB B p := by
  obtain ⟨q, t⟩ := r
  dsimp only at h
  rcases snoc_cases q with rfl | ⟨q, k, rfl⟩
  · unfold belowB kids
    rw [List.filterMap_append]
    simp
  · exact below_ne fun e => h k (by rw [e])
theorem seqLast {n : Nat} (h : 0 < n) : seqIndex? (-1) n = some (n - 1) := by
  unfold seqIndex?
  simp
  omega

open Classical in
theorem below_walk (P : Params) {C : Cx} {n : Nat} (W : Wd (hd01.heap_39 P) C n) (hn : n ≤ 60) (hs : C.env.scope = (belowD P).2.1) {m : Str → Option AV} {H : AH} {B : List BRow} {bk : Addr} {p : Path}
    (h1 : m "book" = some (.con (.ref bk))) (h2 : m "at" = some (pathA p)) (hb : H bk = some (.list (B.map browA))) (K : BookOk B) (hp : ∀ k ∈ p, KeyOk k) (hpl : p.length ≤ 100) :
    TS C (belowD P).1 ⟨m, H⟩ fun fl σ' => ∃ D : Addr, retOf fl = .con (.ref D) ∧ H D = none ∧ σ'.H = H.put D (.list ((belowB B p).map keyA)) := by
  have hh := W.hand
  have hs' := hs
  unfold belowD at hs' ⊢; dsimp only at hs' ⊢
  walk_at "w"
  walk_at "w"
  refine TE.compW (test := some _) W rfl ⟨rfl, by decide, by intro q hq hf; unfold Env.kindOf; rw [hs']; revert q; decide, by decide, by decide⟩ ?_ (by intro _; rfl)
  walk_at "ws"
  refine ⟨B.map browA, _, fun i acc H' => H' = H ∧ acc = (belowB (B.take i) p).map keyA, IterAs.list hh, by rw [List.length_map]; have := K.len; omega, fun i acc H' _ hI => by rw [hI.1]; exact hb, ⟨rfl, rfl⟩, ?_, ?_⟩
  · rintro C2 i x acc σ6 W2 hs2 hh2 hx ⟨hE, rfl⟩ hsame
    have hu2 := W2.unit (by omega)
    rw [List.getElem?_map] at hx
    obtain ⟨r, hr, rfl⟩ : ∃ r, B[i]? = some r ∧ browA r = x := by
      cases q : B[i]? with
      | none => rw [q] at hx; cases hx
      | some r => rw [q] at hx; exact ⟨r, rfl, by simpa using hx⟩
    have hrB := List.mem_of_getElem? hr
    have tk : B.take (i + 1) = B.take i ++ [r] := by rw [List.take_succ, hr]; rfl
    have hat : σ6.m "at" = some (pathA p) := (hsame "at" rfl).trans h2
    have hrd := K.dep r hrB
    have hrk := K.ok r hrB
    unfold CTurn
    have so : ∀ i : Int, ∀ {c p}, subOps (.Constant (.int i) c p) := by intro i c p _ _; exact ⟨_, rfl⟩
    walk_at "ws"
    refine TSub.tup (so _) (by decide) (by decide) (j := 0) (by rfl) (by rfl) ?_
    walk_at "ws"
    refine TCall.lenT (by rw [List.length_map]; omega) ?_
    walk_at "ws"
    refine TCall.lenT (by rw [List.length_map]; omega) ?_
    walk_at "ws"
    refine TCmp.eqD (n := 0) (m := 0) hu2 (.int _ _) (.int _ _) (by decide) (by decide) ?_
    walk_at "ws"
    have skip : (∀ k, r.1 ≠ p ++ [k]) → belowB (B.take (i + 1)) p = belowB (B.take i) p := fun h => by rw [tk]; exact belowB_skip h
    rw [List.length_map, List.length_map]
    by_cases hlen : r.1.length = p.length + 1
    · have e : decide (AV.int ((r.1.length : Nat) : Int) = AV.int (((p.length : Nat) : Int) + 1)) = true := by rw [hlen]; simp
      simp only [e, if_true]
      walk_at "w"
      walk_at "w"
      refine TE.sliceT ?_
      walk_at "ws"
      refine TSub.tup (so _) (by decide) (by decide) (j := 0) (by rfl) (by rfl) ?_
      dsimp only [TPart]
      walk_at "ws"
      refine ⟨-1, rfl, _, rfl, by rw [List.length_map]; omega, ?_⟩
      have cut : (List.drop (loN none (r.1.map keyA).length) (r.1.map keyA)).take (hiN (some (-1)) (r.1.map keyA).length - loN none (r.1.map keyA).length) = (r.1.dropLast).map keyA := by
        have : hiN (some (-1)) (r.1.map keyA).length = r.1.length - 1 := by
          rw [List.length_map]; unfold hiN clipN; simp; omega
        rw [this]
        show List.take (r.1.length - 1 - 0) (List.drop 0 _) = _
        rw [List.drop_zero, Nat.sub_zero, List.dropLast_eq_take, List.map_take]
      rw [cut]
      walk_at "ws"
      show TCmp C2 .Eq (pathA r.1.dropLast) (pathA p) _ _
      refine TCmp.eqD (n := 1) (m := 1) hu2 (pathA_data (p := r.1.dropLast) fun k hk => hrk k ((List.dropLast_subset _) hk)) (pathA_data hp) (by decide) (by decide) ?_
      walk_at "ws"
      have hne : r.1 ≠ [] := fun e => by rw [e] at hlen; simp at hlen
      have hlast : r.1 = r.1.dropLast ++ [r.1.getLast hne] := (List.dropLast_concat_getLast hne).symm
      by_cases hd : r.1.dropLast = p
      · have e : decide (pathA r.1.dropLast = pathA p) = true := by rw [hd]; simp
        simp only [e, if_true]
        walk_at "ws"
        simp only [if_true]
        walk_at "ws"
        refine TSub.tup (so _) (by decide) (by decide) (j := 0) (by rfl) (by rfl) ?_
        walk_at "ws"
        refine TSub.tup (by intro _ _; exact ⟨_, rfl⟩) (by decide) (by decide) (j := r.1.length - 1) (a := keyA (r.1.getLast hne)) ?_ ?_ ?_
        · rw [List.length_map]; exact seqLast (by omega)
        · rw [List.getElem?_map, ← List.getLast?_eq_getElem?, List.getLast?_eq_some_getLast hne]; rfl
        refine ⟨hsame.upd rfl, hE, ?_⟩
        rw [tk, belowB_snoc (k := r.1.getLast hne) (by rw [← hd]; exact hlast)]
        simp
      · have e : decide (pathA r.1.dropLast = pathA p) = false := by
          rw [decide_eq_false_iff_not]; intro x; exact hd (pathA_inj x)
        simp only [e, Bool.false_eq_true, if_false]
        refine ⟨hsame.upd rfl, hE, ?_⟩
        rw [skip]
        intro k e2
        rw [e2] at hd; simp at hd
    · have e : decide (AV.int ((r.1.length : Nat) : Int) = AV.int (((p.length : Nat) : Int) + 1)) = false := by
        rw [decide_eq_false_iff_not]; intro x; have := AV.int.inj x; omega
      simp only [e, Bool.false_eq_true, if_false]
      refine ⟨hsame.upd rfl, hE, ?_⟩
      rw [skip]
      intro k e2
      rw [e2] at hlen; simp at hlen
  · rintro acc H' D ⟨rfl, rfl⟩ hD
    refine ⟨D, rfl, hD, ?_⟩
    rw [List.length_map, List.take_of_length_le (Nat.le_refl _)]
theorem below_call {P : Params} {C : Cx} {n : Nat} {σ : St} (W : Wd (hd01.heap_39 P) C n) (hn : n ≤ 50) {B : List BRow} {bk : Addr} {p : Path} (hb : σ.H bk = some (.list (B.map browA))) (K : BookOk B) (hp : ∀ k ∈ p, KeyOk k) (hpl : p.length ≤ 100) {Q : AV → St → Prop}
    (fin : ∀ D, σ.H D = none → Q (.con (.ref D)) (σ.put D (.list ((belowB B p).map keyA)))) : TCall C (.ref 62) [.con (.ref bk), pathA p] σ Q := by
  have hK := W.K
  refine TCall.user (body := (belowD P).1) (scope := (belowD P).2.1) (fd := (belowD P).2.2.1) (by rw [hK]; exact (belowD P).2.2.2) (ps := ["book", "at"]) (ds := []) rfl (by simp) (W.room (by omega)) (by rfl) ?_ ?_
  · intro vs s h X
    obtain ⟨v, w, rfl⟩ := two_of h
    exact kp_binds X fun S => by rw [hK]; rfl
  · intro env hk eg eb hs
    refine TV.mono (below_walk P (W.callee (hk := hk) (eg := eg) (eb := eb)) (by omega) hs (B := B) (bk := bk) (p := p) (by rfl) (by rfl) hb K hp hpl) ?_
    rintro fl σ' ⟨D, e, h1, h2⟩
    rw [e, h2]
    exact fin D h1

theorem seqNat {i n : Nat} (h : i < n) : seqIndex? (i : Int) n = some i := by
  unfold seqIndex?
  simp
  omega
theorem intsA_get {n i : Nat} {x : AV} (h : (intsA n)[i]? = some x) : i < n ∧ x = .int (i : Int) := by
  unfold intsA at h
  rw [List.getElem?_map] at h
  by_cases hi : i < n
  · rw [List.getElem?_range hi] at h; exact ⟨hi, by simpa using h.symm⟩
  · rw [List.getElem?_eq_none (by rw [List.length_range]; omega)] at h; cases h
theorem so_const {i : Int} {c : Nat} {p : Pos} : subOps (.Constant (.int i) c p) := fun _ _ => ⟨_, rfl⟩
theorem so_neg {i : Int} {c : Nat} {p p1 : Pos} : subOps (.UnaryOp .USub (.Constant (.int i) c p) p1) := fun _ _ => ⟨_, rfl⟩
theorem so_name {x : Str} {p : Pos} : subOps (.Name x p) := fun _ _ => ⟨_, rfl⟩

open Classical in
theorem names_walk (P : Params) {C : Cx} {n : Nat} (W : Wd (hd01.heap_39 P) C n) (hn : n ≤ 49) (hs : C.env.scope = (namesD P).2.1) {m : Str → Option AV} {H : AH} {B : List BRow} {bk : Addr} {p : Path} {b : Bool}
    (h1 : m "book" = some (.con (.ref bk))) (h2 : m "at" = some (pathA p)) (h3 : m "lists" = some (.con (.bool b))) (hb : H bk = some (.list (B.map browA))) (K : BookOk B) (hp : ∀ k ∈ p, KeyOk k) (hpl : p.length ≤ 100)
    (hne : ∀ j i, p[j]? = some (.pl i) → belowB B (p.take j) ≠ []) :
    TS C (namesD P).1 ⟨m, H⟩ fun fl σ' => Ext H σ'.H ∧ ((∃ ns : List Str, retOf fl = .tup (ns.map .str) ∧ ns.length ≤ p.length ∧ (∀ x ∈ ns, Key.nm x ∈ p) ∧ Rch B b p ns) ∨ (retOf fl = .con .none ∧ ∀ ns, ¬ Rch B b p ns)) := by
  have hh := W.hand
  have hu := W.unit (by omega)
  have hK := W.K
  unfold namesD at hs ⊢; dsimp only at hs ⊢
  walk_at "ws"
  refine ⟨by simp, ?_⟩
  walk_at "w"
  walk_at "w"
  refine TX.for W.calm.loops ?_ (by intro _; rfl)
  walk_at "ws"
  refine TCall.lenT (by rw [List.length_map]; omega) ?_
  rw [List.length_map]
  walk_at "ws"
  refine TCall.range fun r hr => ?_
  refine ⟨intsA p.length, _, fun i σ => ∃ ns : List Str, σ.m "book" = some (.con (.ref bk)) ∧ σ.m "at" = some (pathA p) ∧ σ.m "lists" = some (.con (.bool b)) ∧ σ.m "names" = some (.tup (ns.map .str)) ∧ σ.H bk = some (.list (B.map browA)) ∧ σ.H r = some (.rng p.length) ∧ Ext H σ.H ∧ ns.length ≤ i ∧ (∀ x ∈ ns, Key.nm x ∈ p) ∧ Rch B b (p.take i) ns,
    IterAs.range hh (by omega), fun i σ _ ⟨_, _, _, _, _, _, h, _⟩ => h, ?_, ?_, ?_⟩
  · have hr' : H r = none := hr
    refine ⟨[], by walk_at "lk", by walk_at "lk", by walk_at "lk", ?_, ?_, ?_, ?_, Nat.le_refl _, fun x hx => (nomatch hx), .nil⟩
    · exact put_m.trans set_same
    · show (H.put r _) bk = _
      exact put_keep hr' hb
    · exact AH.put_self
    · show Ext H (H.put r _)
      exact put_ext hr'
  · rintro i x σ2 hx ⟨ns, a1, a2, a3, a4, a5, a6, a7, a8, a9, a10⟩
    obtain ⟨hi, rfl⟩ := intsA_get hx
    have hgi : p[i]? = some p[i] := List.getElem?_eq_getElem hi
    have htk : p.take (i + 1) = p.take i ++ [p[i]] := by rw [List.take_succ, hgi]; rfl
    have hia : ((p.map keyA)[i]? : Option AV) = some (keyA p[i]) := by rw [List.getElem?_map, hgi]; rfl
    walk_at "ws"
    refine TSub.tup so_name (by omega) (by omega) (j := i) (by rw [List.length_map]; exact seqNat hi) hia ?_
    walk_at "ws"
    cases hk : p[i] with
    | nm y =>
      rw [hk] at hia htk hgi
      refine TCall.isinst (.str y) (by decide) (.inr (.inr rfl)) ?_
      walk_at "ws"
      simp only [decide_true, if_true]
      walk_at "ws"
      refine TSub.tup so_name (by omega) (by omega) (j := i) (by rw [List.length_map]; exact seqNat hi) hia ?_
      walk_at "ws"
      refine ⟨by simp, ?_⟩
      refine TInp.addT (by rw [List.length_map]; simp; omega) ?_
      walk_at "ws"
      refine ⟨ns ++ [y], by walk_at "lk", by walk_at "lk", by walk_at "lk", ?_, a5, a6, a7, by simp; omega, ?_, ?_⟩
      · rw [List.map_append]; exact set_same
      · intro x hx
        rcases List.mem_append.mp hx with hx | hx
        · exact a9 x hx
        · rw [List.mem_singleton.mp hx]; exact List.mem_of_getElem? hgi
      · rw [htk]; exact a10.nm y
    | pl j =>
      rw [hk] at hia htk hgi
      refine TCall.isinst (.int (j : Int)) (by decide) (.inr (.inr rfl)) ?_
      walk_at "ws"
      simp only [show (decide ("int" = "str")) = false from by decide, Bool.false_eq_true, if_false]
      walk_at "ws"
      have none_ : (b = true → (belowB B (p.take i)).getLast? ≠ some (.pl j)) → ∀ ns, ¬ Rch B b p ns := fun h ns hr => by
        obtain ⟨h5, h6⟩ := hr.at_pl hgi
        exact h h5 h6
      cases b with
      | false =>
        simp only [Bool.not_false, if_true]
        walk_at "ws"
        exact ⟨a7, .inr ⟨rfl, none_ fun h => by cases h⟩⟩
      | true =>
        simp only [Bool.not_true, Bool.false_eq_true, if_false]
        walk_at "ws"
        refine ⟨_, rfl, Cl.ref (by rw [hK]; rfl), ?_⟩
        walk_at "w"
        walk_at "w"
        walk_at "w"
        refine TE.sliceT ?_
        walk_at "ws"
        dsimp only [TPart]
        walk_at "ws"
        refine ⟨(i : Int), rfl, p.map keyA, rfl, by rw [List.length_map]; omega, ?_⟩
        have cut : (List.drop (loN none (p.map keyA).length) (p.map keyA)).take (hiN (some (i : Int)) (p.map keyA).length - loN none (p.map keyA).length) = (p.take i).map keyA := by
          have : hiN (some (i : Int)) (p.map keyA).length = i := by
            rw [List.length_map]; unfold hiN clipN; simp; omega
          rw [this]
          show List.take (i - 0) (List.drop 0 _) = _
          rw [List.drop_zero, Nat.sub_zero, List.map_take]
        rw [cut]
        walk_at "w"
        show TCall C _ [_, pathA (p.take i)] _ _
        refine below_call (σ := σ2.set "size" (.int (i : Int))) (B := B) (p := p.take i) W (by omega) a5 K (fun k hk => hp k (List.mem_of_mem_take hk)) (by rw [List.length_take]; omega) fun D hD => ?_
        walk_at "ws"
        have hbn := hne i j hgi
        have hlast : belowB B (p.take i) = (belowB B (p.take i)).dropLast ++ [(belowB B (p.take i)).getLast hbn] := (List.dropLast_concat_getLast hbn).symm
        refine TSub.listLast so_neg (xs := (belowB B (p.take i)).dropLast.map keyA) (a := keyA ((belowB B (p.take i)).getLast hbn)) ?_ ?_
        · refine AH.put_self.trans ?_
          conv => lhs; rw [hlast]
          rw [List.map_append]; rfl
        walk_at "ws"
        refine TSub.tup so_name (by omega) (by omega) (j := i) (by rw [List.length_map]; exact seqNat hi) hia ?_
        have okl : KeyOk ((belowB B (p.take i)).getLast hbn) := by
          obtain ⟨t, ht⟩ := mem_below.mp (List.getLast_mem hbn)
          exact K.ok _ ht _ (by simp)
        refine TCmp.neD (n := 0) (m := 0) hu (keyA_data okl) (.int _ _) (by decide) (by decide) ?_
        have hgl : (belowB B (p.take i)).getLast? = some ((belowB B (p.take i)).getLast hbn) := List.getLast?_eq_some_getLast hbn
        have E1 : Ext H (σ2.H.put D (.list ((belowB B (p.take i)).map keyA))) := a7.put (by
          cases e : H D with
          | none => rfl
          | some o => have := a7 D o e; rw [show σ2.H D = none from hD] at this; cases this)
        by_cases he : (belowB B (p.take i)).getLast hbn = .pl j
        · have e : (!decide (keyA ((belowB B (p.take i)).getLast hbn) = keyA (.pl j))) = false := by rw [he]; simp
          simp only [e]
          walk_at "ws"
          simp only [Bool.false_eq_true, if_false]
          walk_at "ws"
          simp only [Bool.false_eq_true, if_false]
          walk_at "ws"
          refine ⟨ns, by walk_at "lk", by walk_at "lk", by walk_at "lk", by walk_at "lk", put_keep hD a5, put_keep hD a6, E1, by omega, a9, ?_⟩
          rw [htk]
          exact a10.pl j rfl (by rw [hgl, he])
        · have e : (!decide (keyA ((belowB B (p.take i)).getLast hbn) = keyA (.pl j))) = true := by
            simp only [Bool.not_eq_true', decide_eq_false_iff_not]
            intro h; exact he (keyA_inj h)
          simp only [e]
          walk_at "ws"
          simp only [if_true]
          walk_at "ws"
          exact ⟨E1, .inr ⟨rfl, none_ fun _ h => he (by rw [hgl] at h; exact Option.some.inj h)⟩⟩
  · rintro σ2 ⟨ns, a1, a2, a3, a4, a5, a6, a7, a8, a9, a10⟩
    have : (intsA p.length).length = p.length := by simp [intsA]
    rw [this] at a8 a10
    rw [List.take_of_length_le (Nat.le_refl _)] at a10
    walk_at "ws"
    exact ⟨a7, .inl ⟨ns, rfl, a8, a9, a10⟩⟩
theorem names_call {P : Params} {C : Cx} {n : Nat} {σ : St} (W : Wd (hd01.heap_39 P) C n) (hn : n ≤ 48) {B : List BRow} {bk : Addr} {p : Path} {b : Bool} (hb : σ.H bk = some (.list (B.map browA))) (K : BookOk B) (hp : ∀ k ∈ p, KeyOk k) (hpl : p.length ≤ 100)
    (hne : ∀ j i, p[j]? = some (.pl i) → belowB B (p.take j) ≠ []) {Q : AV → St → Prop}
    (fin : ∀ a H', Ext σ.H H' → ((∃ ns : List Str, a = .tup (ns.map .str) ∧ ns.length ≤ p.length ∧ (∀ x ∈ ns, Key.nm x ∈ p) ∧ Rch B b p ns) ∨ (a = .con .none ∧ ∀ ns, ¬ Rch B b p ns)) → Q a ⟨σ.m, H'⟩) : TCall C (.ref 69) [.con (.ref bk), pathA p, .con (.bool b)] σ Q := by
  have hK := W.K
  refine TCall.user (body := (namesD P).1) (scope := (namesD P).2.1) (fd := (namesD P).2.2.1) (by rw [hK]; exact (namesD P).2.2.2) (ps := ["book", "at", "lists"]) (ds := []) rfl (by simp) (W.room (by omega)) (by rfl) ?_ ?_
  · intro vs s h X
    obtain ⟨v, w, u, rfl⟩ := three_of h
    exact kp_binds X fun S => by rw [hK]; rfl
  · intro env hk eg eb hs
    refine TV.mono (names_walk P (W.callee (hk := hk) (eg := eg) (eb := eb)) (by omega) hs (B := B) (bk := bk) (p := p) (b := b) (by rfl) (by rfl) (by rfl) hb K hp hpl hne) ?_
    rintro fl σ' ⟨h1, h2⟩
    exact fin _ σ'.H h1 h2

theorem strs_inj : ∀ {p q : List Str}, p.map AV.str = q.map AV.str → p = q
  | [], [], _ => rfl
  | [], _ :: _, h => by simp at h
  | _ :: _, [], h => by simp at h
  | a :: p, b :: q, h => by
    simp only [List.map_cons, List.cons.injEq, AV.str.injEq] at h
    rw [h.1, strs_inj h.2]
theorem strs_data {n : Nat} {ks : List Str} (h : ∀ x ∈ ks, PyData.strOk x = true) : DataA (n + 1) (.tup (ks.map .str)) :=
  .tup n _ fun a ha => by obtain ⟨x, hx, rfl⟩ := List.mem_map.mp ha; exact .str n x (h x hx)

open Classical in
theorem find_walk (P : Params) {C : Cx} {n : Nat} (W : Wd (hd01.heap_39 P) C n) (hn : n ≤ 47) (hs : C.env.scope = (findD P).2.1) {m : Str → Option AV} {H : AH} {B : List BRow} {bk : Addr} {ks : List Str} {b : Bool}
    (h1 : m "book" = some (.con (.ref bk))) (h2 : m "key" = some (.tup (ks.map .str))) (h3 : m "lists" = some (.con (.bool b))) (hb : H bk = some (.list (B.map browA))) (K : BookOk B) (hks : ∀ x ∈ ks, PyData.strOk x = true) (hkl : ks.length ≤ 100)
    (hroot : (([] : Path), Th.tab) ∈ B) (hpre : ∀ q t, (q, t) ∈ B → ∀ j i, q[j]? = some (Key.pl i) → belowB B (q.take j) ≠ []) :
    TS C (findD P).1 ⟨m, H⟩ fun fl σ' => Ext H σ'.H ∧ ∃ best size, Found B b ks best size ∧ retOf fl = .tup [pathA best, .tup ((ks.drop size).map .str)] := by
  have hh := W.hand
  have hu := W.unit (by omega)
  have hK := W.K
  have hs' := hs
  unfold findD at hs hs' ⊢; dsimp only at hs hs' ⊢
  walk_at "w"
  refine TX.assignTup ?_ (by rfl) (swapped_of hs' (by rfl))
  walk_at "ws"
  refine ⟨by simp, ?_⟩
  walk_at "ws"
  refine ⟨by simp, ?_⟩
  walk_at "ws"
  refine TX.for W.calm.loops ?_ (by intro _; rfl)
  walk_at "ws"
  refine ⟨B.map browA, _, fun i σ => ∃ best size, σ.m "book" = some (.con (.ref bk)) ∧ σ.m "key" = some (.tup (ks.map .str)) ∧ σ.m "lists" = some (.con (.bool b)) ∧ σ.m "best" = some (pathA best) ∧ σ.m "size" = some (.int ((size : Nat) : Int)) ∧ σ.H bk = some (.list (B.map browA)) ∧ Ext H σ.H ∧
      size ≤ ks.length ∧ (best, Th.tab) ∈ B ∧ Rch B b best (ks.take size) ∧ (∀ j q, j < i → B[j]? = some (q, Th.tab) → ∀ n, n ≤ ks.length → Rch B b q (ks.take n) → n ≤ size),
    IterAs.list hh, fun i σ _ ⟨_, _, _, _, _, _, _, h, _⟩ => h, ?_, ?_, ?_⟩
  · refine ⟨[], 0, by walk_at "lk", by walk_at "lk", by walk_at "lk", ?_, ?_, hb, Ext.refl _, Nat.zero_le _, hroot, .nil, fun j q h => absurd h (Nat.not_lt_zero _)⟩
    · exact (set_ne (by decide)).trans set_same
    · exact set_same
  · rintro i x σ2 hx ⟨best, size, a1, a2, a3, a4, a5, a6, a7, a8, a9, a10, a11⟩
    rw [List.getElem?_map] at hx
    obtain ⟨⟨q, t⟩, hr, rfl⟩ : ∃ r, B[i]? = some r ∧ browA r = x := by
      cases q : B[i]? with
      | none => rw [q] at hx; cases hx
      | some r => rw [q] at hx; exact ⟨r, rfl, by simpa using hx⟩
    have hqB := List.mem_of_getElem? hr
    have hqd := K.dep _ hqB
    have hqk := K.ok _ hqB
    dsimp only at hqd hqk
    show TAsg C _ (.tup [pathA q, thA t]) σ2 _
    walk_at "ws"
    refine TE.ifExp ?_
    walk_at "ws"
    refine TCmp.eqD (n := 0) (m := 0) hu thA_data (.str _ _ (by decide +kernel)) (by decide) (by decide) ?_
    walk_at "w"
    -- no table: None
    have no : ∀ σ3 : St, (∀ x : Str, x ≠ "at" → x ≠ "thing" → x ≠ "names" → σ3.m x = σ2.m x) → Ext σ2.H σ3.H → (t = .tab → ∀ n, n ≤ ks.length → Rch B b q (ks.take n) → n ≤ size) → (∃ best size, σ3.m "book" = some (.con (.ref bk)) ∧ σ3.m "key" = some (.tup (ks.map .str)) ∧ σ3.m "lists" = some (.con (.bool b)) ∧ σ3.m "best" = some (pathA best) ∧ σ3.m "size" = some (.int ((size : Nat) : Int)) ∧ σ3.H bk = some (.list (B.map browA)) ∧ Ext H σ3.H ∧
      size ≤ ks.length ∧ (best, Th.tab) ∈ B ∧ Rch B b best (ks.take size) ∧ (∀ j q, j < i + 1 → B[j]? = some (q, Th.tab) → ∀ n, n ≤ ks.length → Rch B b q (ks.take n) → n ≤ size)) := fun σ3 hm hE hmax => by
      refine ⟨best, size, (hm "book" (by decide) (by decide) (by decide)).trans a1, (hm "key" (by decide) (by decide) (by decide)).trans a2, (hm "lists" (by decide) (by decide) (by decide)).trans a3, (hm "best" (by decide) (by decide) (by decide)).trans a4, (hm "size" (by decide) (by decide) (by decide)).trans a5, hE _ _ a6, a7.trans hE, a8, a9, a10, fun j q' hj hjq => ?_⟩
      by_cases hji : j < i
      · exact a11 j q' hji hjq
      · have : j = i := by omega
        subst this
        rw [hr] at hjq
        have := Prod.mk.inj (Option.some.inj hjq)
        rw [← this.1]
        exact hmax this.2
    by_cases ht : t = .tab
    · subst ht
      have e : decide (thA .tab = AV.str "table") = true := by simp [thA]
      simp only [e, if_true]
      walk_at "ws"
      refine ⟨_, rfl, Cl.ref (by rw [hK]; rfl), ?_⟩
      walk_at "ws"
      show TCall C _ [_, pathA q, _] _ _
      refine names_call (σ := (σ2.set "at" (pathA q)).set "thing" (thA .tab)) (B := B) (p := q) (b := b) W (by omega) a6 K hqk (by omega) (fun j i hj => hpre q _ hqB j i hj) ?_
      rintro a H' hE (⟨ns, rfl, hnl, hns, hnr⟩ | ⟨rfl, hno⟩)
      · have hE' : Ext σ2.H H' := hE
        walk_at "ws"
        refine TCmp.isNotNoneT ?_
        walk_at "ws"
        simp only [if_true]
        walk_at "ws"
        refine TCall.lenT (by rw [List.length_map]; omega) ?_
        rw [List.length_map]
        walk_at "ws"
        by_cases hls : size < ns.length
        · have e : decide (((size : Nat) : Int) < ((ns.length : Nat) : Int)) = true := by rw [decide_eq_true_eq]; omega
          simp only [e, if_true]
          walk_at "w"
          walk_at "w"
          walk_at "w"
          refine TE.sliceT ?_
          walk_at "w"
          dsimp only [TPart]
          walk_at "ws"
          refine TCall.lenT (by rw [List.length_map]; omega) ?_
          rw [List.length_map]
          refine ⟨_, rfl, _, rfl, by rw [List.length_map]; omega, ?_⟩
          have cut : (List.drop (loN none (ks.map AV.str).length) (ks.map AV.str)).take (hiN (some ((ns.length : Nat) : Int)) (ks.map AV.str).length - loN none (ks.map AV.str).length) = (ks.take ns.length).map AV.str := by
            have : hiN (some ((ns.length : Nat) : Int)) (ks.map AV.str).length = min ns.length ks.length := by
              rw [List.length_map]; unfold hiN clipN; simp only []; split <;> omega
            rw [this]
            show List.take (min ns.length ks.length - 0) (List.drop 0 _) = _
            rw [List.drop_zero, Nat.sub_zero, List.map_take, ← List.length_map (f := AV.str) (as := ks), ← List.take_eq_take_min]
          rw [cut]
          refine TCmp.eqD (n := 1) (m := 1) hu (strs_data fun x hx => hqk (.nm x) (hns x hx)) (strs_data fun x hx => hks x (List.mem_of_mem_take hx)) (by decide) (by decide) ?_
          walk_at "w"
          by_cases he : ns = ks.take ns.length
          · have e : decide (AV.tup (ns.map AV.str) = AV.tup ((ks.take ns.length).map AV.str)) = true := by rw [decide_eq_true_eq, ← he]
            simp only [e, if_true]
            refine TAll.and_nil ?_
            simp only [if_true]
            walk_at "w"
            refine TX.assignSwap (names := ["best", "size"]) hh ?_ (by rfl) (swapped_of hs' (by rfl))
            walk_at "ws"
            refine TCall.lenT (by rw [List.length_map]; omega) ?_
            rw [List.length_map]
            walk_at "ws"
            refine ⟨by simp, ?_⟩
            refine ⟨_, rfl, rfl, ?_⟩
            show TOrd C [_, _] [_, _] _ _
            refine TOrd.consB ?_
            walk_at "w"
            refine TOrd.consB ?_
            walk_at "ws"
            have hnk : ns.length ≤ ks.length := by
              have := congrArg List.length he
              rw [List.length_take] at this; omega
            refine ⟨q, ns.length, by walk_at "lk", by walk_at "lk", by walk_at "lk", by walk_at "lk", by walk_at "lk", hE' _ _ a6, a7.trans hE', hnk, hqB, ?_, fun j q' hj hjq n hn' hq' => ?_⟩
            · rw [← he]; exact hnr
            · by_cases hji : j < i
              · have := a11 j q' hji hjq n hn' hq'; omega
              · have : j = i := by omega
                subst this
                rw [hr] at hjq
                have e := Prod.mk.inj (Option.some.inj hjq)
                rw [← e.1] at hq'
                have := congrArg List.length (hnr.uniq hq')
                rw [List.length_take] at this; omega
          · have e : decide (AV.tup (ns.map AV.str) = AV.tup ((ks.take ns.length).map AV.str)) = false := by
              rw [decide_eq_false_iff_not]; intro h; exact he (strs_inj (AV.tup.inj h))
            simp only [e, Bool.false_eq_true, if_false]
            walk_at "ws"
            refine no _ (fun x h1 h2 h3 => (set_ne h3).trans ((set_ne h2).trans (set_ne h1))) hE' fun _ n hn' hq' => ?_
            have := hnr.uniq hq'
            exfalso; apply he
            have h2 := congrArg List.length this
            rw [List.length_take] at h2
            rw [h2, Nat.min_eq_left hn']; exact this
        · have e : decide (((size : Nat) : Int) < ((ns.length : Nat) : Int)) = false := by rw [decide_eq_false_iff_not]; omega
          simp only [e, Bool.false_eq_true, if_false]
          walk_at "ws"
          refine no _ (fun x h1 h2 h3 => (set_ne h3).trans ((set_ne h2).trans (set_ne h1))) hE' fun _ n hn' hq' => ?_
          have := congrArg List.length (hnr.uniq hq')
          rw [List.length_take] at this; omega
      · have hE' : Ext σ2.H H' := hE
        walk_at "ws"
        refine TCmp.isNotC (by rfl) ?_
        walk_at "w"
        simp only [show (!(Value.none == Value.none)) = false from rfl, Bool.false_eq_true, if_false]
        walk_at "ws"
        exact no _ (fun x h1 h2 h3 => (set_ne h3).trans ((set_ne h2).trans (set_ne h1))) hE' fun _ n _ hq' => absurd hq' (hno _)
    · have e : decide (thA t = AV.str "table") = false := by
        rw [decide_eq_false_iff_not]; intro h; exact ht (thA_inj (b := .tab) h)
      simp only [e, Bool.false_eq_true, if_false]
      walk_at "ws"
      refine TCmp.isNotC (by rfl) ?_
      walk_at "w"
      simp only [show (!(Value.none == Value.none)) = false from rfl, Bool.false_eq_true, if_false]
      walk_at "ws"
      exact no _ (fun x h1 h2 h3 => (set_ne h3).trans ((set_ne h2).trans (set_ne h1))) (Ext.refl _) fun h => absurd h ht
  · rintro σ2 ⟨best, size, a1, a2, a3, a4, a5, a6, a7, a8, a9, a10, a11⟩
    rw [List.length_map] at a11
    walk_at "w"
    walk_at "w"
    walk_at "w"
    walk_at "w"
    walk_at "w"
    walk_at "w"
    refine TE.sliceT ?_
    walk_at "w"
    dsimp only [TPart]
    walk_at "ws"
    refine ⟨_, rfl, _, rfl, by rw [List.length_map]; omega, ?_⟩
    have cut : (List.drop (loN (some ((size : Nat) : Int)) (ks.map AV.str).length) (ks.map AV.str)).take (hiN none (ks.map AV.str).length - loN (some ((size : Nat) : Int)) (ks.map AV.str).length) = (ks.drop size).map AV.str := by
      have : loN (some ((size : Nat) : Int)) (ks.map AV.str).length = size := by
        rw [List.length_map]; unfold loN clipN; simp; omega
      rw [this]
      show List.take ((ks.map AV.str).length - size) (List.drop size _) = _
      rw [← List.map_drop]
      exact List.take_of_length_le (by simp)
    rw [cut]
    walk_at "ws"
    refine ⟨by simp, a7, best, size, ⟨a8, a9, a10, fun q n hq hn' hr => ?_⟩, rfl⟩
    obtain ⟨j, hj⟩ := List.getElem?_of_mem hq
    exact a11 j q (List.getElem?_eq_some_iff.mp hj).1 hj n hn' hr
theorem find_call {P : Params} {C : Cx} {n : Nat} {σ : St} (W : Wd (hd01.heap_39 P) C n) (hn : n ≤ 46) {B : List BRow} {bk : Addr} {ks : List Str} {b : Bool} (hb : σ.H bk = some (.list (B.map browA))) (K : BookOk B) (hks : ∀ x ∈ ks, PyData.strOk x = true) (hkl : ks.length ≤ 100)
    (hroot : (([] : Path), Th.tab) ∈ B) (hpre : ∀ q t, (q, t) ∈ B → ∀ j i, q[j]? = some (Key.pl i) → belowB B (q.take j) ≠ []) {Q : AV → St → Prop}
    (fin : ∀ best size H', Ext σ.H H' → Found B b ks best size → Q (.tup [pathA best, .tup ((ks.drop size).map .str)]) ⟨σ.m, H'⟩) : TCall C (.ref 76) [.con (.ref bk), .tup (ks.map .str), .con (.bool b)] σ Q := by
  have hK := W.K
  refine TCall.user (body := (findD P).1) (scope := (findD P).2.1) (fd := (findD P).2.2.1) (by rw [hK]; exact (findD P).2.2.2) (ps := ["book", "key", "lists"]) (ds := []) rfl (by simp) (W.room (by omega)) (by rfl) ?_ ?_
  · intro vs s h X
    obtain ⟨v, w, u, rfl⟩ := three_of h
    exact kp_binds X fun S => by rw [hK]; rfl
  · intro env hk eg eb hs
    refine TV.mono (find_walk P (W.callee (hk := hk) (eg := eg) (eb := eb)) (by omega) hs (B := B) (bk := bk) (ks := ks) (b := b) (by rfl) (by rfl) (by rfl) hb K hks hkl hroot hpre) ?_
    rintro fl σ' ⟨h1, best, size, h2, e⟩
    rw [e]
    exact fin _ _ σ'.H h1 h2

section
variable {B : List BRow} {adr : Path → Addr} {H : AH}
theorem Inv.book (I : Inv B adr H) (h : B.length ≤ 10000) : BookOk B := ⟨I.ok, I.dep, h⟩
theorem Inv.keysTab (I : Inv B adr H) {p : Path} (hp : (p, .tab) ∈ B) : (entsB B adr p).map (fun e => AV.str e.1) = (belowB B p).map keyA := by
  unfold entsB belowB
  rw [List.map_map, List.map_map]
  refine List.map_congr_left fun e he => ?_
  obtain ⟨x, hx⟩ := I.tabKey hp (mem_kids.mp (show (e.1, e.2) ∈ kids B p from he))
  simp only [Function.comp, hx, nameK, keyA]
theorem itemsB_len {p : Path} : (itemsB B adr p).length = (belowB B p).length := by unfold itemsB belowB; rw [List.length_map, List.length_map]
theorem Inv.keysLst (I : Inv B adr H) {p : Path} (hp : (p, .lst) ∈ B) : intsA (itemsB B adr p).length = (belowB B p).map keyA := by
  rw [itemsB_len, I.row p hp, List.length_map, List.length_range, List.map_map]
  rfl
theorem Inv.item (I : Inv B adr H) {p : Path} (hp : (p, .lst) ∈ B) {i : Nat} (hi : i < (belowB B p).length) : ∃ t, (p ++ [.pl i], t) ∈ B ∧ (itemsB B adr p)[i]? = some (valT adr (p ++ [.pl i]) t) := by
  have hk : i < (kids B p).length := by unfold belowB at hi; rwa [List.length_map] at hi
  have e1 : (kids B p)[i]? = some (kids B p)[i] := List.getElem?_eq_getElem hk
  have e2 : (belowB B p)[i]? = some (kids B p)[i].1 := by unfold belowB; rw [List.getElem?_map, e1]; rfl
  rw [I.row p hp, List.getElem?_map, List.getElem?_range hi] at e2
  have e3 : (kids B p)[i].1 = .pl i := by simpa using e2.symm
  refine ⟨(kids B p)[i].2, ?_, ?_⟩
  · rw [← e3]; exact mem_kids.mp (List.getElem_mem hk)
  · unfold itemsB; rw [List.getElem?_map, e1, ← e3]; rfl
theorem Inv.pre (I : Inv B adr H) : ∀ {q : Path} {t : Th}, (q, t) ∈ B → ∀ i, i ≤ q.length → ∃ u, (q.take i, u) ∈ B := by
  intro q
  induction q using snocRec with
  | nil => intro t h i hi; exact ⟨t, by simpa using h⟩
  | snoc q k ih =>
    intro t h i hi
    by_cases hl : i ≤ q.length
    · obtain ⟨u, hu⟩ : ∃ u, (q, u) ∈ B := by
        rcases I.par _ _ _ h with ⟨_, _, h⟩ | ⟨_, _, h⟩ <;> exact ⟨_, h⟩
      rw [List.take_append_of_le_length hl]
      exact ih hu i hl
    · rw [List.take_of_length_le (by simp at hi ⊢; omega)]; exact ⟨t, h⟩
theorem Inv.hpre (I : Inv B adr H) : ∀ q t, (q, t) ∈ B → ∀ j i, q[j]? = some (Key.pl i) → belowB B (q.take j) ≠ [] := by
  intro q t h j i hj e
  have hl := (List.getElem?_eq_some_iff.mp hj).1
  obtain ⟨u, hu⟩ := I.pre h (j + 1) hl
  rw [List.take_succ, hj] at hu
  have : Key.pl i ∈ belowB B (q.take j) := mem_below.mpr ⟨u, hu⟩
  rw [e] at this; cases this
end
theorem below_data {B : List BRow} (K : BookOk B) {p : Path} : ∀ x ∈ (belowB B p).map keyA, DataA 0 x := fun x hx => by
  obtain ⟨k, hk, rfl⟩ := List.mem_map.mp hx
  obtain ⟨t, ht⟩ := mem_below.mp hk
  exact keyA_data (K.ok _ ht k (by simp))
theorem book_data {B : List BRow} (K : BookOk B) : ∀ x ∈ B.map browA, DataA 2 x := fun x hx => by
  obtain ⟨r, hr, rfl⟩ := List.mem_map.mp hx
  exact browA_data (K.ok r hr)
theorem pathA_snoc {p : Path} {k : Key} : AV.tup (p.map keyA ++ [keyA k]) = pathA (p ++ [k]) := by simp [pathA]

def AgreesAt (P : Params) (B : List BRow) (adr : Path → Addr) (bk : Addr) (d : Nat) : Prop :=
  ∀ {C : Cx} {n : Nat} {σ : St} {p : Path} {t : Th} {Q : AV → St → Prop}, Wd (hd01.heap_39 P) C n → n + d ≤ 40 → σ.H bk = some (.list (B.map browA)) → Inv B adr σ.H → (p, t) ∈ B → 9 ≤ p.length + d →
    (∀ H', Ext σ.H H' → Q (.con (.bool true)) ⟨σ.m, H'⟩) → TCall C (.ref 81) [valT adr p t, pathA p, .con (.ref bk)] σ Q

theorem TSub.atB {C : Cx} {B : List BRow} {adr : Path → Addr} {value slice : PySem.Expr} {σ : St} {p : Path} {k : Key} {t t' : Th} {Q : AV → St → Prop} (hs : subOps slice) (I : Inv B adr σ.H) (hl : B.length ≤ 10000) (hp : (p, t) ∈ B) (ht : t.box) (hk : (p ++ [k], t') ∈ B)
    (q : Q (valT adr (p ++ [k]) t') σ) : TSub C value slice (valT adr p t) (keyA k) σ Q := by
  cases t with
  | tab =>
    obtain ⟨x, rfl⟩ := I.tabKey hp hk
    exact TSub.dict hs (.inl (I.tab p hp)) (I.val hp hk) q
  | lst =>
    obtain ⟨i, rfl⟩ := I.lstKey hp hk
    have hm : Key.pl i ∈ belowB B p := mem_below.mpr ⟨_, hk⟩
    have hi : i < (belowB B p).length := by
      rw [I.row p hp] at hm
      obtain ⟨j, hj, e⟩ := List.mem_map.mp hm
      cases e
      exact List.mem_range.mp hj
    have := below_len (B := B) (p := p)
    obtain ⟨u, hu, e⟩ := I.item hp hi
    have := I.uniq hk hu
    subst this
    exact TSub.list hs (I.lst p hp) (by omega) (by omega) (by rw [Int.toNat_natCast]; exact e) q
  | int n => exact ht.elim
  | txt b => exact ht.elim
noncomputable def agreesRet (P : Params) : List Stmt := (agreesD P).1.drop 3
theorem agrees_ret (P : Params) {C : Cx} {n d : Nat} {B : List BRow} {adr : Path → Addr} {bk : Addr} (ih : AgreesAt P B adr bk d) (W : Wd (hd01.heap_39 P) C n) (hn : n + d ≤ 40) (hs : C.env.scope = (agreesD P).2.1) {σ : St} {p : Path} {t : Th} {pa : Addr}
    (h1 : σ.m "thing" = some (valT adr p t)) (h2 : σ.m "at" = some (pathA p)) (h3 : σ.m "book" = some (.con (.ref bk))) (h4 : σ.m "places" = some (.con (.ref pa))) (hb : σ.H bk = some (.list (B.map browA))) (hl : B.length ≤ 10000) (I : Inv B adr σ.H) (hp : (p, t) ∈ B) (ht : t.box) (hd : 8 ≤ p.length + d)
    (hpa : σ.H pa = some (.list ((belowB B p).map keyA))) : TS C (agreesRet P) σ fun fl σ' => retOf fl = .con (.bool true) ∧ Ext σ.H σ'.H := by
  have hh := W.hand
  have hu := W.unit (by omega)
  have hK := W.K
  have hs' := hs
  have hdp := I.dep _ hp
  dsimp only at hdp
  have hbl := below_len (B := B) (p := p)
  unfold agreesRet
  unfold agreesD at hs hs' ⊢; dsimp only [List.drop] at hs hs' ⊢
  walk_at "ws"
  refine TE.compW (test := some _) W rfl ⟨rfl, by decide, by intro q hq hf; unfold Env.kindOf; rw [hs']; revert q; decide, by decide, by decide⟩ ?_ (by intro _; rfl)
  walk_at "ws"
  refine ⟨(belowB B p).map keyA, _, fun i acc H' => acc = [] ∧ Ext σ.H H', IterAs.list hh, by rw [List.length_map]; omega, fun i acc H' _ hI => hI.2 _ _ hpa, ⟨rfl, Ext.refl _⟩, ?_, ?_⟩
  · rintro C2 i x acc σ6 W2 hs2 hh2 hx ⟨rfl, hE⟩ hsame
    rw [List.getElem?_map] at hx
    obtain ⟨k, hk, rfl⟩ : ∃ k, (belowB B p)[i]? = some k ∧ keyA k = x := by
      cases q : (belowB B p)[i]? with
      | none => rw [q] at hx; cases hx
      | some r => rw [q] at hx; exact ⟨r, rfl, by simpa using hx⟩
    have hkm := List.mem_of_getElem? hk
    obtain ⟨t', ht'⟩ := mem_below.mp hkm
    have c1 : σ6.m "thing" = some (valT adr p t) := (hsame "thing" rfl).trans h1
    have c2 : σ6.m "at" = some (pathA p) := (hsame "at" rfl).trans h2
    have c3 : σ6.m "book" = some (.con (.ref bk)) := (hsame "book" rfl).trans h3
    have I6 : Inv B adr σ6.H := I.ext hE
    have hb6 := hE _ _ hb
    unfold CTurn
    walk_at "ws"
    refine ⟨_, rfl, Cl.ref (by rw [W2.K]; rfl), ?_⟩
    walk_at "ws"
    refine TSub.atB (σ := σ6.set "k" (keyA k)) so_name I6 hl hp ht ht' ?_
    walk_at "ws"
    refine ⟨by simp, ?_⟩
    refine TBin.addT (by rw [List.length_map]; simp; omega) ?_
    rw [pathA_snoc]
    walk_at "ws"
    refine ih (σ := σ6.set "k" (keyA k)) W2 hn hb6 I6 ht' (by simp; omega) fun H2 hE2 => ?_
    walk_at "ws"
    simp only [Bool.not_true, Bool.false_eq_true, if_false]
    exact ⟨hsame.upd rfl, trivial, hE.trans hE2⟩
  · rintro acc H' D ⟨rfl, hE⟩ hD
    walk_at "ws"
    refine ⟨by simp, fun b hb => ?_⟩
    have hbD : D ≠ b := fun e => by subst e; have hb2 : (H'.put D (.list [])) D = none := hb; rw [AH.put_self] at hb2; cases hb2
    refine TCmp.eqNil (xs := []) hu ((AH.put_ne hbD).trans AH.put_self) AH.put_self ?_
    refine ⟨rfl, (hE.put (by
      cases e : σ.H D with
      | none => rfl
      | some o => have := hE D o e; rw [hD] at this; cases this)).put (by
      cases e : σ.H b with
      | none => rfl
      | some o =>
        have e1 := hE b o e
        have e2 : (H'.put D (.list [])) b = none := hb
        rw [AH.put_ne hbD.symm, e1] at e2; cases e2)⟩
noncomputable def agreesIf (P : Params) : List Stmt := (agreesD P).1.drop 2
open Classical in
theorem agrees_if (P : Params) {C : Cx} {n d : Nat} {B : List BRow} {adr : Path → Addr} {bk : Addr} (ih : AgreesAt P B adr bk d) (W : Wd (hd01.heap_39 P) C n) (hn : n + d ≤ 40) (hs : C.env.scope = (agreesD P).2.1) {σ : St} {p : Path} {t : Th} {pa : Addr}
    (h1 : σ.m "thing" = some (valT adr p t)) (h2 : σ.m "at" = some (pathA p)) (h3 : σ.m "book" = some (.con (.ref bk))) (h4 : σ.m "places" = some (.con (.ref pa))) (hb : σ.H bk = some (.list (B.map browA))) (hl : B.length ≤ 10000) (I : Inv B adr σ.H) (hp : (p, t) ∈ B) (ht : t.box) (hd : 8 ≤ p.length + d)
    (hpa : σ.H pa = some (.list ((belowB B p).map keyA))) : TS C (agreesIf P) σ fun fl σ' => retOf fl = .con (.bool true) ∧ Ext σ.H σ'.H := by
  have hh := W.hand
  have hu := W.unit (by omega)
  have hK := W.K
  have K := I.book hl
  have hs0 := hs
  have hdp := I.dep _ hp
  have hok := I.ok _ hp
  dsimp only at hdp hok
  unfold agreesIf
  unfold agreesD at hs ⊢; dsimp only [List.drop] at hs ⊢
  have e1 : decide (AV.tup [pathA p, thA t] ∈ B.map browA) = true := by
    rw [decide_eq_true_eq]; exact List.mem_map.mpr ⟨_, hp, rfl⟩
  have kd : DataA 2 (AV.tup [pathA p, thA t]) := browA_data (r := (p, t)) hok
  have ty : ∃ T, TyOf σ.H (valT adr p t) T ∧ ((t = .tab ∧ T = "dict") ∨ (t = .lst ∧ T = "list")) := by
    cases t with
    | tab => exact ⟨_, .dict (.inl (I.tab p hp)), .inl ⟨rfl, rfl⟩⟩
    | lst => exact ⟨_, .list (I.lst p hp), .inr ⟨rfl, rfl⟩⟩
    | int n => exact ht.elim
    | txt b => exact ht.elim
  obtain ⟨T, ty, hT⟩ := ty
  walk_at "ws"
  refine TE.ifExp ?_
  walk_at "ws"
  refine TCall.type ty ?_
  walk_at "ws"
  refine TCmp.isC (by rcases hT with ⟨_, rfl⟩ | ⟨_, rfl⟩ <;> rfl) ?_
  walk_at "ws"
  have last : ∀ D, σ.H D = none → TS C (agreesRet P) (σ.put D (.list ((belowB B p).map keyA))) fun fl σ' => retOf fl = .con (.bool true) ∧ Ext σ.H σ'.H := fun D hD =>
    TV.mono (agrees_ret P ih W hn hs0 (σ := σ.put D (.list ((belowB B p).map keyA))) h1 h2 h3 h4 (put_keep hD hb) hl (I.ext (put_ext hD)) hp ht hd (put_keep hD hpa)) fun fl σ' ⟨a, b⟩ => ⟨a, (put_ext hD).trans b⟩
  unfold agreesRet agreesD at last; dsimp only [List.drop] at last
  rcases hT with ⟨rfl, rfl⟩ | ⟨rfl, rfl⟩
  · rw [if_pos (by rfl)]
    walk_at "ws"
    refine ⟨by simp, ?_⟩
    walk_at "ws"
    refine TCmp.notInL (n := 2) (m := 2) hu hb (book_data K) kd (by decide) ?_
    rw [show AV.tup [pathA p, AV.str "table"] = AV.tup [pathA p, thA .tab] from rfl, e1]
    walk_at "ws"
    simp only [Bool.not_true, Bool.false_eq_true, if_false]
    walk_at "ws"
    refine ⟨_, rfl, Cl.ref (by rw [hK]; rfl), ?_⟩
    walk_at "ws"
    refine below_call (B := B) (p := p) W (by omega) hb K hok (by omega) fun D hD => ?_
    have hne : pa ≠ D := fun e => by subst e; rw [hpa] at hD; cases hD
    refine TCmp.neL (n := 0) (m := 0) hu (put_keep hD hpa) AH.put_self (below_data K) (below_data K) (by decide) (by decide) ?_
    simp only [decide_true, Bool.not_true]
    walk_at "ws"
    simp only [Bool.false_eq_true, if_false]
    walk_at "w"
    simp only [Bool.false_eq_true, if_false]
    walk_at "w"
    exact last D hD
  · rw [if_neg (by decide)]
    walk_at "ws"
    refine ⟨by simp, ?_⟩
    walk_at "ws"
    refine TCmp.notInL (n := 2) (m := 2) hu hb (book_data K) kd (by decide) ?_
    rw [show AV.tup [pathA p, AV.str "list"] = AV.tup [pathA p, thA .lst] from rfl, e1]
    walk_at "ws"
    simp only [Bool.not_true, Bool.false_eq_true, if_false]
    walk_at "ws"
    refine ⟨_, rfl, Cl.ref (by rw [hK]; rfl), ?_⟩
    walk_at "ws"
    refine below_call (B := B) (p := p) W (by omega) hb K hok (by omega) fun D hD => ?_
    refine TCmp.neL (n := 0) (m := 0) hu (put_keep hD hpa) AH.put_self (below_data K) (below_data K) (by decide) (by decide) ?_
    simp only [decide_true, Bool.not_true]
    walk_at "ws"
    simp only [Bool.false_eq_true, if_false]
    walk_at "w"
    simp only [Bool.false_eq_true, if_false]
    walk_at "w"
    exact last D hD
open Classical in
theorem agrees_walk (P : Params) {C : Cx} {n d : Nat} {B : List BRow} {adr : Path → Addr} {bk : Addr} (ih : AgreesAt P B adr bk d) (W : Wd (hd01.heap_39 P) C n) (hn : n + d ≤ 40) (hs : C.env.scope = (agreesD P).2.1) {m : Str → Option AV} {H : AH} {p : Path} {t : Th}
    (h1 : m "thing" = some (valT adr p t)) (h2 : m "at" = some (pathA p)) (h3 : m "book" = some (.con (.ref bk))) (hb : H bk = some (.list (B.map browA))) (hl : B.length ≤ 10000) (I : Inv B adr H) (hp : (p, t) ∈ B) (hd : 8 ≤ p.length + d) :
    TS C (agreesD P).1 ⟨m, H⟩ fun fl σ' => retOf fl = .con (.bool true) ∧ Ext H σ'.H := by
  have hh := W.hand
  have hu := W.unit (by omega)
  have hK := W.K
  have K := I.book hl
  have hs0 := hs
  have hok := I.ok _ hp
  dsimp only at hok
  have hbl := below_len (B := B) (p := p)
  have small : ∀ {T : String}, TyOf H (valT adr p t) T → (T = "int" ∨ T = "str") → valT adr p t = thA t → TS C (agreesD P).1 ⟨m, H⟩ fun fl σ' => retOf fl = .con (.bool true) ∧ Ext H σ'.H := by
    intro T ty hT hv
    unfold agreesD at hs ⊢; dsimp only at hs ⊢
    walk_at "ws"
    refine TCall.type ty ?_
    walk_at "ws"
    refine ⟨by simp, ?_⟩
    refine TCmp.inIntStr (by rcases hT with rfl | rfl <;> simp) ?_
    have e : decide (T = "int" ∨ T = "str") = true := by rw [decide_eq_true_eq]; exact hT
    rw [e]
    walk_at "ws"
    simp only [if_true]
    walk_at "ws"
    rw [hv]
    refine ⟨by simp, ?_⟩
    walk_at "ws"
    refine TCmp.inL (n := 2) (m := 2) hu hb (book_data K) (browA_data (r := (p, t)) hok) (by decide) ?_
    have : browA (p, t) ∈ B.map browA := List.mem_map.mpr ⟨_, hp, rfl⟩
    refine ⟨?_, Ext.refl _⟩
    show AV.con (.bool (decide (browA (p, t) ∈ B.map browA))) = _
    rw [decide_eq_true this]
  cases t with
  | int i => exact small (.int _) (.inl rfl) rfl
  | txt b => exact small (.str _) (.inr rfl) rfl
  | tab =>
    have ty : TyOf H (valT adr p .tab) "dict" := .dict (.inl (I.tab p hp))
    unfold agreesD at hs ⊢; dsimp only at hs ⊢
    walk_at "ws"
    refine TCall.type ty ?_
    walk_at "ws"
    refine ⟨by simp, ?_⟩
    refine TCmp.inIntStr (by simp) ?_
    rw [show decide ("dict" = "int" ∨ "dict" = "str") = false from by decide]
    walk_at "ws"
    simp only [Bool.false_eq_true, if_false]
    walk_at "ws"
    refine TCall.type ty ?_
    walk_at "ws"
    refine TCmp.isC (by rfl) ?_
    walk_at "ws"
    rw [if_pos (by rfl)]
    walk_at "ws"
    refine TCall.listKeys hh (.inl (I.tab p hp)) (by unfold entsB; rw [List.length_map]; have := kids_len (B := B) (p := p); omega) fun a ha => ?_
    rw [I.keysTab hp]
    walk_at "w"
    walk_at "w"
    have := agrees_if P ih W hn hs0 (σ := (St.mk m (H.put a (.list ((belowB B p).map keyA)))).set "places" (.con (.ref a))) (pa := a) (t := .tab) (by walk_at "lk") (by walk_at "lk") (by walk_at "lk") (by walk_at "lk") (put_keep (H := H) ha hb) hl (I.ext (put_ext ha)) hp trivial hd AH.put_self
    exact TV.mono this fun fl σ' ⟨x, y⟩ => ⟨x, (put_ext (H := H) ha).trans y⟩
  | lst =>
    have ty : TyOf H (valT adr p .lst) "list" := .list (I.lst p hp)
    unfold agreesD at hs ⊢; dsimp only at hs ⊢
    walk_at "ws"
    refine TCall.type ty ?_
    walk_at "ws"
    refine ⟨by simp, ?_⟩
    refine TCmp.inIntStr (by simp) ?_
    rw [show decide ("list" = "int" ∨ "list" = "str") = false from by decide]
    walk_at "ws"
    simp only [Bool.false_eq_true, if_false]
    walk_at "ws"
    refine TCall.type ty ?_
    walk_at "ws"
    refine TCmp.isC (by rfl) ?_
    walk_at "ws"
    rw [if_neg (by decide)]
    walk_at "ws"
    refine TCall.type ty ?_
    walk_at "ws"
    refine TCmp.isC (by rfl) ?_
    walk_at "ws"
    rw [if_pos (by rfl)]
    walk_at "ws"
    refine TCall.lenL (I.lst p hp) (by rw [itemsB_len]; omega) ?_
    walk_at "ws"
    refine TCall.range fun r hr => ?_
    walk_at "ws"
    refine TCall.listRange hh AH.put_self (by rw [itemsB_len]; omega) fun a ha => ?_
    rw [I.keysLst hp]
    have hE : Ext H ((H.put r (.rng (itemsB B adr p).length)).put a (.list ((belowB B p).map keyA))) := (put_ext (H := H) hr).trans (put_ext ha)
    walk_at "w"
    walk_at "w"
    walk_at "w"
    have := agrees_if P ih W hn hs0 (σ := (St.mk m ((H.put r (.rng (itemsB B adr p).length)).put a (.list ((belowB B p).map keyA)))).set "places" (.con (.ref a))) (pa := a) (t := .lst) (by walk_at "lk") (by walk_at "lk") (by walk_at "lk") (by walk_at "lk") (hE _ _ hb) hl (I.ext hE) hp trivial hd AH.put_self
    exact TV.mono this fun fl σ' ⟨x, y⟩ => ⟨x, hE.trans y⟩
theorem agrees_at (P : Params) {B : List BRow} (hl : B.length ≤ 10000) {adr : Path → Addr} {bk : Addr} : ∀ d, AgreesAt P B adr bk d := by
  intro d
  induction d with
  | zero =>
    intro C n σ p t Q W hn hb I hp hd fin
    have := I.dep _ hp
    exact absurd hd (by dsimp only at this; omega)
  | succ d ih =>
    intro C n σ p t Q W hn hb I hp hd fin
    have hK := W.K
    refine TCall.user (body := (agreesD P).1) (scope := (agreesD P).2.1) (fd := (agreesD P).2.2.1) (by rw [hK]; exact (agreesD P).2.2.2) (ps := ["thing", "at", "book"]) (ds := []) rfl (by simp) (W.room (by omega)) (by rfl) ?_ ?_
    · intro vs s h X
      obtain ⟨v, w, u, rfl⟩ := three_of h
      exact kp_binds X fun S => by rw [hK]; rfl
    · intro env hk eg eb hs
      refine TV.mono (agrees_walk P ih (W.callee (hk := hk) (eg := eg) (eb := eb)) (by omega) hs (B := B) (bk := bk) (p := p) (t := t) (by rfl) (by rfl) (by rfl) hb hl I hp (by omega)) ?_
      rintro fl σ' ⟨e, h1⟩
      rw [e]
      exact fin σ'.H h1

noncomputable def nestBody (P : Params) : List Stmt := match (nestD P).1 with
  | [_, .For _ _ b _ _, _] => b
  | _ => []

section
variable {P : Params} {C : Cx} {n : Nat} {σ : St} {c d : Addr} {es es' : List (Str × AV)} {nm : Str} {b : Bool} {Q : AFl → St → Prop}
theorem nest_tail (W : Wx (hd01.heap_39 P) C n) (hs : C.env.scope = (nestD P).2.1) (hc : σ.m "cont" = some (.con (.ref d))) (ha : σ.m "access_lists" = some (.con (.bool b))) (hd : σ.H d = some (.dict es)) (q : Q .next σ) :
    TS C ((nestBody P).drop 2) σ Q := by
  unfold nestBody
  unfold nestD at hs ⊢; dsimp only [List.drop] at hs ⊢
  have ty := TyOf.dict (H := σ.H) (.inl hd)
  walk_at "ws"
  cases b
  · walk_at "si"
    refine TCall.isinst ty (by decide) (.inr (.inl rfl)) ?_
    walk_at "ws"
    walk_at "si"
    exact q
  · walk_at "si"
    refine TCall.isinst ty (by decide) (.inl rfl) ?_
    walk_at "ws"
    walk_at "si"
    refine TCall.isinst ty (by decide) (.inr (.inl rfl)) ?_
    walk_at "ws"
    walk_at "si"
    exact q
theorem nest_tail_list (W : Wx (hd01.heap_39 P) C n) (hs : C.env.scope = (nestD P).2.1) {l : Addr} {xs : List AV} (hc : σ.m "cont" = some (.con (.ref l))) (ha : σ.m "access_lists" = some (.con (.bool true))) (hl : σ.H l = some (.list (xs ++ [.con (.ref d)]))) (hd : σ.H d = some (.dict es))
    (q : Q .next (σ.set "cont" (.con (.ref d)))) : TS C ((nestBody P).drop 2) σ Q := by
  unfold nestBody
  unfold nestD at hs ⊢; dsimp only [List.drop] at hs ⊢
  have ty := TyOf.dict (H := σ.H) (.inl hd)
  have tl := TyOf.list (H := σ.H) hl
  walk_at "si"
  refine TCall.isinst tl (by decide) (.inl rfl) ?_
  walk_at "si"
  refine TSub.listLast (by intro _ _; exact ⟨_, rfl⟩) hl ?_
  walk_at "ws"
  refine TCall.isinst (σ := σ.set "cont" (.con (.ref d))) ty (by decide) (.inr (.inl rfl)) ?_
  walk_at "si"
  exact q
theorem nest_turn (W : Wx (hd01.heap_39 P) C n) (hs : C.env.scope = (nestD P).2.1) (hc : σ.m "cont" = some (.con (.ref c))) (hk : σ.m "k" = some (.str nm)) (hH : σ.H c = some (.dict es)) {v : AV} (hv : valA es nm = some v)
    (q : TS C ((nestBody P).drop 2) (σ.set "cont" v) Q) : TS C (nestBody P) σ Q := by
  unfold nestBody at q ⊢
  unfold nestD at hs q ⊢; dsimp only [List.drop] at hs q ⊢
  walk_at "ws"
  refine TCmp.notInDict (.inl hH) ?_
  rw [hv]
  walk_at "si"
  refine TSub.dict (by intro _ _; exact ⟨_, rfl⟩) (.inl hH) hv ?_
  walk_at "w"
  exact q
theorem nest_turn_new (W : Wx (hd01.heap_39 P) C n) (hs : C.env.scope = (nestD P).2.1) (hc : σ.m "cont" = some (.con (.ref c))) (hk : σ.m "k" = some (.str nm)) (ha : σ.m "access_lists" = some (.con (.bool b))) (hH : σ.H c = some (.dict es)) (hv : valA es nm = none) (hz : es.length ≤ 16777215)
    (hva : ∀ d : Addr, valA (es ++ [(nm, .con (.ref d))]) nm = some (.con (.ref d))) (hst : ∀ a, storeA es nm a = es ++ [(nm, a)])
    (q : ∀ d, σ.H d = none → Q .next (((σ.put d (.dict [])).put c (.dict (es ++ [(nm, .con (.ref d))]))).set "cont" (.con (.ref d)))) : TS C (nestBody P) σ Q := by
  have hs0 := hs
  have nt := fun (d : Addr) (hd : σ.H d = none) => nest_tail (P := P) (σ := ((σ.put d (.dict [])).put c (.dict (es ++ [(nm, .con (.ref d))]))).set "cont" (.con (.ref d))) (d := d) (es := []) (b := b) (Q := Q) W hs0 set_same ((set_ne (by decide)).trans ha)
  unfold nestBody at nt ⊢
  unfold nestD at hs nt ⊢; dsimp only [List.drop] at hs nt ⊢
  walk_at "ws"
  refine TCmp.notInDict (.inl hH) ?_
  rw [hv]
  walk_at "si"
  intro d hd
  walk_at "ws"
  have hne : c ≠ d := fun e => by subst e; rw [hH] at hd; cases hd
  refine TSet.dict (es := es) ((AH.put_ne hne).trans hH) hz ?_
  rw [hst]
  walk_at "ws"
  refine TSub.dict (by intro _ _; exact ⟨_, rfl⟩) (.inl AH.put_self) (a := .con (.ref d)) (hva d) ?_
  walk_at "w"
  exact nt d hd ((AH.put_ne hne.symm).trans AH.put_self) (q d hd)
/-- what stands there is no nest -/
theorem nest_refuse (W : Wd (hd01.heap_39 P) C n) (hs : C.env.scope = (nestD P).2.1) {outer : List Env} {F : St → Prop} (hfr : C.A.frames = some (C.env :: outer)) (hf : C.env.frame = some C.env.locals) {v : AV} {T : String} (hc : σ.m "cont" = some v) (ha : σ.m "access_lists" = some (.con (.bool b)))
    (ty : TyOf σ.H v T) (hT : T ≠ "tuple" ∧ T ≠ "dict" ∧ (b = true → T ≠ "list")) (hF : F σ) (hout : Frames outer σ.H) : TS (C.outX outer F) ((nestBody P).drop 2) σ Q := by
  have hh := W.hand
  have W' : Wx (hd01.heap_39 P) (C.outX outer F) n := W.outX
  unfold nestBody
  unfold nestD at hs ⊢; dsimp only [List.drop] at hs ⊢
  have hs' : (C.outX outer F).env.scope = _ := hs
  have eD : decide (T = "dict") = false := by rw [decide_eq_false_iff_not]; exact hT.2.1
  walk_at "ws"
  cases b
  · walk_at "si"
    refine TCall.isinst ty hT.1 (.inr (.inl rfl)) ?_
    rw [eD]
    walk_at "si"
    refine TX.raiseKey hh hfr hf ?_
    walk_at "ws"
    refine ⟨rfl, ?_⟩
    walk_at "ws"
    exact ⟨by simp, hF, hout⟩
  · have eL : decide (T = "list") = false := by rw [decide_eq_false_iff_not]; exact hT.2.2 rfl
    walk_at "si"
    refine TCall.isinst ty hT.1 (.inl rfl) ?_
    rw [eL]
    walk_at "si"
    refine TCall.isinst ty hT.1 (.inr (.inl rfl)) ?_
    rw [eD]
    walk_at "si"
    refine TX.raiseKey hh hfr hf ?_
    walk_at "ws"
    refine ⟨rfl, ?_⟩
    walk_at "ws"
    exact ⟨by simp, hF, hout⟩
end

theorem valA_append {es fs : List (Str × AV)} {k : Str} : valA (es ++ fs) k = (valA es k).or (valA fs k) := by
  unfold valA; rw [List.find?_append]; cases List.find? _ es <;> rfl
theorem storeA_new {es : List (Str × AV)} {k : Str} {a : AV} (h : valA es k = none) : storeA es k a = es ++ [(k, a)] := by
  unfold storeA
  rw [if_neg]
  unfold valA at h
  rw [Option.map_eq_none_iff, List.find?_eq_none] at h
  simp only [List.any_eq_true, not_exists, not_and, decide_eq_true_eq]
  intro e he; simpa using h e he
theorem valA_put {es : List (Str × AV)} {k : Str} {a : AV} (h : valA es k = none) : valA (es ++ [(k, a)]) k = some a := by
  rw [valA_append, h]; unfold valA; simp
def Refused (B : List BRow) (best : Path) (xs : List Str) : Prop := ∃ x r, xs = x :: r ∧ Key.nm x ∈ belowB B best
theorem entsB_len {B : List BRow} {adr : Path → Addr} {p : Path} : (entsB B adr p).length ≤ B.length := by unfold entsB; rw [List.length_map]; exact kids_len

theorem nest_walk (P : Params) {C : Cx} {n : Nat} (W : Wd (hd01.heap_39 P) C n) (hn : n ≤ 50) (hs : C.env.scope = (nestD P).2.1) {outer : List Env} {F : St → Prop} (hfr : C.A.frames = some (C.env :: outer)) (hf : C.env.frame = some C.env.locals)
    {m : Str → Option AV} {H : AH} {x dx : Addr} {B : List BRow} {adr : Path → Addr} {ks : List Str} {b : Bool} {best : Path} {size : Nat}
    (h1 : m "self" = some (.con (.ref x))) (h2 : m "key" = some (.tup (ks.map .str))) (h3 : m "access_lists" = some (.con (.bool b)))
    (hx : H x = some (.inst 46 dx)) (hdx : H dx = some (.dict [("dict", .con (.ref (adr [])))])) (I : Inv B adr H) (T : Tame B) (hl : B.length ≤ 10000) (Fd : Found B b ks best size) (hks : ∀ y ∈ ks, PyData.strOk y = true) (hk3 : ks.length ≤ 3)
    (hout : Frames outer H) (hF : Refused B best (ks.drop size) → ∀ m', F ⟨m', H⟩) :
    TS (C.outX outer F) (nestD P).1 ⟨m, H⟩ fun fl σ' => ¬ Refused B best (ks.drop size) ∧ ∃ adr', Grown B adr H (addN B best (ks.drop size) (ks.drop size).length) adr' σ'.H ∧ retOf fl = .con (.ref (adr' (best ++ nms (ks.drop size)))) ∧ (ks.drop size = [] → σ'.H = H ∧ adr' = adr) := by
  have hK := W.K
  have hh := W.hand
  have W' : Wx (hd01.heap_39 P) (C.outX outer F) n := W.outX
  have hs0 : (C.outX outer F).env.scope = (nestD P).2.1 := hs
  have hb : nestBody P = nestBody P := rfl
  unfold nestBody at hb
  unfold nestD at hb ⊢; dsimp only at hb ⊢
  have hs1 : (C.outX outer F).env.scope = _ := hs0
  unfold nestD at hs1; dsimp only at hs1
  walk_at "ws"
  refine TAttr.inst hx hdx (by rw [hK]; rfl) (by rw [hK]; rfl) (by rw [hK]; rfl) (a := .con (.ref (adr []))) (by rfl) ⟨_, rfl⟩ ?_
  walk_at "ws"
  refine TX.for (C.outX_loops outer F) ?_ (by intro _; rfl)
  walk_at "ws"
  generalize hxs : ks.drop size = xs at hF ⊢
  have hxl : xs.length = ks.length - size := by rw [← hxs, List.length_drop]
  have hsz := Fd.le
  have hbl : best.length ≤ 2 * size := by
    have := Fd.rch.len I T Fd.mem
    rw [List.length_take] at this; omega
  let J : Nat → St → Prop := fun i σ => σ.m "access_lists" = some (.con (.bool b)) ∧ ((i < size ∧ σ.H = H ∧ ∃ q, σ.m "cont" = some (.con (.ref (adr q))) ∧ (q, Th.tab) ∈ B ∧ Rch B b q (ks.take i)) ∨
    ∃ j adr', i = size + j ∧ j ≤ xs.length ∧ Grown B adr H (addN B best xs j) adr' σ.H ∧ σ.m "cont" = some (.con (.ref (adr' (best ++ nms (xs.take j))))) ∧ (j = 0 → σ.H = H ∧ adr' = adr) ∧ (0 < j → ¬ Refused B best xs))
  have mk : ∀ i σ, i ≤ size → σ.m "access_lists" = some (.con (.bool b)) → σ.H = H → ∀ q, σ.m "cont" = some (.con (.ref (adr q))) → (q, Th.tab) ∈ B → Rch B b q (ks.take i) → J i σ := by
    intro i σ hi ha hH q hc hq hr
    refine ⟨ha, ?_⟩
    by_cases h : i < size
    · exact .inl ⟨h, hH, q, hc, hq, hr⟩
    · have : i = size := by omega
      subst this
      have := Rch.path_uniq I T hq Fd.mem hr Fd.rch
      subst this
      refine .inr ⟨0, adr, rfl, Nat.zero_le _, ?_, ?_, fun _ => ⟨hH, rfl⟩, fun h => absurd h (Nat.lt_irrefl _)⟩
      · rw [hH]; exact Grown.refl I
      · rw [hc]; simp [nms]
  refine ⟨_, _, J, IterAs.tuple W.hand, fun _ _ _ _ => trivial, ?_, ?_, ?_⟩
  · exact mk 0 _ (Nat.zero_le _) (by walk_at "lk") rfl [] (by walk_at "lk") I.root .nil
  · rintro i y σ2 hy ⟨ha, hc⟩
    refine TAsg.name ?_
    walk_at "w"
    show TS (C.outX outer F) (nestBody P) _ _
    have hil : i < ks.length := by simpa using (List.getElem?_eq_some_iff.mp hy).1
    have hki : ks[i]? = some ks[i] := List.getElem?_eq_getElem hil
    obtain rfl : y = .str ks[i] := by
      rw [List.getElem?_map, hki] at hy
      simpa using hy.symm
    have htk : ks.take (i + 1) = ks.take i ++ [ks[i]] := by rw [List.take_succ, hki]; rfl
    rcases hc with ⟨hi, hH, q, c1, c2, c3⟩ | ⟨j, adr', rfl, hj, G, c1, c2, c3⟩
    · have keepc : ((σ2.set "k" (.str ks[i])).m "cont" = some (.con (.ref (adr q)))) := by walk_at "lk"
      have keepa : ((σ2.set "k" (.str ks[i])).m "access_lists" = some (.con (.bool b))) := by walk_at "lk"
      have I2 : Inv B adr σ2.H := hH ▸ I
      obtain ⟨q', d1, d2⟩ := Fd.rch.pre I T Fd.mem (i + 1) (by rw [List.length_take]; omega)
      rw [List.take_take, Nat.min_eq_left (by omega), htk] at d2
      obtain ⟨p, e1, e2, e3⟩ := d2.step I T d1
      have := Rch.path_uniq I T e1 c2 e2 c3
      subst this
      rcases e3 with ⟨rfl, e4⟩ | ⟨rfl, e4, li, e5, rfl⟩
      · refine nest_turn W' hs0 keepc (by walk_at "lk") (I2.tab p c2) (I2.val c2 e4) ?_
        refine nest_tail W' hs0 set_same (by walk_at "lk") (I2.tab _ e4) ?_
        exact mk (i + 1) _ hi (by walk_at "lk") hH _ set_same e4 (by rw [htk]; exact d2)
      · have hitem := I2.lst _ e4
        have hbn : belowB B (p ++ [.nm ks[i]]) ≠ [] := fun e => by rw [e] at e5; cases e5
        have hpos : 0 < (belowB B (p ++ [.nm ks[i]])).length := List.length_pos_iff.mpr hbn
        obtain ⟨t, f1, f2⟩ := I2.item e4 (i := (belowB B (p ++ [.nm ks[i]])).length - 1) (by omega)
        have hli : li = (belowB B (p ++ [.nm ks[i]])).length - 1 := by
          rw [I.row _ e4, List.getLast?_map, List.getLast?_range] at e5
          rw [if_neg (by omega)] at e5
          simpa using e5.symm
        subst hli
        have := I.uniq d1 f1
        subst this
        have hsp : itemsB B adr (p ++ [.nm ks[i]]) = (itemsB B adr (p ++ [.nm ks[i]])).dropLast ++ [.con (.ref (adr (p ++ [.nm ks[i]] ++ [.pl ((belowB B (p ++ [.nm ks[i]])).length - 1)])))] := by
          have hne : itemsB B adr (p ++ [.nm ks[i]]) ≠ [] := fun e => by have := itemsB_len (B := B) (adr := adr) (p := p ++ [.nm ks[i]]); rw [e] at this; simp at this; omega
          conv => lhs; rw [← List.dropLast_concat_getLast hne]
          congr 2
          rw [List.getLast_eq_getElem]
          have := itemsB_len (B := B) (adr := adr) (p := p ++ [.nm ks[i]])
          have h4 : (itemsB B adr (p ++ [.nm ks[i]]))[(itemsB B adr (p ++ [.nm ks[i]])).length - 1]? = some (valT adr (p ++ [.nm ks[i]] ++ [.pl ((belowB B (p ++ [.nm ks[i]])).length - 1)]) .tab) := by rw [this]; exact f2
          exact (List.getElem?_eq_some_iff.mp h4).2
        rw [hsp] at hitem
        refine nest_turn W' hs0 keepc (by walk_at "lk") (I2.tab p c2) (I2.val c2 e4) ?_
        refine nest_tail_list W' hs0 set_same (by walk_at "lk") hitem (I2.tab _ d1) ?_
        exact mk (i + 1) _ hi (by walk_at "lk") hH _ set_same d1 (by rw [htk]; exact d2)
    · have keepc : ((σ2.set "k" (.str ks[size + j])).m "cont" = some (.con (.ref (adr' (best ++ nms (xs.take j)))))) := by walk_at "lk"
      have keepa : ((σ2.set "k" (.str ks[size + j])).m "access_lists" = some (.con (.bool b))) := by walk_at "lk"
      have hjl : j < xs.length := by omega
      have hxj : ks[size + j] = xs[j] := by simp only [← hxs, List.getElem_drop]
      have hmem : (best ++ nms (xs.take j), Th.tab) ∈ addN B best xs j := by
        by_cases h0 : j = 0
        · subst h0; simpa [nms, addN] using Fd.mem
        · exact addN_last (by omega)
      have hsok := hks _ (List.getElem_mem hil)
      rw [hxj] at keepc keepa hsok htk ⊢
      by_cases hm : Key.nm xs[j] ∈ belowB (addN B best xs j) (best ++ nms (xs.take j))
      · have h0 : j = 0 := by
          by_cases h0 : j = 0
          · exact h0
          · exfalso
            have hnr := c3 (by omega)
            rw [I.emptyNew (by omega) (by omega) fun x r e h => hnr ⟨x, r, e, h⟩] at hm
            cases hm
        subst h0
        obtain ⟨hH, rfl⟩ := c2 rfl
        have e0 : best ++ nms (xs.take 0) = best := by simp [nms]
        rw [e0] at hm keepc
        have I2 : Inv B adr' σ2.H := hH ▸ I
        have hm' : Key.nm xs[0] ∈ belowB B best := hm
        obtain ⟨t, ht⟩ := mem_below.mp hm'
        have href : Refused B best xs := by
          cases xs with
          | nil => simp at hjl
          | cons z r => exact ⟨z, r, rfl, hm'⟩
        have far : ∀ q, (q, Th.tab) ∈ B → ¬ Rch B b q (ks.take size ++ [xs[0]]) := fun q hq hr => by
          have := Fd.max q (size + 1) hq (by omega) (by rw [Nat.add_zero] at htk; rw [htk]; exact hr)
          omega
        have hval := I2.val Fd.mem ht
        have out : ∀ {T : String}, TyOf σ2.H (valT adr' (best ++ [.nm xs[0]]) t) T → (T ≠ "tuple" ∧ T ≠ "dict" ∧ (b = true → T ≠ "list")) → TS (C.outX outer F) (nestBody P) (σ2.set "k" (.str xs[0])) (FEnd J (size + 0) (andThen (fun σ1 => TS (C.outX outer F) ((nestD P).1.drop 2) σ1 fun fl σ' => ¬ Refused B best xs ∧ ∃ adr'', Grown B adr' H (addN B best xs xs.length) adr'' σ'.H ∧ retOf fl = .con (.ref (adr'' (best ++ nms xs))) ∧ (xs = [] → σ'.H = H ∧ adr'' = adr')) fun fl σ' => ¬ Refused B best xs ∧ ∃ adr'', Grown B adr' H (addN B best xs xs.length) adr'' σ'.H ∧ retOf fl = .con (.ref (adr'' (best ++ nms xs))) ∧ (xs = [] → σ'.H = H ∧ adr'' = adr'))) := fun ty hT => by
          refine nest_turn W' hs0 keepc (by walk_at "lk") (I2.tab _ Fd.mem) hval ?_
          refine nest_refuse W hs hfr hf set_same (by walk_at "lk") ty hT ?_ ?_
          · show F ⟨_, σ2.H⟩
            rw [hH]; exact hF href _
          · show Frames outer σ2.H
            rw [hH]; exact hout
        cases t with
        | tab => exact absurd (Fd.rch.nm xs[0]) (far _ ht)
        | lst =>
          cases b with
          | true =>
            exfalso
            have hbn := T.some_ _ ht
            have hgl : (belowB B (best ++ [.nm xs[0]])).getLast? = some ((belowB B (best ++ [.nm xs[0]])).getLast hbn) := List.getLast?_eq_some_getLast hbn
            have hmm := List.getLast_mem hbn
            obtain ⟨u, hu⟩ := mem_below.mp hmm
            obtain ⟨li, hli⟩ := I.lstKey ht hu
            rw [hli] at hgl hu
            rw [T.item _ _ _ hu] at hu
            exact far _ hu ((Fd.rch.nm xs[0]).pl li rfl hgl)
          | false => exact out (.list (I2.lst _ ht)) ⟨by decide, by decide, fun h => by cases h⟩
        | int v => exact out (.int _) ⟨by decide, by decide, fun _ => by decide⟩
        | txt v => exact out (.str _) ⟨by decide, by decide, fun _ => by decide⟩
      · have hnv := G.inv.noVal hmem hm
        have hal := addN_len (B := B) (p := best) (xs := xs) (j := j)
        refine nest_turn_new W' hs0 keepc (by walk_at "lk") keepa (G.inv.tab _ hmem) hnv ?_ (fun d => valA_put hnv) (fun a => storeA_new hnv) fun d hd => ?_
        · have := entsB_len (B := addN B best xs j) (adr := adr') (p := best ++ nms (xs.take j)); omega
        · have hd' : σ2.H d = none := hd
          have hne : adr' (best ++ nms (xs.take j)) ≠ d := fun e => by have := G.inv.tab _ hmem; rw [e, hd'] at this; cases this
          have hlen : (best ++ nms (xs.take j)).length ≤ 7 := by
            rw [List.length_append, nms, List.length_map, List.length_take]; omega
          have step := Grown.add (H' := (σ2.H.put d (.dict [])).put (adr' (best ++ nms (xs.take j))) (.dict (entsB (addN B best xs j) adr' (best ++ nms (xs.take j)) ++ [(xs[j], .con (.ref d))]))) G.inv (t := .tab) (d := d) hmem (.inl ⟨rfl, xs[j], rfl⟩) hm hsok hlen
            (fun _ => ⟨hd', (AH.put_ne hne.symm).trans AH.put_self⟩) (fun _ => by simp only [valT, adrN_self, nameK]; exact AH.put_self) (fun h => by cases h) (fun a o hne2 h => (AH.put_ne hne2).trans (put_keep hd' h))
          have e5 : best ++ nms (xs.take j) ++ [Key.nm xs[j]] = best ++ nms (xs.take (j + 1)) := by rw [nms_take hjl, List.append_assoc]
          rw [e5] at step
          refine ⟨by walk_at "lk", .inr ⟨j + 1, adrN adr' (best ++ nms (xs.take (j + 1))) d, by omega, hjl, G.trans step, ?_, fun h => by omega, fun _ => ?_⟩⟩
          · rw [adrN_self]; exact set_same
          · rintro ⟨z, r, rfl, hz⟩
            by_cases h0 : j = 0
            · subst h0
              apply hm
              have e0 : best ++ nms (List.take 0 (z :: r)) = best := by simp [nms]
              rw [e0]
              exact hz
            · exact c3 (by omega) ⟨z, r, rfl, hz⟩
  · rintro σ2 ⟨ha, hc⟩
    rw [List.length_map] at hc
    rcases hc with ⟨hi, hH, q, c1, c2, c3⟩ | ⟨j, adr', hj0, hj, G, c1, c2, c3⟩
    · omega
    · have : j = xs.length := by omega
      subst this
      rw [List.take_of_length_le (Nat.le_refl _)] at c1
      walk_at "ws"
      refine ⟨fun ⟨z, r, e, hz⟩ => ?_, adr', G, rfl, fun e => c2 (by rw [e]; rfl)⟩
      exact c3 (by rw [e]; simp) ⟨z, r, e, hz⟩

theorem dropA_put {H : AH} {L : Addr} {o : AO} (h : H L = none) : dropA (H.put L o) L = H := by
  funext b
  by_cases e : b = L
  · subst e; rw [dropA_self, h]
  · rw [dropA_ne e, AH.put_ne e]
theorem Grown.dropped {B B' : List BRow} {adr adr' : Path → Addr} {H H' : AH} {L : Addr} {oL : Obj} (hL : H L = none) (I : Inv B adr H) (G : Grown B adr (H.put L (.raw oL)) B' adr' H') : Grown B adr H B' adr' (dropA H' L) ∧ H' L = some (.raw oL) := by
  have hr : H' L = some (.raw oL) := G.rest L _ AH.put_self fun ha => by
    obtain ⟨o, e, _⟩ := I.adrSome ha
    rw [hL] at e; cases e
  refine ⟨⟨G.inv.keep fun a o ha h => ?_, G.sub, G.same, fun a o h hn => ?_, fun p t h hb => ?_⟩, hr⟩
  · rw [dropA_ne]
    · exact h
    · rintro rfl
      obtain ⟨o', e, hh⟩ := G.inv.adrSome ha
      rw [hr] at e; cases e
      rcases hh with ⟨_, hh⟩ | ⟨_, hh⟩ <;> cases hh
  · have hne : a ≠ L := fun e => by subst e; rw [hL] at h; cases h
    rw [dropA_ne hne]
    exact G.rest a o ((AH.put_ne hne).trans h) hn
  · rcases G.new p t h hb with h1 | h1
    · exact .inl h1
    · right
      by_cases e : adr' p = L
      · rw [e]; exact hL
      · rwa [AH.put_ne e] at h1
theorem Frames.put {outer : List Env} {H : AH} {L : Addr} {o : AO} (h : Frames outer H) (hL : H L = none) : Frames outer (H.put L o) := fun env he => by
  obtain ⟨a, l, ob, b, c, d⟩ := h env he
  exact ⟨a, l, ob, b, put_keep hL c, d⟩
theorem Frames.cons {outer : List Env} {H : AH} {env : Env} {L : Addr} {oL : Obj} (hk : env.scope.kind ≠ .module) (hf : env.frame = some L) (hL : H L = none) (ho : ∀ vs, oL.data ≠ .fields vs) (h : Frames outer H) : Frames (env :: outer) (H.put L (.raw oL)) := fun e he => by
  rcases List.mem_cons.mp he with rfl | he
  · exact ⟨hk, L, oL, hf, AH.put_self, ho⟩
  · exact h.put hL e he

/-- what a call of get_or_create_nest wants to know -/
structure NestPre (B : List BRow) (adr : Path → Addr) (H : AH) (x dx : Addr) (ks : List Str) (b : Bool) (best : Path) (size : Nat) : Prop where
  hx : H x = some (.inst 46 dx)
  hdx : H dx = some (.dict [("dict", .con (.ref (adr [])))])
  I : Inv B adr H
  T : Tame B
  hl : B.length ≤ 10000
  Fd : Found B b ks best size
  hks : ∀ y ∈ ks, PyData.strOk y = true
  hk3 : ks.length ≤ 3

section
variable {P : Params} {C : Cx} {n : Nat} {σ : St} {x dx : Addr} {B : List BRow} {adr : Path → Addr} {ks : List Str} {b : Bool} {best : Path} {size : Nat} {outer : List Env} {Q : AV → St → Prop}
theorem nest_inner (W : Wd (hd01.heap_39 P) C n) (hn : n ≤ 48) (hfr : C.A.frames = some (C.env :: outer)) (hf : C.env.frame = some C.env.locals) {env : Env} {hk eg eb} {oL : Obj} (hs : env.scope = (nestD P).2.1) (hf' : env.frame = some env.locals) (hoL : ∀ vs, oL.data ≠ .fields vs)
    (hL : σ.H C.env.locals = none) {m : Str → Option AV} (h1 : m "self" = some (.con (.ref x))) (h2 : m "key" = some (.tup (ks.map .str))) (h3 : m "access_lists" = some (.con (.bool b))) (N : NestPre B adr σ.H x dx ks b best size) (hout : Frames outer σ.H)
    (q : ¬ Refused B best (ks.drop size) → ∀ adr' H', Grown B adr σ.H (addN B best (ks.drop size) (ks.drop size).length) adr' H' → (ks.drop size = [] → H' = σ.H ∧ adr' = adr) → Q (.con (.ref (adr' (best ++ nms (ks.drop size))))) ⟨σ.m, H'⟩) :
    TS ((C.callee C.A env hk eg eb).outX (C.env :: outer) (fun σ' => σ'.H = σ.H.put C.env.locals (.raw oL) ∧ Refused B best (ks.drop size))) (nestD P).1 ⟨m, σ.H.put C.env.locals (.raw oL)⟩
      fun fl σ' => σ'.H C.env.locals = some (.raw oL) ∧ Q (retOf fl) ⟨σ.m, dropA σ'.H C.env.locals⟩ := by
  have hfr' : (C.callee C.A env hk eg eb).A.frames = some (env :: C.env :: outer) := by
    show Option.map _ C.A.frames = _
    rw [hfr]; rfl
  have hne : ∀ {a o}, σ.H a = some o → (σ.H.put C.env.locals (.raw oL)) a = some o := fun h => put_keep hL h
  refine TV.mono (nest_walk P (W.callee (hk := hk) (eg := eg) (eb := eb)) (by omega) hs (outer := C.env :: outer) (F := fun σ' => σ'.H = σ.H.put C.env.locals (.raw oL) ∧ Refused B best (ks.drop size)) hfr' hf' (x := x) (dx := dx) (B := B) (adr := adr) (ks := ks) (b := b) (best := best) (size := size) h1 h2 h3
    (hne N.hx) (hne N.hdx) (N.I.ext fun a o h => hne h) N.T N.hl N.Fd N.hks N.hk3 (hout.cons (by rw [C.hk]; decide) hf hL hoL) (fun h m' => ⟨rfl, h⟩)) ?_
  rintro fl σ' ⟨hr, adr', G, e, h0⟩
  obtain ⟨G2, hraw⟩ := G.dropped hL N.I
  refine ⟨hraw, ?_⟩
  rw [e]
  exact q hr adr' _ G2 fun h => ⟨by rw [(h0 h).1, dropA_put hL], (h0 h).2⟩

/-- the call in a frame that lets the KeyError out -/
theorem nest_callX (W : Wd (hd01.heap_39 P) C n) (hn : n ≤ 48) (hfr : C.A.frames = some (C.env :: outer)) (hf : C.env.frame = some C.env.locals) {F0 : St → Prop} (N : NestPre B adr σ.H x dx ks true best size) (hout : Frames outer σ.H) (hF : Refused B best (ks.drop size) → F0 σ)
    (q : ¬ Refused B best (ks.drop size) → ∀ adr' H', Grown B adr σ.H (addN B best (ks.drop size) (ks.drop size).length) adr' H' → (ks.drop size = [] → H' = σ.H ∧ adr' = adr) → Q (.con (.ref (adr' (best ++ nms (ks.drop size))))) ⟨σ.m, H'⟩) :
    TCall (C.outX outer F0) (.ref 36) [.con (.ref x), .tup (ks.map .str)] σ Q := by
  intro vs
  refine TV.own fun hL => ?_
  revert vs
  have hK := W.K
  refine TCallX.user (C := C) (F := fun oL σ' => σ'.H = σ.H.put C.env.locals (.raw oL) ∧ Refused B best (ks.drop size)) (body := (nestD P).1) (scope := (nestD P).2.1) (fd := (nestD P).2.2.1) (by rw [hK]; exact (nestD P).2.2.2) (ps := ["self", "key"]) (ds := [("access_lists", .bool true)]) rfl (by intro p hp; rw [List.mem_singleton.mp hp]; rfl) (W.room (by omega)) (by rfl) ?_ hfr hf ?_ ?_
  · intro vs s h X
    obtain ⟨v, w, rfl⟩ := two_of h
    exact kp_binds X fun S => by rw [hK]; rfl
  · intro env hk eg eb oL hs hf' hoL
    exact nest_inner W hn hfr hf hs hf' hoL hL (by rfl) (by rfl) (by rfl) N hout q
  · rintro oL σ' ⟨h, hr⟩
    rw [h]
    refine ⟨AH.put_self, ?_⟩
    rw [dropA_put hL]
    exact hF hr
end

open Classical in
noncomputable def lstB (B : List BRow) (spot : Path) : List BRow := if (spot, Th.lst) ∈ B then B else B ++ [(spot, .lst)]
noncomputable def appB (B : List BRow) (spot : Path) : List BRow := lstB B spot ++ [(spot ++ [.pl (belowB (lstB B spot) spot).length], .tab)]

theorem app_rest (P : Params) {C : Cx} {n : Nat} (W : Wd (hd01.heap_39 P) C n) (hn : n ≤ 50) (hs : C.env.scope = (appD P).2.1) {outer : List Env} {F : St → Prop} (hfr : C.A.frames = some (C.env :: outer)) (hf : C.env.frame = some C.env.locals)
    {σ : St} {B : List BRow} {adr : Path → Addr} {init : List Str} {lk : Str} {q : Path}
    (h1 : σ.m "cont" = some (.con (.ref (adr q)))) (h2 : σ.m "key" = some (.tup ((init ++ [lk]).map .str))) (I : Inv B adr σ.H) (hq : (q, Th.tab) ∈ B) (hl : B.length ≤ 10010) (hlk : PyData.strOk lk = true) (hlen : q.length ≤ 6) (hil : init.length ≤ 100)
    (hout : Frames outer σ.H) (hF : ∀ t, (q ++ [.nm lk], t) ∈ B → t ≠ .lst → ∀ m', F ⟨m', σ.H⟩) :
    TS (C.outX outer F) ((appD P).1.drop 1) σ fun fl σ' => (∀ t, (q ++ [.nm lk], t) ∈ B → t = .lst) ∧ retOf fl = .con .none ∧ ∃ adr', Grown B adr σ.H (appB B (q ++ [.nm lk])) adr' σ'.H := by
  have hK := W.K
  have hh := W.hand
  have W' : Wx (hd01.heap_39 P) (C.outX outer F) n := W.outX
  have hs1 : (C.outX outer F).env.scope = (appD P).2.1 := hs
  unfold appD at hs1 ⊢; dsimp only [List.drop] at hs1 ⊢
  walk_at "ws"
  refine TSub.tup so_neg (by omega) (by omega) (j := init.length) (a := .str lk) ?_ ?_ ?_
  · have := seqLast (n := ((init ++ [lk]).map AV.str).length) (by simp)
    rw [this]; simp
  · simp
  walk_at "ws"
  refine TCmp.inDict (.inl (I.tab q hq)) ?_
  by_cases hm : Key.nm lk ∈ belowB B q
  · obtain ⟨t, ht⟩ := mem_below.mp hm
    have hv := I.val hq ht
    rw [hv]
    walk_at "si"
    refine TSub.dict so_name (.inl (I.tab q hq)) hv ?_
    walk_at "w"
    have other : ∀ {T : String}, t ≠ .lst → TyOf σ.H (valT adr (q ++ [.nm lk]) t) T → T ≠ "tuple" → T ≠ "list" → ∀ {Q}, TS (C.outX outer F) (((appD P).1.drop 2).head?.elim [] fun st => match st with | .If _ b _ _ => b.drop 1 | _ => []) ((σ.set "last_key" (.str lk)).set "list_" (valT adr (q ++ [.nm lk]) t)) Q := by
      intro T htl ty hT1 hT2 Q
      have hs1' := hs1
      unfold appD; dsimp only [List.drop, List.head?, Option.elim]
      have eL : decide (T = "list") = false := by rw [decide_eq_false_iff_not]; exact hT2
      walk_at "ws"
      refine TCall.isinst (σ := (σ.set "last_key" (.str lk)).set "list_" (valT adr (q ++ [.nm lk]) t)) ty hT1 (.inl rfl) ?_
      rw [eL]
      walk_at "si"
      refine TX.raiseKey hh hfr hf ?_
      walk_at "ws"
      refine ⟨rfl, ?_⟩
      walk_at "ws"
      exact ⟨by simp, hF t ht htl _, hout⟩
    cases t with
    | tab => exact other (by intro x; cases x) (.dict (.inl (I.tab _ ht))) (by decide) (by decide)
    | int i => exact other (by intro x; cases x) (.int _) (by decide) (by decide)
    | txt b => exact other (by intro x; cases x) (.str _) (by decide) (by decide)
    | lst =>
      have ty : TyOf σ.H (valT adr (q ++ [.nm lk]) .lst) "list" := .list (I.lst _ ht)
      walk_at "ws"
      refine TCall.isinst (σ := (σ.set "last_key" (.str lk)).set "list_" (valT adr (q ++ [.nm lk]) .lst)) ty (by decide) (.inl rfl) ?_
      walk_at "si"
      refine TMeth.list (σ := (σ.set "last_key" (.str lk)).set "list_" (valT adr (q ++ [.nm lk]) .lst)) (I.lst _ ht) PySem.F.slot_list_append rfl ?_
      walk_at "ws"
      intro d hd
      have hd' : σ.H d = none := hd
      walk_at "ws"
      have hne : adr (q ++ [.nm lk]) ≠ d := fun e => by have := I.lst _ ht; rw [e, hd'] at this; cases this
      have hbl := below_len (B := B) (p := q ++ [.nm lk])
      refine TCall.append (xs := itemsB B adr (q ++ [Key.nm lk])) ((AH.put_ne hne).trans (I.lst _ ht)) (by rw [itemsB_len]; omega) ?_
      walk_at "ws"
      have hlst : lstB B (q ++ [.nm lk]) = B := by unfold lstB; rw [if_pos ht]
      have hnk : Key.pl (belowB B (q ++ [.nm lk])).length ∉ belowB B (q ++ [.nm lk]) := fun h => by
        rw [I.row _ ht] at h
        obtain ⟨j, hj, e⟩ := List.mem_map.mp h
        have := Key.pl.inj e
        rw [List.length_map, List.length_range] at this
        have := List.mem_range.mp hj
        omega
      have step := Grown.add (H := σ.H) (H' := (σ.H.put d (.dict [])).put (adr (q ++ [.nm lk])) (.list (itemsB B adr (q ++ [.nm lk]) ++ [.con (.ref d)]))) I (t := .tab) (d := d) ht (.inr ⟨rfl, rfl⟩) hnk trivial (by simp; omega)
        (fun _ => ⟨hd', (AH.put_ne hne.symm).trans AH.put_self⟩) (fun h => by cases h) (fun _ => by simp only [valT, adrN_self]; exact AH.put_self) (fun a o hne2 h => (AH.put_ne hne2).trans (put_keep hd' h))
      refine ⟨fun u hu => I.uniq hu ht, rfl, ?_⟩
      unfold appB
      rw [hlst]
      exact ⟨_, step⟩
  · have hv := I.noVal hq hm
    rw [hv]
    walk_at "si"
    intro d hd
    have hd' : σ.H d = none := hd
    walk_at "ws"
    refine ⟨by simp, fun l hl' => ?_⟩
    have hl2 : (σ.H.put d (.dict [])) l = none := hl'
    have hld : l ≠ d := fun e => by subst e; rw [AH.put_self] at hl2; cases hl2
    have hl3 : σ.H l = none := (AH.put_ne hld).symm.trans hl2
    have hnl : adr q ≠ l := fun e => by have := I.tab _ hq; rw [e, hl3] at this; cases this
    have hnd : adr q ≠ d := fun e => by have := I.tab _ hq; rw [e, hd'] at this; cases this
    walk_at "ws"
    refine TSet.dict (es := entsB B adr q) ((AH.put_ne hnl).trans ((AH.put_ne hnd).trans (I.tab q hq))) (by have := entsB_len (B := B) (adr := adr) (p := q); omega) ?_
    rw [storeA_new hv]
    walk_at "ws"
    have hno : ∀ u, (q ++ [.nm lk], u) ∉ B := fun u h => hm (mem_below.mpr ⟨u, h⟩)
    have hlst : lstB B (q ++ [.nm lk]) = B ++ [(q ++ [.nm lk], .lst)] := by unfold lstB; rw [if_neg (hno _)]
    have e1 := Grown.add (H := σ.H) (H' := (σ.H.put l (.list [])).put (adr q) (.dict (entsB B adr q ++ [(lk, .con (.ref l))]))) I (k := .nm lk) (t := .lst) (d := l) hq (.inl ⟨rfl, lk, rfl⟩) hm hlk (by omega)
      (fun _ => ⟨hl3, (AH.put_ne hnl.symm).trans AH.put_self⟩) (fun _ => by simp only [valT, adrN_self, nameK]; exact AH.put_self) (fun h => by cases h) (fun a o hne2 h => (AH.put_ne hne2).trans (put_keep hl3 h))
    have hmem : (q ++ [.nm lk], Th.lst) ∈ B ++ [(q ++ [.nm lk], .lst)] := by simp
    have hb0 : belowB (B ++ [(q ++ [.nm lk], Th.lst)]) (q ++ [.nm lk]) = [] := by
      rw [below_ne (by intro e; have := congrArg List.length e; simp at this)]
      rw [List.eq_nil_iff_forall_not_mem]
      intro k hk
      obtain ⟨t, ht⟩ := mem_below.mp hk
      rcases I.par _ _ _ ht with ⟨_, _, h⟩ | ⟨_, _, h⟩ <;> exact hno _ h
    have hdn : ((σ.H.put l (.list [])).put (adr q) (.dict (entsB B adr q ++ [(lk, .con (.ref l))]))) d = none := (AH.put_ne hnd.symm).trans ((AH.put_ne hld.symm).trans hd')
    have e2 := Grown.add (H' := ((σ.H.put d (.dict [])).put l (.list [.con (.ref d)])).put (adr q) (.dict (entsB B adr q ++ [(lk, .con (.ref l))]))) e1.inv (k := .pl 0) (t := .tab) (d := d) hmem (.inr ⟨rfl, by rw [hb0]; rfl⟩) (by rw [hb0]; exact fun h => nomatch h) trivial (by simp; omega)
      (fun _ => ⟨hdn, (AH.put_ne hnd.symm).trans ((AH.put_ne hld.symm).trans AH.put_self)⟩) (fun h => by cases h)
      (fun _ => by
        have hi0 : ∀ a, itemsB (B ++ [(q ++ [.nm lk], Th.lst)]) a (q ++ [.nm lk]) = [] := fun a => List.eq_nil_of_length_eq_zero (by rw [itemsB_len, hb0]; rfl)
        rw [adrN_self, hi0]
        simp only [valT, adrN_self]
        exact (AH.put_ne hnl.symm).trans AH.put_self)
      (fun a o hne2 h => by
        rw [adrN_self] at hne2
        by_cases ea : a = adr q
        · subst ea
          rw [AH.put_self] at h ⊢; exact h
        · rw [AH.put_ne ea] at h ⊢
          rw [AH.put_ne hne2] at h ⊢
          exact put_keep hd' h)
    refine ⟨fun u hu => absurd hu (hno u), rfl, ?_⟩
    unfold appB
    rw [hlst, hb0]
    exact ⟨_, e1.trans e2⟩

theorem TV.forget {C : Cx} {α β : Type} {vs : List Value} {as : List AV} {R : Heap → α → β → Prop} {t : Sem α} {σ : St} {Q : β → St → Prop} {H' : AH} (hH : ∀ a o, H' a = some o → σ.H a = some o) (h : TV C vs as R t ⟨σ.m, H'⟩ Q) : TV C vs as R t σ Q := by
  intro s R0 hv
  have g : C.G σ s ⟨σ.m, H'⟩ s := ⟨fun b o e => ⟨o, e⟩, fun b o e _ n => ⟨e, by
    cases q : H' b with
    | none => exact q
    | some o' => have := hH b o' q; rw [n] at this; cases this⟩⟩
  exact h.last R0 (R0.weaken hH) g hv
theorem Frames.grown {outer : List Env} {B B' : List BRow} {adr adr' : Path → Addr} {H H' : AH} (h : Frames outer H) (I : Inv B adr H) (G : Grown B adr H B' adr' H') : Frames outer H' := fun env he => by
  obtain ⟨a, l, ob, b, c, d⟩ := h env he
  refine ⟨a, l, ob, b, G.rest l _ c fun ha => ?_, d⟩
  obtain ⟨o, e, hh⟩ := I.adrSome ha
  rw [c] at e; cases e
  rcases hh with ⟨_, hh⟩ | ⟨_, hh⟩ <;> cases hh
def Refused2 (B : List BRow) (best : Path) (xs : List Str) (lk : Str) : Prop := Refused B best xs ∨ (xs = [] ∧ ∃ t, (best ++ [Key.nm lk], t) ∈ B ∧ t ≠ Th.lst)

theorem app_walk (P : Params) {C : Cx} {n : Nat} (W : Wd (hd01.heap_39 P) C n) (hn : n ≤ 46) (hs : C.env.scope = (appD P).2.1) {outer : List Env} {F : St → Prop} (hfr : C.A.frames = some (C.env :: outer)) (hf : C.env.frame = some C.env.locals)
    {m : Str → Option AV} {H : AH} {x dx : Addr} {B : List BRow} {adr : Path → Addr} {init : List Str} {lk : Str} {best : Path} {size : Nat}
    (h1 : m "self" = some (.con (.ref x))) (h2 : m "key" = some (.tup ((init ++ [lk]).map .str))) (N : NestPre B adr H x dx init true best size) (hlk : PyData.strOk lk = true) (hil : init.length ≤ 2)
    (hout : Frames outer H) (hF : Refused2 B best (init.drop size) lk → ∀ m', F ⟨m', H⟩) :
    TS (C.outX outer F) (appD P).1 ⟨m, H⟩ fun fl σ' => ¬ Refused2 B best (init.drop size) lk ∧ retOf fl = .con .none ∧ ∃ adr', Grown B adr H (appB (addN B best (init.drop size) (init.drop size).length) (best ++ nms (init.drop size) ++ [.nm lk])) adr' σ'.H := by
  have hK := W.K
  have hh := W.hand
  have W' : Wx (hd01.heap_39 P) (C.outX outer F) n := W.outX
  have hs1 : (C.outX outer F).env.scope = (appD P).2.1 := hs
  have rest := fun (adr' : Path → Addr) (H' : AH) => app_rest P W (by omega) hs (F := F) hfr hf (σ := (St.mk m H').set "cont" (.con (.ref (adr' (best ++ nms (init.drop size)))))) (B := addN B best (init.drop size) (init.drop size).length) (adr := adr') (init := init) (lk := lk) (q := best ++ nms (init.drop size))
  unfold appD at hs1 rest ⊢; dsimp only [List.drop] at hs1 rest ⊢
  have hxl : (init.drop size).length = init.length - size := List.length_drop
  have hsz := N.Fd.le
  have hbl : best.length ≤ 2 * size := by
    have := N.Fd.rch.len N.I N.T N.Fd.mem
    rw [List.length_take] at this; omega
  walk_at "w"
  walk_at "w"
  walk_at "w"
  walk_at "w"
  refine TMeth.inst N.hx N.hdx (by rw [hK]; rfl) (by rw [hK]; rfl) (by rw [hK]; rfl) (by rfl) ?_
  refine ⟨_, rfl, Cl.ref (by rw [hK]; rfl), ?_⟩
  walk_at "w"
  refine TE.sliceT ?_
  walk_at "w"
  dsimp only [TPart]
  walk_at "ws"
  refine ⟨-1, rfl, _, rfl, by rw [List.length_map, List.length_append, List.length_singleton]; omega, ?_⟩
  have cut : (List.drop (loN none ((init ++ [lk]).map AV.str).length) ((init ++ [lk]).map AV.str)).take (hiN (some (-1)) ((init ++ [lk]).map AV.str).length - loN none ((init ++ [lk]).map AV.str).length) = init.map AV.str := by
    have : hiN (some (-1)) ((init ++ [lk]).map AV.str).length = init.length := by
      rw [List.length_map, List.length_append, List.length_singleton]; unfold hiN clipN; simp; omega
    rw [this]
    show List.take (init.length - 0) (List.drop 0 _) = _
    rw [List.drop_zero, Nat.sub_zero, List.map_append, ← List.length_map (f := AV.str) (as := init)]
    exact List.take_left
  rw [cut]
  walk_at "w"
  refine nest_callX (σ := ⟨m, H⟩) W (by omega) hfr hf N hout (fun h => hF (.inl h) m) fun hnr adr' H' G h0 => ?_
  walk_at "w"
  have hmem : (best ++ nms (init.drop size), Th.tab) ∈ addN B best (init.drop size) (init.drop size).length := by
    by_cases h : (init.drop size).length = 0
    · have e := List.length_eq_zero_iff.mp h
      rw [e]; simpa [nms, addN] using N.Fd.mem
    · have := addN_last (B := B) (p := best) (xs := init.drop size) (j := (init.drop size).length) (by omega)
      rwa [List.take_of_length_le (Nat.le_refl _)] at this
  have back : ∀ t, (best ++ nms (init.drop size) ++ [Key.nm lk], t) ∈ addN B best (init.drop size) (init.drop size).length → init.drop size = [] ∧ (best ++ [Key.nm lk], t) ∈ B := fun t ht => by
    by_cases h : (init.drop size).length = 0
    · have e := List.length_eq_zero_iff.mp h
      rw [e] at ht ⊢
      exact ⟨rfl, by simpa [nms, addN] using ht⟩
    · exfalso
      have := N.I.emptyNew (p := best) (xs := init.drop size) (j := (init.drop size).length) (by omega) (Nat.le_refl _) fun z r e hz => hnr ⟨z, r, e, hz⟩
      rw [List.take_of_length_le (Nat.le_refl _)] at this
      have hm : Key.nm lk ∈ belowB (addN B best (init.drop size) (init.drop size).length) (best ++ nms (init.drop size)) := mem_below.mpr ⟨t, ht⟩
      rw [this] at hm; cases hm
  refine TV.mono (rest adr' H' set_same ((set_ne (by decide)).trans h2) G.inv hmem (by rw [addN_len]; have := N.hl; omega) hlk ?_ (by omega) (hout.grown N.I G) fun t ht htl m' => ?_) ?_
  · rw [List.length_append, nms, List.length_map]; omega
  · obtain ⟨e, h⟩ := back t ht
    have hH : H' = H := (h0 e).1
    show F ⟨m', H'⟩
    rw [hH]
    exact hF (.inr ⟨e, t, h, htl⟩) m'
  · rintro fl σ' ⟨a1, a2, adr'', G2⟩
    refine ⟨fun h => ?_, a2, adr'', G.trans G2⟩
    rcases h with h | ⟨e, t, ht, htl⟩
    · exact hnr h
    · refine htl (a1 t ?_)
      rw [e]; simpa [nms, addN] using ht

section
variable {P : Params} {C : Cx} {n : Nat} {σ : St} {x dx : Addr} {B : List BRow} {adr : Path → Addr} {ks : List Str} {b : Bool} {best : Path} {size : Nat} {outer : List Env} {Q : AV → St → Prop}
/-- the call within a try -/
theorem nest_callT (W : Wd (hd01.heap_39 P) C n) (hn : n ≤ 48) (hfr : C.A.frames = some (C.env :: outer)) (hf : C.env.frame = some C.env.locals) {F0 : St → Prop} (N : NestPre B adr σ.H x dx ks b best size) (hout : Frames outer σ.H) (hF : Refused B best (ks.drop size) → F0 σ)
    (q : ¬ Refused B best (ks.drop size) → ∀ adr' H', Grown B adr σ.H (addN B best (ks.drop size) (ks.drop size).length) adr' H' → (ks.drop size = [] → H' = σ.H ∧ adr' = adr) → Q (.con (.ref (adr' (best ++ nms (ks.drop size))))) ⟨σ.m, H'⟩) :
    TCallK (C.inX outer F0) (.ref 36) [.con (.ref x), .tup (ks.map .str)] "access_lists" (.con (.bool b)) σ Q := by
  intro vs w
  refine TV.own fun hL => ?_
  revert vs w
  have hK := W.K
  refine TCallTK.user (C := C) (F := fun oL σ' => σ'.H = σ.H.put C.env.locals (.raw oL) ∧ Refused B best (ks.drop size)) (body := (nestD P).1) (scope := (nestD P).2.1) (fd := (nestD P).2.2.1) (by rw [hK]; exact (nestD P).2.2.2) (ps := ["self", "key"]) rfl (W.room (by omega)) (by rfl) ?_ ?_ ?_
  · intro vs u s h X
    obtain ⟨v, w, rfl⟩ := two_of h
    exact kp_binds X fun S => by rw [hK]; rfl
  · intro env hk eg eb oL hs hf' hoL
    exact nest_inner W hn hfr hf hs hf' hoL hL (by rfl) (by rfl) (by rfl) N hout q
  · rintro oL σ' ⟨h, hr⟩
    rw [h]
    refine ⟨AH.put_self, ?_⟩
    rw [dropA_put hL]
    exact hF hr
theorem app_callT (W : Wd (hd01.heap_39 P) C n) (hn : n ≤ 44) (hfr : C.A.frames = some (C.env :: outer)) (hf : C.env.frame = some C.env.locals) {F0 : St → Prop} {lk : Str} (N : NestPre B adr σ.H x dx ks true best size) (hlk : PyData.strOk lk = true) (hil : ks.length ≤ 2) (hout : Frames outer σ.H)
    (hF : Refused2 B best (ks.drop size) lk → F0 σ)
    (q : ¬ Refused2 B best (ks.drop size) lk → ∀ adr' H', Grown B adr σ.H (appB (addN B best (ks.drop size) (ks.drop size).length) (best ++ nms (ks.drop size) ++ [.nm lk])) adr' H' → Q (.con .none) ⟨σ.m, H'⟩) :
    TCall (C.inX outer F0) (.ref 43) [.con (.ref x), .tup ((ks ++ [lk]).map .str)] σ Q := by
  intro vs
  refine TV.own fun hL => ?_
  revert vs
  have hK := W.K
  have hne : ∀ {a o oL}, σ.H a = some o → (σ.H.put C.env.locals (.raw oL)) a = some o := fun h => put_keep hL h
  refine TCallT.user (C := C) (F := fun oL σ' => σ'.H = σ.H.put C.env.locals (.raw oL) ∧ Refused2 B best (ks.drop size) lk) (body := (appD P).1) (scope := (appD P).2.1) (fd := (appD P).2.2.1) (by rw [hK]; exact (appD P).2.2.2) (ps := ["self", "key"]) (ds := []) rfl (by simp) (W.room (by omega)) (by rfl) ?_ ?_ ?_
  · intro vs s h X
    obtain ⟨v, w, rfl⟩ := two_of h
    exact kp_binds X fun S => by rw [hK]; rfl
  · intro env hk eg eb oL hs hf' hoL
    have hfr' : (C.callee C.A env hk eg eb).A.frames = some (env :: C.env :: outer) := by
      show Option.map _ C.A.frames = _
      rw [hfr]; rfl
    have N' : NestPre B adr (σ.H.put C.env.locals (.raw oL)) x dx ks true best size := ⟨hne N.hx, hne N.hdx, N.I.ext fun a o h => hne h, N.T, N.hl, N.Fd, N.hks, N.hk3⟩
    refine TV.mono (app_walk P (W.callee (hk := hk) (eg := eg) (eb := eb)) (by omega) hs (outer := C.env :: outer) (F := fun σ' => σ'.H = σ.H.put C.env.locals (.raw oL) ∧ Refused2 B best (ks.drop size) lk) hfr' hf' (init := ks) (lk := lk) (by rfl) (by rfl) N' hlk hil (hout.cons (by rw [C.hk]; decide) hf hL hoL) (fun h m' => ⟨rfl, h⟩)) ?_
    rintro fl σ' ⟨hr, e, adr', G⟩
    obtain ⟨G2, hraw⟩ := G.dropped hL N.I
    refine ⟨hraw, ?_⟩
    rw [e]
    exact q hr adr' _ G2
  · rintro oL σ' ⟨h, hr⟩
    rw [h]
    refine ⟨AH.put_self, ?_⟩
    rw [dropA_put hL]
    exact hF hr
end

theorem init_walk (P : Params) {C : Cx} {n : Nat} (W : Wd (hd01.heap_39 P) C n) (hn : n ≤ 50) (hs : C.env.scope = (initD P).2.1) {m : Str → Option AV} {H : AH} {x dx : Addr} (hv : m "self" = some (.con (.ref x)))
    (hx : H x = some (.inst 46 dx)) (hd : H dx = some (.dict [])) {Q : AFl → St → Prop} (q : ∀ d, H d = none → Q .next ⟨m, (H.put d (.dict [])).put dx (.dict [("dict", .con (.ref d))])⟩) : TS C (initD P).1 ⟨m, H⟩ Q := by
  have hK := W.K
  unfold initD; dsimp only
  walk_at "ws"
  refine TX.assignAttr ?_
  walk_at "ws"
  intro d hd'
  walk_at "ws"
  have h1 : d ≠ x := fun e => by subst e; rw [hx] at hd'; cases hd'
  have h2 : d ≠ dx := fun e => by subst e; rw [hd] at hd'; cases hd'
  refine TSetA.first (c := 46) (dx := dx) ?_ ?_ (by rw [hK]; rfl) (by rw [hK]; rfl) (by rw [hK]; rfl) (by rw [hK]; rfl) ?_
  · exact (AH.put_ne h1.symm).trans hx
  · exact (AH.put_ne h2.symm).trans hd
  walk_at "ws"
  exact q d hd'

theorem new_call (P : Params) {C : Cx} {n : Nat} (W : Wd (hd01.heap_39 P) C n) (hn : n ≤ 40) {σ : St} {Q : AV → St → Prop}
    (q : ∀ x dx d, x ≠ dx → x ≠ d → dx ≠ d → σ.H x = none → σ.H dx = none → σ.H d = none → Q (.con (.ref x)) (((σ.put d (.dict [])).put dx (.dict [("dict", .con (.ref d))])).put x (.inst 46 dx))) : TCall C (.ref 46) [] σ Q := by
  have hK := W.K
  refine TCall.cls (f := 28) (p := "self") (body := (initD P).1) (scope := (initD P).2.1) (fd := (initD P).2.2.1) (by rw [hK]; exact (initD P).2.2.2) (by rw [hK]; rfl) (by rw [hK]; rfl) (by rw [hK]; rfl) ?_ (by rfl) ?_ ?_
  · show C.A.depth + 1 < 1000
    have := W.depth; omega
  · intro v s X
    exact kp_binds X fun S => by rw [hK]; rfl
  · intro x dx hx hdx hne env hk eg eb hs
    have W2 : Wd (hd01.heap_39 P) (C.callee (C.A.under (.builtin "type.__call__" ⟨[.ref 46], []⟩)) env hk eg eb) (n + 2) :=
      ⟨W.K, W.B, fun _ _ _ _ h => h, W.hand, by show C.A.depth + 1 + 1 ≤ _; have := W.depth; omega, by
        show C.A.units + Code.cUnits _ + 3 ≤ _
        have := W.units
        have : Code.cUnits (.builtin "type.__call__" ⟨[.ref 46], []⟩) ≤ 10 := by decide +kernel
        omega⟩
    refine init_walk P W2 (by omega) hs (x := x) (dx := dx) (by rfl) AH.put_self ((AH.put_ne hne.symm).trans AH.put_self) fun d hd => ⟨rfl, ?_⟩
    have h1 : d ≠ x := fun e => by subst e; rw [AH.put_self] at hd; cases hd
    have h2 : d ≠ dx := fun e => by subst e; rw [AH.put_ne hne.symm, AH.put_self] at hd; cases hd
    have h3 : σ.H d = none := ((AH.put_ne h2).symm.trans (AH.put_ne h1).symm).trans hd
    have e : ((((σ.H.put dx (.dict [])).put x (.inst 46 dx)).put d (.dict [])).put dx (.dict [("dict", .con (.ref d))])) = (((σ.put d (.dict [])).put dx (.dict [("dict", .con (.ref d))])).put x (.inst 46 dx)).H := by
      funext b
      show AH.put (AH.put (AH.put (AH.put σ.H dx _) x _) d _) dx _ b = AH.put (AH.put (AH.put σ.H d _) dx _) x _ b
      unfold AH.put
      by_cases b1 : b = dx
      · subst b1; simp [hne.symm]
      · by_cases b2 : b = d
        · subst b2; simp [b1, h1]
        · by_cases b3 : b = x
          · subst b3; simp [b1, b2]
          · simp [b1, b2, b3]
    show Q _ ⟨σ.m, ((((σ.H.put dx (.dict [])).put x (.inst 46 dx)).put d (.dict [])).put dx (.dict [("dict", .con (.ref d))]))⟩
    rw [e]
    exact q x dx d hne h1.symm h2.symm hx hdx h3

def heldA (adr : Path → Addr) (p : Path) : AV := .tup [.con (.ref (adr p)), pathA p]
structure Fixed where
  x : Addr
  dx : Addr
  bk : Addr
  gl : Addr
  kl : Addr
  dl : Addr
  r : Addr
  N : Nat
  ds : List Int

/-- what stands in law; Bk: the book as it is written, B: what the machine has -/
structure LawS (f : Fixed) (B Bk : List BRow) (adr : Path → Addr) (given kept : List Path) (σ : St) : Prop where
  mm : σ.m "machine" = some (.con (.ref f.x))
  mb : σ.m "book" = some (.con (.ref f.bk))
  mg : σ.m "given" = some (.con (.ref f.gl))
  mkp : σ.m "kept" = some (.con (.ref f.kl))
  md : σ.m "digits" = some (.con (.ref f.dl))
  hx : σ.H f.x = some (.inst 46 f.dx)
  hdx : σ.H f.dx = some (.dict [("dict", .con (.ref (adr [])))])
  hb : σ.H f.bk = some (.list (Bk.map browA))
  hg : σ.H f.gl = some (.list (given.map (heldA adr)))
  hk : σ.H f.kl = some (.list (kept.map (heldA adr)))
  hd : σ.H f.dl = some (.list (f.ds.map .int))
  hr : σ.H f.r = some (.rng f.N)
  I : Inv B adr σ.H
  ap : ∀ a, Inv.Adr B adr a → a ≠ f.dx ∧ a ≠ f.bk ∧ a ≠ f.gl ∧ a ≠ f.kl ∧ a ≠ f.dl
  ne : f.bk ≠ f.gl ∧ f.bk ≠ f.kl ∧ f.gl ≠ f.kl ∧ f.bk ≠ f.dl ∧ f.gl ≠ f.dl ∧ f.kl ≠ f.dl
  gv : ∀ p ∈ given, (p, Th.tab) ∈ B ∧ p.length ≤ 6
  kp : ∀ p ∈ kept, (p, Th.lst) ∈ B

section
variable {f : Fixed} {B Bk B' : List BRow} {adr adr' : Path → Addr} {given kept : List Path} {σ σ' : St}
theorem LawS.ext (S : LawS f B Bk adr given kept σ) (e : Ext σ.H σ'.H) (h : ∀ y : Str, y = "machine" ∨ y = "book" ∨ y = "given" ∨ y = "kept" ∨ y = "digits" → σ'.m y = σ.m y) : LawS f B Bk adr given kept σ' :=
  ⟨(h _ (.inl rfl)).trans S.mm, (h _ (.inr (.inl rfl))).trans S.mb, (h _ (.inr (.inr (.inl rfl)))).trans S.mg, (h _ (.inr (.inr (.inr (.inl rfl))))).trans S.mkp, (h _ (.inr (.inr (.inr (.inr rfl))))).trans S.md,
    e _ _ S.hx, e _ _ S.hdx, e _ _ S.hb, e _ _ S.hg, e _ _ S.hk, e _ _ S.hd, e _ _ S.hr, S.I.ext e, S.ap, S.ne, S.gv, S.kp⟩
theorem LawS.set (S : LawS f B Bk adr given kept σ) {y : Str} {v : AV} (h : y ≠ "machine" ∧ y ≠ "book" ∧ y ≠ "given" ∧ y ≠ "kept" ∧ y ≠ "digits") : LawS f B Bk adr given kept (σ.set y v) :=
  S.ext (Ext.refl _) fun z hz => set_ne (by rintro rfl; rcases hz with rfl | rfl | rfl | rfl | rfl <;> simp at h)
theorem LawS.hext (S : LawS f B Bk adr given kept σ) {H' : AH} (e : Ext σ.H H') : LawS f B Bk adr given kept ⟨σ.m, H'⟩ := S.ext (σ' := ⟨σ.m, H'⟩) e fun _ _ => rfl
theorem LawS.grown (S : LawS f B Bk adr given kept σ) {H' : AH} (G : Grown B adr σ.H B' adr' H') : LawS f B' Bk adr' given kept ⟨σ.m, H'⟩ := by
  have nx : ¬ Inv.Adr B adr f.x := fun ha => by
    obtain ⟨o, e, hh⟩ := S.I.adrSome ha
    rw [S.hx] at e; cases e; rcases hh with ⟨_, hh⟩ | ⟨_, hh⟩ <;> cases hh
  have nr : ¬ Inv.Adr B adr f.r := fun ha => by
    obtain ⟨o, e, hh⟩ := S.I.adrSome ha
    rw [S.hr] at e; cases e; rcases hh with ⟨_, hh⟩ | ⟨_, hh⟩ <;> cases hh
  have held : ∀ l : List Path, (∀ p ∈ l, ∃ t, (p, t) ∈ B) → l.map (heldA adr') = l.map (heldA adr) := fun l hl => List.map_congr_left fun p hp => by
    obtain ⟨t, ht⟩ := hl p hp
    unfold heldA; rw [G.same p t ht]
  refine ⟨S.mm, S.mb, S.mg, S.mkp, S.md, G.rest _ _ S.hx nx, ?_, G.rest _ _ S.hb fun h => (S.ap _ h).2.1 rfl, ?_, ?_, G.rest _ _ S.hd fun h => (S.ap _ h).2.2.2.2 rfl, G.rest _ _ S.hr nr, G.inv, fun a ha => ?_, S.ne, fun p hp => ⟨G.sub _ (S.gv p hp).1, (S.gv p hp).2⟩, fun p hp => G.sub _ (S.kp p hp)⟩
  · rw [G.same _ _ S.I.root]
    exact G.rest _ _ S.hdx fun h => (S.ap _ h).1 rfl
  · rw [held _ fun p hp => ⟨_, (S.gv p hp).1⟩]
    exact G.rest _ _ S.hg fun h => (S.ap _ h).2.2.1 rfl
  · rw [held _ fun p hp => ⟨_, S.kp p hp⟩]
    exact G.rest _ _ S.hk fun h => (S.ap _ h).2.2.2.1 rfl
  · rcases G.adrs ha with h | h
    · exact S.ap a h
    · refine ⟨?_, ?_, ?_, ?_, ?_⟩ <;> rintro rfl
      · rw [S.hdx] at h; cases h
      · rw [S.hb] at h; cases h
      · rw [S.hg] at h; cases h
      · rw [S.hk] at h; cases h
      · rw [S.hd] at h; cases h
theorem LawS.book (S : LawS f B Bk adr given kept σ) {Bk' : List BRow} : LawS f B Bk' adr given kept (σ.put f.bk (.list (Bk'.map browA))) := by
  obtain ⟨n1, n2, n3, n4, n5, n6⟩ := S.ne
  refine ⟨S.mm, S.mb, S.mg, S.mkp, S.md, put_other S.hb S.hx (by intro x; cases x), put_other S.hb S.hdx (by intro x; cases x), AH.put_self, (AH.put_ne n1.symm).trans S.hg, (AH.put_ne n2.symm).trans S.hk, (AH.put_ne n4.symm).trans S.hd, put_other S.hb S.hr (by intro x; cases x), S.I.keep fun a o ha h => (AH.put_ne (S.ap a ha).2.1).trans h, S.ap, S.ne, S.gv, S.kp⟩
theorem LawS.give (S : LawS f B Bk adr given kept σ) {p : Path} (hp : (p, Th.tab) ∈ B) (hl : p.length ≤ 6) : LawS f B Bk adr (given ++ [p]) kept (σ.put f.gl (.list (given.map (heldA adr) ++ [heldA adr p]))) := by
  obtain ⟨n1, n2, n3, n4, n5, n6⟩ := S.ne
  refine ⟨S.mm, S.mb, S.mg, S.mkp, S.md, put_other S.hg S.hx (by intro x; cases x), put_other S.hg S.hdx (by intro x; cases x), (AH.put_ne n1).trans S.hb, ?_, (AH.put_ne n3.symm).trans S.hk, (AH.put_ne n5.symm).trans S.hd, put_other S.hg S.hr (by intro x; cases x), S.I.keep fun a o ha h => (AH.put_ne (S.ap a ha).2.2.1).trans h, S.ap, S.ne, fun q hq => ?_, S.kp⟩
  · refine AH.put_self.trans ?_; simp
  · rcases List.mem_append.mp hq with hq | hq
    · exact S.gv q hq
    · rw [List.mem_singleton.mp hq]; exact ⟨hp, hl⟩
theorem LawS.hold (S : LawS f B Bk adr given kept σ) {p : Path} (hp : (p, Th.lst) ∈ B) : LawS f B Bk adr given (kept ++ [p]) (σ.put f.kl (.list (kept.map (heldA adr) ++ [heldA adr p]))) := by
  obtain ⟨n1, n2, n3, n4, n5, n6⟩ := S.ne
  refine ⟨S.mm, S.mb, S.mg, S.mkp, S.md, put_other S.hk S.hx (by intro x; cases x), put_other S.hk S.hdx (by intro x; cases x), (AH.put_ne n2).trans S.hb, (AH.put_ne n3).trans S.hg, ?_, (AH.put_ne n6.symm).trans S.hd, put_other S.hk S.hr (by intro x; cases x), S.I.keep fun a o ha h => (AH.put_ne (S.ap a ha).2.2.2.1).trans h, S.ap, S.ne, S.gv, fun q hq => ?_⟩
  · refine AH.put_self.trans ?_; simp
  · rcases List.mem_append.mp hq with hq | hq
    · exact S.kp q hq
    · rw [List.mem_singleton.mp hq]; exact hp
end

/-- the plain side of the turns -/
structure Mn (B : List BRow) (given kept : List Path) (n : Nat) : Prop where
  T : Tame B
  nm : ∀ r ∈ B, ∀ x, Key.nm x ∈ r.1 → x ∈ three
  lb : B.length ≤ 1 + 6 * n
  lg : given.length ≤ 1 + n
  g0 : 0 < given.length
  lk : kept.length ≤ n

noncomputable def lawBody (P : Params) : List Stmt := (lawD P).1
noncomputable def lawTurn (P : Params) : List Stmt := match lawBody P with
  | [_, _, _, .For _ _ b _ _, _, _, _] => b
  | _ => []

theorem law_T4 {P : Params} {C : Cx} {n : Nat} (W : Wd (hd01.heap_39 P) C n) (hn : n ≤ 20) (hs : C.env.scope = (lawD P).2.1) {f : Fixed} {B : List BRow} {adr : Path → Addr} {given kept : List Path} {σ : St} (S : LawS f B B adr given kept σ) (hl : B.length ≤ 10000) {Q : AFl → St → Prop}
    (q : ∀ σ', LawS f B B adr given kept σ' → Q .next σ') : TS C ((lawTurn P).drop 3) σ Q := by
  have hh := W.hand
  have hK := W.K
  have mm := S.mm
  have mb := S.mb
  unfold lawTurn lawBody
  unfold lawD at hs ⊢; dsimp only [List.drop] at hs ⊢
  walk_at "ws"
  refine ⟨_, rfl, Cl.ref (by rw [hK]; rfl), ?_⟩
  walk_at "ws"
  refine TAttr.inst S.hx S.hdx (by rw [hK]; rfl) (by rw [hK]; rfl) (by rw [hK]; rfl) (a := .con (.ref (adr []))) (by rfl) ⟨_, rfl⟩ ?_
  walk_at "ws"
  refine ⟨by simp, ?_⟩
  walk_at "ws"
  show TCall C _ [valT adr [] .tab, pathA [], _] _ _
  refine agrees_at P hl 10 W (by omega) S.hb S.I S.I.root (by simp) fun H' hE => ?_
  walk_at "ws"
  simp only [Bool.not_true, Bool.false_eq_true, if_false]
  walk_at "ws"
  exact q _ (S.hext hE)
theorem law_last {P : Params} {C : Cx} {n : Nat} (W : Wd (hd01.heap_39 P) C n) (hn : n ≤ 20) (hs : C.env.scope = (lawD P).2.1) {f : Fixed} {B : List BRow} {adr : Path → Addr} {given kept : List Path} {σ : St} (S : LawS f B B adr given kept σ) (hl : B.length ≤ 10000) : TS C ((lawBody P).drop 6) σ fun fl _ => retOf fl = .con (.bool true) := by
  have hh := W.hand
  have hK := W.K
  have mm := S.mm
  have mb := S.mb
  unfold lawBody
  unfold lawD at hs ⊢; dsimp only [List.drop] at hs ⊢
  walk_at "ws"
  refine ⟨_, rfl, Cl.ref (by rw [hK]; rfl), ?_⟩
  walk_at "ws"
  refine TAttr.inst S.hx S.hdx (by rw [hK]; rfl) (by rw [hK]; rfl) (by rw [hK]; rfl) (a := .con (.ref (adr []))) (by rfl) ⟨_, rfl⟩ ?_
  walk_at "ws"
  refine ⟨by simp, ?_⟩
  walk_at "ws"
  show TCall C _ [valT adr [] .tab, pathA [], _] _ _
  exact agrees_at P hl 10 W (by omega) S.hb S.I S.I.root (by simp) fun H' hE => rfl

theorem three_at {i : Int} (h0 : 0 ≤ i) (h3 : i < 3) : ∃ j x, seqIndex? i 3 = some j ∧ [AV.str "a", AV.str " A.b ", AV.str ""][j]? = some (AV.str x) ∧ x ∈ three := by
  rcases (by omega : i = 0 ∨ i = 1 ∨ i = 2) with e | e | e <;> rw [e]
  · exact ⟨0, "a", rfl, rfl, by decide⟩
  · exact ⟨1, " A.b ", rfl, rfl, by decide⟩
  · exact ⟨2, "", rfl, rfl, by decide⟩
theorem so_bin {a b : PySem.Expr} {op} {p : Pos} : subOps (.BinOp a op b p) := fun _ _ => ⟨_, rfl⟩
theorem LawS.digit {f : Fixed} {B Bk : List BRow} {adr : Path → Addr} {given kept : List Path} {σ : St} (S : LawS f B Bk adr given kept σ) {i : Nat} (hi : i < f.ds.length) : (f.ds.map AV.int)[((i : Nat) : Int).toNat]? = some (.int f.ds[i]) := by
  rw [Int.toNat_natCast, List.getElem?_map, List.getElem?_eq_getElem hi]; rfl

theorem law_T12 {P : Params} {C : Cx} {n : Nat} (W : Wd (hd01.heap_39 P) C n) (hn : n ≤ 20) (hs : C.env.scope = (lawD P).2.1) {f : Fixed} {B : List BRow} {adr : Path → Addr} {given kept : List Path} {σ : St} (S : LawS f B B adr given kept σ) {i : Nat} (hi : i < f.ds.length) (hl : f.ds.length ≤ 40) (hmn : σ.m "n" = some (.int ((i : Nat) : Int))) {Q : AFl → St → Prop}
    (q : ∀ σ' (c : Int) (ks : List Str), LawS f B B adr given kept σ' → σ'.m "n" = some (.int ((i : Nat) : Int)) → 0 ≤ c → c < 4 → σ'.m "code" = some (.int c) → σ'.m "key" = some (.tup (ks.map .str)) → ks.length ≤ 3 → (∀ x ∈ ks, x ∈ three) → TS C ((lawTurn P).drop 2) σ' Q) : TS C (lawTurn P) σ Q := by
  have hh := W.hand
  have hK := W.K
  have hs' := hs
  have md := S.md
  unfold lawTurn lawBody at q ⊢
  unfold lawD at hs hs' q ⊢; dsimp only [List.drop] at hs hs' q ⊢
  walk_at "w"
  refine TX.assignSwap (names := ["code", "key", "pick"]) hh ?_ (by rfl) (swapped_of hs' (by rfl))
  walk_at "ws"
  refine TSub.list so_name S.hd (by omega) (by omega) (S.digit hi) ?_
  walk_at "ws"
  refine TBin.modI (by decide) ?_
  walk_at "ws"
  refine ⟨by simp, ?_⟩
  walk_at "ws"
  refine TSub.list so_name S.hd (by omega) (by omega) (S.digit hi) ?_
  walk_at "ws"
  refine TBin.divI (by decide) (by decide) ?_
  walk_at "ws"
  refine TBin.modI (by decide) ?_
  walk_at "ws"
  refine ⟨by simp, ?_⟩
  refine ⟨_, rfl, rfl, ?_⟩
  show TOrd C [_, _, _] [_, _, _] _ _
  refine TOrd.consB ?_
  walk_at "w"
  refine TOrd.consB ?_
  walk_at "w"
  refine TOrd.consB ?_
  walk_at "ws"
  have hp0 : 0 ≤ (f.ds[i].fdiv 4).fmod 40 := Int.fmod_nonneg_of_pos _ (by decide)
  have hp40 : (f.ds[i].fdiv 4).fmod 40 < 40 := Int.fmod_lt_of_pos _ (by decide)
  have hc0 : 0 ≤ f.ds[i].fmod 4 := Int.fmod_nonneg_of_pos _ (by decide)
  have hc4 : f.ds[i].fmod 4 < 4 := Int.fmod_lt_of_pos _ (by decide)
  generalize (f.ds[i].fdiv 4).fmod 40 = pk at hp0 hp40 ⊢
  generalize f.ds[i].fmod 4 = c at hc0 hc4 ⊢
  refine TX.while W.calm.loops (fun k σ => ∃ (p : Int) (ks : List Str), k = p.toNat ∧ 0 ≤ p ∧ LawS f B B adr given kept σ ∧ σ.m "n" = some (.int ((i : Nat) : Int)) ∧ σ.m "code" = some (.int c) ∧ σ.m "key" = some (.tup (ks.map .str)) ∧ σ.m "pick" = some (.int p) ∧ (∀ x ∈ ks, x ∈ three) ∧
      ((ks.length = 0 ∧ p < 40) ∨ (ks.length = 1 ∧ p ≤ 12) ∨ (ks.length = 2 ∧ p ≤ 3) ∨ (ks.length = 3 ∧ p = 0))) pk.toNat
    ⟨pk, [], rfl, hp0, ?_, by walk_at "lk", by walk_at "lk", ?_, by walk_at "lk", fun x hx => (nomatch hx), .inl ⟨rfl, hp40⟩⟩ ?_
  · exact ((S.set (by decide)).set (by decide)).set (by decide)
  · exact (set_ne (by decide)).trans set_same
  · rintro k σ1 ⟨p, ks, rfl, hp, S1, b1, b2, b3, b4, b5, b6⟩
    walk_at "ws"
    by_cases h : 0 < p
    · simp only [h, decide_true, if_true]
      walk_at "ws"
      refine ⟨by simp, ?_⟩
      walk_at "ws"
      refine TBin.modI (by decide) ?_
      obtain ⟨j, x, hj, hx, hm⟩ := three_at (i := (p - 1).fmod 3) (Int.fmod_nonneg_of_pos _ (by decide)) (Int.fmod_lt_of_pos _ (by decide))
      have h0 : 0 ≤ (p - 1).fmod 3 := Int.fmod_nonneg_of_pos _ (by decide)
      have h33 : (p - 1).fmod 3 < 3 := Int.fmod_lt_of_pos _ (by decide)
      refine TSub.tup so_bin (by omega) (by omega) hj hx ?_
      walk_at "ws"
      refine ⟨by simp, ?_⟩
      refine TInp.addT (by rw [List.length_map]; simp; omega) ?_
      walk_at "ws"
      refine TBin.divI (by decide) (by decide) ?_
      walk_at "ws"
      have hdv : (p - 1).fdiv 3 = (p - 1) / 3 := Int.fdiv_eq_ediv_of_nonneg _ (by decide)
      refine ⟨((p - 1).fdiv 3).toNat, by rw [hdv]; omega, (p - 1).fdiv 3, ks ++ [x], rfl, by rw [hdv]; omega, ?_, by walk_at "lk", by walk_at "lk", ?_, by walk_at "lk", ?_, ?_⟩
      · exact (S1.set (by decide)).set (by decide)
      · rw [List.map_append]; exact (set_ne (by decide)).trans set_same
      · intro y hy
        rcases List.mem_append.mp hy with hy | hy
        · exact b5 y hy
        · rw [List.mem_singleton.mp hy]; exact hm
      · rw [List.length_append, List.length_singleton, hdv]; omega
    · simp only [h, decide_false, Bool.false_eq_true, if_false]
      exact q σ1 c ks S1 b1 hc0 hc4 b2 b3 (by omega) b5

noncomputable def c3Body (P : Params) : List Stmt := match lawTurn P with
  | [_, _, .If _ b _ _, _] => b
  | _ => []
noncomputable def c3New (P : Params) : List Stmt := match c3Body P with
  | [_, _, _, .If _ b _ _, _] => b
  | _ => []
theorem mem_book {B : List BRow} {p : Path} {t : Th} : AV.tup [pathA p, thA t] ∈ B.map browA ↔ (p, t) ∈ B := mem_map_inj (f := browA) (a := (p, t)) fun _ _ h => browA_inj h
theorem mem_keys {B : List BRow} {p : Path} {x : Str} : AV.str x ∈ (belowB B p).map keyA ↔ Key.nm x ∈ belowB B p := mem_map_inj (f := keyA) (a := .nm x) fun _ _ h => keyA_inj h

open Classical in
theorem law_C3c {P : Params} {C : Cx} {n : Nat} (W : Wd (hd01.heap_39 P) C n) (hn : n ≤ 20) (hs : C.env.scope = (lawD P).2.1) {f : Fixed} {B : List BRow} {adr : Path → Addr} {given kept : List Path} {σ : St} (S : LawS f B B adr given kept σ) (hl : B.length ≤ 10000) (hkl : kept.length ≤ 1000) {p : Path} {x : Str}
    (h1 : σ.m "nest" = some (.con (.ref (adr p)))) (h2 : σ.m "name" = some (.str x)) (h3 : σ.m "spot" = some (pathA (p ++ [.nm x]))) (hp : (p, Th.tab) ∈ B) (hx : x ∈ three) {Q : AFl → St → Prop}
    (q : ∀ σ' kept', LawS f B B adr given kept' σ' → kept'.length ≤ kept.length + 1 → Q .next σ') : TS C ((c3Body P).drop 4) σ Q := by
  have hh := W.hand
  have hu := W.unit (by omega)
  have hK := W.K
  have mk := S.mkp
  have mb := S.mb
  have K := S.I.book hl
  have okp : ∀ k ∈ p ++ [Key.nm x], KeyOk k := fun k hk => by
    rcases List.mem_append.mp hk with h | h
    · exact S.I.ok _ hp k h
    · rw [List.mem_singleton.mp h]; exact three_ok x hx
  unfold c3Body lawTurn lawBody
  unfold lawD at hs ⊢; dsimp only [List.drop] at hs ⊢
  walk_at "ws"
  refine ⟨by simp, ?_⟩
  walk_at "ws"
  refine TCmp.inL (n := 2) (m := 2) hu S.hb (book_data K) (browA_data (r := (p ++ [.nm x], .lst)) okp) (by decide) ?_
  by_cases hm : (p ++ [.nm x], Th.lst) ∈ B
  · have e : decide (AV.tup [pathA (p ++ [.nm x]), AV.str "list"] ∈ B.map browA) = true := by rw [decide_eq_true_eq]; exact mem_book.mpr hm
    rw [e]
    walk_at "si"
    refine TMeth.list S.hk PySem.F.slot_list_append rfl ?_
    walk_at "ws"
    refine TSub.dict so_name (.inl (S.I.tab p hp)) (S.I.val hp hm) ?_
    walk_at "ws"
    refine ⟨by simp, ?_⟩
    walk_at "ws"
    refine TCall.append S.hk (by rw [List.length_map]; omega) ?_
    walk_at "ws"
    exact q _ _ (S.hold hm) (by simp)
  · have e : decide (AV.tup [pathA (p ++ [.nm x]), AV.str "list"] ∈ B.map browA) = false := by rw [decide_eq_false_iff_not]; exact fun h => hm (mem_book.mp h)
    rw [e]
    walk_at "si"
    exact q _ _ S (by omega)

/-- four kinds of things -/
def kindT (i : Nat) : Nat → Th
  | 0 => .int i
  | 1 => .tab
  | 2 => .lst
  | _ => .txt (decide (i % 2 = 1))
def kindB (B : List BRow) (spot : Path) (i j : Nat) : List BRow := if j = 2 then B ++ [(spot, .lst)] ++ [(spot ++ [.pl 0], .tab)] else B ++ [(spot, kindT i j)]
def txtA (i : Nat) : Str := if ((i : Nat) : Int).fmod 2 = 0 then Str.empty else "a"
theorem txtA_eq {i : Nat} : AV.str (txtA i) = thA (.txt (decide (i % 2 = 1))) := by
  unfold txtA thA
  have h : ((i : Nat) : Int).fmod 2 = ((i % 2 : Nat) : Int) := by
    rw [Int.fmod_eq_emod_of_nonneg _ (by decide)]; omega
  rw [h]
  have h2 : i % 2 = 0 ∨ i % 2 = 1 := by omega
  rcases h2 with e | e <;> rw [e] <;> rfl
def kindV (i : Nat) (d l : Addr) : Nat → AV
  | 0 => .int ((i : Nat) : Int)
  | 1 => .con (.ref d)
  | 2 => .con (.ref l)
  | _ => .str (txtA i)
theorem kind_val {i j : Nat} (hj : j < 4) {d l : Addr} : ∃ v, [AV.int ((i : Nat) : Int), .con (.ref d), .con (.ref l), .str (txtA i)][j]? = some v ∧
    v = kindV i d l j := by
  rcases (by omega : j = 0 ∨ j = 1 ∨ j = 2 ∨ j = 3) with rfl | rfl | rfl | rfl <;> exact ⟨_, rfl, rfl⟩
theorem kind_thing {i j : Nat} (hj : j < 4) : [AV.int ((i : Nat) : Int), .str "table", .str "list", .str (txtA i)][j]? = some (thA (kindT i j)) := by
  rcases (by omega : j = 0 ∨ j = 1 ∨ j = 2 ∨ j = 3) with rfl | rfl | rfl | rfl
  · rfl
  · rfl
  · rfl
  · show some (AV.str (txtA i)) = _
    rw [txtA_eq]; rfl

/-- the thing laid, plainly -/
theorem kind_grown {B : List BRow} {adr : Path → Addr} {H H' : AH} (I : Inv B adr H) (T : Tame B) {p : Path} {x : Str} {i j : Nat} (hj : j < 4) {d1 d2 l2 : Addr} (hp : (p, Th.tab) ∈ B) (hn : Key.nm x ∉ belowB B p) (hx : x ∈ three) (hlen : p.length ≤ 6)
    (f1 : H d1 = none) (f2 : H d2 = none) (f3 : H l2 = none) (hld : l2 ≠ d2) (e1 : H' d1 = some (.dict [])) (e2 : H' d2 = some (.dict [])) (e3 : H' l2 = some (.list [.con (.ref d2)]))
    (h3 : H' (adr p) = some (.dict (entsB B adr p ++ [(x, kindV i d1 l2 j)]))) (hr : ∀ a o, a ≠ adr p → H a = some o → H' a = some o) :
    ∃ adr', Grown B adr H (kindB B (p ++ [.nm x]) i j) adr' H' ∧ Tame (kindB B (p ++ [.nm x]) i j) := by
  have hno : ∀ u, (p ++ [Key.nm x], u) ∉ B := fun u h => hn (mem_below.mpr ⟨u, h⟩)
  have hok := three_ok x hx
  by_cases h2 : j = 2
  · subst h2
    obtain ⟨adr', G, _⟩ := Grown.addList (H' := H') I hp hn hok hlen f3 f2 hld e3 e2 h3 hr
    unfold kindB
    rw [if_pos rfl]
    exact ⟨adr', G, T.addList I hp hno⟩
  · unfold kindB
    rw [if_neg h2]
    rcases (by omega : j = 0 ∨ j = 1 ∨ j = 3) with rfl | rfl | rfl
    · refine ⟨_, Grown.add (H' := H') I (k := .nm x) (t := .int i) (d := d1) hp (.inl ⟨rfl, x, rfl⟩) hn hok (by omega) (fun h => h.elim) (fun _ => h3) (fun h => by cases h) hr, T.addTab I.root I hp ⟨x, rfl⟩ (by intro h; cases h)⟩
    · refine ⟨_, Grown.add (H' := H') I (k := .nm x) (t := .tab) (d := d1) hp (.inl ⟨rfl, x, rfl⟩) hn hok (by omega) (fun _ => ⟨f1, e1⟩) (fun _ => by simp only [valT, adrN_self]; exact h3) (fun h => by cases h) hr, T.addTab I.root I hp ⟨x, rfl⟩ (by intro h; cases h)⟩
    · refine ⟨_, Grown.add (H' := H') I (k := .nm x) (t := .txt (decide (i % 2 = 1))) (d := d1) hp (.inl ⟨rfl, x, rfl⟩) hn hok (by omega) (fun h => h.elim) (fun _ => ?_) (fun h => by cases h) hr, T.addTab I.root I hp ⟨x, rfl⟩ (by intro h; cases h)⟩
      rw [h3]
      show some (AO.dict (_ ++ [(x, AV.str (txtA i))])) = _
      rw [txtA_eq]; rfl

open Classical in
theorem law_C3a {P : Params} {C : Cx} {n : Nat} (W : Wd (hd01.heap_39 P) C n) (hn : n ≤ 20) (hs : C.env.scope = (lawD P).2.1) {f : Fixed} {B : List BRow} {adr : Path → Addr} {given kept : List Path} {σ : St} (S : LawS f B B adr given kept σ) (T : Tame B) (hl : B.length ≤ 10000) {p : Path} {x : Str} {i j : Nat}
    (hmn : σ.m "n" = some (.int ((i : Nat) : Int))) (h1 : σ.m "nest" = some (.con (.ref (adr p)))) (h2 : σ.m "name" = some (.str x)) (h3 : σ.m "spot" = some (pathA (p ++ [.nm x]))) (h4 : σ.m "kind" = some (.int ((j : Nat) : Int))) (hj : j < 4) (hp : (p, Th.tab) ∈ B) (hx : x ∈ three) (hlen : p.length ≤ 6) (hnb : Key.nm x ∉ belowB B p) {Q : AFl → St → Prop}
    (q : ∀ σ' adr', LawS f (kindB B (p ++ [.nm x]) i j) (kindB B (p ++ [.nm x]) i j) adr' given kept σ' → Tame (kindB B (p ++ [.nm x]) i j) → adr' p = adr p → (∀ y, σ'.m y = σ.m y) → Q .next σ') : TS C (c3New P) σ Q := by
  have hh := W.hand
  have hu := W.unit (by omega)
  have hK := W.K
  have mb := S.mb
  have hf2 : ((i : Nat) : Int).fmod 2 = 0 ∨ ((i : Nat) : Int).fmod 2 = 1 := by
    have h0 : 0 ≤ ((i : Nat) : Int).fmod 2 := Int.fmod_nonneg_of_pos _ (by decide)
    have h2 : ((i : Nat) : Int).fmod 2 < 2 := Int.fmod_lt_of_pos _ (by decide)
    omega
  unfold c3New c3Body lawTurn lawBody
  unfold lawD at hs ⊢; dsimp only [List.drop] at hs ⊢
  walk_at "ws"
  intro d1 f1
  walk_at "ws"
  intro d2 f2
  walk_at "ws"
  refine ⟨by simp, fun l2 f3 => ?_⟩
  walk_at "ws"
  refine TBin.modI (by decide) ?_
  refine TBin.mulS hf2 ?_
  walk_at "ws"
  refine ⟨by simp, fun L f4 => ?_⟩
  walk_at "ws"
  have g1 : σ.H d1 = none := f1
  have g2 : (σ.H.put d1 (.dict [])) d2 = none := f2
  have g3 : ((σ.H.put d1 (.dict [])).put d2 (.dict [])) l2 = none := f3
  have g4 : (((σ.H.put d1 (.dict [])).put d2 (.dict [])).put l2 (.list [.con (.ref d2)])) L = none := f4
  have n21 : d2 ≠ d1 := fun e => by subst e; rw [AH.put_self] at g2; cases g2
  have g2' : σ.H d2 = none := (AH.put_ne n21).symm.trans g2
  have n32 : l2 ≠ d2 := fun e => by subst e; rw [AH.put_self] at g3; cases g3
  have g3a := (AH.put_ne n32).symm.trans g3
  have n31 : l2 ≠ d1 := fun e => by subst e; rw [AH.put_self] at g3a; cases g3a
  have g3' : σ.H l2 = none := (AH.put_ne n31).symm.trans g3a
  have n43 : L ≠ l2 := fun e => by subst e; rw [AH.put_self] at g4; cases g4
  have g4a := (AH.put_ne n43).symm.trans g4
  have n42 : L ≠ d2 := fun e => by subst e; rw [AH.put_self] at g4a; cases g4a
  have g4b := (AH.put_ne n42).symm.trans g4a
  have n41 : L ≠ d1 := fun e => by subst e; rw [AH.put_self] at g4b; cases g4b
  have g4' : σ.H L = none := (AH.put_ne n41).symm.trans g4b
  obtain ⟨v, hv, hve⟩ := kind_val (i := i) hj (d := d1) (l := l2)
  refine TSub.list so_name AH.put_self (by omega) (by omega) (by rw [Int.toNat_natCast]; exact hv) ?_
  walk_at "ws"
  have E : Ext σ.H (((((σ.H.put d1 (.dict [])).put d2 (.dict [])).put l2 (.list [.con (.ref d2)])).put L (.list [AV.int ((i : Nat) : Int), .con (.ref d1), .con (.ref l2), .str (txtA i)]))) :=
    ((((Ext.refl _).put g1).put g2').put g3').put g4'
  have hpt := S.I.tab p hp
  have hno := S.I.noVal hp hnb
  refine TSet.dict (es := entsB B adr p) (E _ _ hpt) (by have := entsB_len (B := B) (adr := adr) (p := p); omega) ?_
  rw [storeA_new hno, hve]
  generalize hH2 : (((((σ.H.put d1 (.dict [])).put d2 (.dict [])).put l2 (.list [.con (.ref d2)])).put L (.list [AV.int ((i : Nat) : Int), .con (.ref d1), .con (.ref l2), .str (txtA i)])).put (adr p) (.dict (entsB B adr p ++ [(x, kindV i d1 l2 j)]))) = H2
  have m1 : adr p ≠ d1 := fun e => by rw [e, g1] at hpt; cases hpt
  have m2 : adr p ≠ d2 := fun e => by rw [e, g2'] at hpt; cases hpt
  have m3 : adr p ≠ l2 := fun e => by rw [e, g3'] at hpt; cases hpt
  obtain ⟨adr', G, T'⟩ := kind_grown (H' := H2) S.I T hj (i := i) hp hnb hx hlen g1 g2' g3' n32
    (by rw [← hH2]; exact (AH.put_ne m1.symm).trans ((AH.put_ne n41.symm).trans ((AH.put_ne n31.symm).trans ((AH.put_ne n21.symm).trans AH.put_self))))
    (by rw [← hH2]; exact (AH.put_ne m2.symm).trans ((AH.put_ne n42.symm).trans ((AH.put_ne n32.symm).trans AH.put_self)))
    (by rw [← hH2]; exact (AH.put_ne m3.symm).trans ((AH.put_ne n43.symm).trans AH.put_self))
    (by rw [← hH2]; exact AH.put_self)
    (fun a o hne h => by rw [← hH2]; exact (AH.put_ne hne).trans (E a o h))
  have hsame : adr' p = adr p := G.same _ _ hp
  have S2 := S.grown G
  have hst : ((((((σ.put d1 (.dict [])).put d2 (.dict [])).put l2 (.list [.con (.ref d2)])).put L (.list [AV.int ((i : Nat) : Int), .con (.ref d1), .con (.ref l2), .str (txtA i)])).put (adr p) (.dict (entsB B adr p ++ [(x, kindV i d1 l2 j)])))) = ⟨σ.m, H2⟩ := by rw [← hH2]; rfl
  have hst2 : TS C (c3New P |>.drop 1) ⟨σ.m, H2⟩ Q := by
    unfold c3New c3Body lawTurn lawBody lawD; dsimp only [List.drop]
    have mb2 := S2.mb
    have a1 : (⟨σ.m, H2⟩ : St).m "n" = some (.int ((i : Nat) : Int)) := hmn
    have a3 : (⟨σ.m, H2⟩ : St).m "spot" = some (pathA (p ++ [.nm x])) := h3
    have a4 : (⟨σ.m, H2⟩ : St).m "kind" = some (.int ((j : Nat) : Int)) := h4
    have a0 : ∀ y, (⟨σ.m, H2⟩ : St).m y = σ.m y := fun _ => rfl
    generalize (⟨σ.m, H2⟩ : St) = σ2 at S2 mb2 a1 a3 a4 a0 ⊢
    have mb2 : σ2.m "book" = some (.con (.ref f.bk)) := S2.mb
    walk_at "ws"
    refine TMeth.list S2.hb PySem.F.slot_list_append rfl ?_
    walk_at "ws"
    refine TBin.modI (by decide) ?_
    refine TBin.mulS hf2 ?_
    walk_at "ws"
    refine ⟨by simp, fun L3 g5 => ?_⟩
    walk_at "ws"
    refine TSub.list so_name AH.put_self (by omega) (by omega) (by rw [Int.toNat_natCast]; exact kind_thing (i := i) hj) ?_
    walk_at "ws"
    refine ⟨by simp, ?_⟩
    walk_at "ws"
    have S3 : LawS f (kindB B (p ++ [.nm x]) i j) B adr' given kept (σ2.put L3 (.list [AV.int ((i : Nat) : Int), .str "table", .str "list", .str (txtA i)])) := S2.ext (put_ext g5) fun _ _ => rfl
    refine TCall.append S3.hb (by rw [List.length_map]; omega) ?_
    walk_at "w"
    have S4a := S3.book (Bk' := B ++ [(p ++ [.nm x], kindT i j)])
    rw [List.map_append] at S4a
    have S4 : LawS f (kindB B (p ++ [.nm x]) i j) (B ++ [(p ++ [.nm x], kindT i j)]) adr' given kept ((σ2.put L3 (.list [AV.int ((i : Nat) : Int), .str "table", .str "list", .str (txtA i)])).put f.bk (.list (B.map browA ++ [browA (p ++ [.nm x], kindT i j)]))) := S4a
    clear S4a
    have b3 : ((σ2.put L3 (.list [AV.int ((i : Nat) : Int), .str "table", .str "list", .str (txtA i)])).put f.bk (.list (B.map browA ++ [browA (p ++ [.nm x], kindT i j)]))).m "spot" = some (pathA (p ++ [.nm x])) := a3
    have b4 : ((σ2.put L3 (.list [AV.int ((i : Nat) : Int), .str "table", .str "list", .str (txtA i)])).put f.bk (.list (B.map browA ++ [browA (p ++ [.nm x], kindT i j)]))).m "kind" = some (.int ((j : Nat) : Int)) := a4
    have b0 : ∀ y, ((σ2.put L3 (.list [AV.int ((i : Nat) : Int), .str "table", .str "list", .str (txtA i)])).put f.bk (.list (B.map browA ++ [browA (p ++ [.nm x], kindT i j)]))).m y = σ.m y := a0
    change TX C _ ((σ2.put L3 (.list [AV.int ((i : Nat) : Int), .str "table", .str "list", .str (txtA i)])).put f.bk (.list (B.map browA ++ [browA (p ++ [.nm x], kindT i j)]))) _
    generalize ((σ2.put L3 (.list [AV.int ((i : Nat) : Int), .str "table", .str "list", .str (txtA i)])).put f.bk (.list (B.map browA ++ [browA (p ++ [.nm x], kindT i j)]))) = σ4 at S4 b3 b4 b0 ⊢
    have mb4 := S4.mb
    walk_at "ws"
    refine TCmp.eqD (n := 0) (m := 0) hu (.int _ _) (.int _ _) (by decide) (by decide) ?_
    by_cases h2 : j = 2
    · subst h2
      rw [decide_eq_true (show AV.int ((2 : Nat) : Int) = AV.int 2 from rfl)]
      walk_at "si"
      refine TMeth.list S4.hb PySem.F.slot_list_append rfl ?_
      walk_at "ws"
      refine ⟨by simp, ?_⟩
      refine TBin.addT (by rw [List.length_map]; simp; omega) ?_
      walk_at "ws"
      refine ⟨by simp, ?_⟩
      walk_at "ws"
      refine TCall.append S4.hb (by simp; omega) ?_
      walk_at "ws"
      have S5 := S4.book (Bk' := B ++ [(p ++ [.nm x], .lst)] ++ [(p ++ [.nm x] ++ [.pl 0], .tab)])
      have hk : kindB B (p ++ [.nm x]) i 2 = B ++ [(p ++ [.nm x], .lst)] ++ [(p ++ [.nm x] ++ [.pl 0], .tab)] := by unfold kindB; rw [if_pos rfl]
      rw [← hk] at S5
      refine q _ adr' ?_ T' hsame b0
      have e : ((B ++ [(p ++ [Key.nm x], kindT i 2)]).map browA ++ [AV.tup [.tup ((p ++ [Key.nm x]).map keyA ++ [.int 0]), .str "table"]]) = (kindB B (p ++ [.nm x]) i 2).map browA := by
        rw [hk]
        simp [browA, pathA, kindT, thA, keyA]
      rw [e]
      exact S5
    · rw [decide_eq_false (show ¬ AV.int ((j : Nat) : Int) = AV.int 2 from fun h => h2 (by have := AV.int.inj h; omega))]
      walk_at "si"
      have hk : kindB B (p ++ [.nm x]) i j = B ++ [(p ++ [.nm x], kindT i j)] := by unfold kindB; rw [if_neg h2]
      rw [← hk] at S4
      exact q _ adr' S4 T' hsame b0
  rw [← hst] at hst2
  unfold c3New c3Body lawTurn lawBody lawD at hst2; dsimp only [List.drop] at hst2
  exact hst2

theorem Mn.kind {B : List BRow} {given kept : List Path} {i j : Nat} (M : Mn B given kept i) {p : Path} {x : Str} (hp : (p, Th.tab) ∈ B) (hx : x ∈ three) (T : Tame (kindB B (p ++ [.nm x]) i j)) {kept' : List Path} (hk : kept'.length ≤ kept.length + 1) : Mn (kindB B (p ++ [.nm x]) i j) given kept' (i + 1) := by
  have nm1 : ∀ y, Key.nm y ∈ p ++ [Key.nm x] → y ∈ three := fun y hy => by
    rcases List.mem_append.mp hy with h | h
    · exact M.nm _ hp y h
    · have := List.mem_singleton.mp h; cases this; exact hx
  refine ⟨T, fun r hr y hy => ?_, ?_, by have := M.lg; omega, M.g0, by have := M.lk; omega⟩
  · unfold kindB at hr
    split at hr
    · rcases List.mem_append.mp hr with hr | hr
      · rcases List.mem_append.mp hr with hr | hr
        · exact M.nm r hr y hy
        · rw [List.mem_singleton.mp hr] at hy; exact nm1 y hy
      · rw [List.mem_singleton.mp hr] at hy
        rcases List.mem_append.mp hy with h | h
        · exact nm1 y h
        · have := List.mem_singleton.mp h; cases this
    · rcases List.mem_append.mp hr with hr | hr
      · exact M.nm r hr y hy
      · rw [List.mem_singleton.mp hr] at hy; exact nm1 y hy
  · have := M.lb
    unfold kindB
    split <;> simp <;> omega
theorem held_at {adr : Path → Addr} {given : List Path} {k : Nat} (h : k < given.length) : (given.map (heldA adr))[k]? = some (heldA adr given[k]) := by rw [List.getElem?_map, List.getElem?_eq_getElem h]; rfl

open Classical in
theorem law_C3 {P : Params} {C : Cx} {n : Nat} (W : Wd (hd01.heap_39 P) C n) (hn : n ≤ 20) (hs : C.env.scope = (lawD P).2.1) {f : Fixed} {B : List BRow} {adr : Path → Addr} {given kept : List Path} {σ : St} (S : LawS f B B adr given kept σ) {i : Nat} (M : Mn B given kept i) (hi : i < f.ds.length) (hl : f.ds.length ≤ 40) (hmn : σ.m "n" = some (.int ((i : Nat) : Int))) {Q : AFl → St → Prop}
    (q : ∀ σ' B' adr' given' kept', LawS f B' B' adr' given' kept' σ' → Mn B' given' kept' (i + 1) → Q .next σ') : TS C (c3Body P) σ Q := by
  have hh := W.hand
  have hu := W.unit (by omega)
  have hK := W.K
  have hs0 := hs
  have hs' := hs
  have md := S.md
  have mg := S.mg
  have mb := S.mb
  have hBl : B.length ≤ 1000 := by have := M.lb; omega
  have K := S.I.book (by omega)
  have lastP := fun (B : List BRow) (adr : Path → Addr) (kept : List Path) (σ : St) => law_C3c (P := P) W hn hs0 (f := f) (B := B) (adr := adr) (given := given) (kept := kept) (σ := σ)
  have newP := fun (B : List BRow) (adr : Path → Addr) (kept : List Path) (σ : St) => law_C3a (P := P) W hn hs0 (f := f) (B := B) (adr := adr) (given := given) (kept := kept) (σ := σ)
  unfold c3New at newP
  unfold c3Body lawTurn lawBody at lastP newP ⊢
  unfold lawD at hs hs' lastP newP ⊢; dsimp only [List.drop] at hs hs' lastP newP ⊢
  walk_at "w"
  refine TX.assignSwap (names := ["name", "kind"]) hh ?_ (by rfl) (swapped_of hs' (by rfl))
  walk_at "ws"
  refine ⟨by simp, ?_⟩
  walk_at "ws"
  refine TSub.list so_name S.hd (by omega) (by omega) (S.digit hi) ?_
  walk_at "ws"
  refine TBin.divI (by decide) (by decide) ?_
  walk_at "ws"
  refine TBin.modI (by decide) ?_
  obtain ⟨j, x, hj, hxj, hx⟩ := three_at (i := (f.ds[i].fdiv 4).fmod 3) (Int.fmod_nonneg_of_pos _ (by decide)) (Int.fmod_lt_of_pos _ (by decide))
  have h30 : 0 ≤ (f.ds[i].fdiv 4).fmod 3 := Int.fmod_nonneg_of_pos _ (by decide)
  have h33 : (f.ds[i].fdiv 4).fmod 3 < 3 := Int.fmod_lt_of_pos _ (by decide)
  refine TSub.tup so_bin (by omega) (by omega) hj hxj ?_
  walk_at "ws"
  refine TSub.list so_name S.hd (by omega) (by omega) (S.digit hi) ?_
  walk_at "ws"
  refine TBin.divI (by decide) (by decide) ?_
  walk_at "ws"
  refine TBin.modI (by decide) ?_
  walk_at "ws"
  refine ⟨by simp, ?_⟩
  refine ⟨_, rfl, rfl, ?_⟩
  show TOrd C [_, _] [_, _] _ _
  refine TOrd.consB ?_
  walk_at "w"
  refine TOrd.consB ?_
  walk_at "ws"
  have hk0 : 0 ≤ (f.ds[i].fdiv 12).fmod 4 := Int.fmod_nonneg_of_pos _ (by decide)
  have hk4 : (f.ds[i].fdiv 12).fmod 4 < 4 := Int.fmod_lt_of_pos _ (by decide)
  obtain ⟨kd, hkd⟩ : ∃ kd : Nat, (f.ds[i].fdiv 12).fmod 4 = (kd : Int) := ⟨_, (Int.toNat_of_nonneg hk0).symm⟩
  rw [hkd] at hk4 ⊢
  have S1 : LawS f B B adr given kept ((σ.set "kind" (.int ((kd : Nat) : Int))).set "name" (.str x)) := (S.set (by decide)).set (by decide)
  have n1 : ((σ.set "kind" (.int ((kd : Nat) : Int))).set "name" (.str x)).m "n" = some (.int ((i : Nat) : Int)) := by walk_at "lk"
  have n2 : ((σ.set "kind" (.int ((kd : Nat) : Int))).set "name" (.str x)).m "kind" = some (.int ((kd : Nat) : Int)) := by walk_at "lk"
  have n3 : ((σ.set "kind" (.int ((kd : Nat) : Int))).set "name" (.str x)).m "name" = some (.str x) := by walk_at "lk"
  generalize ((σ.set "kind" (.int ((kd : Nat) : Int))).set "name" (.str x)) = σ1 at S1 n1 n2 n3 ⊢
  have md1 := S1.md
  have mg1 := S1.mg
  have mb1 := S1.mb
  refine TX.assignTup ?_ (by rfl) (by rfl)
  walk_at "ws"
  refine TSub.list so_name S1.hd (by omega) (by omega) (S1.digit hi) ?_
  walk_at "ws"
  refine TBin.divI (by decide) (by decide) ?_
  walk_at "ws"
  have hgl := M.lg
  have hg0 := M.g0
  refine TCall.lenL S1.hg (by rw [List.length_map]; omega) ?_
  rw [List.length_map]
  refine TBin.modI (by omega) ?_
  have hi0 : 0 ≤ (f.ds[i].fdiv 48).fmod ((given.length : Nat) : Int) := Int.fmod_nonneg_of_pos _ (by omega)
  have hil : (f.ds[i].fdiv 48).fmod ((given.length : Nat) : Int) < ((given.length : Nat) : Int) := Int.fmod_lt_of_pos _ (by omega)
  obtain ⟨k, hk⟩ : ∃ k : Nat, (f.ds[i].fdiv 48).fmod ((given.length : Nat) : Int) = (k : Int) := ⟨_, (Int.toNat_of_nonneg hi0).symm⟩
  rw [hk] at hil ⊢
  have hkg : k < given.length := by omega
  refine TSub.list so_bin S1.hg (by omega) (by omega) (by rw [Int.toNat_natCast]; exact held_at hkg) ?_
  have hpg := S1.gv _ (List.getElem_mem hkg)
  generalize given[k] = p at hpg ⊢
  obtain ⟨hp, hp6⟩ := hpg
  have hpk := S1.I.ok _ hp
  unfold heldA
  walk_at "ws"
  refine ⟨by simp, ?_⟩
  refine TBin.addT (by rw [List.length_map]; simp; omega) ?_
  rw [show AV.tup (p.map keyA ++ [AV.str x]) = pathA (p ++ [.nm x]) from pathA_snoc (k := .nm x)]
  walk_at "w"
  have S2 : LawS f B B adr given kept (((σ1.set "nest" (.con (.ref (adr p)))).set "at" (pathA p)).set "spot" (pathA (p ++ [.nm x]))) := ((S1.set (by decide)).set (by decide)).set (by decide)
  have o1 : (((σ1.set "nest" (.con (.ref (adr p)))).set "at" (pathA p)).set "spot" (pathA (p ++ [.nm x]))).m "n" = some (.int ((i : Nat) : Int)) := by walk_at "lk"
  have o2 : (((σ1.set "nest" (.con (.ref (adr p)))).set "at" (pathA p)).set "spot" (pathA (p ++ [.nm x]))).m "kind" = some (.int ((kd : Nat) : Int)) := by walk_at "lk"
  have o3 : (((σ1.set "nest" (.con (.ref (adr p)))).set "at" (pathA p)).set "spot" (pathA (p ++ [.nm x]))).m "name" = some (.str x) := by walk_at "lk"
  have o4 : (((σ1.set "nest" (.con (.ref (adr p)))).set "at" (pathA p)).set "spot" (pathA (p ++ [.nm x]))).m "nest" = some (.con (.ref (adr p))) := by walk_at "lk"
  have o5 : (((σ1.set "nest" (.con (.ref (adr p)))).set "at" (pathA p)).set "spot" (pathA (p ++ [.nm x]))).m "at" = some (pathA p) := by walk_at "lk"
  have o6 : (((σ1.set "nest" (.con (.ref (adr p)))).set "at" (pathA p)).set "spot" (pathA (p ++ [.nm x]))).m "spot" = some (pathA (p ++ [.nm x])) := by walk_at "lk"
  generalize (((σ1.set "nest" (.con (.ref (adr p)))).set "at" (pathA p)).set "spot" (pathA (p ++ [.nm x]))) = σ2 at S2 o1 o2 o3 o4 o5 o6 ⊢
  have mb2 := S2.mb
  have hkl := M.lk
  walk_at "ws"
  refine ⟨_, rfl, Cl.ref (by rw [hK]; rfl), ?_⟩
  walk_at "ws"
  refine below_call (B := B) (p := p) W (by omega) S2.hb K hpk (by omega) fun D hD => ?_
  refine TCmp.notInL (n := 0) (m := 0) hu AH.put_self (below_data K) (.str _ _ (three_ok x hx)) (by decide) ?_
  have S3 : LawS f B B adr given kept (σ2.put D (.list ((belowB B p).map keyA))) := S2.ext (put_ext hD) fun _ _ => rfl
  by_cases hm : Key.nm x ∈ belowB B p
  · rw [decide_eq_true (mem_keys.mpr hm)]
    simp only [Bool.not_true]
    walk_at "w"
    simp only [Bool.false_eq_true, if_false]
    walk_at "w"
    refine lastP _ _ _ _ S3 (by omega) (by omega) (p := p) (x := x) o4 o3 o6 hp hx fun σ' kept' S' hk' => ?_
    obtain ⟨t, ht⟩ := mem_below.mp hm
    exact q _ _ _ _ _ S' ⟨M.T, M.nm, by have := M.lb; omega, by have := M.lg; omega, M.g0, by omega⟩
  · rw [decide_eq_false (fun h => hm (mem_keys.mp h))]
    simp only [Bool.not_false]
    walk_at "w"
    simp only [if_true]
    refine newP _ _ _ _ S3 M.T (by omega) (p := p) (x := x) (i := i) (j := kd) o1 o4 o3 o6 o2 (by omega) hp hx hp6 hm fun σ' adr' S' T' hsame hm' => ?_
    have hl2 : (kindB B (p ++ [.nm x]) i kd).length ≤ 10000 := by unfold kindB; split <;> simp <;> omega
    have hp' : (p, Th.tab) ∈ kindB B (p ++ [.nm x]) i kd := by
      unfold kindB; split
      · exact List.mem_append_left _ (List.mem_append_left _ hp)
      · exact List.mem_append_left _ hp
    refine lastP _ _ _ _ S' hl2 (by omega) (p := p) (x := x) ?_ ((hm' _).trans o3) ((hm' _).trans o6) hp' hx fun σ'' kept' S'' hk' => ?_
    · rw [hsame]; exact (hm' _).trans o4
    · exact q _ _ _ _ _ S'' (M.kind hp hx T' hk')

theorem lstB_sub {B : List BRow} {spot : Path} {r : BRow} (h : r ∈ B) : r ∈ lstB B spot := by
  unfold lstB; split
  · exact h
  · exact List.mem_append_left _ h
theorem lstB_mem {B : List BRow} {spot : Path} : (spot, Th.lst) ∈ lstB B spot := by
  unfold lstB; split
  · assumption
  · simp
theorem lstB_len {B : List BRow} {spot : Path} : (lstB B spot).length ≤ B.length + 1 := by
  unfold lstB; split <;> simp
theorem Tame.appB {B : List BRow} {adr : Path → Addr} {H : AH} {q : Path} {lk : Str} (I : Inv (Mine.appB B (q ++ [.nm lk])) adr H) (T : Tame B) (hq : (q, Th.tab) ∈ B) : Tame (Mine.appB B (q ++ [.nm lk])) := by
  have up : ∀ r ∈ B, r ∈ Mine.appB B (q ++ [.nm lk]) := fun r h => List.mem_append_left _ (lstB_sub h)
  refine ⟨fun p i u h => ?_, fun p h => ?_⟩
  · rcases List.mem_append.mp h with h | h
    · unfold lstB at h
      split at h
      · exact T.item p i u h
      · rcases List.mem_append.mp h with h | h
        · exact T.item p i u h
        · have := (snoc_inj (Prod.mk.inj (List.mem_singleton.mp h)).1).2; cases this
    · exact (Prod.mk.inj (List.mem_singleton.mp h)).2
  · by_cases hp : p = q ++ [.nm lk]
    · subst hp
      unfold Mine.appB; rw [below_same]; simp
    · have h' := h
      unfold Mine.appB at h ⊢
      rw [below_ne (Ne.symm hp)]
      rcases List.mem_append.mp h with h | h
      · unfold lstB at h ⊢
        split
        · rename_i hc
          rw [if_pos hc] at h
          exact T.some_ p h
        · rename_i hc
          rw [if_neg hc] at h
          rcases List.mem_append.mp h with h | h
          · rw [below_ne fun e => by subst e; exact absurd (I.uniq (up _ hq) h') (by intro x; cases x)]
            exact T.some_ p h
          · exact absurd (Prod.mk.inj (List.mem_singleton.mp h)).1 hp
      · exact absurd (Prod.mk.inj (List.mem_singleton.mp h)).2 (by intro x; cases x)

theorem nms_nm {xs : List Str} {y : Str} (h : Key.nm y ∈ nms xs) : y ∈ xs := by
  obtain ⟨z, hz, e⟩ := List.mem_map.mp h
  cases e; exact hz
theorem names_addN {B : List BRow} {best : Path} {xs : List Str} (hB : ∀ r ∈ B, ∀ x, Key.nm x ∈ r.1 → x ∈ three) (hb : ∀ x, Key.nm x ∈ best → x ∈ three) (hx : ∀ x ∈ xs, x ∈ three) : ∀ r ∈ addN B best xs xs.length, ∀ x, Key.nm x ∈ r.1 → x ∈ three := fun r hr x h => by
  rcases mem_addN hr with hr | ⟨i, _, _, rfl⟩
  · exact hB r hr x h
  · rcases List.mem_append.mp h with h | h
    · exact hb x h
    · exact hx x (List.mem_of_mem_take (nms_nm h))
theorem Mn.got {B B' : List BRow} {given kept : List Path} {i : Nat} (M : Mn B given kept i) (T : Tame B') (hn : ∀ r ∈ B', ∀ x, Key.nm x ∈ r.1 → x ∈ three) (hl : B'.length ≤ B.length + 6) {given' : List Path} (hg : given'.length ≤ given.length + 1) (h0 : 0 < given'.length) : Mn B' given' kept (i + 1) :=
  ⟨T, hn, by have := M.lb; omega, by have := M.lg; omega, h0, by have := M.lk; omega⟩

/-! what may fly is forgotten -/
def unraw (H : AH) : AH := fun a => match H a with
  | some (.raw _) => none
  | o => o
theorem unraw_some {H : AH} {a : Addr} {o : AO} : unraw H a = some o ↔ H a = some o ∧ ∀ b, o ≠ .raw b := by
  unfold unraw
  cases h : H a with
  | none => simp
  | some v =>
    cases v with
    | raw b =>
      exact ⟨fun e => (nomatch e), fun ⟨e, k⟩ => by cases e; exact absurd rfl (k b)⟩
    | list l => simp only [Option.some.injEq]; exact ⟨fun e => ⟨e, fun b x => by subst e; cases x⟩, fun e => e.1⟩
    | dict l => simp only [Option.some.injEq]; exact ⟨fun e => ⟨e, fun b x => by subst e; cases x⟩, fun e => e.1⟩
    | dictE l ep => simp only [Option.some.injEq]; exact ⟨fun e => ⟨e, fun b x => by subst e; cases x⟩, fun e => e.1⟩
    | inst C dx => simp only [Option.some.injEq]; exact ⟨fun e => ⟨e, fun b x => by subst e; cases x⟩, fun e => e.1⟩
    | rng n => simp only [Option.some.injEq]; exact ⟨fun e => ⟨e, fun b x => by subst e; cases x⟩, fun e => e.1⟩
theorem LawS.unraw {f : Fixed} {B Bk : List BRow} {adr : Path → Addr} {given kept : List Path} {σ : St} (S : LawS f B Bk adr given kept σ) : LawS f B Bk adr given kept ⟨σ.m, unraw σ.H⟩ :=
  ⟨S.mm, S.mb, S.mg, S.mkp, S.md, unraw_some.mpr ⟨S.hx, by intro b x; cases x⟩, unraw_some.mpr ⟨S.hdx, by intro b x; cases x⟩, unraw_some.mpr ⟨S.hb, by intro b x; cases x⟩, unraw_some.mpr ⟨S.hg, by intro b x; cases x⟩, unraw_some.mpr ⟨S.hk, by intro b x; cases x⟩,
    unraw_some.mpr ⟨S.hd, by intro b x; cases x⟩, unraw_some.mpr ⟨S.hr, by intro b x; cases x⟩, S.I.keep fun a o ha h => unraw_some.mpr ⟨h, by
      obtain ⟨o', e, hh⟩ := S.I.adrSome ha
      rw [h] at e; cases e
      intro b x; subst x
      rcases hh with ⟨_, hh⟩ | ⟨_, hh⟩ <;> cases hh⟩, S.ap, S.ne, S.gv, S.kp⟩

noncomputable def callBody (P : Params) : List Stmt := match lawTurn P with
  | [_, _, .If _ _ o _, _] => o
  | _ => []
noncomputable def tryBody (P : Params) : List Stmt := match callBody P with
  | [_, _, _, _, _, .Try b _ _ _ _] => b
  | _ => []
/-- the names of rest written into the book -/
theorem law_For {P : Params} {C : Cx} {n : Nat} (W : Wd (hd01.heap_39 P) C n) (hn : n ≤ 20) (hs : C.env.scope = (lawD P).2.1) {f : Fixed} {B B' : List BRow} {adr : Path → Addr} {given kept : List Path} {σ : St} (S : LawS f B' B adr given kept σ) (hl : B.length ≤ 1000) {best : Path} {xs : List Str} {st : Stmt} (hst : ((tryBody P).drop 2).head? = some st)
    (h1 : σ.m "at" = some (pathA best)) (h2 : σ.m "rest" = some (.tup (xs.map .str))) (hxl : xs.length ≤ 3) (hbl : best.length ≤ 10) {Q : AFl → St → Prop}
    (q : ∀ σ', LawS f B' (addN B best xs xs.length) adr given kept σ' → σ'.m "at" = some (pathA (best ++ nms xs)) → (∀ y : Str, y ≠ "at" → y ≠ "name" → σ'.m y = σ.m y) → Q .next σ') : TX C st σ Q := by
  have hh := W.hand
  unfold tryBody callBody lawTurn lawBody at hst
  unfold lawD at hs hst; dsimp only [List.drop, List.head?] at hs hst
  cases hst
  refine TX.for W.calm.loops ?_ (by intro _; rfl)
  walk_at "ws"
  refine ⟨_, _, fun i σ' => LawS f B' (addN B best xs i) adr given kept σ' ∧ σ'.m "at" = some (pathA (best ++ nms (xs.take i))) ∧ (∀ y : Str, y ≠ "at" → y ≠ "name" → σ'.m y = σ.m y), IterAs.tuple hh, fun _ _ _ _ => trivial, ?_, ?_, ?_⟩
  · exact ⟨S, by simpa [nms] using h1, fun _ _ _ => rfl⟩
  · rintro i y σ2 hy ⟨S2, a1, a2⟩
    have hi : i < xs.length := by simpa using (List.getElem?_eq_some_iff.mp hy).1
    obtain rfl : y = .str xs[i] := by
      rw [List.getElem?_map, List.getElem?_eq_getElem hi] at hy
      simpa using hy.symm
    have mb := S2.mb
    walk_at "ws"
    refine ⟨by simp, ?_⟩
    have e1 : (best ++ nms (xs.take i)).map keyA ++ [AV.str xs[i]] = (best ++ nms (xs.take (i + 1))).map keyA := by
      rw [nms_take hi, ← List.append_assoc, List.map_append (l₂ := [Key.nm xs[i]])]; rfl
    refine TInp.addT (by simp [nms]; omega) ?_
    rw [e1]
    walk_at "ws"
    refine TMeth.list S2.hb PySem.F.slot_list_append rfl ?_
    walk_at "ws"
    refine ⟨by simp, ?_⟩
    walk_at "ws"
    refine TCall.append S2.hb (by rw [List.length_map, addN_len]; omega) ?_
    walk_at "ws"
    have S3 : LawS f B' (addN B best xs i) adr given kept ((σ2.set "name" (.str xs[i])).set "at" (pathA (best ++ nms (xs.take (i + 1))))) := (S2.set (by decide)).set (by decide)
    have S4 := S3.book (Bk' := addN B best xs (i + 1))
    have e2 : (addN B best xs (i + 1)).map browA = (addN B best xs i).map browA ++ [AV.tup [AV.tup ((best ++ nms (xs.take (i + 1))).map keyA), AV.str "table"]] := by
      show (addN B best xs i ++ [(best ++ nms (xs.take (i + 1)), Th.tab)]).map browA = _
      rw [List.map_append]; rfl
    rw [e2] at S4
    refine ⟨S4, put_m.trans set_same, fun y h1 h2 => ?_⟩
    exact (put_m.trans ((set_ne h1).trans (set_ne h2))).trans (a2 y h1 h2)
  · rintro σ2 ⟨S2, a1, a2⟩
    rw [List.length_map] at S2 a1
    rw [List.take_of_length_le (Nat.le_refl _)] at a1
    exact q σ2 S2 a1 a2

theorem app_meth {P : Params} {C : Cx} {n : Nat} {σ : St} (W : Wx (hd01.heap_39 P) C n) {x dx : Addr} (hx : σ.H x = some (.inst 46 dx)) {d : AV} (hdx : σ.H dx = some (.dict [("dict", d)])) {Q : AV × List AV → St → Prop} (q : Q (.con (.ref 43), [.con (.ref x)]) σ) : TMeth C (.con (.ref x)) "append_nest_to_list" σ Q := by
  have hK := W.K
  exact TMeth.inst hx hdx (by rw [hK]; rfl) (by rw [hK]; rfl) (by rw [hK]; rfl) (by rfl) q
theorem get_meth {P : Params} {C : Cx} {n : Nat} {σ : St} (W : Wx (hd01.heap_39 P) C n) {x dx : Addr} (hx : σ.H x = some (.inst 46 dx)) {d : AV} (hdx : σ.H dx = some (.dict [("dict", d)])) {Q : AV × List AV → St → Prop} (q : Q (.con (.ref 36), [.con (.ref x)]) σ) : TMeth C (.con (.ref x)) "get_or_create_nest" σ Q := by
  have hK := W.K
  exact TMeth.inst hx hdx (by rw [hK]; rfl) (by rw [hK]; rfl) (by rw [hK]; rfl) (by rfl) q

open Classical in
theorem law_TryG {P : Params} {C : Cx} {n : Nat} (W : Wd (hd01.heap_39 P) C n) (hn : n ≤ 20) (hs : C.env.scope = (lawD P).2.1) (hfr : C.A.frames = some [C.env]) (hf : C.env.frame = some C.env.locals) {f : Fixed} {B : List BRow} {adr : Path → Addr} {given kept : List Path} {σ : St} (S : LawS f B B adr given kept σ) {i : Nat} (M : Mn B given kept i) (hi : i ≤ 40)
    {c : Int} {b : Bool} (hc : (c = 1 ∧ b = true) ∨ (c = 2 ∧ b = false)) {ks : List Str} {best : Path} {size : Nat} (Fd : Found B b ks best size) (hks : ∀ x ∈ ks, x ∈ three) (hk3 : ks.length ≤ 3) {rb : Bool} (hrb : rb = true ↔ Refused B best (ks.drop size))
    (h1 : σ.m "code" = some (.int c)) (h2 : σ.m "key" = some (.tup (ks.map .str))) (h3 : σ.m "at" = some (pathA best)) (h4 : σ.m "rest" = some (.tup ((ks.drop size).map .str))) (h5 : σ.m "refused" = some (.con (.bool rb))) {Q : AFl → St → Prop}
    (q : ∀ σ' B' adr' given', LawS f B' B' adr' given' kept σ' → Mn B' given' kept (i + 1) → Q .next σ') : TS C ((callBody P).drop 5) σ Q := by
  refine TV.forget (H' := unraw σ.H) (fun a o h => (unraw_some.mp h).1) ?_
  have S0 := S.unraw
  have hraw : ∀ a o, unraw σ.H a = some o → ∀ o', o ≠ .raw o' := fun a o h => (unraw_some.mp h).2
  have g1 : (⟨σ.m, unraw σ.H⟩ : St).m "code" = some (.int c) := h1
  have g2 : (⟨σ.m, unraw σ.H⟩ : St).m "key" = some (.tup (ks.map .str)) := h2
  have g3 : (⟨σ.m, unraw σ.H⟩ : St).m "at" = some (pathA best) := h3
  have g4 : (⟨σ.m, unraw σ.H⟩ : St).m "rest" = some (.tup ((ks.drop size).map .str)) := h4
  have g5 : (⟨σ.m, unraw σ.H⟩ : St).m "refused" = some (.con (.bool rb)) := h5
  have hraw' : ∀ a o, (⟨σ.m, unraw σ.H⟩ : St).H a = some o → ∀ o', o ≠ .raw o' := hraw
  generalize (⟨σ.m, unraw σ.H⟩ : St) = σ0 at S0 g1 g2 g3 g4 g5 hraw' ⊢
  clear S h1 h2 h3 h4 h5 hraw
  have hh := W.hand
  have hu := W.unit (by omega)
  have hK := W.K
  have mm := S0.mm
  have hBl : B.length ≤ 1000 := by have := M.lb; omega
  have hs0 := hs
  have forP := fun (B' : List BRow) (adr : Path → Addr) (σ : St) (st : Stmt) => law_For (P := P) W hn hs0 (f := f) (B := B) (B' := B') (adr := adr) (given := given) (kept := kept) (σ := σ) (st := st) (best := best) (xs := ks.drop size)
  have hbl : best.length ≤ 2 * size := by
    have := Fd.rch.len S0.I M.T Fd.mem
    rw [List.length_take] at this; omega
  have hsz := Fd.le
  have hxl : (ks.drop size).length = ks.length - size := List.length_drop
  have c0 : decide (AV.int c = AV.int 0) = false := by
    rw [decide_eq_false_iff_not]; intro h; have := AV.int.inj h; omega
  have c1 : decide (AV.int c = AV.int 1) = b := by
    rcases hc with ⟨rfl, rfl⟩ | ⟨rfl, rfl⟩
    · exact decide_eq_true rfl
    · rw [decide_eq_false_iff_not]; intro h; have := AV.int.inj h; omega
  let F : St → Prop := fun σr => σr = σ0 ∧ Refused B best (ks.drop size)
  have W' : Wx (hd01.heap_39 P) (C.inX [] F) n := W.inX
  have hs1 : (C.inX [] F).env.scope = (lawD P).2.1 := hs
  unfold tryBody at forP
  unfold callBody lawTurn lawBody at forP ⊢
  unfold lawD at hs hs1 forP ⊢; dsimp only [List.drop] at hs hs1 forP ⊢
  walk_at "w"
  refine TX.tryKey (outer := []) (F := F) hfr hf ?_ ?_ (by unfold Env.kindOf; rw [hs]; rfl) (mg_none_of C.hK C.hg (by rw [W.K]; rfl)) (by rw [W.B _ (by decide)]; rfl) ?_
  · walk_at "ws"
    refine TCmp.eqD (n := 0) (m := 0) hu (.int _ _) (.int _ _) (by decide) (by decide) ?_
    rw [c0]
    walk_at "si"
    refine' TE.methK ?m1 ?m2 ?m3 ?m4
    case m1 => exact rfl
    case m3 => rfl
    case m4 => intro _; rfl
    case m2 =>
    walk_at "ws"
    refine get_meth W' S0.hx S0.hdx ?_
    refine ⟨_, rfl, Cl.ref (by show keepIn C.K _ = true; rw [hK]; rfl), ?_⟩
    walk_at "ws"
    refine TCmp.eqD (n := 0) (m := 0) hu (.int _ _) (.int _ _) (by decide) (by decide) ?_
    rw [c1]
    refine nest_callT W (by omega) hfr hf (b := b) ⟨S0.hx, S0.hdx, S0.I, M.T, by omega, Fd, fun y hy => three_ok y (hks y hy), hk3⟩ (fun e he => nomatch he) (fun h => ⟨rfl, h⟩) fun hnr adr' H' G _ => ?_
    have hrf : rb = false := by
      cases rb
      · rfl
      · exact absurd (hrb.mp rfl) hnr
    subst hrf
    walk_at "w"
    walk_at "w"
    refine TV.calmIn (C := C) (C' := C.inX [] F) rfl rfl rfl rfl rfl rfl W.calm ?_
    have S1 : LawS f (addN B best (ks.drop size) (ks.drop size).length) B adr' given kept ((⟨σ0.m, H'⟩ : St).set "nest" (.con (.ref (adr' (best ++ nms (ks.drop size)))))) := (S0.grown G).set (by decide)
    have k1 : ((⟨σ0.m, H'⟩ : St).set "nest" (.con (.ref (adr' (best ++ nms (ks.drop size)))))).m "code" = some (.int c) := by walk_at "lk"
    have k3 : ((⟨σ0.m, H'⟩ : St).set "nest" (.con (.ref (adr' (best ++ nms (ks.drop size)))))).m "at" = some (pathA best) := by walk_at "lk"
    have k4 : ((⟨σ0.m, H'⟩ : St).set "nest" (.con (.ref (adr' (best ++ nms (ks.drop size)))))).m "rest" = some (.tup ((ks.drop size).map .str)) := by walk_at "lk"
    have k5 : ((⟨σ0.m, H'⟩ : St).set "nest" (.con (.ref (adr' (best ++ nms (ks.drop size)))))).m "refused" = some (.con (.bool false)) := by walk_at "lk"
    have k6 : ((⟨σ0.m, H'⟩ : St).set "nest" (.con (.ref (adr' (best ++ nms (ks.drop size)))))).m "nest" = some (.con (.ref (adr' (best ++ nms (ks.drop size))))) := by walk_at "lk"
    generalize ((⟨σ0.m, H'⟩ : St).set "nest" (.con (.ref (adr' (best ++ nms (ks.drop size)))))) = σ1 at S1 k1 k3 k4 k5 k6 ⊢
    walk_at "si"
    refine TCmp.isC (by rfl) ?_
    walk_at "ws"
    refine TCmp.eqD (n := 0) (m := 0) hu (.int _ _) (.int _ _) (by decide) (by decide) ?_
    rw [c0]
    refine TCmp.neB ?_
    rw [show ((Value.ref (adr' (best ++ nms (ks.drop size))) == Value.none) != false) = false from rfl]
    walk_at "w"
    simp only [Bool.false_eq_true, if_false]
    refine TAll.or_nil ?_
    simp only [Bool.false_eq_true, if_false]
    walk_at "w"
    walk_at "w"
    refine forP _ _ _ _ S1 hBl rfl k3 k4 (by omega) (by omega) fun σ2 S2 a1 a2 => ?_
    have b1 := (a2 "code" (by decide) (by decide)).trans k1
    have b6 := (a2 "nest" (by decide) (by decide)).trans k6
    have mg2 := S2.mg
    have hgl := M.lg
    walk_at "ws"
    refine TCmp.eqD (n := 0) (m := 0) hu (.int _ _) (.int _ _) (by decide) (by decide) ?_
    rw [c0]
    walk_at "si"
    refine TMeth.list S2.hg PySem.F.slot_list_append rfl ?_
    walk_at "ws"
    refine ⟨by simp, ?_⟩
    walk_at "ws"
    refine TCall.append S2.hg (by rw [List.length_map]; omega) ?_
    walk_at "ws"
    have hqm : (best ++ nms (ks.drop size), Th.tab) ∈ addN B best (ks.drop size) (ks.drop size).length := by
      by_cases h : (ks.drop size).length = 0
      · have e := List.length_eq_zero_iff.mp h
        rw [e]; simpa [nms, addN] using Fd.mem
      · have := addN_last (B := B) (p := best) (xs := ks.drop size) (j := (ks.drop size).length) (by omega)
        rwa [List.take_of_length_le (Nat.le_refl _)] at this
    have hT : Tame (addN B best (ks.drop size) (ks.drop size).length) := Tame.addN S0.I M.T Fd.mem (fun y r e h => hnr ⟨y, r, e, h⟩) _ (Nat.le_refl _)
    refine q _ _ adr' (given ++ [best ++ nms (ks.drop size)]) (S2.give hqm ?_) (M.got hT (names_addN M.nm (fun x hx => M.nm _ Fd.mem x hx) fun x hx => hks x (List.mem_of_mem_drop hx)) (by rw [addN_len]; omega) (by simp) (by simp))
    rw [List.length_append, nms, List.length_map]; omega
  · rintro σr ⟨rfl, _⟩ a o h
    exact ⟨⟨o, h⟩, hraw' a o h⟩
  · rintro e σr ⟨rfl, hr⟩
    have hrt : rb = true := hrb.mpr hr
    subst hrt
    have hs2 : (C.inH e).env.scope = _ := hs
    walk_at "si"
    exact q _ _ _ _ S0 ⟨M.T, M.nm, by have := M.lb; omega, by have := M.lg; omega, M.g0, by have := M.lk; omega⟩

open Classical in
theorem law_TryA {P : Params} {C : Cx} {n : Nat} (W : Wd (hd01.heap_39 P) C n) (hn : n ≤ 20) (hs : C.env.scope = (lawD P).2.1) (hfr : C.A.frames = some [C.env]) (hf : C.env.frame = some C.env.locals) {f : Fixed} {B : List BRow} {adr : Path → Addr} {given kept : List Path} {σ : St} (S : LawS f B B adr given kept σ) {i : Nat} (M : Mn B given kept i) (hi : i ≤ 40)
    {ks : List Str} {lk : Str} {best : Path} {size : Nat} (Fd : Found B true ks best size) (hks : ∀ x ∈ ks, x ∈ three) (hlk : lk ∈ three) (hk3 : ks.length ≤ 2) {rb : Bool} (hrb : rb = true ↔ Refused2 B best (ks.drop size) lk)
    (h1 : σ.m "code" = some (.int 0)) (h2 : σ.m "key" = some (.tup ((ks ++ [lk]).map .str))) (h3 : σ.m "at" = some (pathA best)) (h4 : σ.m "rest" = some (.tup ((ks.drop size).map .str))) (h5 : σ.m "refused" = some (.con (.bool rb))) {Q : AFl → St → Prop}
    (q : ∀ σ' B' adr', LawS f B' B' adr' given kept σ' → Mn B' given kept (i + 1) → Q .next σ') : TS C ((callBody P).drop 5) σ Q := by
  refine TV.forget (H' := unraw σ.H) (fun a o h => (unraw_some.mp h).1) ?_
  have S0 := S.unraw
  have hraw : ∀ a o, unraw σ.H a = some o → ∀ o', o ≠ .raw o' := fun a o h => (unraw_some.mp h).2
  have g1 : (⟨σ.m, unraw σ.H⟩ : St).m "code" = some (.int 0) := h1
  have g2 : (⟨σ.m, unraw σ.H⟩ : St).m "key" = some (.tup ((ks ++ [lk]).map .str)) := h2
  have g3 : (⟨σ.m, unraw σ.H⟩ : St).m "at" = some (pathA best) := h3
  have g4 : (⟨σ.m, unraw σ.H⟩ : St).m "rest" = some (.tup ((ks.drop size).map .str)) := h4
  have g5 : (⟨σ.m, unraw σ.H⟩ : St).m "refused" = some (.con (.bool rb)) := h5
  have hraw' : ∀ a o, (⟨σ.m, unraw σ.H⟩ : St).H a = some o → ∀ o', o ≠ .raw o' := hraw
  generalize (⟨σ.m, unraw σ.H⟩ : St) = σ0 at S0 g1 g2 g3 g4 g5 hraw' ⊢
  clear S h1 h2 h3 h4 h5 hraw
  have hh := W.hand
  have hu := W.unit (by omega)
  have hK := W.K
  have mm := S0.mm
  have hBl : B.length ≤ 1000 := by have := M.lb; omega
  have hs0 := hs
  have forP := fun (B' : List BRow) (adr : Path → Addr) (σ : St) (st : Stmt) => law_For (P := P) W hn hs0 (f := f) (B := B) (B' := B') (adr := adr) (given := given) (kept := kept) (σ := σ) (st := st) (best := best) (xs := ks.drop size)
  have hbl : best.length ≤ 2 * size := by
    have := Fd.rch.len S0.I M.T Fd.mem
    rw [List.length_take] at this; omega
  have hsz := Fd.le
  have hxl : (ks.drop size).length = ks.length - size := List.length_drop
  have c0 : decide (AV.int 0 = AV.int 0) = true := decide_eq_true rfl
  let F : St → Prop := fun σr => σr = σ0 ∧ Refused2 B best (ks.drop size) lk
  have W' : Wx (hd01.heap_39 P) (C.inX [] F) n := W.inX
  have hs1 : (C.inX [] F).env.scope = (lawD P).2.1 := hs
  unfold tryBody at forP
  unfold callBody lawTurn lawBody at forP ⊢
  unfold lawD at hs hs1 forP ⊢; dsimp only [List.drop] at hs hs1 forP ⊢
  walk_at "w"
  refine TX.tryKey (outer := []) (F := F) hfr hf ?_ ?_ (by unfold Env.kindOf; rw [hs]; rfl) (mg_none_of C.hK C.hg (by rw [W.K]; rfl)) (by rw [W.B _ (by decide)]; rfl) ?_
  · walk_at "ws"
    refine TCmp.eqD (n := 0) (m := 0) hu (.int _ _) (.int _ _) (by decide) (by decide) ?_
    rw [c0]
    walk_at "si"
    refine app_meth W' S0.hx S0.hdx ?_
    refine ⟨_, rfl, Cl.ref (by show keepIn C.K _ = true; rw [hK]; rfl), ?_⟩
    walk_at "ws"
    refine app_callT (ks := ks) (lk := lk) W (by omega) hfr hf ⟨S0.hx, S0.hdx, S0.I, M.T, by omega, Fd, fun y hy => three_ok y (hks y hy), by omega⟩ (three_ok lk hlk) hk3 (fun e he => nomatch he) (fun h => ⟨rfl, h⟩) fun hnr adr' H' G => ?_
    have hrf : rb = false := by
      cases rb
      · rfl
      · exact absurd (hrb.mp rfl) hnr
    subst hrf
    walk_at "w"
    walk_at "w"
    refine TV.calmIn (C := C) (C' := C.inX [] F) rfl rfl rfl rfl rfl rfl W.calm ?_
    generalize hspot : best ++ nms (ks.drop size) ++ [Key.nm lk] = spot at G
    have S1 : LawS f (appB (addN B best (ks.drop size) (ks.drop size).length) spot) B adr' given kept ((⟨σ0.m, H'⟩ : St).set "nest" (.con .none)) := (S0.grown G).set (by decide)
    have k1 : ((⟨σ0.m, H'⟩ : St).set "nest" (.con .none)).m "code" = some (.int 0) := by walk_at "lk"
    have k2 : ((⟨σ0.m, H'⟩ : St).set "nest" (.con .none)).m "key" = some (.tup ((ks ++ [lk]).map .str)) := by walk_at "lk"
    have k3 : ((⟨σ0.m, H'⟩ : St).set "nest" (.con .none)).m "at" = some (pathA best) := by walk_at "lk"
    have k4 : ((⟨σ0.m, H'⟩ : St).set "nest" (.con .none)).m "rest" = some (.tup ((ks.drop size).map .str)) := by walk_at "lk"
    have k5 : ((⟨σ0.m, H'⟩ : St).set "nest" (.con .none)).m "refused" = some (.con (.bool false)) := by walk_at "lk"
    have k6 : ((⟨σ0.m, H'⟩ : St).set "nest" (.con .none)).m "nest" = some (.con .none) := by walk_at "lk"
    generalize ((⟨σ0.m, H'⟩ : St).set "nest" (.con .none)) = σ1 at S1 k1 k2 k3 k4 k5 k6 ⊢
    walk_at "si"
    refine TCmp.isC (by rfl) ?_
    walk_at "ws"
    refine TCmp.eqD (n := 0) (m := 0) hu (.int _ _) (.int _ _) (by decide) (by decide) ?_
    rw [c0]
    refine TCmp.neB ?_
    rw [show ((Value.none == Value.none) != true) = false from rfl]
    walk_at "w"
    simp only [Bool.false_eq_true, if_false]
    refine TAll.or_nil ?_
    simp only [Bool.false_eq_true, if_false]
    walk_at "w"
    walk_at "w"
    refine forP _ _ _ _ S1 hBl rfl k3 k4 (by omega) (by omega) fun σ2 S2 a1 a2 => ?_
    have b1 := (a2 "code" (by decide) (by decide)).trans k1
    have b2 := (a2 "key" (by decide) (by decide)).trans k2
    generalize hB1 : addN B best (ks.drop size) (ks.drop size).length = B1 at S1 S2 G
    have hB1l : B1.length ≤ B.length + 2 := by rw [← hB1, addN_len]; omega
    have hqm : (best ++ nms (ks.drop size), Th.tab) ∈ B1 := by
      rw [← hB1]
      by_cases h : (ks.drop size).length = 0
      · have e := List.length_eq_zero_iff.mp h
        rw [e]; simpa [nms, addN] using Fd.mem
      · have := addN_last (B := B) (p := best) (xs := ks.drop size) (j := (ks.drop size).length) (by omega)
        rwa [List.take_of_length_le (Nat.le_refl _)] at this
    have hT1 : Tame B1 := by rw [← hB1]; exact Tame.addN S0.I M.T Fd.mem (fun y r e h => hnr (.inl ⟨y, r, e, h⟩)) _ (Nat.le_refl _)
    have hT : Tame (appB B1 spot) := by
      have I := S2.I
      rw [← hspot] at I ⊢
      exact Tame.appB I hT1 hqm
    have sub : ∀ r ∈ lstB B1 spot, r ∈ appB B1 spot := fun r h => List.mem_append_left _ h
    have K1 : BookOk B1 := ⟨fun r h => S2.I.ok r (sub r (lstB_sub h)), fun r h => S2.I.dep r (sub r (lstB_sub h)), by omega⟩
    have hll := lstB_len (B := B1) (spot := spot)
    have K2 : BookOk (lstB B1 spot) := ⟨fun r h => S2.I.ok r (sub r h), fun r h => S2.I.dep r (sub r h), by omega⟩
    have okspot : ∀ k ∈ spot, KeyOk k := K2.ok _ lstB_mem
    have lspot : spot.length ≤ 8 := K2.dep _ lstB_mem
    walk_at "ws"
    refine TCmp.eqD (n := 0) (m := 0) hu (.int _ _) (.int _ _) (by decide) (by decide) ?_
    rw [c0]
    walk_at "w"
    simp only [if_true]
    walk_at "w"
    walk_at "w"
    walk_at "w"
    walk_at "w"
    refine TE.sliceT ?_
    walk_at "w"
    dsimp only [TPart]
    walk_at "ws"
    refine ⟨-1, rfl, _, rfl, by simp; omega, ?_⟩
    have cut : (List.drop (loN (some (-1)) ((ks ++ [lk]).map AV.str).length) ((ks ++ [lk]).map AV.str)).take (hiN none ((ks ++ [lk]).map AV.str).length - loN (some (-1)) ((ks ++ [lk]).map AV.str).length) = [AV.str lk] := by
      have : loN (some (-1)) ((ks ++ [lk]).map AV.str).length = (ks.map AV.str).length := by
        rw [List.length_map, List.length_append, List.length_singleton, List.length_map]; unfold loN clipN; simp; omega
      rw [this, List.map_append, List.drop_left]
      show List.take (((ks.map AV.str) ++ [AV.str lk]).length - _) [AV.str lk] = _
      exact List.take_of_length_le (by simp)
    rw [cut]
    refine TBin.addT (by simp [nms]; omega) ?_
    rw [show (best ++ nms (ks.drop size)).map keyA ++ [AV.str lk] = spot.map keyA from by rw [← hspot, List.map_append (l₂ := [Key.nm lk])]; rfl]
    walk_at "w"
    have S3 : LawS f (appB B1 spot) B1 adr' given kept (σ2.set "spot" (pathA spot)) := S2.set (by decide)
    have d2 : (σ2.set "spot" (pathA spot)).m "spot" = some (pathA spot) := set_same
    change TS C _ (σ2.set "spot" (pathA spot)) _
    generalize (σ2.set "spot" (pathA spot)) = σ3 at S3 d2 ⊢
    have mb3 := S3.mb
    have fin : ∀ σ4, LawS f (appB B1 spot) (appB B1 spot) adr' given kept σ4 → Q .next σ4 := fun σ4 S4 => by
      refine q _ _ adr' S4 (M.got hT ?_ ?_ (by omega) M.g0)
      · have nq : ∀ x, Key.nm x ∈ spot → x ∈ three := fun x hx => by
          rw [← hspot] at hx
          rcases List.mem_append.mp hx with hx | hx
          · rcases List.mem_append.mp hx with hx | hx
            · exact M.nm _ Fd.mem x hx
            · exact hks x (List.mem_of_mem_drop (nms_nm hx))
          · have := List.mem_singleton.mp hx; cases this; exact hlk
        have n1 : ∀ r ∈ B1, ∀ x, Key.nm x ∈ r.1 → x ∈ three := by
          rw [← hB1]
          exact names_addN M.nm (fun x hx => M.nm _ Fd.mem x hx) fun x hx => hks x (List.mem_of_mem_drop hx)
        intro r hr x hx
        rcases List.mem_append.mp hr with hr | hr
        · unfold lstB at hr
          split at hr
          · exact n1 r hr x hx
          · rcases List.mem_append.mp hr with hr | hr
            · exact n1 r hr x hx
            · rw [List.mem_singleton.mp hr] at hx; exact nq x hx
        · rw [List.mem_singleton.mp hr] at hx
          rcases List.mem_append.mp hx with hx | hx
          · exact nq x hx
          · have := List.mem_singleton.mp hx; cases this
      · unfold appB; rw [List.length_append, List.length_singleton]; omega
    have tail : ∀ (Q2 : AFl → St → Prop) σ4, (∀ σ', Q .next σ' → Q2 .next σ') → LawS f (appB B1 spot) (lstB B1 spot) adr' given kept σ4 → σ4.m "spot" = some (pathA spot) → TS C ((((tryBody P).drop 3).head?.elim [] fun st => match st with | .If _ b _ _ => b.drop 2 | _ => [])) σ4 Q2 := fun Q2 σ4 hQ2 S4 d4 => by
      have mb4 := S4.mb
      unfold tryBody callBody lawTurn lawBody lawD; dsimp only [List.drop, List.head?, Option.elim]
      walk_at "ws"
      refine TMeth.list S4.hb PySem.F.slot_list_append rfl ?_
      walk_at "ws"
      refine ⟨_, rfl, Cl.ref (by rw [hK]; rfl), ?_⟩
      walk_at "ws"
      refine below_call (B := lstB B1 spot) (p := spot) W (by omega) S4.hb K2 okspot (by omega) fun D hD => ?_
      have hbl2 := below_len (B := lstB B1 spot) (p := spot)
      walk_at "ws"
      refine TCall.lenL (xs := (belowB (lstB B1 spot) spot).map keyA) putH_self (by rw [List.length_map]; omega) ?_
      rw [List.length_map]
      walk_at "ws"
      refine ⟨by simp, ?_⟩
      refine TBin.addT (by rw [List.length_map]; simp; omega) ?_
      walk_at "ws"
      refine ⟨by simp, ?_⟩
      walk_at "ws"
      have S5 : LawS f (appB B1 spot) (lstB B1 spot) adr' given kept (σ4.put D (.list ((belowB (lstB B1 spot) spot).map keyA))) := S4.ext (put_ext hD) fun _ _ => rfl
      refine TCall.append S5.hb (by rw [List.length_map]; omega) ?_
      walk_at "ws"
      have S6 := S5.book (Bk' := appB B1 spot)
      have e : (appB B1 spot).map browA = (lstB B1 spot).map browA ++ [AV.tup [AV.tup (spot.map keyA ++ [AV.int (((belowB (lstB B1 spot) spot).length : Nat) : Int)]), AV.str "table"]] := by
        unfold appB
        rw [List.map_append]
        congr 1
        show [AV.tup [AV.tup ((spot ++ [Key.pl (belowB (lstB B1 spot) spot).length]).map keyA), AV.str "table"]] = _
        rw [List.map_append]; rfl
      rw [e] at S6
      exact hQ2 _ (fin _ S6)
    unfold tryBody callBody lawTurn lawBody lawD at tail; dsimp only [List.drop, List.head?, Option.elim] at tail
    walk_at "ws"
    refine ⟨by simp, ?_⟩
    walk_at "ws"
    refine TCmp.notInL (n := 2) (m := 2) hu S3.hb (book_data K1) (browA_data (r := (spot, .lst)) okspot) (by decide) ?_
    by_cases hm : (spot, Th.lst) ∈ B1
    · have e : decide (AV.tup [pathA spot, AV.str "list"] ∈ B1.map browA) = true := by rw [decide_eq_true_eq]; exact mem_book.mpr hm
      rw [e]
      simp only [Bool.not_true]
      walk_at "w"
      simp only [Bool.false_eq_true, if_false]
      walk_at "w"
      have hl : lstB B1 spot = B1 := by unfold lstB; rw [if_pos hm]
      have S3' : LawS f (appB B1 spot) (lstB B1 spot) adr' given kept σ3 := by rw [hl]; exact S3
      refine tail _ σ3 (fun σ' h => ?_) S3' d2
      walk_at "ws"
      exact h
    · have e : decide (AV.tup [pathA spot, AV.str "list"] ∈ B1.map browA) = false := by rw [decide_eq_false_iff_not]; exact fun h => hm (mem_book.mp h)
      rw [e]
      simp only [Bool.not_false]
      walk_at "w"
      simp only [if_true]
      walk_at "ws"
      refine TMeth.list S3.hb PySem.F.slot_list_append rfl ?_
      walk_at "ws"
      refine ⟨by simp, ?_⟩
      walk_at "ws"
      refine TCall.append S3.hb (by rw [List.length_map]; omega) ?_
      walk_at "w"
      have hl : lstB B1 spot = B1 ++ [(spot, .lst)] := by unfold lstB; rw [if_neg hm]
      have S4 := S3.book (Bk' := lstB B1 spot)
      have e2 : (lstB B1 spot).map browA = B1.map browA ++ [AV.tup [pathA spot, AV.str "list"]] := by rw [hl, List.map_append]; rfl
      rw [e2] at S4
      refine tail _ _ (fun σ' h => ?_) S4 d2
      walk_at "ws"
      exact h
  · rintro σr ⟨rfl, _⟩ a o h
    exact ⟨⟨o, h⟩, hraw' a o h⟩
  · rintro e σr ⟨rfl, hr⟩
    have hrt : rb = true := hrb.mpr hr
    subst hrt
    have hs2 : (C.inH e).env.scope = _ := hs
    walk_at "si"
    exact q _ _ _ S0 ⟨M.T, M.nm, by have := M.lb; omega, by have := M.lg; omega, M.g0, by have := M.lk; omega⟩

open Classical in
theorem law_Ref {P : Params} {C : Cx} {n : Nat} (W : Wd (hd01.heap_39 P) C n) (hn : n ≤ 20) (hs : C.env.scope = (lawD P).2.1) {f : Fixed} {B : List BRow} {adr : Path → Addr} {given kept : List Path} {σ : St} (S : LawS f B B adr given kept σ) (hl : B.length ≤ 1000) {best : Path} {xs : List Str} {st : Stmt} (hst : ((callBody P).drop 3).head? = some st)
    (h1 : σ.m "at" = some (pathA best)) (h2 : σ.m "rest" = some (.tup (xs.map .str))) (hb : (best, Th.tab) ∈ B) (hxs : ∀ x ∈ xs, x ∈ three) {Q : AFl → St → Prop}
    (q : ∀ σ' rb, (rb = true ↔ Refused B best xs) → LawS f B B adr given kept σ' → σ'.m "refused" = some (.con (.bool rb)) → (∀ y : Str, y ≠ "refused" → σ'.m y = σ.m y) → Q .next σ') : TX C st σ Q := by
  have hh := W.hand
  have hu := W.unit (by omega)
  have hK := W.K
  have mb := S.mb
  have K := S.I.book (by omega)
  have hok := S.I.ok _ hb
  have hdp := S.I.dep _ hb
  dsimp only at hok hdp
  unfold callBody lawTurn lawBody at hst
  unfold lawD at hs hst; dsimp only [List.drop, List.head?] at hs hst
  cases hst
  walk_at "w"
  refine TE.and2 ?_
  walk_at "ws"
  refine ⟨by simp, ?_⟩
  refine TCmp.neD (n := 1) (m := 1) hu (strs_data fun x hx => three_ok x (hxs x hx)) (strs_data (ks := []) fun x hx => nomatch hx) (by decide) (by decide) ?_
  cases xs with
  | nil =>
    rw [show (!decide (AV.tup (List.map AV.str []) = AV.tup [])) = false from by simp]
    walk_at "w"
    simp only [Bool.false_eq_true, if_false]
    walk_at "w"
    exact q _ false ⟨fun h => (nomatch h), fun ⟨x, r, e, _⟩ => nomatch e⟩ (S.set (by decide)) set_same fun y hy => set_ne hy
  | cons x r =>
    rw [show (!decide (AV.tup (List.map AV.str (x :: r)) = AV.tup [])) = true from by simp]
    walk_at "w"
    simp only [if_true]
    walk_at "ws"
    refine TSub.tup so_const (by decide) (by decide) (j := 0) (a := .str x) (seqNat (i := 0) (by simp)) (by rfl) ?_
    walk_at "ws"
    refine ⟨_, rfl, Cl.ref (by rw [hK]; rfl), ?_⟩
    walk_at "ws"
    refine below_call (B := B) (p := best) W (by omega) S.hb K hok (by omega) fun D hD => ?_
    refine TCmp.inL (n := 0) (m := 0) hu AH.put_self (below_data K) (.str _ _ (three_ok x (hxs x List.mem_cons_self))) (by decide) ?_
    walk_at "w"
    refine q _ (decide (AV.str x ∈ (belowB B best).map keyA)) ⟨fun h => ⟨x, r, rfl, mem_keys.mp (of_decide_eq_true h)⟩, fun ⟨y, r', e, h⟩ => ?_⟩ ((S.ext (σ' := σ.put D (.list ((belowB B best).map keyA))) (put_ext hD) fun _ _ => rfl).set (by decide)) set_same fun y hy => (set_ne hy).trans put_m
    cases e
    exact decide_eq_true (mem_keys.mpr h)

theorem law_G {P : Params} {C : Cx} {n : Nat} (W : Wd (hd01.heap_39 P) C n) (hn : n ≤ 20) (hs : C.env.scope = (lawD P).2.1) (hfr : C.A.frames = some [C.env]) (hf : C.env.frame = some C.env.locals) {f : Fixed} {B : List BRow} {adr : Path → Addr} {given kept : List Path} {σ : St} (S : LawS f B B adr given kept σ) {i : Nat} (M : Mn B given kept i) (hi : i ≤ 40)
    {c : Int} (hc : c = 1 ∨ c = 2) {ks : List Str} (hks : ∀ x ∈ ks, x ∈ three) (hk3 : ks.length ≤ 3) (h1 : σ.m "code" = some (.int c)) (h2 : σ.m "key" = some (.tup (ks.map .str))) {Q : AFl → St → Prop}
    (q : ∀ σ' B' adr' given', LawS f B' B' adr' given' kept σ' → Mn B' given' kept (i + 1) → Q .next σ') : TS C (callBody P) σ Q := by
  have hh := W.hand
  have hu := W.unit (by omega)
  have hK := W.K
  have mb := S.mb
  have hBl : B.length ≤ 1000 := by have := M.lb; omega
  have K := S.I.book (by omega)
  have hs0 := hs
  obtain ⟨b, hcb⟩ : ∃ b, (c = 1 ∧ b = true) ∨ (c = 2 ∧ b = false) := by
    rcases hc with h | h
    · exact ⟨true, .inl ⟨h, rfl⟩⟩
    · exact ⟨false, .inr ⟨h, rfl⟩⟩
  have tryP := fun (σ : St) (S : LawS f B B adr given kept σ) (best : Path) (size : Nat) (Fd : Found B b ks best size) (rb : Bool) => law_TryG (P := P) W hn hs0 hfr hf S M hi hcb Fd hks hk3 (rb := rb)
  have refP := fun (σ : St) (S : LawS f B B adr given kept σ) (best : Path) (xs : List Str) (st : Stmt) => law_Ref (P := P) W hn hs0 S hBl (best := best) (xs := xs) (st := st)
  have c0 : ∀ {d : Decidable (AV.int c = AV.int 0)}, @decide _ d = false := fun {d} => by
    rw [decide_eq_false_iff_not]; intro h; have := AV.int.inj h; omega
  have c2 : ∀ {d : Decidable (AV.int c = AV.int 2)}, (!@decide _ d) = b := fun {d} => by
    rcases hcb with ⟨rfl, rfl⟩ | ⟨rfl, rfl⟩
    · rw [show @decide (AV.int 1 = AV.int 2) d = false from decide_eq_false fun h => by have := AV.int.inj h; omega]; rfl
    · rw [show @decide (AV.int 2 = AV.int 2) d = true from decide_eq_true rfl]; rfl
  unfold callBody lawTurn lawBody at tryP refP ⊢
  unfold lawD at hs tryP refP ⊢; dsimp only [List.drop] at hs tryP refP ⊢
  walk_at "ws"
  refine TE.ifExp ?_
  walk_at "ws"
  refine TCmp.eqD (n := 0) (m := 0) hu (.int _ _) (.int _ _) (by decide) (by decide) ?_
  rw [c0]
  walk_at "si"
  have S1 : LawS f B B adr given kept (σ.set "key" (.tup (ks.map .str))) := S.set (by decide)
  have e1 : (σ.set "key" (.tup (ks.map .str))).m "code" = some (.int c) := by walk_at "lk"
  have e2 : (σ.set "key" (.tup (ks.map .str))).m "key" = some (.tup (ks.map .str)) := by walk_at "lk"
  generalize (σ.set "key" (.tup (ks.map .str))) = σ1 at S1 e1 e2 ⊢
  clear h1 h2 mb
  have mb := S1.mb
  refine TX.assignTup ?_ (by rfl) (by rfl)
  walk_at "ws"
  refine ⟨_, rfl, Cl.ref (by rw [hK]; rfl), ?_⟩
  walk_at "ws"
  refine TE.ifExp ?_
  walk_at "ws"
  refine TCmp.eqD (n := 0) (m := 0) hu (.int _ _) (.int _ _) (by decide) (by decide) ?_
  rw [c0]
  walk_at "si"
  refine TCmp.neD (n := 0) (m := 0) hu (.int _ _) (.int _ _) (by decide) (by decide) ?_
  rw [c2]
  walk_at "ws"
  refine find_call (b := b) (ks := ks) W (by omega) S1.hb K (fun x hx => three_ok x (hks x hx)) (by omega) S1.I.root S1.I.hpre fun best size H' hE Fd => ?_
  have hsz := Fd.le
  have hdb := S1.I.dep _ Fd.mem
  dsimp only at hdb
  walk_at "w"
  walk_at "w"
  walk_at "w"
  have S2 : LawS f B B adr given kept (((⟨σ1.m, H'⟩ : St).set "at" (pathA best)).set "rest" (.tup ((ks.drop size).map .str))) := ((S1.hext hE).set (by decide)).set (by decide)
  have f1 : (((⟨σ1.m, H'⟩ : St).set "at" (pathA best)).set "rest" (.tup ((ks.drop size).map .str))).m "code" = some (.int c) := by walk_at "lk"
  have f2 : (((⟨σ1.m, H'⟩ : St).set "at" (pathA best)).set "rest" (.tup ((ks.drop size).map .str))).m "key" = some (.tup (ks.map .str)) := by walk_at "lk"
  have f3 : (((⟨σ1.m, H'⟩ : St).set "at" (pathA best)).set "rest" (.tup ((ks.drop size).map .str))).m "at" = some (pathA best) := by walk_at "lk"
  have f4 : (((⟨σ1.m, H'⟩ : St).set "at" (pathA best)).set "rest" (.tup ((ks.drop size).map .str))).m "rest" = some (.tup ((ks.drop size).map .str)) := by walk_at "lk"
  generalize (((⟨σ1.m, H'⟩ : St).set "at" (pathA best)).set "rest" (.tup ((ks.drop size).map .str))) = σ2 at S2 f1 f2 f3 f4 ⊢
  walk_at "w"
  walk_at "w"
  walk_at "w"
  walk_at "w"
  refine TE.sliceT ?_
  walk_at "w"
  dsimp only [TPart]
  walk_at "ws"
  refine ⟨-1, rfl, _, rfl, by rw [List.length_map]; omega, ?_⟩
  refine TBin.addT (by simp; omega) ?_
  walk_at "w"
  generalize (AV.tup (best.map keyA ++ _)) = sp
  have S3 : LawS f B B adr given kept (σ2.set "spot" sp) := S2.set (by decide)
  have g1 : (σ2.set "spot" sp).m "code" = some (.int c) := (set_ne (by decide)).trans f1
  have g2 : (σ2.set "spot" sp).m "key" = some (.tup (ks.map .str)) := (set_ne (by decide)).trans f2
  have g3 : (σ2.set "spot" sp).m "at" = some (pathA best) := (set_ne (by decide)).trans f3
  have g4 : (σ2.set "spot" sp).m "rest" = some (.tup ((ks.drop size).map .str)) := (set_ne (by decide)).trans f4
  generalize (σ2.set "spot" sp) = σ3 at S3 g1 g2 g3 g4 ⊢
  refine TS.cons ?_
  refine refP _ S3 best (ks.drop size) _ rfl g3 g4 Fd.mem (fun x hx => hks x (List.mem_of_mem_drop hx)) fun σ4 rb hrb S4 h5 hm => ?_
  have k1 := (hm "code" (by decide)).trans g1
  have k2 := (hm "key" (by decide)).trans g2
  have k3 := (hm "at" (by decide)).trans g3
  have k4 := (hm "rest" (by decide)).trans g4
  walk_at "ws"
  refine TCmp.eqD (n := 0) (m := 0) hu (.int _ _) (.int _ _) (by decide) (by decide) ?_
  rw [c0]
  walk_at "w"
  simp only [Bool.false_eq_true, if_false]
  walk_at "w"
  exact tryP _ S4 best size Fd rb hrb k1 k2 k3 k4 h5 q

theorem init_cut {init : List Str} {lk : Str} : (List.drop (loN none ((init ++ [lk]).map AV.str).length) ((init ++ [lk]).map AV.str)).take (hiN (some (-1)) ((init ++ [lk]).map AV.str).length - loN none ((init ++ [lk]).map AV.str).length) = init.map AV.str := by
  have : hiN (some (-1)) ((init ++ [lk]).map AV.str).length = init.length := by
    rw [List.length_map, List.length_append, List.length_singleton]; unfold hiN clipN; simp; omega
  rw [this]
  show List.take (init.length - 0) (List.drop 0 _) = _
  rw [List.drop_zero, Nat.sub_zero, List.map_append, ← List.length_map (f := AV.str) (as := init)]
  exact List.take_left
theorem last_cut {ks : List Str} {lk : Str} : (List.drop (loN (some (-1)) ((ks ++ [lk]).map AV.str).length) ((ks ++ [lk]).map AV.str)).take (hiN none ((ks ++ [lk]).map AV.str).length - loN (some (-1)) ((ks ++ [lk]).map AV.str).length) = [AV.str lk] := by
  have : loN (some (-1)) ((ks ++ [lk]).map AV.str).length = (ks.map AV.str).length := by
    rw [List.length_map, List.length_append, List.length_singleton, List.length_map]; unfold loN clipN; simp; omega
  rw [this, List.map_append, List.drop_left]
  show List.take (((ks.map AV.str) ++ [AV.str lk]).length - _) [AV.str lk] = _
  exact List.take_of_length_le (by simp)

open Classical in
theorem law_A5 {P : Params} {C : Cx} {n : Nat} (W : Wd (hd01.heap_39 P) C n) (hn : n ≤ 20) (hs : C.env.scope = (lawD P).2.1) {f : Fixed} {B : List BRow} {adr : Path → Addr} {given kept : List Path} {σ : St} (S : LawS f B B adr given kept σ) (hl : B.length ≤ 1000) {best : Path} {xs init : List Str} {lk : Str} {rb : Bool} {st : Stmt} (hst : ((callBody P).drop 4).head? = some st)
    (h0 : σ.m "code" = some (.int 0)) (hk : σ.m "key" = some (.tup ((init ++ [lk]).map .str))) (h1 : σ.m "at" = some (pathA best)) (h2 : σ.m "rest" = some (.tup (xs.map .str))) (h3 : σ.m "spot" = some (pathA (best ++ [.nm lk]))) (h4 : σ.m "refused" = some (.con (.bool rb))) (hb : (best, Th.tab) ∈ B) (hxs : ∀ x ∈ xs, x ∈ three) (hlk : lk ∈ three) (hil : init.length ≤ 100) (hrb : rb = true ↔ Refused B best xs) {Q : AFl → St → Prop}
    (q : ∀ σ' rb', (rb' = true ↔ Refused2 B best xs lk) → LawS f B B adr given kept σ' → σ'.m "refused" = some (.con (.bool rb')) → (∀ y : Str, y ≠ "refused" → σ'.m y = σ.m y) → Q .next σ') : TX C st σ Q := by
  have hh := W.hand
  have hu := W.unit (by omega)
  have hK := W.K
  have mb := S.mb
  have K := S.I.book (by omega)
  have hok := S.I.ok _ hb
  have hdp := S.I.dep _ hb
  dsimp only at hok hdp
  have oks : ∀ k ∈ best ++ [Key.nm lk], KeyOk k := fun k hk => by
    rcases List.mem_append.mp hk with h | h
    · exact hok k h
    · rw [List.mem_singleton.mp h]; exact three_ok lk hlk
  unfold callBody lawTurn lawBody at hst
  unfold lawD at hs hst; dsimp only [List.drop, List.head?] at hs hst
  cases hst
  walk_at "ws"
  refine TCmp.eqD (n := 0) (m := 0) hu (.int _ _) (.int _ _) (by decide) (by decide) ?_
  rw [decide_eq_true (show AV.int 0 = AV.int 0 from rfl)]
  walk_at "w"
  simp only [if_true]
  walk_at "ws"
  refine ⟨by simp, ?_⟩
  refine TCmp.eqD (n := 1) (m := 1) hu (strs_data fun x hx => three_ok x (hxs x hx)) (strs_data (ks := []) fun x hx => nomatch hx) (by decide) (by decide) ?_
  cases xs with
  | cons x r =>
    rw [show (decide (AV.tup (List.map AV.str (x :: r)) = AV.tup [])) = false from by simp]
    walk_at "w"
    simp only [Bool.false_eq_true, if_false]
    walk_at "w"
    refine q _ rb ⟨fun h => .inl (hrb.mp h), fun h => ?_⟩ S h4 fun _ _ => rfl
    rcases h with h | ⟨e, _⟩
    · exact hrb.mpr h
    · cases e
  | nil =>
    have hnr : rb = false := by
      cases rb
      · rfl
      · obtain ⟨x, r, e, _⟩ := hrb.mp rfl; cases e
    subst hnr
    rw [show (decide (AV.tup (List.map AV.str []) = AV.tup [])) = true from by simp]
    walk_at "w"
    simp only [if_true]
    walk_at "ws"
    refine TSub.tup so_neg (by omega) (by omega) (j := init.length) (a := .str lk) ?_ ?_ ?_
    · have := seqLast (n := ((init ++ [lk]).map AV.str).length) (by simp)
      rw [this]; simp
    · simp
    walk_at "ws"
    refine ⟨_, rfl, Cl.ref (by rw [hK]; rfl), ?_⟩
    walk_at "ws"
    refine below_call (B := B) (p := best) W (by omega) S.hb K hok (by omega) fun D hD => ?_
    refine TCmp.inL (n := 0) (m := 0) hu AH.put_self (below_data K) (.str _ _ (three_ok lk hlk)) (by decide) ?_
    have S1 : LawS f B B adr given kept (σ.put D (.list ((belowB B best).map keyA))) := S.ext (put_ext hD) fun _ _ => rfl
    by_cases hm : Key.nm lk ∈ belowB B best
    · rw [decide_eq_true (mem_keys.mpr hm)]
      walk_at "w"
      simp only [if_true]
      refine TAll.and_nil ?_
      simp only [if_true]
      walk_at "ws"
      refine ⟨by simp, ?_⟩
      walk_at "ws"
      refine TCmp.notInL (n := 2) (m := 2) hu S1.hb (book_data K) (browA_data (r := (best ++ [.nm lk], .lst)) oks) (by decide) ?_
      walk_at "ws"
      refine q _ _ ?_ (S1.set (by decide)) set_same fun y hy => (set_ne hy).trans put_m
      rw [Bool.not_eq_true', decide_eq_false_iff_not]
      obtain ⟨t, ht⟩ := mem_below.mp hm
      constructor
      · intro h
        refine .inr ⟨rfl, t, ht, fun e => h ?_⟩
        subst e
        exact mem_book.mpr ht
      · rintro (⟨x, r, e, _⟩ | ⟨_, u, hu1, hu2⟩) h
        · cases e
        · exact hu2 (S.I.uniq hu1 (mem_book.mp h))
    · rw [decide_eq_false (fun h => hm (mem_keys.mp h))]
      walk_at "w"
      simp only [Bool.false_eq_true, if_false]
      walk_at "w"
      refine q _ false ⟨fun h => (nomatch h), fun h => ?_⟩ S1 h4 fun _ _ => rfl
      rcases h with ⟨x, r, e, _⟩ | ⟨_, t, ht, _⟩
      · cases e
      · exact absurd (mem_below.mpr ⟨t, ht⟩) hm

open Classical in
theorem law_A {P : Params} {C : Cx} {n : Nat} (W : Wd (hd01.heap_39 P) C n) (hn : n ≤ 20) (hs : C.env.scope = (lawD P).2.1) (hfr : C.A.frames = some [C.env]) (hf : C.env.frame = some C.env.locals) {f : Fixed} {B : List BRow} {adr : Path → Addr} {given kept : List Path} {σ : St} (S : LawS f B B adr given kept σ) {i : Nat} (M : Mn B given kept i) (hi : i ≤ 40)
    {ks : List Str} (hks : ∀ x ∈ ks, x ∈ three) (hk3 : ks.length ≤ 3) (h1 : σ.m "code" = some (.int 0)) (h2 : σ.m "key" = some (.tup (ks.map .str))) {Q : AFl → St → Prop}
    (q : ∀ σ' B' adr', LawS f B' B' adr' given kept σ' → Mn B' given kept (i + 1) → Q .next σ') : TS C (callBody P) σ Q := by
  have hh := W.hand
  have hu := W.unit (by omega)
  have hK := W.K
  have mb := S.mb
  have hBl : B.length ≤ 1000 := by have := M.lb; omega
  have K := S.I.book (by omega)
  have hs0 := hs
  have tryP := fun (σ : St) (S : LawS f B B adr given kept σ) (init : List Str) (lk : Str) (best : Path) (size : Nat) (Fd : Found B true init best size) (hks : ∀ x ∈ init, x ∈ three) (hlk : lk ∈ three) (hk3 : init.length ≤ 2) (rb : Bool) => law_TryA (P := P) W hn hs0 hfr hf S M hi Fd hks hlk hk3 (rb := rb)
  have refP := fun (σ : St) (S : LawS f B B adr given kept σ) (best : Path) (xs : List Str) (st : Stmt) => law_Ref (P := P) W hn hs0 S hBl (best := best) (xs := xs) (st := st)
  have a5P := fun (σ : St) (S : LawS f B B adr given kept σ) (best : Path) (xs init : List Str) (lk : Str) (rb : Bool) (st : Stmt) => law_A5 (P := P) W hn hs0 S hBl (best := best) (xs := xs) (init := init) (lk := lk) (rb := rb) (st := st)
  have c0 : ∀ {d : Decidable (AV.int 0 = AV.int 0)}, @decide _ d = true := fun {d} => decide_eq_true rfl
  -- behind the first statement
  have main : ∀ (init : List Str) (lk : Str), (∀ x ∈ init, x ∈ three) → lk ∈ three → init.length ≤ 2 → TS C ((callBody P).drop 1) (σ.set "key" (.tup ((init ++ [lk]).map .str))) Q := by
    intro init lk hin hlk hil
    have S1 : LawS f B B adr given kept (σ.set "key" (.tup ((init ++ [lk]).map .str))) := S.set (by decide)
    have e1 : (σ.set "key" (.tup ((init ++ [lk]).map .str))).m "code" = some (.int 0) := (set_ne (by decide)).trans h1
    have e2 : (σ.set "key" (.tup ((init ++ [lk]).map .str))).m "key" = some (.tup ((init ++ [lk]).map .str)) := set_same
    generalize (σ.set "key" (.tup ((init ++ [lk]).map .str))) = σ1 at S1 e1 e2 ⊢
    clear h1 h2 mb
    have mb := S1.mb
    unfold callBody lawTurn lawBody at tryP refP a5P ⊢
    unfold lawD at hs tryP refP a5P ⊢; dsimp only [List.drop] at hs tryP refP a5P ⊢
    walk_at "w"
    refine TX.assignTup ?_ (by rfl) (by rfl)
    walk_at "ws"
    refine ⟨_, rfl, Cl.ref (by rw [hK]; rfl), ?_⟩
    walk_at "ws"
    refine TE.ifExp ?_
    walk_at "ws"
    refine TCmp.eqD (n := 0) (m := 0) hu (.int _ _) (.int _ _) (by decide) (by decide) ?_
    rw [c0]
    walk_at "w"
    simp only [if_true]
    refine TE.sliceT ?_
    walk_at "w"
    dsimp only [TPart]
    walk_at "ws"
    refine ⟨-1, rfl, _, rfl, by simp; omega, ?_⟩
    rw [init_cut]
    walk_at "ws"
    refine TCmp.neD (n := 0) (m := 0) hu (.int _ _) (.int _ _) (by decide) (by decide) ?_
    rw [show ∀ {d : Decidable (AV.int 0 = AV.int 2)}, (!@decide _ d) = true from fun {d} => by rw [show @decide (AV.int 0 = AV.int 2) d = false from decide_eq_false fun h => by have := AV.int.inj h; omega]; rfl]
    walk_at "ws"
    refine find_call (b := true) (ks := init) W (by omega) S1.hb K (fun x hx => three_ok x (hin x hx)) (by omega) S1.I.root S1.I.hpre fun best size H' hE Fd => ?_
    have hsz := Fd.le
    have hdb := S1.I.dep _ Fd.mem
    dsimp only at hdb
    walk_at "w"
    walk_at "w"
    walk_at "w"
    have S2 : LawS f B B adr given kept (((⟨σ1.m, H'⟩ : St).set "at" (pathA best)).set "rest" (.tup ((init.drop size).map .str))) := ((S1.hext hE).set (by decide)).set (by decide)
    have f1 : (((⟨σ1.m, H'⟩ : St).set "at" (pathA best)).set "rest" (.tup ((init.drop size).map .str))).m "code" = some (.int 0) := by walk_at "lk"
    have f2 : (((⟨σ1.m, H'⟩ : St).set "at" (pathA best)).set "rest" (.tup ((init.drop size).map .str))).m "key" = some (.tup ((init ++ [lk]).map .str)) := by walk_at "lk"
    have f3 : (((⟨σ1.m, H'⟩ : St).set "at" (pathA best)).set "rest" (.tup ((init.drop size).map .str))).m "at" = some (pathA best) := by walk_at "lk"
    have f4 : (((⟨σ1.m, H'⟩ : St).set "at" (pathA best)).set "rest" (.tup ((init.drop size).map .str))).m "rest" = some (.tup ((init.drop size).map .str)) := by walk_at "lk"
    generalize (((⟨σ1.m, H'⟩ : St).set "at" (pathA best)).set "rest" (.tup ((init.drop size).map .str))) = σ2 at S2 f1 f2 f3 f4 ⊢
    walk_at "w"
    walk_at "w"
    walk_at "w"
    walk_at "w"
    refine TE.sliceT ?_
    walk_at "w"
    dsimp only [TPart]
    walk_at "ws"
    refine ⟨-1, rfl, _, rfl, by simp; omega, ?_⟩
    rw [last_cut]
    refine TBin.addT (by simp; omega) ?_
    rw [show AV.tup (best.map keyA ++ [AV.str lk]) = pathA (best ++ [.nm lk]) from pathA_snoc (k := .nm lk)]
    walk_at "w"
    have S3 : LawS f B B adr given kept (σ2.set "spot" (pathA (best ++ [.nm lk]))) := S2.set (by decide)
    have g1 : (σ2.set "spot" (pathA (best ++ [.nm lk]))).m "code" = some (.int 0) := (set_ne (by decide)).trans f1
    have g2 : (σ2.set "spot" (pathA (best ++ [.nm lk]))).m "key" = some (.tup ((init ++ [lk]).map .str)) := (set_ne (by decide)).trans f2
    have g3 : (σ2.set "spot" (pathA (best ++ [.nm lk]))).m "at" = some (pathA best) := (set_ne (by decide)).trans f3
    have g4 : (σ2.set "spot" (pathA (best ++ [.nm lk]))).m "rest" = some (.tup ((init.drop size).map .str)) := (set_ne (by decide)).trans f4
    have g5 : (σ2.set "spot" (pathA (best ++ [.nm lk]))).m "spot" = some (pathA (best ++ [.nm lk])) := set_same
    generalize (σ2.set "spot" (pathA (best ++ [.nm lk]))) = σ3 at S3 g1 g2 g3 g4 g5 ⊢
    have hdr : ∀ x ∈ init.drop size, x ∈ three := fun x hx => hin x (List.mem_of_mem_drop hx)
    refine TS.cons ?_
    refine refP _ S3 best (init.drop size) _ rfl g3 g4 Fd.mem hdr fun σ4 rb hrb S4 h5 hm => ?_
    have k1 := (hm "code" (by decide)).trans g1
    have k2 := (hm "key" (by decide)).trans g2
    have k3 := (hm "at" (by decide)).trans g3
    have k4 := (hm "rest" (by decide)).trans g4
    have k5 := (hm "spot" (by decide)).trans g5
    refine TS.cons ?_
    refine a5P _ S4 best (init.drop size) init lk rb _ rfl k1 k2 k3 k4 k5 h5 Fd.mem hdr hlk (by omega) hrb fun σ5 rb' hrb' S5 h6 hm' => ?_
    exact tryP _ S5 init lk best size Fd hin hlk hil rb' hrb' ((hm' "code" (by decide)).trans k1) ((hm' "key" (by decide)).trans k2) ((hm' "at" (by decide)).trans k3) ((hm' "rest" (by decide)).trans k4) h6 q
  unfold callBody lawTurn lawBody at main ⊢
  unfold lawD at hs main ⊢; dsimp only [List.drop] at hs main ⊢
  walk_at "ws"
  refine TE.ifExp ?_
  walk_at "ws"
  refine TCmp.eqD (n := 0) (m := 0) hu (.int _ _) (.int _ _) (by decide) (by decide) ?_
  rw [c0]
  walk_at "w"
  simp only [if_true]
  walk_at "ws"
  refine ⟨by simp, ?_⟩
  refine TCmp.eqD (n := 1) (m := 1) hu (strs_data fun x hx => three_ok x (hks x hx)) (strs_data (ks := []) fun x hx => nomatch hx) (by decide) (by decide) ?_
  rcases List.eq_nil_or_concat ks with rfl | ⟨init, lk, rfl⟩
  · rw [show (decide (AV.tup (List.map AV.str []) = AV.tup [])) = true from by simp]
    walk_at "w"
    simp only [if_true]
    refine TAll.and_nil ?_
    simp only [if_true]
    walk_at "ws"
    refine ⟨by simp, ?_⟩
    walk_at "w"
    exact main [] "a" (fun x hx => nomatch hx) (by decide) (by simp)
  · rw [List.concat_eq_append] at hks hk3 h2 ⊢
    rw [show (decide (AV.tup (List.map AV.str (init ++ [lk])) = AV.tup [])) = false from by simp]
    walk_at "w"
    simp only [Bool.false_eq_true, if_false]
    walk_at "w"
    walk_at "w"
    exact main init lk (fun x hx => hks x (List.mem_append_left _ hx)) (hks lk (by simp)) (by simpa using hk3)

open Classical in
theorem law_turn {P : Params} {C : Cx} {n : Nat} (W : Wd (hd01.heap_39 P) C n) (hn : n ≤ 20) (hs : C.env.scope = (lawD P).2.1) (hfr : C.A.frames = some [C.env]) (hf : C.env.frame = some C.env.locals) {f : Fixed} {B : List BRow} {adr : Path → Addr} {given kept : List Path} {σ : St} (S : LawS f B B adr given kept σ) {i : Nat} (M : Mn B given kept i)
    (hi : i < f.ds.length) (hl : f.ds.length ≤ 40) (hmn : σ.m "n" = some (.int ((i : Nat) : Int))) {Q : AFl → St → Prop}
    (q : ∀ σ' B' adr' given' kept', LawS f B' B' adr' given' kept' σ' → Mn B' given' kept' (i + 1) → Q .next σ') : TS C (lawTurn P) σ Q := by
  have hh := W.hand
  have hu := W.unit (by omega)
  have hs0 := hs
  refine law_T12 W hn hs S hi hl hmn fun σ' c ks S' hn' hc0 hc4 hcode hkey hk3 hks => ?_
  have fin : ∀ σ2 B' adr' given' kept', LawS f B' B' adr' given' kept' σ2 → Mn B' given' kept' (i + 1) → TS C ((lawTurn P).drop 3) σ2 Q := fun σ2 B' adr' given' kept' S2 M2 =>
    law_T4 W hn hs0 S2 (by have := M2.lb; omega) fun σ3 S3 => q σ3 _ _ _ _ S3 M2
  have c3P := fun (Q : AFl → St → Prop) => law_C3 (P := P) W hn hs0 S' M hi hl hn' (Q := Q)
  have gP := fun (Q : AFl → St → Prop) (hc : c = 1 ∨ c = 2) => law_G (P := P) W hn hs0 hfr hf S' M (by omega) hc hks hk3 hcode hkey (Q := Q)
  have aP := fun (Q : AFl → St → Prop) (hc : c = 0) => law_A (P := P) W hn hs0 hfr hf S' M (by omega) hks hk3 (by rw [hcode, hc]) hkey (Q := Q)
  unfold c3Body at c3P
  unfold callBody at gP aP
  unfold lawTurn lawBody at c3P gP aP fin ⊢
  unfold lawD at hs c3P gP aP fin ⊢; dsimp only [List.drop] at hs c3P gP aP fin ⊢
  walk_at "ws"
  refine TCmp.eqD (n := 0) (m := 0) hu (.int _ _) (.int _ _) (by decide) (by decide) ?_
  by_cases h3 : c = 3
  · rw [decide_eq_true (show AV.int c = AV.int 3 by rw [h3])]
    walk_at "w"
    simp only [if_true]
    exact c3P _ fun σ2 B' adr' given' kept' S2 M2 => fin σ2 B' adr' given' kept' S2 M2
  · rw [decide_eq_false (show ¬ AV.int c = AV.int 3 from fun h => h3 (AV.int.inj h))]
    walk_at "w"
    simp only [Bool.false_eq_true, if_false]
    by_cases h0 : c = 0
    · exact aP _ h0 fun σ2 B' adr' S2 M2 => fin σ2 B' adr' _ _ S2 M2
    · exact gP _ (by omega) fun σ2 B' adr' given' S2 M2 => fin σ2 B' adr' given' _ S2 M2

/-! numerals -/
theorem ofString_inj {a b : String} (h : Str.ofString a = Str.ofString b) : a = b := by
  rw [Str.ofString_eq_toList, Str.ofString_eq_toList] at h
  have h1 := congrArg (fun s : Str => s.cps.toList) h
  simp only at h1
  have h2 : a.toList = b.toList := (List.map_inj_right fun x y e => Char.ext (UInt32.toNat_inj.mp e)).mp h1
  exact String.toList_inj.mp h2
theorem strOk_ofString (s : String) : PyData.strOk (Str.ofString s) = true := by
  unfold PyData.strOk
  rw [Str.ofString_eq_toList]
  rw [Array.all_eq_true]
  intro i hi
  simp only [List.getElem_toArray, List.getElem_map, decide_eq_true_eq]
  have h := (s.toList[i]'(by simpa using hi)).valid
  unfold UInt32.isValidChar Nat.isValidChar at h
  show (s.toList[i]'(by simpa using hi)).val.toNat < _
  omega
def num (n : Nat) : Str := Str.ofString (toString (n : Int))
theorem num_inj {a b : Nat} (h : num a = num b) : a = b := by
  have : Nat.repr a = Nat.repr b := ofString_inj h
  exact Nat.repr_inj.mp this
theorem num_three : ∀ k < 50, num k ∉ three := by decide +kernel
/-- names at the end: k numerals laid -/
structure Fin1 (B : List BRow) (given kept : List Path) (k : Nat) : Prop where
  nm : ∀ r ∈ B, ∀ x, Key.nm x ∈ r.1 → x ∈ three ∨ ∃ j, j < k ∧ x = num j
  lb : B.length ≤ 300 + k
  lg : given.length ≤ 41
  lk : kept.length ≤ 40
  kl : ∀ p ∈ kept, p.length ≤ 7

theorem LawS.range {f : Fixed} {B Bk : List BRow} {adr : Path → Addr} {given kept : List Path} {σ : St} (S : LawS f B Bk adr given kept σ) {r : Addr} {N : Nat} (h : σ.H r = some (.rng N)) : LawS { f with r := r, N := N } B Bk adr given kept σ :=
  ⟨S.mm, S.mb, S.mg, S.mkp, S.md, S.hx, S.hdx, S.hb, S.hg, S.hk, S.hd, h, S.I, S.ap, S.ne, S.gv, S.kp⟩

theorem law_F1 {P : Params} {C : Cx} {n : Nat} (W : Wd (hd01.heap_39 P) C n) (hn : n ≤ 20) (hs : C.env.scope = (lawD P).2.1) {f : Fixed} {B : List BRow} {adr : Path → Addr} {given kept : List Path} {σ : St} (S : LawS f B B adr given kept σ) (M : Fin1 B given kept 0) {st : Stmt} (hst : ((lawBody P).drop 4).head? = some st) {Q : AFl → St → Prop}
    (q : ∀ σ' B' adr' f', LawS f' B' B' adr' given kept σ' → Fin1 B' given kept given.length → Q .next σ') : TX C st σ Q := by
  have hh := W.hand
  have hu := W.unit (by omega)
  have hK := W.K
  have mg := S.mg
  have hgl := M.lg
  unfold lawBody at hst
  unfold lawD at hs hst; dsimp only [List.drop, List.head?] at hs hst
  cases hst
  refine TX.for W.calm.loops ?_ (by intro _; rfl)
  walk_at "ws"
  refine TCall.lenL S.hg (by rw [List.length_map]; omega) ?_
  rw [List.length_map]
  walk_at "ws"
  refine TCall.range fun r hr => ?_
  have S0 := (S.ext (σ' := σ.put r (.rng given.length)) (put_ext hr) fun _ _ => rfl).range (r := r) (N := given.length) AH.put_self
  generalize { f with r := r, N := given.length } = f0 at S0
  refine ⟨intsA given.length, _, fun i σ => ∃ B' adr', LawS f0 B' B' adr' given kept σ ∧ Fin1 B' given kept i ∧ σ.H r = some (.rng given.length), IterAs.range hh (by omega), fun i σ _ ⟨_, _, _, _, h⟩ => h, ⟨B, adr, S0, M, AH.put_self⟩, ?_, ?_⟩
  · rintro i y σ2 hy ⟨B', adr', S2, M2, hr2⟩
    obtain ⟨hi, rfl⟩ := intsA_get hy
    have mg2 := S2.mg
    have mb2 := S2.mb
    have hB := M2.lb
    have hgi := S2.gv _ (List.getElem_mem hi)
    have hga := held_at (adr := adr') hi
    generalize hpi : given[i] = p at hgi hga
    obtain ⟨hp, hp6⟩ := hgi
    have hnot : Key.nm (num i) ∉ belowB B' p := fun h => by
      obtain ⟨t, ht⟩ := mem_below.mp h
      rcases M2.nm _ ht (num i) (by simp) with h | ⟨j, hj, e⟩
      · exact num_three i (by omega) h
      · have := num_inj e; omega
    have hlog : ((i : Nat) : Int).natAbs.log2 < 1920 := by
      rw [Int.natAbs_natCast]
      have h1 : i.log2 ≤ i := Nat.log2_le_self i
      omega
    walk_at "ws"
    refine TSub.list so_name S2.hg (by omega) (by omega) (by rw [Int.toNat_natCast]; exact hga) ?_
    unfold heldA
    walk_at "ws"
    refine TSub.tup so_const (by decide) (by decide) (j := 0) (by rfl) (by rfl) ?_
    walk_at "ws"
    refine TCall.str hlog ?_
    show TSet C (.con (.ref (adr' p))) (.str (num i)) _ _ _
    have hv := S2.I.noVal hp hnot
    have hne : r ≠ adr' p := fun e => by have := S2.I.tab p hp; rw [← e, hr2] at this; cases this
    refine TSet.dict (es := entsB B' adr' p) (S2.I.tab p hp) (by have := entsB_len (B := B') (adr := adr') (p := p); omega) ?_
    rw [storeA_new hv]
    have G := Grown.add (H := σ2.H) (H' := σ2.H.put (adr' p) (.dict (entsB B' adr' p ++ [(num i, AV.int ((i : Nat) : Int))]))) S2.I (k := .nm (num i)) (t := .int i) (d := 0) hp (.inl ⟨rfl, _, rfl⟩) hnot (strOk_ofString _) (by omega)
      (fun h => h.elim) (fun _ => by simp only [valT, nameK]; exact AH.put_self) (fun h => by cases h) (fun a o hne h => (AH.put_ne hne).trans h)
    have S3 := (S2.set (y := "k") (v := .int ((i : Nat) : Int)) (by decide)).grown G
    have hk3 : (⟨(σ2.set "k" (.int ((i : Nat) : Int))).m, σ2.H.put (adr' p) (.dict (entsB B' adr' p ++ [(num i, AV.int ((i : Nat) : Int))]))⟩ : St).m "k" = some (.int ((i : Nat) : Int)) := mk_m.trans set_same
    have hr3 : (⟨(σ2.set "k" (.int ((i : Nat) : Int))).m, σ2.H.put (adr' p) (.dict (entsB B' adr' p ++ [(num i, AV.int ((i : Nat) : Int))]))⟩ : St).H r = some (.rng given.length) := (AH.put_ne hne).trans hr2
    change TS C _ (⟨(σ2.set "k" (.int ((i : Nat) : Int))).m, σ2.H.put (adr' p) (.dict (entsB B' adr' p ++ [(num i, AV.int ((i : Nat) : Int))]))⟩ : St) _
    generalize (⟨(σ2.set "k" (.int ((i : Nat) : Int))).m, σ2.H.put (adr' p) (.dict (entsB B' adr' p ++ [(num i, AV.int ((i : Nat) : Int))]))⟩ : St) = σ3 at S3 hk3 hr3 ⊢
    have hga3 := held_at (adr := adrN adr' (p ++ [.nm (num i)]) 0) hi
    rw [hpi] at hga3
    have mg3 := S3.mg
    have mb3 := S3.mb
    walk_at "ws"
    refine TMeth.list S3.hb PySem.F.slot_list_append rfl ?_
    walk_at "ws"
    refine TSub.list so_name S3.hg (by omega) (by omega) (by rw [Int.toNat_natCast]; exact hga3) ?_
    unfold heldA
    walk_at "ws"
    refine TSub.tup so_const (by decide) (by decide) (j := 1) (by rfl) (by rfl) ?_
    walk_at "ws"
    refine TCall.str hlog ?_
    walk_at "ws"
    refine ⟨by simp, ?_⟩
    refine TBin.addT (by simp; omega) ?_
    rw [show AV.tup (p.map keyA ++ [AV.str (Str.ofString (toString ((i : Nat) : Int)))]) = pathA (p ++ [.nm (num i)]) from pathA_snoc (k := .nm (num i))]
    walk_at "ws"
    refine ⟨by simp, ?_⟩
    walk_at "ws"
    refine TCall.append S3.hb (by rw [List.length_map]; omega) ?_
    walk_at "ws"
    have S4 := S3.book (Bk' := B' ++ [(p ++ [.nm (num i)], .int i)])
    have e : (B' ++ [(p ++ [Key.nm (num i)], Th.int i)]).map browA = B'.map browA ++ [AV.tup [pathA (p ++ [.nm (num i)]), AV.int ((i : Nat) : Int)]] := by rw [List.map_append]; rfl
    rw [e] at S4
    refine ⟨_, _, S4, ⟨fun r hr x hx => ?_, by rw [List.length_append, List.length_singleton]; omega, M2.lg, M2.lk, M2.kl⟩, put_other S3.hb hr3 (by intro x; cases x)⟩
    rcases List.mem_append.mp hr with hr | hr
    · rcases M2.nm r hr x hx with h | ⟨j, h1, h2⟩
      · exact .inl h
      · exact .inr ⟨j, by omega, h2⟩
    · rw [List.mem_singleton.mp hr] at hx
      rcases List.mem_append.mp hx with hx | hx
      · rcases M2.nm _ hp x hx with h | ⟨j, h1, h2⟩
        · exact .inl h
        · exact .inr ⟨j, by omega, h2⟩
      · have := List.mem_singleton.mp hx; cases this
        exact .inr ⟨i, by omega, rfl⟩
  · rintro σ2 ⟨B', adr', S2, M2, hr2⟩
    rw [show (intsA given.length).length = given.length by simp [intsA]] at M2
    exact q σ2 B' adr' f0 S2 M2

theorem law_F2 {P : Params} {C : Cx} {n : Nat} (W : Wd (hd01.heap_39 P) C n) (hn : n ≤ 20) (hs : C.env.scope = (lawD P).2.1) {f : Fixed} {B : List BRow} {adr : Path → Addr} {given kept : List Path} {σ : St} (S : LawS f B B adr given kept σ) {g : Nat} (hg : g ≤ 41) (M : Fin1 B given kept g) {st : Stmt} (hst : ((lawBody P).drop 5).head? = some st) {Q : AFl → St → Prop}
    (q : ∀ σ' B' adr', LawS f B' B' adr' given kept σ' → B'.length ≤ 400 → Q .next σ') : TX C st σ Q := by
  have hh := W.hand
  have hu := W.unit (by omega)
  have hK := W.K
  have mk := S.mkp
  have hkl := M.lk
  have hB0 := M.lb
  unfold lawBody at hst
  unfold lawD at hs hst; dsimp only [List.drop, List.head?] at hs hst
  cases hst
  refine TX.for W.calm.loops ?_ (by intro _; rfl)
  walk_at "ws"
  have held : ∀ adr', (∀ p ∈ kept, adr' p = adr p) → kept.map (heldA adr') = kept.map (heldA adr) := fun adr' h => List.map_congr_left fun p hp => by unfold heldA; rw [h p hp]
  refine ⟨kept.map (heldA adr), _, fun i σ => ∃ B' adr', LawS f B' B' adr' given kept σ ∧ B'.length ≤ B.length + i ∧ ∀ p ∈ kept, adr' p = adr p, IterAs.list hh, fun i σ _ ⟨B', adr', S', _, h⟩ => by rw [← held adr' h]; exact S'.hk, ⟨B, adr, S, by omega, fun _ _ => rfl⟩, ?_, ?_⟩
  · rintro i y σ2 hy ⟨B', adr', S2, hB, hsame⟩
    have hi : i < kept.length := by simpa using (List.getElem?_eq_some_iff.mp hy).1
    rw [held_at hi] at hy
    have hpk := List.getElem_mem hi
    generalize kept[i] = p at hy hpk
    obtain rfl := Option.some.inj hy
    have hp := S2.kp _ hpk
    have hp7 := M.kl _ hpk
    have hadr := hsame p hpk
    show TAsg C _ (.tup [.con (.ref (adr p)), pathA p]) σ2 _
    rw [← hadr]
    walk_at "w"
    walk_at "w"
    walk_at "w"
    have S3 : LawS f B' B' adr' given kept ((σ2.set "held" (.con (.ref (adr' p)))).set "spot" (pathA p)) := (S2.set (by decide)).set (by decide)
    have d1 : ((σ2.set "held" (.con (.ref (adr' p)))).set "spot" (pathA p)).m "held" = some (.con (.ref (adr' p))) := by walk_at "lk"
    have d2 : ((σ2.set "held" (.con (.ref (adr' p)))).set "spot" (pathA p)).m "spot" = some (pathA p) := by walk_at "lk"
    generalize ((σ2.set "held" (.con (.ref (adr' p)))).set "spot" (pathA p)) = σ3 at S3 d1 d2 ⊢
    have mb3 := S3.mb
    have hbl := below_len (B := B') (p := p)
    have hil : (itemsB B' adr' p).length = (belowB B' p).length := itemsB_len
    walk_at "ws"
    refine TMeth.list S3.hb PySem.F.slot_list_append rfl ?_
    walk_at "ws"
    refine TCall.lenL (S3.I.lst p hp) (by omega) ?_
    rw [hil]
    walk_at "ws"
    refine ⟨by simp, ?_⟩
    refine TBin.addT (by simp; omega) ?_
    rw [show AV.tup (p.map keyA ++ [AV.int (((belowB B' p).length : Nat) : Int)]) = pathA (p ++ [.pl (belowB B' p).length]) from pathA_snoc (k := .pl (belowB B' p).length)]
    walk_at "ws"
    refine TCall.lenL (S3.I.lst p hp) (by omega) ?_
    rw [hil]
    walk_at "ws"
    refine ⟨by simp, ?_⟩
    walk_at "ws"
    refine TCall.append S3.hb (by rw [List.length_map]; omega) ?_
    have S4 := S3.book (Bk' := B' ++ [(p ++ [.pl (belowB B' p).length], .int (belowB B' p).length)])
    have e : (B' ++ [(p ++ [Key.pl (belowB B' p).length], Th.int (belowB B' p).length)]).map browA = B'.map browA ++ [AV.tup [pathA (p ++ [.pl (belowB B' p).length]), AV.int (((belowB B' p).length : Nat) : Int)]] := by rw [List.map_append]; rfl
    rw [e] at S4
    have d3 : (σ3.put f.bk (.list (B'.map browA ++ [AV.tup [pathA (p ++ [.pl (belowB B' p).length]), AV.int (((belowB B' p).length : Nat) : Int)]]))).m "held" = some (.con (.ref (adr' p))) := d1
    walk_at "w"
    generalize (σ3.put f.bk (.list (B'.map browA ++ [AV.tup [pathA (p ++ [.pl (belowB B' p).length]), AV.int (((belowB B' p).length : Nat) : Int)]]))) = σ4 at S4 d3 ⊢
    walk_at "ws"
    refine TMeth.list (S4.I.lst p hp) PySem.F.slot_list_append rfl ?_
    walk_at "ws"
    refine TCall.lenL (S4.I.lst p hp) (by omega) ?_
    rw [hil]
    walk_at "ws"
    refine TCall.append (S4.I.lst p hp) (by omega) ?_
    walk_at "ws"
    have hnk : Key.pl (belowB B' p).length ∉ belowB B' p := fun h => by
      rw [S4.I.row _ hp] at h
      obtain ⟨j, hj, e⟩ := List.mem_map.mp h
      have := Key.pl.inj e
      rw [List.length_map, List.length_range] at this
      have := List.mem_range.mp hj
      omega
    have G := Grown.add (H := σ4.H) (H' := σ4.H.put (adr' p) (.list (itemsB B' adr' p ++ [AV.int (((belowB B' p).length : Nat) : Int)]))) S4.I (t := .int (belowB B' p).length) (d := 0) hp (.inr ⟨rfl, rfl⟩) hnk trivial hp7
      (fun h => h.elim) (fun h => by cases h) (fun _ => by simp only [valT]; exact AH.put_self) (fun a o hne2 h => (AH.put_ne hne2).trans h)
    refine ⟨_, _, S4.grown G, by rw [List.length_append, List.length_singleton]; omega, fun p' hp' => (G.same p' _ (S4.kp p' hp')).trans (hsame p' hp')⟩
  · rintro σ2 ⟨B', adr', S2, hB, _⟩
    rw [List.length_map] at hB
    exact q σ2 B' adr' S2 (by omega)

theorem law_main {P : Params} {C : Cx} {n : Nat} (W : Wd (hd01.heap_39 P) C n) (hn : n ≤ 20) (hs : C.env.scope = (lawD P).2.1) (hfr : C.A.frames = some [C.env]) (hf : C.env.frame = some C.env.locals) {f : Fixed} {B : List BRow} {adr : Path → Addr} {given kept : List Path} {σ : St}
    (S0 : ∀ r, σ.H r = none → LawS { f with r := r, N := f.ds.length } B B adr given kept (σ.put r (.rng f.ds.length))) (md : σ.m "digits" = some (.con (.ref f.dl))) (hd : σ.H f.dl = some (.list (f.ds.map .int))) (M : Mn B given kept 0) (hl : f.ds.length ≤ 40) {st : Stmt} (hst : ((lawBody P).drop 3).head? = some st) {Q : AFl → St → Prop}
    (q : ∀ σ' B' adr' given' kept' f', LawS f' B' B' adr' given' kept' σ' → Mn B' given' kept' f.ds.length → Q .next σ') : TX C st σ Q := by
  have hh := W.hand
  have hu := W.unit (by omega)
  have hK := W.K
  have hs0 := hs
  have turnP := fun (f0 : Fixed) (B : List BRow) (adr : Path → Addr) (given kept : List Path) (σ : St) (S : LawS f0 B B adr given kept σ) (i : Nat) (M : Mn B given kept i) (Q : AFl → St → Prop) => law_turn (P := P) W hn hs0 hfr hf S M (Q := Q)
  unfold lawTurn lawBody at turnP
  unfold lawBody at hst
  unfold lawD at hs hst turnP; dsimp only [List.drop, List.head?] at hs hst turnP
  cases hst
  refine TX.for W.calm.loops ?_ (by intro _; rfl)
  walk_at "ws"
  refine TCall.lenL hd (by rw [List.length_map]; omega) ?_
  rw [List.length_map]
  walk_at "ws"
  refine TCall.range fun r hr => ?_
  have S1 := S0 r hr
  have hds : ({ f with r := r, N := f.ds.length } : Fixed).ds = f.ds := rfl
  have hfr0 : ({ f with r := r, N := f.ds.length } : Fixed).r = r := rfl
  have hfN : ({ f with r := r, N := f.ds.length } : Fixed).N = f.ds.length := rfl
  generalize ({ f with r := r, N := f.ds.length } : Fixed) = f0 at S1 hds hfr0 hfN
  refine ⟨intsA f.ds.length, _, fun i σ => ∃ B' adr' given' kept', LawS f0 B' B' adr' given' kept' σ ∧ Mn B' given' kept' i, IterAs.range hh (by omega), fun i σ _ ⟨_, _, _, _, S', _⟩ => by
      have := S'.hr
      rw [hfr0, hfN] at this
      exact this, ⟨B, adr, given, kept, S1, M⟩, ?_, ?_⟩
  · rintro i y σ2 hy ⟨B', adr', given', kept', S2, M2⟩
    obtain ⟨hi, rfl⟩ := intsA_get hy
    walk_at "w"
    walk_at "w"
    exact turnP f0 _ _ _ _ _ (S2.set (by decide)) i M2 _ (by rw [hds]; exact hi) (by rw [hds]; exact hl) set_same fun σ' B'' adr'' given'' kept'' S3 M3 => ⟨B'', adr'', given'', kept'', S3, M3⟩
  · rintro σ2 ⟨B', adr', given', kept', S2, M2⟩
    rw [show (intsA f.ds.length).length = f.ds.length by simp [intsA]] at M2
    exact q σ2 _ _ _ _ f0 S2 M2

theorem digits_call {P : Params} {C : Cx} {n : Nat} {σ : St} (W : Wd (hd01.heap_39 P) C n) (hn : n ≤ 40) {l : Addr} {vs : List Value} {ns : List Int} (hl : C.h₀.IsList l vs.toArray) (hr : VRels C.h₀ vs (ns.map .int)) (hz : ns.length ≤ 63) {Q : AV → St → Prop}
    (fin : ∀ (ds : List Int) (a : Addr) H', ds.length ≤ 40 → H' a = some (.list (ds.map .int)) → σ.H a = none → Ext σ.H H' → Q (.con (.ref a)) ⟨σ.m, H'⟩) : TCall C (.ref 57) [.con (.ref l), .int 7872, .int 40] σ Q := by
  have hK := W.K
  refine TCall.user (body := (digitsD P).1) (scope := (digitsD P).2.1) (fd := (digitsD P).2.2.1) (by rw [hK]; exact (digitsD P).2.2.2) (ps := ["script", "base", "most"]) (ds := []) rfl (by simp) (W.room (by omega)) (by rfl) ?_ ?_
  · intro vs s h X
    obtain ⟨v, w, u, rfl⟩ := three_of h
    exact kp_binds X fun S => by rw [hK]; rfl
  · intro env hk eg eb hs
    refine TV.mono (digits_walk P (W.callee (hk := hk) (eg := eg) (eb := eb)) (by omega) hs (l := l) (vs := vs) (ns := ns) hl hr hz (by rfl) (by rfl) (by rfl)) ?_
    rintro fl σ' ⟨ds, a, h1, h2, e, h3, h4, h5⟩
    rw [e]
    exact fin ds a σ'.H h1 h3 h4 h5

def B0 : List BRow := [([], .tab)]
theorem kids0 {p : Path} : kids B0 p = [] := by
  unfold kids B0
  simp
theorem mem_B0 {p : Path} {t : Th} (h : (p, t) ∈ B0) : p = [] ∧ t = .tab := by
  unfold B0 at h
  have := List.mem_singleton.mp h
  exact ⟨(Prod.mk.inj this).1, (Prod.mk.inj this).2⟩
theorem inv0 {H : AH} {d : Addr} (h : H d = some (.dict [])) : Inv B0 (fun _ => d) H := by
  refine ⟨by simp [B0], by simp [B0], fun p k t h => ?_, fun p h => ?_, fun r hr k hk => ?_, fun r hr => ?_, fun p hp => ?_, fun p hp => ?_, fun p q t u h1 _ h2 _ _ => ?_⟩
  · have := (mem_B0 h).1; simp at this
  · have := (mem_B0 h).2; cases this
  · obtain ⟨q, t⟩ := r; have := (mem_B0 hr).1; subst this; cases hk
  · obtain ⟨q, t⟩ := r; have := (mem_B0 hr).1; subst this; exact Nat.zero_le _
  · unfold entsB; rw [kids0]; exact h
  · have := (mem_B0 hp).2; cases this
  · rw [(mem_B0 h1).1, (mem_B0 h2).1]
theorem mn0 : Mn B0 [[]] [] 0 := by
  refine ⟨⟨fun p i t h => ?_, fun p h => ?_⟩, fun r hr x hx => ?_, by simp [B0], by simp, by simp, by simp⟩
  · have := (mem_B0 h).1; simp at this
  · have := (mem_B0 h).2; cases this
  · obtain ⟨q, t⟩ := r; have := (mem_B0 hr).1; subst this; cases hx
theorem ne_of_some {H : AH} {a b : Addr} {o v : AO} (h : H a = some o) (k : H b = some v) (n : o ≠ v) : a ≠ b := fun e => by rw [e, k] at h; exact n (Option.some.inj h.symm)
theorem ne_of_none {H : AH} {a b : Addr} {o : AO} (h : H a = some o) (k : H b = none) : a ≠ b := fun e => by rw [e, k] at h; cases h

theorem law_walk {P : Params} {C : Cx} {n : Nat} {σ : St} (W : Wd (hd01.heap_39 P) C n) (hn : n ≤ 20) (hs : C.env.scope = (lawD P).2.1) (hfr : C.A.frames = some [C.env]) (hf : C.env.frame = some C.env.locals) {l : Addr} {vs : List Value} {ns : List Int} (hl : C.h₀.IsList l vs.toArray) (hr : VRels C.h₀ vs (ns.map .int)) (hz : ns.length ≤ 63)
    (hsc : σ.m "script" = some (.con (.ref l))) : TS C (lawBody P) σ fun fl _ => retOf fl = .con (.bool true) := by
  have hh := W.hand
  have hu := W.unit (by omega)
  have hK := W.K
  have hs0 := hs
  have hs' := hs
  have mainP := fun (f : Fixed) (B : List BRow) (adr : Path → Addr) (given kept : List Path) (σ : St) => law_main (P := P) W hn hs0 hfr hf (f := f) (B := B) (adr := adr) (given := given) (kept := kept) (σ := σ)
  have f1P := fun (f : Fixed) (B : List BRow) (adr : Path → Addr) (given kept : List Path) (σ : St) (S : LawS f B B adr given kept σ) => law_F1 (P := P) W hn hs0 S
  have f2P := fun (f : Fixed) (B : List BRow) (adr : Path → Addr) (given kept : List Path) (σ : St) (S : LawS f B B adr given kept σ) (g : Nat) => law_F2 (P := P) W hn hs0 S (g := g)
  have lastP := fun (f : Fixed) (B : List BRow) (adr : Path → Addr) (given kept : List Path) (σ : St) (S : LawS f B B adr given kept σ) => law_last (P := P) W hn hs0 S
  unfold lawBody at mainP f1P f2P lastP ⊢
  unfold lawD at hs hs' mainP f1P f2P lastP ⊢; dsimp only [List.drop] at hs hs' mainP f1P f2P lastP ⊢
  walk_at "w"
  refine TX.assignSwap (names := ["machine", "book"]) hh ?_ (by rfl) (swapped_of hs' (by rfl))
  walk_at "ws"
  refine ⟨_, rfl, Cl.ref (by rw [hK]; rfl), ?_⟩
  refine new_call P W (by omega) fun x dx d n1 n2 n3 k1 k2 k3 => ?_
  walk_at "ws"
  refine ⟨by simp, ?_⟩
  walk_at "ws"
  refine ⟨by simp, ?_⟩
  walk_at "ws"
  refine ⟨by simp, fun bk hbk => ?_⟩
  walk_at "ws"
  refine ⟨by simp, ?_⟩
  refine ⟨_, rfl, rfl, ?_⟩
  show TOrd C [_, _] [_, _] _ _
  refine TOrd.consB ?_
  walk_at "w"
  refine TOrd.consB ?_
  walk_at "w"
  walk_at "w"
  have hx1 : (((((σ.put d (.dict [])).put dx (.dict [("dict", .con (.ref d))])).put x (.inst 46 dx)).put bk (.list [AV.tup [AV.tup [], AV.str "table"]])).H x = some (.inst 46 dx)) := put_keep hbk AH.put_self
  have hdx1 : (((((σ.put d (.dict [])).put dx (.dict [("dict", .con (.ref d))])).put x (.inst 46 dx)).put bk (.list [AV.tup [AV.tup [], AV.str "table"]])).H dx = some (.dict [("dict", .con (.ref d))])) := put_keep hbk ((AH.put_ne n1.symm).trans AH.put_self)
  have hd1 : (((((σ.put d (.dict [])).put dx (.dict [("dict", .con (.ref d))])).put x (.inst 46 dx)).put bk (.list [AV.tup [AV.tup [], AV.str "table"]])).H d = some (.dict [])) := put_keep hbk ((AH.put_ne n2.symm).trans ((AH.put_ne n3.symm).trans AH.put_self))
  have hbk1 : (((((σ.put d (.dict [])).put dx (.dict [("dict", .con (.ref d))])).put x (.inst 46 dx)).put bk (.list [AV.tup [AV.tup [], AV.str "table"]])).H bk = some (.list [AV.tup [AV.tup [], AV.str "table"]])) := AH.put_self
  have hsc1 : ((((σ.put d (.dict [])).put dx (.dict [("dict", .con (.ref d))])).put x (.inst 46 dx)).put bk (.list [AV.tup [AV.tup [], AV.str "table"]])).m "script" = some (.con (.ref l)) := hsc
  generalize ((((σ.put d (.dict [])).put dx (.dict [("dict", .con (.ref d))])).put x (.inst 46 dx)).put bk (.list [AV.tup [AV.tup [], AV.str "table"]])) = σ1 at hx1 hdx1 hd1 hbk1 hsc1 ⊢
  -- behind the first statement
  have mx1 : (σ1.set "book" (.con (.ref bk))).m "book" = some (.con (.ref bk)) := set_same
  generalize hσ2 : (σ1.set "book" (.con (.ref bk))).set "machine" (.con (.ref x)) = σ2
  have mm : σ2.m "machine" = some (.con (.ref x)) := by rw [← hσ2]; exact set_same
  have mb : σ2.m "book" = some (.con (.ref bk)) := by rw [← hσ2]; exact (set_ne (by decide)).trans set_same
  have msc : σ2.m "script" = some (.con (.ref l)) := by rw [← hσ2]; exact ((set_ne (by decide)).trans (set_ne (by decide))).trans hsc1
  have hH : σ2.H = σ1.H := by rw [← hσ2]; rfl
  rw [← hH] at hx1 hdx1 hd1 hbk1
  clear hσ2 mx1 hsc1
  refine TS.cons ?_
  refine TX.assignSwap (names := ["given", "kept"]) hh ?_ (by rfl) (swapped_of hs' (by rfl))
  walk_at "ws"
  refine TAttr.inst hx1 hdx1 (by rw [hK]; rfl) (by rw [hK]; rfl) (by rw [hK]; rfl) (a := .con (.ref d)) (by rfl) ⟨_, rfl⟩ ?_
  walk_at "ws"
  refine ⟨by simp, ?_⟩
  walk_at "ws"
  refine ⟨by simp, ?_⟩
  walk_at "ws"
  refine ⟨by simp, fun gl hgl => ?_⟩
  walk_at "ws"
  refine ⟨by simp, fun kl hkl => ?_⟩
  walk_at "ws"
  refine ⟨by simp, ?_⟩
  refine ⟨_, rfl, rfl, ?_⟩
  show TOrd C [_, _] [_, _] _ _
  refine TOrd.consB ?_
  walk_at "w"
  refine TOrd.consB ?_
  walk_at "w"
  walk_at "w"
  have g2 : σ2.H gl = none := hgl
  have g3 : (σ2.H.put gl (.list [AV.tup [.con (.ref d), AV.tup []]])) kl = none := hkl
  have n31 : kl ≠ gl := fun e => by subst e; rw [AH.put_self] at g3; cases g3
  have g3' : σ2.H kl = none := (AH.put_ne n31).symm.trans g3
  have E1 : Ext σ2.H ((σ2.H.put gl (.list [AV.tup [.con (.ref d), AV.tup []]])).put kl (.list [])) := ((Ext.refl _).put g2).put g3'
  generalize hσ3 : (((σ2.put gl (.list [AV.tup [.con (.ref d), AV.tup []]])).put kl (.list [])).set "kept" (.con (.ref kl))).set "given" (.con (.ref gl)) = σ3
  have hH3 : σ3.H = (σ2.H.put gl (.list [AV.tup [.con (.ref d), AV.tup []]])).put kl (.list []) := by rw [← hσ3]; rfl
  have mm3 : σ3.m "machine" = some (.con (.ref x)) := by rw [← hσ3]; exact ((set_ne (by decide)).trans (set_ne (by decide))).trans mm
  have mb3 : σ3.m "book" = some (.con (.ref bk)) := by rw [← hσ3]; exact ((set_ne (by decide)).trans (set_ne (by decide))).trans mb
  have msc3 : σ3.m "script" = some (.con (.ref l)) := by rw [← hσ3]; exact ((set_ne (by decide)).trans (set_ne (by decide))).trans msc
  have mg3 : σ3.m "given" = some (.con (.ref gl)) := by rw [← hσ3]; exact set_same
  have mk3 : σ3.m "kept" = some (.con (.ref kl)) := by rw [← hσ3]; exact (set_ne (by decide)).trans set_same
  rw [← hH3] at E1
  have hx3 := E1 _ _ hx1
  have hdx3 := E1 _ _ hdx1
  have hd3 := E1 _ _ hd1
  have hbk3 := E1 _ _ hbk1
  have hgl3 : σ3.H gl = some (.list [AV.tup [.con (.ref d), AV.tup []]]) := by rw [hH3]; exact (AH.put_ne n31.symm).trans AH.put_self
  have hkl3 : σ3.H kl = some (.list []) := by rw [hH3]; exact AH.put_self
  have nbg : bk ≠ gl := ne_of_none hbk1 g2
  have nbk : bk ≠ kl := ne_of_none hbk1 g3'
  clear hσ3
  walk_at "ws"
  refine ⟨_, rfl, Cl.ref (by rw [hK]; rfl), ?_⟩
  walk_at "ws"
  refine digits_call W (by omega) hl hr hz fun ds dl H4 hds hdl hdn hE => ?_
  walk_at "w"
  have hx4 := hE _ _ hx3
  have hdx4 := hE _ _ hdx3
  have hd4 := hE _ _ hd3
  have hbk4 := hE _ _ hbk3
  have hgl4 := hE _ _ hgl3
  have hkl4 := hE _ _ hkl3
  have m4 : ∀ y : Str, y ≠ "digits" → ((⟨σ3.m, H4⟩ : St).set "digits" (.con (.ref dl))).m y = σ3.m y := fun y hy => set_ne hy
  have md4 : ((⟨σ3.m, H4⟩ : St).set "digits" (.con (.ref dl))).m "digits" = some (.con (.ref dl)) := set_same
  have hH4 : ((⟨σ3.m, H4⟩ : St).set "digits" (.con (.ref dl))).H = H4 := rfl
  generalize ((⟨σ3.m, H4⟩ : St).set "digits" (.con (.ref dl))) = σ4 at m4 md4 hH4 ⊢
  rw [← hH4] at hdl hx4 hdx4 hd4 hbk4 hgl4 hkl4
  refine TS.cons ?_
  refine mainP ⟨x, dx, bk, gl, kl, dl, 0, 0, ds⟩ B0 (fun _ => d) [[]] [] σ4 (fun r hr4 => ?_) md4 hdl mn0 hds rfl fun σ5 B5 adr5 given5 kept5 f5 S5 M5 => ?_
  · have nad : ∀ a, Inv.Adr B0 (fun _ => d) a → a = d := fun a ⟨p, t, _, _, e⟩ => e.symm
    have k := fun {a : Addr} {o : AO} (h : σ4.H a = some o) => put_keep (o := .rng ds.length) hr4 h
    refine ⟨(m4 _ (by decide)).trans mm3, (m4 _ (by decide)).trans mb3, (m4 _ (by decide)).trans mg3, (m4 _ (by decide)).trans mk3, md4, k hx4, k hdx4, k hbk4, k hgl4, k hkl4, k hdl, AH.put_self, inv0 (k hd4), fun a ha => ?_, ?_, fun p hp => ?_, fun p hp => (nomatch hp)⟩
    · rw [nad a ha]
      exact ⟨n3.symm, ne_of_some hd4 hbk4 (by intro x; cases x), ne_of_some hd4 hgl4 (by intro x; cases x), ne_of_some hd4 hkl4 (by intro x; cases x), ne_of_some hd4 hdl (by intro x; cases x)⟩
    · exact ⟨nbg, nbk, n31.symm, ne_of_none hbk3 hdn, ne_of_none hgl3 hdn, ne_of_none hkl3 hdn⟩
    · rw [List.mem_singleton.mp hp]
      exact ⟨by simp [B0], Nat.zero_le _⟩
  · have hdl5 : (⟨x, dx, bk, gl, kl, dl, 0, 0, ds⟩ : Fixed).ds.length = ds.length := rfl
    rw [hdl5] at M5
    refine TS.cons ?_
    refine f1P f5 B5 adr5 given5 kept5 σ5 S5 ⟨fun r hr x hx => .inl (M5.nm r hr x hx), by have := M5.lb; omega, by have := M5.lg; omega, by have := M5.lk; omega, fun p hp => ?_⟩ rfl fun σ6 B6 adr6 f6 S6 M6 => ?_
    · have hp' := S5.kp p hp
      have hne := M5.T.some_ p hp'
      obtain ⟨k, hk⟩ := List.exists_mem_of_ne_nil _ hne
      obtain ⟨t, ht⟩ := mem_below.mp hk
      have := S5.I.dep _ ht
      simp at this
      omega
    · refine TS.cons ?_
      refine f2P f6 B6 adr6 given5 kept5 σ6 S6 given5.length (by have := M6.lg; omega) M6 rfl fun σ7 B7 adr7 S7 h7 => ?_
      exact lastP f6 B7 adr7 given5 kept5 σ7 S7 (by omega)

theorem ints_rel {h : Heap} : ∀ {vs : List Value} {ns : List Int}, IntsAre vs ns → VRels h vs (ns.map .int)
  | _, _, .nil => .nil
  | _, _, .cons n t r => .cons (.int n t) (ints_rel r)

def scA (l : Addr) : Str → Option AV := fun x => if x = ("script" : Str) then some (.con (.ref l)) else none
theorem law_end {w : World} {prog : Program} {s₁ : Shared} {mg mb : Str → Option Value} {p : Program} {loose : List Str} {mean : ExcName → Option Value} (KX : (hd01.heap_39 w.params).In s₁.heap) (T : Top p loose mean mg mb s₁.heap) (hg : s₁.gens = #[]) {l : Addr} {vs : List Value} {ns : List Int}
    (hL : s₁.heap.IsList l vs.toArray) (hI : IntsAre vs ns) (hz : ¬ (63 : Int) < (ns.length : Int)) {h₁ : Heap} {tk : Nat} {env : Env} (hs : env.scope = (lawD w.params).2.1) (eg : env.globals = mainGlobals) (eb : env.builtins = builtinsNs) (hc : env.cells = []) (hf : env.frame = some env.locals)
    (hl : env.locals = s₁.heap.objs.size) (F : Fr s₁.heap s₁.heap.objs.size h₁ fun x => List.lookup x [(("script" : Str), Value.ref l)].reverse) {Q : Flow → Shared → Prop} {E : Value → Shared → Prop}
    (q : ∀ s' L m, Fr s₁.heap L s'.heap m → s'.gens = #[] → s'.os = s₁.os → Q (.ret (.bool true)) s') :
    wpAny (model prog w) (callerA.deeper env) (execs (lawBody w.params) env) Q E { s₁ with heap := h₁, toks := tk } := by
  have hsys : sysModules < s₁.heap.objs.size := by
    have h1 : ∃ o, (hd01.heap_39 w.params).lookup 46 = some o := ⟨_, rfl⟩
    obtain ⟨o, ho⟩ := h1
    have h2 := Heap.lt_size (KX 46 o ho)
    exact Nat.lt_trans (show (1 : Nat) < 46 by decide) h2
  let C : Cx := { prog := prog, w := w, A := callerA.deeper env, env := env, h₀ := s₁.heap, os := s₁.os, K := hd01.heap_39 w.params, mg := mg, mb := mb, X := fun _ _ _ _ => False,
                  hK := KX, hg := T.g, hb := T.b, hlim := T.nolimit, hsys := hsys, hk := by rw [hs]; rfl, eg := eg, eb := eb, clo := fun _ _ _ _ _ _ _ _ h => h }
  have W : Wd (hd01.heap_39 w.params) C 0 := ⟨rfl, T.builtins, fun _ _ _ _ h => h, rfl, by show (1 + claimMargin + 1 : Nat) ≤ 310 + 0; decide, by show (4 + 3 : Nat) ≤ _; omega⟩
  have R0 : C.R ⟨scA l, fun _ => none⟩ { s₁ with heap := h₁, toks := tk } := by
    have hns : h₁.Ns env.locals fun x => List.lookup x [(("script" : Str), Value.ref l)].reverse := by rw [hl]; exact F.ns
    refine ⟨F.keep, ⟨_, hns, fun x hx => ?_⟩, fun x hx => ?_, fun a o e => (nomatch e), fun c hcm => ?_, ?_, fun x y c hx _ e1 _ => ?_, hg, rfl⟩
    · show ORel h₁ (List.lookup x [(("script" : Str), Value.ref l)].reverse) (if x = ("script" : Str) then some (AV.con (.ref l)) else none)
      by_cases h : x = ("script" : Str)
      · subst h
        rw [if_pos rfl]
        exact .some (VRel.con (v := .ref l) rfl)
      · rw [if_neg h]
        have : List.lookup x [(("script" : Str), Value.ref l)].reverse = none := by
          show List.lookup x [(("script" : Str), Value.ref l)] = none
          rw [List.lookup_cons]
          have : (x == ("script" : Str)) = false := by rw [beq_eq_false_iff_ne]; exact h
          rw [this]; rfl
        rw [this]; exact .none
    · exfalso
      have h1 : env.scope.names.lookup x = some .cell := hx
      rw [hs] at h1
      have h2 := mem_of_lookup h1
      revert h2
      unfold lawD; dsimp only
      simp
    · have hcl : c = env.locals := by
        have : c ∈ env.locals :: env.cells.map (·.2) := hcm
        rw [hc] at this
        simpa using this
      subst hcl
      obtain ⟨o, es, ep, e, hd', _⟩ := hns
      exact ⟨by show s₁.heap.objs.size ≤ env.locals; rw [hl]; exact Nat.le_refl _, o, e, fun xs n e2 => by rw [e2] at hd'; cases hd'⟩
    · show env.locals ∉ env.cells.map (·.2)
      rw [hc]; simp
    · have : env.cells.lookup x = some c := e1
      rw [hc] at this; cases this
  have key := law_walk (P := w.params) W (by omega) (hs : C.env.scope = (lawD w.params).2.1) rfl hf (l := l) (vs := vs) (ns := ns) hL (ints_rel hI) (by omega) (σ := ⟨scA l, fun _ => none⟩) (show scA l "script" = _ by unfold scA; rw [if_pos rfl])
  refine wpAny_mono (key _ R0 .nil) (fun f s' h => ?_) fun _ _ x => x.elim
  obtain ⟨b, σ', rf, R1, g1, e⟩ := h
  obtain ⟨m', F'⟩ := R1.fr
  have fin := q s' _ m' F' R1.gens R1.os
  cases rf with
  | ret r => simp only [retOf] at e; subst e; rw [r.con_inv]; exact fin
  | next => simp [retOf] at e
  | brk => simp [retOf] at e
  | cont => simp [retOf] at e

end Mine

theorem PySem.Challenge.cw_kq0029_01_holds : PySem.Challenge.rw_kq0029_01.Holds := by
  refine Mine.hd01 ?_
  k_go0
  rename Top _ _ _ _ _ _ => T
  rename Frag.In _ _ => KX
  rename Fr _ _ _ _ => F
  rename News _ _ _ _ => N0
  rename Heap.IsList _ _ _ => hL
  rename IntsAre _ _ => hI
  rename Shared.gens _ = _ => hg
  rename ¬ _ < _ => hc
  refine Mine.law_end KX T hg hL hI hc rfl rfl rfl rfl rfl rfl F fun s' L m F' g' o' => ?_
  refine goodW_bool F' g' (raisesW_false ?_) ?_ o'
  · wrow_none_raised
  · wrow_post
