import PyProof.Rows.All
import Wide.All
import OpenK.AllK
import Wide.FinOn
import PySem.Challenge.RW_kq0029_02
open PySem PySem.W PySem.Calls PyProof.Rows
set_option Elab.async false
set_option maxRecDepth 100000
set_option maxHeartbeats 8000000
namespace Mine

/-- abstract values: ints, texts, tuples as data; all else as it stands -/
inductive AV where
  | int (i : Int)
  | str (s : Str)
  | tup (l : List AV)
  | con (v : Value)

def plainV : Value → Bool
  | .none | .bool _ | .type _ | .builtin _ | .ref _ => true
  | _ => false

mutual
inductive VRel (h : Heap) : Value → AV → Prop
  | int (i : Int) (t : Tok) : VRel h (.int i t) (.int i)
  | str (s : Str) (t : Tok) : VRel h (.str s t) (.str s)
  | con {v : Value} (hv : plainV v = true) : VRel h v (.con v)
  | tup {a : Addr} {xs : List Value} {n : Nat} {l : List AV} : h.get? a = some ⟨.type "tuple", none, .seq xs.toArray n, #[]⟩ → VRels h xs l → VRel h (.ref a) (.tup l)
inductive VRels (h : Heap) : List Value → List AV → Prop
  | nil : VRels h [] []
  | cons {v : Value} {vs : List Value} {a : AV} {as : List AV} : VRel h v a → VRels h vs as → VRels h (v :: vs) (a :: as)
end

abbrev TupKeep (h h' : Heap) : Prop := ∀ a xs n, h.get? a = some ⟨.type "tuple", none, .seq xs n, #[]⟩ → h'.get? a = some ⟨.type "tuple", none, .seq xs n, #[]⟩

mutual
theorem VRel.keep {h h' : Heap} (k : TupKeep h h') : ∀ {v : Value} {a : AV}, VRel h v a → VRel h' v a
  | _, _, .int i t => .int i t
  | _, _, .str s t => .str s t
  | _, _, .con hv => .con hv
  | _, _, .tup e r => .tup (k _ _ _ e) (VRels.keep k r)
theorem VRels.keep {h h' : Heap} (k : TupKeep h h') : ∀ {vs : List Value} {as : List AV}, VRels h vs as → VRels h' vs as
  | _, _, .nil => .nil
  | _, _, .cons e r => .cons (VRel.keep k e) (VRels.keep k r)
end

section
variable {h : Heap} {v : Value} {a : AV} {vs ws : List Value} {as bs : List AV}
theorem VRels.length (r : VRels h vs as) : vs.length = as.length := by
  induction vs generalizing as with
  | nil => cases r; rfl
  | cons v vs ih => cases r with | cons _ r => rw [List.length_cons, List.length_cons, ih r]
theorem VRels.append (r : VRels h vs as) (q : VRels h ws bs) : VRels h (vs ++ ws) (as ++ bs) := by
  induction vs generalizing as with
  | nil => cases r; exact q
  | cons v vs ih => cases r with | cons e r => exact .cons e (ih r)
theorem VRels.one (r : VRel h v a) : VRels h [v] [a] := .cons r .nil
theorem VRels.get (r : VRels h vs as) {k : Nat} (hk : as[k]? = some a) : ∃ v, vs[k]? = some v ∧ VRel h v a := by
  induction vs generalizing as k with
  | nil => cases r; simp at hk
  | cons v vs ih =>
    cases r with
    | cons e r =>
      cases k with
      | zero => simp at hk; exact ⟨v, rfl, hk ▸ e⟩
      | succ k => exact ih r (by simpa using hk)
theorem VRels.take (r : VRels h vs as) (k : Nat) : VRels h (vs.take k) (as.take k) := by
  induction vs generalizing as k with
  | nil => cases r; simp; exact .nil
  | cons v vs ih =>
    cases r with
    | cons e r =>
      cases k with
      | zero => exact .nil
      | succ k => exact .cons e (ih r k)
theorem VRels.drop (r : VRels h vs as) (k : Nat) : VRels h (vs.drop k) (as.drop k) := by
  induction vs generalizing as k with
  | nil => cases r; simp; exact .nil
  | cons v vs ih =>
    cases r with
    | cons e r =>
      cases k with
      | zero => exact .cons e r
      | succ k => exact ih r k
theorem VRels.snoc (r : VRels h vs (as ++ [a])) : ∃ ws v, vs = ws ++ [v] ∧ VRels h ws as ∧ VRel h v a := by
  induction as generalizing vs with
  | nil =>
    cases r with
    | cons e r => cases r; exact ⟨[], _, rfl, .nil, e⟩
  | cons b as ih =>
    cases r with
    | cons e r =>
      obtain ⟨ws, v, rfl, r', e'⟩ := ih r
      exact ⟨_ :: ws, v, rfl, .cons e r', e'⟩
theorem VRels.splitAt (r : VRels h vs (as ++ bs)) : ∃ xs ys, vs = xs ++ ys ∧ VRels h xs as ∧ VRels h ys bs := by
  induction as generalizing vs with
  | nil => exact ⟨[], vs, rfl, .nil, r⟩
  | cons b as ih =>
    cases r with
    | cons e r =>
      obtain ⟨xs, ys, rfl, r1, r2⟩ := ih r
      exact ⟨_ :: xs, ys, rfl, .cons e r1, r2⟩
end

inductive ORel (h : Heap) : Option Value → Option AV → Prop
  | none : ORel h none none
  | some {v : Value} {a : AV} : VRel h v a → ORel h (some v) (some a)
theorem ORel.keep {h h' : Heap} (k : TupKeep h h') {v : Option Value} {a : Option AV} (r : ORel h v a) : ORel h' v a := by
  cases r with
  | none => exact .none
  | some e => exact .some (e.keep k)

/-- what an address of the call's own holds -/
inductive AO where
  | list (l : List AV)
  | dict (es : List (Str × AV))
  | dictE (es : List (Str × AV)) (ep : Nat)
  | inst (C dx : Addr)
  | rng (n : Nat)

abbrev AH := Addr → Option AO
structure St where
  m : Str → Option AV
  H : AH

def upd (m : Str → Option AV) (x : Str) (v : AV) : Str → Option AV := fun y => if y = x then some v else m y
def AH.put (H : AH) (a : Addr) (o : AO) : AH := fun b => if b = a then some o else H b
theorem AH.put_self {H : AH} {a : Addr} {o : AO} : H.put a o a = some o := by simp [AH.put]
theorem AH.put_ne {H : AH} {a b : Addr} {o : AO} (hn : b ≠ a) : H.put a o b = H b := by simp [AH.put, hn]
def St.set (σ : St) (x : Str) (v : AV) : St := ⟨upd σ.m x v, σ.H⟩
def St.put (σ : St) (a : Addr) (o : AO) : St := ⟨σ.m, σ.H.put a o⟩

inductive DRel (h : Heap) : List (Str × Value) → List (Str × AV) → Prop
  | nil : DRel h [] []
  | cons {k : Str} {v : Value} {a : AV} {ds : List (Str × Value)} {es : List (Str × AV)} : VRel h v a → DRel h ds es → DRel h ((k, v) :: ds) ((k, a) :: es)
theorem DRel.keep {h h' : Heap} (k : TupKeep h h') {ds : List (Str × Value)} {es : List (Str × AV)} (r : DRel h ds es) : DRel h' ds es := by
  induction r with
  | nil => exact .nil
  | cons e _ ih => exact .cons (e.keep k) ih
theorem DRel.length {h : Heap} {ds : List (Str × Value)} {es : List (Str × AV)} (r : DRel h ds es) : ds.length = es.length := by
  induction r with
  | nil => rfl
  | cons _ _ ih => rw [List.length_cons, List.length_cons, ih]
theorem DRel.keys {h : Heap} {ds : List (Str × Value)} {es : List (Str × AV)} (r : DRel h ds es) : ds.map (·.1) = es.map (·.1) := by
  induction r with
  | nil => rfl
  | cons _ _ ih => rw [List.map_cons, List.map_cons, ih]
theorem DRel.append {h : Heap} {ds ds' : List (Str × Value)} {es es' : List (Str × AV)} (r : DRel h ds es) (q : DRel h ds' es') : DRel h (ds ++ ds') (es ++ es') := by
  induction r with
  | nil => exact q
  | cons e _ ih => exact .cons e ih
theorem DRel.at {h : Heap} {ds : List (Str × Value)} {es : List (Str × AV)} (r : DRel h ds es) {i : Nat} {k : Str} {a : AV} (e : es[i]? = some (k, a)) : ∃ v, ds[i]? = some (k, v) ∧ VRel h v a := by
  induction r generalizing i with
  | nil => simp at e
  | cons x _ ih =>
    cases i with
    | zero => simp only [List.getElem?_cons_zero, Option.some.injEq] at e; cases e; exact ⟨_, rfl, x⟩
    | succ i => exact ih (by simpa using e)

/-- what is under a key; with a key stored -/
def valA (es : List (Str × AV)) (k : Str) : Option AV := (es.find? fun kv => kv.1 = k).map (·.2)
def storeA (es : List (Str × AV)) (k : Str) (v : AV) : List (Str × AV) :=
  if es.any (fun kv => kv.1 = k) then es.map (fun kv => if kv.1 = k then (kv.1, v) else kv) else es ++ [(k, v)]
theorem DRel.val {h : Heap} {ds : List (Str × Value)} {es : List (Str × AV)} (r : DRel h ds es) (k : Str) : ORel h (valueAt ds k) (valA es k) := by
  induction r with
  | nil => exact .none
  | @cons k' v a ds es e _ ih =>
    unfold valueAt valA at ih ⊢
    by_cases hk : k' = k
    · simp only [List.find?_cons, hk, decide_true, Option.map_some]; exact .some e
    · simp only [List.find?_cons, hk, decide_false]; exact ih
theorem DRel.any {h : Heap} {ds : List (Str × Value)} {es : List (Str × AV)} (r : DRel h ds es) (k : Str) : ds.any (fun kv => kv.1 = k) = es.any (fun kv => kv.1 = k) := by
  induction r with
  | nil => rfl
  | cons _ _ ih => simp only [List.any_cons, ih]
theorem DRel.mapStore {h : Heap} {ds : List (Str × Value)} {es : List (Str × AV)} (r : DRel h ds es) {k : Str} {v : Value} {a : AV} (e : VRel h v a) :
    DRel h (ds.map fun kv => if kv.1 = k then (kv.1, v) else kv) (es.map fun kv => if kv.1 = k then (kv.1, a) else kv) := by
  induction r with
  | nil => exact .nil
  | @cons k' v' a' ds es x _ ih =>
    simp only [List.map_cons]
    by_cases hk : k' = k
    · simp only [hk, if_true]; exact .cons e (by simpa only using ih)
    · simp only [hk, if_false]; exact .cons x ih
theorem DRel.store {h : Heap} {ds : List (Str × Value)} {es : List (Str × AV)} (r : DRel h ds es) {k : Str} {v : Value} {a : AV} (e : VRel h v a) : DRel h (stored ds k v) (storeA es k a) := by
  unfold stored storeA
  rw [r.any k]
  split
  · exact r.mapStore e
  · exact r.append (.cons e .nil)

def OBJ (prog : Program) (w : World) (h : Heap) (a : Addr) : AO → Prop
  | .list l => ∃ xs, h.PlainList a xs.toArray ∧ VRels h xs l
  | .dict es => ∃ ds, h.DictOf (strKind prog w) a ds ∧ DRel h ds es
  | .dictE es ep => ∃ ds, h.DictAt (strKind prog w) a ds ep ∧ DRel h ds es
  | .inst C dx => h.get? a = some (instObj C dx)
  | .rng n => ∃ t u v, IsRange h a 0 n 1 t u v

def notTup (o : Obj) : Prop := ∀ xs n, o ≠ ⟨.type "tuple", none, .seq xs n, #[]⟩

theorem mem_of_lookup {β : Type} {l : List (Str × β)} {x : Str} {c : β} (h : l.lookup x = some c) : (x, c) ∈ l := by
  induction l with
  | nil => cases h
  | cons p r ih =>
    obtain ⟨y, d⟩ := p
    rw [List.lookup_cons] at h
    by_cases e : (x == y) = true
    · rw [e] at h
      cases h; rw [beq_iff_eq.mp e]; exact List.mem_cons_self
    · have e' : (x == y) = false := by simpa using e
      rw [e'] at h; exact List.mem_cons_of_mem _ (ih h)

def own (env : Env) : List Addr := env.locals :: env.cells.map (·.2)

structure Rep (prog : Program) (w : World) (h₀ : Heap) (os : OsState) (env : Env) (σ : St) (s : Shared) : Prop where
  keep : ∀ b o, h₀.get? b = some o → s.heap.get? b = some o
  locs : ∃ m', s.heap.Ns env.locals m' ∧ ∀ x, env.kindOf x = some .local → ORel s.heap (m' x) (σ.m x)
  cels : ∀ x, env.kindOf x = some .cell → ∃ c v, env.cells.lookup x = some c ∧ s.heap.IsCell c v ∧ ORel s.heap v (σ.m x)
  objs : ∀ a o, σ.H a = some o → OBJ prog w s.heap a o ∧ h₀.objs.size ≤ a ∧ a ∉ own env
  owns : ∀ c ∈ own env, h₀.objs.size ≤ c ∧ ∃ o, s.heap.get? c = some o ∧ notTup o
  apart : env.locals ∉ env.cells.map (·.2)
  inj : ∀ x y c, env.kindOf x = some .cell → env.kindOf y = some .cell → env.cells.lookup x = some c → env.cells.lookup y = some c → x = y
  gens : s.gens = #[]
  os : s.os = os

/-- what has been there and is neither the frame's nor tracked is as it was -/
def Grow (env : Env) (σ : St) (s : Shared) (σ' : St) (s' : Shared) : Prop :=
  (∀ b o, s.heap.get? b = some o → ∃ o', s'.heap.get? b = some o') ∧ ∀ b o, s.heap.get? b = some o → b ∉ own env → σ.H b = none → s'.heap.get? b = some o ∧ σ'.H b = none
theorem Grow.refl (env : Env) (σ : St) (s : Shared) : Grow env σ s σ s := ⟨fun _ o e => ⟨o, e⟩, fun _ _ e _ n => ⟨e, n⟩⟩
theorem Grow.trans {env : Env} {σ σ1 σ2 : St} {s s1 s2 : Shared} (g : Grow env σ s σ1 s1) (k : Grow env σ1 s1 σ2 s2) : Grow env σ s σ2 s2 :=
  ⟨fun b o e => let ⟨o', e'⟩ := g.1 b o e; k.1 b o' e', fun b o e n q => let ⟨e1, q1⟩ := g.2 b o e n q; k.2 b o e1 n q1⟩

section
variable {prog : Program} {w : World} {h₀ : Heap} {os : OsState} {env : Env} {σ σ' : St} {s s' : Shared}
theorem OBJ.notTup {prog : Program} {w : World} {h : Heap} {a : Addr} {o : AO} (x : OBJ prog w h a o) : ∃ ob, h.get? a = some ob ∧ Mine.notTup ob := by
  cases o with
  | list l => obtain ⟨xs, ⟨n, e⟩, _⟩ := x; exact ⟨_, e, fun _ _ q => by injection q with q1; injection q1 with q2; exact absurd q2 (by decide)⟩
  | dict es => obtain ⟨ds, ⟨o, es', ep, e, _, hd, _⟩, _⟩ := x; exact ⟨_, e, fun _ _ q => by rw [q] at hd; cases hd⟩
  | dictE es ep => obtain ⟨ds, ⟨o, es', e, _, hd, _⟩, _⟩ := x; exact ⟨_, e, fun _ _ q => by rw [q] at hd; cases hd⟩
  | inst C dx => exact ⟨_, x, fun _ _ q => by injection q with q1; cases q1⟩
  | rng n => obtain ⟨t, u, v, e⟩ := x; exact ⟨_, e, fun _ _ q => by injection q with q1; injection q1 with q2; exact absurd q2 (by decide)⟩
theorem Rep.tup (R : Rep prog w h₀ os env σ s) {a : Addr} {xs : Array Value} {n : Nat} (e : s.heap.get? a = some ⟨.type "tuple", none, .seq xs n, #[]⟩) : a ∉ own env ∧ σ.H a = none := by
  constructor
  · intro q
    obtain ⟨_, o, e', nt⟩ := R.owns a q
    rw [e] at e'; cases e'; exact nt _ _ rfl
  · cases q : σ.H a with
    | none => rfl
    | some o =>
      obtain ⟨ob, e', nt⟩ := (R.objs a o q).1.notTup
      rw [e] at e'; cases e'; exact absurd rfl (nt _ _)
theorem Grow.tups (R : Rep prog w h₀ os env σ s) (g : Grow env σ s σ' s') : TupKeep s.heap s'.heap := fun a _ _ e => (g.2 a _ e (R.tup e).1 (R.tup e).2).1
theorem VRel.grow {v : Value} {a : AV} (x : VRel s.heap v a) (R : Rep prog w h₀ os env σ s) (g : Grow env σ s σ' s') : VRel s'.heap v a := x.keep (g.tups R)
theorem VRels.grow {v : List Value} {a : List AV} (x : VRels s.heap v a) (R : Rep prog w h₀ os env σ s) (g : Grow env σ s σ' s') : VRels s'.heap v a := x.keep (g.tups R)
theorem Grow.fresh (g : Grow env σ s σ' s') : s.heap.get? s'.heap.objs.size = none := by
  cases e : s.heap.get? s'.heap.objs.size with
  | none => rfl
  | some o => obtain ⟨o', e'⟩ := g.1 _ _ e; exact absurd (Heap.lt_size e') (Nat.lt_irrefl _)
theorem Rep.new (R : Rep prog w h₀ os env σ s) {b : Addr} {o : Obj} (e : h₀.get? b = some o) : b ∉ own env ∧ σ.H b = none := by
  have hb := Heap.lt_size e
  constructor
  · intro q; exact absurd (R.owns b q).1 (Nat.not_le.mpr hb)
  · cases q : σ.H b with
    | none => rfl
    | some o => exact absurd (R.objs b o q).2.1 (Nat.not_le.mpr hb)
theorem Rep.size (R : Rep prog w h₀ os env σ s) : h₀.objs.size ≤ s.heap.objs.size := by
  obtain ⟨h1, o, e, _⟩ := R.owns env.locals (List.mem_cons_self)
  exact Nat.le_trans h1 (Nat.le_of_lt (Heap.lt_size e))
theorem Rep.free (R : Rep prog w h₀ os env σ s) {b : Addr} (hb : s.heap.objs.size ≤ b) : b ∉ own env ∧ σ.H b = none := by
  constructor
  · intro q
    obtain ⟨_, o, e, _⟩ := R.owns b q
    exact absurd (Heap.lt_size e) (Nat.not_lt.mpr hb)
  · cases q : σ.H b with
    | none => rfl
    | some o =>
      obtain ⟨ob, e, _⟩ := (R.objs b o q).1.notTup
      exact absurd (Heap.lt_size e) (Nat.not_lt.mpr hb)
theorem OBJ.keep {prog : Program} {w : World} {h h' : Heap} {a : Addr} {o : AO} (x : OBJ prog w h a o) (k : TupKeep h h') (e : ∀ ob, h.get? a = some ob → h'.get? a = some ob) : OBJ prog w h' a o := by
  cases o with
  | list l => obtain ⟨xs, ⟨n, q⟩, r⟩ := x; exact ⟨xs, ⟨n, e _ q⟩, r.keep k⟩
  | dict es => obtain ⟨ds, ⟨o, es', ep, q, y⟩, r⟩ := x; exact ⟨ds, ⟨o, es', ep, e _ q, y⟩, r.keep k⟩
  | dictE es ep => obtain ⟨ds, ⟨o, es', q, y⟩, r⟩ := x; exact ⟨ds, ⟨o, es', e _ q, y⟩, r.keep k⟩
  | inst C dx => exact e _ x
  | rng n => obtain ⟨t, u, v, q⟩ := x; exact ⟨t, u, v, e _ q⟩

/-- one tracked object has been changed -/
theorem Rep.store (R : Rep prog w h₀ os env σ s) {a : Addr} {ao ao' : AO} {h' : Heap} {tk : Nat} (hH : σ.H a = some ao) (hs : Heap.ExtBut a s.heap h') (e : (TupKeep s.heap h') → OBJ prog w h' a ao') :
    Rep prog w h₀ os env (σ.put a ao') { s with heap := h', toks := tk } ∧ Grow env σ s (σ.put a ao') { s with heap := h', toks := tk } := by
  have nt : ∀ {b o}, s.heap.get? b = some o → b ≠ a → h'.get? b = some o := fun e n => hs _ _ n e
  have ta : ∀ {xs n}, s.heap.get? a ≠ some ⟨.type "tuple", none, .seq xs n, #[]⟩ := fun q => by
    rw [(R.tup q).2] at hH; cases hH
  have tk : TupKeep s.heap h' := fun b xs n q => nt q fun h => ta (h ▸ q)
  obtain ⟨_, h2, h3⟩ := R.objs a ao hH
  refine ⟨⟨fun b o q => nt (R.keep b o q) fun h => ?_, ?_, ?_, ?_, ?_, R.apart, R.inj, R.gens, R.os⟩, fun b o q => ?_, fun b o q n1 n2 => ?_⟩
  · rw [h] at q; rw [(R.new q).2] at hH; cases hH
  · obtain ⟨m', hn, hm⟩ := R.locs
    have : env.locals ≠ a := fun h => h3 (h ▸ List.mem_cons_self)
    exact ⟨m', hn.at' (fun _ q => hs _ _ this q), fun x hx => (hm x hx).keep tk⟩
  · intro x hx
    obtain ⟨c, v, h1, hc, ho⟩ := R.cels x hx
    have : c ≠ a := fun h => h3 (by rw [← h]; exact List.mem_cons_of_mem _ (List.mem_map.mpr ⟨_, mem_of_lookup h1, rfl⟩))
    exact ⟨c, v, h1, (let ⟨o, q, d⟩ := hc; ⟨o, hs _ _ this q, d⟩), ho.keep tk⟩
  · intro b o hb
    by_cases hba : b = a
    · subst hba
      rw [show (σ.put b ao').H b = some ao' from AH.put_self] at hb
      cases hb
      exact ⟨e tk, h2, h3⟩
    · rw [show (σ.put a ao').H b = σ.H b from AH.put_ne hba] at hb
      obtain ⟨k1, k2, k3⟩ := R.objs b o hb
      exact ⟨k1.keep tk fun _ q => nt q hba, k2, k3⟩
  · intro c hc
    obtain ⟨k1, o, q, n⟩ := R.owns c hc
    exact ⟨k1, o, nt q fun h => h3 (h ▸ hc), n⟩
  · by_cases hba : b = a
    · obtain ⟨ob, e', _⟩ := (e tk).notTup; exact ⟨ob, hba ▸ e'⟩
    · exact ⟨o, nt q hba⟩
  · have hba : b ≠ a := fun h => by rw [h] at n2; rw [n2] at hH; cases hH
    exact ⟨nt q hba, (AH.put_ne hba).trans n2⟩

/-- nothing of what was there has been touched -/
theorem Rep.ext (R : Rep prog w h₀ os env σ s) (k : ∀ b o, s.heap.get? b = some o → s'.heap.get? b = some o) (hg : s'.gens = s.gens) (ho : s'.os = s.os) :
    Rep prog w h₀ os env σ s' ∧ Grow env σ s σ s' := by
  have tk : TupKeep s.heap s'.heap := fun a _ _ e => k a _ e
  refine ⟨⟨fun b o e => k b o (R.keep b o e), ?_, ?_, ?_, ?_, R.apart, R.inj, hg.trans R.gens, ho.trans R.os⟩, fun b o e => ⟨o, k b o e⟩, fun b o e _ q => ⟨k b o e, q⟩⟩
  · obtain ⟨m', hn, hm⟩ := R.locs
    exact ⟨m', hn.keeps k, fun x hx => (hm x hx).keep tk⟩
  · intro x hx
    obtain ⟨c, v, h1, h2, h3⟩ := R.cels x hx
    exact ⟨c, v, h1, h2.keeps k, h3.keep tk⟩
  · intro a o e
    obtain ⟨h1, h2, h3⟩ := R.objs a o e
    exact ⟨h1.keep tk (k a), h2, h3⟩
  · intro c hc
    obtain ⟨h1, o, e, nt⟩ := R.owns c hc
    exact ⟨h1, o, k c o e, nt⟩

/-- an object that is neither tracked nor the frame's (an iterator) has been changed -/
theorem Rep.touch (R : Rep prog w h₀ os env σ s) {it : Addr} {o : Obj} {h' : Heap} {tk : Nat} (hn : h₀.objs.size ≤ it) (ho : it ∉ own env) (hH : σ.H it = none) (hi : s.heap.get? it = some o) (nt : notTup o) (hs : Heap.ExtBut it s.heap h') :
    Rep prog w h₀ os env σ { s with heap := h', toks := tk } ∧ TupKeep s.heap h' := by
  have tk : TupKeep s.heap h' := fun b xs n q => hs _ _ (fun e => by subst e; rw [hi] at q; cases q; exact nt _ _ rfl) q
  refine ⟨⟨fun b o q => hs _ _ (fun e => ?_) (R.keep b o q), ?_, ?_, ?_, ?_, R.apart, R.inj, R.gens, R.os⟩, tk⟩
  · subst e; exact absurd (Heap.lt_size q) (Nat.not_lt.mpr hn)
  · obtain ⟨m', hn, hm⟩ := R.locs
    have : env.locals ≠ it := fun e => ho (e ▸ List.mem_cons_self)
    exact ⟨m', hn.at' (fun _ q => hs _ _ this q), fun x hx => (hm x hx).keep tk⟩
  · intro x hx
    obtain ⟨c, v, h1, ⟨oc, hc, hd⟩, h3⟩ := R.cels x hx
    have : c ≠ it := fun e => ho (by rw [← e]; exact List.mem_cons_of_mem _ (List.mem_map.mpr ⟨_, mem_of_lookup h1, rfl⟩))
    exact ⟨c, v, h1, ⟨oc, hs _ _ this hc, hd⟩, h3.keep tk⟩
  · intro b ob hb
    have : b ≠ it := fun e => by subst e; rw [hH] at hb; cases hb
    obtain ⟨k1, k2, k3⟩ := R.objs b ob hb
    exact ⟨k1.keep tk fun _ q => hs _ _ this q, k2, k3⟩
  · intro c hc
    obtain ⟨k1, oc, q, n⟩ := R.owns c hc
    exact ⟨k1, oc, hs _ _ (fun e => ho (e ▸ hc)) q, n⟩
theorem Grow.but (g : Grow env σ s σ' s') {it : Addr} {h' : Heap} {tk : Nat} (hi : s.heap.get? it = none) (hs : Heap.ExtBut it s'.heap h') : Grow env σ s σ' { s' with heap := h', toks := tk } :=
  ⟨fun b o e => let ⟨o', e'⟩ := g.1 b o e; ⟨o', hs _ _ (fun x => by subst x; rw [hi] at e; cases e) e'⟩, fun b o e n q => let ⟨e1, q1⟩ := g.2 b o e n q; ⟨hs _ _ (fun x => by subst x; rw [hi] at e; cases e) e1, q1⟩⟩

/-- a local name is stored -/
theorem Rep.setLocal (R : Rep prog w h₀ os env σ s) {x : Str} {v : Value} {a : AV} {m' : Str → Option Value} {h' : Heap} {tk : Nat} (hx : env.kindOf x = some .local) (hm : ∀ y, env.kindOf y = some .local → ORel s.heap (m' y) (σ.m y)) (r : VRel s.heap v a)
    (hn : h'.Ns env.locals (fun y => if y = x then some v else m' y)) (hs : Heap.SameBut env.locals s.heap h') :
    Rep prog w h₀ os env (σ.set x a) { s with heap := h', toks := tk } ∧ Grow env σ s (σ.set x a) { s with heap := h', toks := tk } := by
  have hL : env.locals ∈ own env := List.mem_cons_self
  have up : ∀ {b o}, b ≠ env.locals → s.heap.get? b = some o → h'.get? b = some o := fun n q => (hs.2 _ n).trans q
  have tk : TupKeep s.heap h' := fun b xs n q => up (fun e => (R.tup q).1 (e ▸ hL)) q
  refine ⟨⟨fun b o q => up (fun e => (R.new q).1 (e ▸ hL)) (R.keep b o q), ⟨_, hn, fun y hy => ?_⟩, ?_, ?_, ?_, R.apart, R.inj, R.gens, R.os⟩, fun b o q => ?_, fun b o q n1 n2 => ⟨up (fun e => n1 (e ▸ hL)) q, n2⟩⟩
  · show ORel h' _ (upd σ.m x a y)
    unfold upd
    by_cases e : y = x
    · rw [if_pos e, if_pos e]; exact .some (r.keep tk)
    · rw [if_neg e, if_neg e]; exact (hm y hy).keep tk
  · intro y hy
    obtain ⟨c, u, h1, ⟨oc, hc, hd⟩, h3⟩ := R.cels y hy
    have hne : c ≠ env.locals := fun e => R.apart (by rw [← e]; exact List.mem_map.mpr ⟨_, mem_of_lookup h1, rfl⟩)
    refine ⟨c, u, h1, ⟨oc, up hne hc, hd⟩, ?_⟩
    show ORel h' u (upd σ.m x a y)
    unfold upd
    rw [if_neg fun e => by rw [e, hx] at hy; cases hy]
    exact h3.keep tk
  · intro b ob hb
    obtain ⟨k1, k2, k3⟩ := R.objs b ob hb
    exact ⟨k1.keep tk fun _ q => up (fun e => k3 (e ▸ hL)) q, k2, k3⟩
  · intro c hc
    obtain ⟨k1, oc, q, n⟩ := R.owns c hc
    by_cases e : c = env.locals
    · obtain ⟨o, es, ep, ho, hd, _⟩ := hn
      exact ⟨k1, o, e ▸ ho, fun xs n e2 => by rw [e2] at hd; cases hd⟩
    · exact ⟨k1, oc, up e q, n⟩
  · by_cases e : b = env.locals
    · obtain ⟨o', es, ep, ho, _⟩ := hn; exact ⟨o', e ▸ ho⟩
    · exact ⟨o, up e q⟩
/-- a cell's name is stored -/
theorem Rep.setCell (R : Rep prog w h₀ os env σ s) {x : Str} {c : Addr} {v : Value} {a : AV} {h' : Heap} {tk : Nat} (hx : env.kindOf x = some .cell) (hc : env.cells.lookup x = some c) (r : VRel s.heap v a)
    (hn : h'.IsCell c (some v)) (hs : Heap.SameBut c s.heap h') :
    Rep prog w h₀ os env (σ.set x a) { s with heap := h', toks := tk } ∧ Grow env σ s (σ.set x a) { s with heap := h', toks := tk } := by
  have hm : c ∈ env.cells.map (·.2) := List.mem_map.mpr ⟨_, mem_of_lookup hc, rfl⟩
  have hL : c ∈ own env := List.mem_cons_of_mem _ hm
  have up : ∀ {b o}, b ≠ c → s.heap.get? b = some o → h'.get? b = some o := fun n q => (hs.2 _ n).trans q
  have tk : TupKeep s.heap h' := fun b xs n q => up (fun e => (R.tup q).1 (e ▸ hL)) q
  have hne : env.locals ≠ c := fun e => R.apart (e ▸ hm)
  refine ⟨⟨fun b o q => up (fun e => (R.new q).1 (e ▸ hL)) (R.keep b o q), ?_, ?_, ?_, ?_, R.apart, R.inj, R.gens, R.os⟩, fun b o q => ?_, fun b o q n1 n2 => ⟨up (fun e => n1 (e ▸ hL)) q, n2⟩⟩
  · obtain ⟨m', hq, hm'⟩ := R.locs
    refine ⟨m', hq.at' fun _ q => up hne q, fun y hy => ?_⟩
    show ORel h' _ (upd σ.m x a y)
    unfold upd
    rw [if_neg fun e => by rw [e, hx] at hy; cases hy]
    exact (hm' y hy).keep tk
  · intro y hy
    obtain ⟨d, u, h1, ⟨oc, hd', hd⟩, h3⟩ := R.cels y hy
    show ∃ c v, env.cells.lookup y = some c ∧ h'.IsCell c v ∧ ORel h' v (upd σ.m x a y)
    unfold upd
    by_cases e : y = x
    · rw [if_pos e]; exact ⟨c, some v, e ▸ hc, hn, .some (r.keep tk)⟩
    · rw [if_neg e]
      exact ⟨d, u, h1, ⟨oc, up (fun e2 => e (R.inj y x c hy hx (e2 ▸ h1) hc)) hd', hd⟩, h3.keep tk⟩
  · intro b ob hb
    obtain ⟨k1, k2, k3⟩ := R.objs b ob hb
    exact ⟨k1.keep tk fun _ q => up (fun e => k3 (e ▸ hL)) q, k2, k3⟩
  · intro d hd
    obtain ⟨k1, oc, q, n⟩ := R.owns d hd
    by_cases e : d = c
    · obtain ⟨o, ho, hdd⟩ := hn
      exact ⟨k1, o, e ▸ ho, fun xs n e2 => by rw [e2] at hdd; cases hdd⟩
    · exact ⟨k1, oc, up e q, n⟩
  · by_cases e : b = c
    · obtain ⟨o', ho, _⟩ := hn; exact ⟨o', e ▸ ho⟩
    · exact ⟨o, up e q⟩
/-- what is known may be forgotten -/
theorem Rep.weaken (R : Rep prog w h₀ os env σ s) {H' : AH} (hH : ∀ a o, H' a = some o → σ.H a = some o) : Rep prog w h₀ os env ⟨σ.m, H'⟩ s :=
  ⟨R.keep, R.locs, R.cels, fun a o e => R.objs a o (hH a o e), R.owns, R.apart, R.inj, R.gens, R.os⟩
end

/-- where a def's body stands -/
structure Cx where
  prog : Program
  w : World
  A : Around
  env : Env
  h₀ : Heap
  os : OsState
  K : Frag
  mg : Str → Option Value
  mb : Str → Option Value
  X : St → Shared → Value → Shared → Prop
  hK : K.In h₀
  hg : h₀.Ns mainGlobals mg
  hb : h₀.Ns builtinsNs mb
  hlim : h₀.NoLimit
  hsys : sysModules < h₀.objs.size
  hk : env.scope.kind = .function
  eg : env.globals = mainGlobals
  eb : env.builtins = builtinsNs
  clo : ∀ σ s σ1 s1 e s', Rep prog w h₀ os env σ s → Grow env σ s σ1 s1 → X σ1 s1 e s' → X σ s e s'

abbrev Cx.R (C : Cx) (σ : St) (s : Shared) : Prop := Rep C.prog C.w C.h₀ C.os C.env σ s
abbrev Cx.G (C : Cx) (σ : St) (s : Shared) (σ' : St) (s' : Shared) : Prop := Grow C.env σ s σ' s'
abbrev Cx.M (C : Cx) : Model := model C.prog C.w

def Post (C : Cx) {α β : Type} (R : Heap → α → β → Prop) (σ : St) (s : Shared) (Q : β → St → Prop) (a : α) (s' : Shared) : Prop :=
  ∃ b σ', R s'.heap a b ∧ C.R σ' s' ∧ C.G σ s σ' s' ∧ Q b σ'

/-- t, run with the values vs held (they are as), ends as Q says -/
def TV (C : Cx) {α β : Type} (vs : List Value) (as : List AV) (R : Heap → α → β → Prop) (t : Sem α) (σ : St) (Q : β → St → Prop) : Prop :=
  ∀ s, C.R σ s → VRels s.heap vs as → wpAny C.M C.A t (Post C R σ s Q) (C.X σ s) s

abbrev RB : Heap → Bool → Bool → Prop := fun _ a b => a = b
abbrev RU : Heap → Unit → Unit → Prop := fun _ _ _ => True
abbrev RP : Heap → Value × List Value → AV × List AV → Prop := fun h a b => VRel h a.1 b.1 ∧ VRels h a.2 b.2

section
variable {C : Cx} {α β γ δ : Type} {vs : List Value} {as : List AV} {R : Heap → α → β → Prop} {t : Sem α} {σ σ1 σ2 : St} {s s1 s2 : Shared} {Q Q' : β → St → Prop}

theorem Post.mono {a : α} {s' : Shared} (h : Post C R σ s Q a s') (k : ∀ b σ', Q b σ' → Q' b σ') : Post C R σ s Q' a s' := by
  obtain ⟨b, σ', h1, h2, h3, h4⟩ := h; exact ⟨b, σ', h1, h2, h3, k _ _ h4⟩
theorem TV.mono (h : TV C vs as R t σ Q) (k : ∀ b σ', Q b σ' → Q' b σ') : TV C vs as R t σ Q' :=
  fun s hs hv => wpAny_mono (h s hs hv) (fun _ _ p => p.mono k) fun _ _ x => x

/-- run t behind what has been run, and go on -/
theorem TV.andThen (h : TV C vs as R t σ1 Q) {Z : α → Shared → Prop} (R0 : C.R σ s) (R1 : C.R σ1 s1) (g : C.G σ s σ1 s1) (hv : VRels s1.heap vs as)
    (k : ∀ a b σ2 s2, R s2.heap a b → C.R σ2 s2 → C.G σ s σ2 s2 → C.G σ1 s1 σ2 s2 → TupKeep s1.heap s2.heap → Q b σ2 → Z a s2) : wpAny C.M C.A t Z (C.X σ s) s1 :=
  wpAny_mono (h s1 R1 hv) (fun _ _ ⟨b, σ', r, R', g', q⟩ => k _ b σ' _ r R' (g.trans g') g' (g'.tups R1) q) fun _ _ x => C.clo _ _ _ _ _ _ R0 g x
theorem TV.last (h : TV C vs as R t σ1 Q) (R0 : C.R σ s) (R1 : C.R σ1 s1) (g : C.G σ s σ1 s1) (hv : VRels s1.heap vs as) : wpAny C.M C.A t (Post C R σ s Q) (C.X σ s) s1 :=
  h.andThen R0 R1 g hv fun _ b σ2 _ r R2 g2 _ _ q => ⟨b, σ2, r, R2, g2, q⟩
theorem TV.here (h : TV C vs as R t σ Q) (R0 : C.R σ s) (hv : VRels s.heap vs as) {Z : α → Shared → Prop}
    (k : ∀ a b σ2 s2, R s2.heap a b → C.R σ2 s2 → C.G σ s σ2 s2 → TupKeep s.heap s2.heap → Q b σ2 → Z a s2) : wpAny C.M C.A t Z (C.X σ s) s :=
  h.andThen R0 R0 (Grow.refl _ _ _) hv fun _ _ _ _ r R2 g _ tk q => k _ _ _ _ r R2 g tk q

theorem Post.same {a : α} {b : β} (r : R s1.heap a b) (R0 : C.R σ s) (k : ∀ b o, s.heap.get? b = some o → s1.heap.get? b = some o) (hg : s1.gens = s.gens) (ho : s1.os = s.os) (q : Q b σ) : Post C R σ s Q a s1 :=
  let ⟨R1, g⟩ := R0.ext k hg ho
  ⟨b, σ, r, R1, g, q⟩
theorem Post.toks {a : α} {b : β} {tk : Nat} (r : R s.heap a b) (R0 : C.R σ s) (q : Q b σ) : Post C R σ s Q a { s with toks := tk } :=
  Post.same (s1 := { s with toks := tk }) r R0 (fun _ _ e => e) rfl rfl q

theorem TV.pure {a : α} {b : β} (r : ∀ h, VRels h vs as → R h a b) (q : Q b σ) : TV C vs as R (pure a) σ Q :=
  fun s hs hv => wpAny_pure (Post.toks (tk := s.toks) (r _ hv) hs q)
end

abbrev TE (C : Cx) (e : PySem.Expr) (σ : St) (Q : AV → St → Prop) : Prop := TV C [] [] VRel (eval e C.env) σ Q
abbrev TB (C : Cx) (e : PySem.Expr) (σ : St) (Q : Bool → St → Prop) : Prop := TV C [] [] RB (isTrue e C.env (eval e C.env)) σ Q
def TBin (C : Cx) (op : PySem.Operator) (a b : AV) (σ : St) (Q : AV → St → Prop) : Prop := ∀ va vb, TV C [va, vb] [a, b] VRel (binaryOp op va vb) σ Q
def TInp (C : Cx) (op : PySem.Operator) (a b : AV) (σ : St) (Q : AV → St → Prop) : Prop := ∀ va vb, TV C [va, vb] [a, b] VRel (inplaceOp op va vb) σ Q
def TCmp (C : Cx) (op : PySem.CmpOp) (a b : AV) (σ : St) (Q : AV → St → Prop) : Prop := ∀ va vb, TV C [va, vb] [a, b] VRel (compareOp op va vb) σ Q
def TTr (C : Cx) (a : AV) (σ : St) (Q : Bool → St → Prop) : Prop := ∀ va, TV C [va] [a] RB (truthy va) σ Q
def TUn (C : Cx) (op : PySem.UnaryOp) (a : AV) (σ : St) (Q : AV → St → Prop) : Prop := ∀ va, TV C [va] [a] VRel (unaryOp op va) σ Q
def TSub (C : Cx) (value slice : PySem.Expr) (a b : AV) (σ : St) (Q : AV → St → Prop) : Prop := ∀ va vb, TV C [va, vb] [a, b] VRel (subscriptTail value slice va vb) σ Q
def TSet (C : Cx) (o i v : AV) (σ : St) (Q : Unit → St → Prop) : Prop := ∀ vo vi vv, TV C [vo, vi, vv] [o, i, v] RU (setItem vo vi vv) σ Q
def TL (C : Cx) (es : List PySem.Expr) (σ : St) (Q : List AV → St → Prop) : Prop := ∀ pos, TV C [] [] VRels (spliced (backTo pos (starEach es C.env))) σ Q
def TSt (C : Cx) (x : Str) (a : AV) (σ : St) (Q : Unit → St → Prop) : Prop := ∀ va, TV C [va] [a] RU (storeName C.env x va) σ Q

inductive AFl where
  | next | brk | cont | ret (v : AV)
inductive RF (h : Heap) : Flow → AFl → Prop
  | next : RF h .next .next
  | brk : RF h .brk .brk
  | cont : RF h .cont .cont
  | ret {v : Value} {a : AV} : VRel h v a → RF h (.ret v) (.ret a)
abbrev TX (C : Cx) (st : Stmt) (σ : St) (Q : AFl → St → Prop) : Prop := TV C [] [] RF (exec st C.env) σ Q
abbrev TS (C : Cx) (sts : List Stmt) (σ : St) (Q : AFl → St → Prop) : Prop := TV C [] [] RF (execs sts C.env) σ Q

section
variable {C : Cx} {σ : St} {sc : Scope}

theorem VRels.inv1 {h : Heap} {v : Value} {a : AV} (r : VRels h [v] [a]) : VRel h v a := by cases r with | cons e _ => exact e
theorem VRels.inv2 {h : Heap} {v w : Value} {a b : AV} (r : VRels h [v, w] [a, b]) : VRel h v a ∧ VRel h w b := by cases r with | cons e q => exact ⟨e, q.inv1⟩
theorem VRels.inv3 {h : Heap} {v w u : Value} {a b c : AV} (r : VRels h [v, w, u] [a, b, c]) : VRel h v a ∧ VRel h w b ∧ VRel h u c := by cases r with | cons e q => exact ⟨e, q.inv2⟩
theorem VRels.mk2 {h : Heap} {v w : Value} {a b : AV} (x : VRel h v a) (y : VRel h w b) : VRels h [v, w] [a, b] := .cons x (.one y)
theorem VRels.mk3 {h : Heap} {v w u : Value} {a b c : AV} (x : VRel h v a) (y : VRel h w b) (z : VRel h u c) : VRels h [v, w, u] [a, b, c] := .cons x (.mk2 y z)

/-! names -/
def TLd (C : Cx) (x : Str) (σ : St) (Q : AV → St → Prop) : Prop := TV C [] [] VRel (loadName C.env x) σ Q
theorem TLd.local {x : Str} {a : AV} {Q : AV → St → Prop} (hs : C.env.scope = sc) (hx : sc.names.lookup x = some .local) (hv : σ.m x = some a) (q : Q a σ) : TLd C x σ Q := by
  intro s hR _
  obtain ⟨m', hn, hm⟩ := hR.locs
  have hx' : C.env.kindOf x = some .local := by unfold Env.kindOf; rw [hs]; exact hx
  have o := hm x hx'
  rw [hv] at o
  cases hq : m' x with
  | none => rw [hq] at o; cases o
  | some v =>
    rw [hq] at o
    cases o with
    | some r => exact wpAny_loadName_local C.hk hx' hn hq (Post.toks (tk := s.toks) r hR q)
theorem TLd.cell {x : Str} {a : AV} {Q : AV → St → Prop} (hs : C.env.scope = sc) (hx : sc.names.lookup x = some .cell) (hv : σ.m x = some a) (q : Q a σ) : TLd C x σ Q := by
  intro s hR _
  have hx' : C.env.kindOf x = some .cell := by unfold Env.kindOf; rw [hs]; exact hx
  obtain ⟨c, v, hc, hcell, o⟩ := hR.cels x hx'
  rw [hv] at o
  cases o with
  | some r => exact wpAny_loadName_cell C.hk hx' hc hcell (Post.toks (tk := s.toks) r hR q)
theorem TE.name {x : Str} {pos : Pos} {Q : AV → St → Prop} (h : TLd C x σ Q) (hd : (x == ("__debug__" : Str)) = false := by decide) : TE C (.Name x pos) σ Q :=
  fun s hR hv => wpAny_Name (h s hR hv) hd
theorem TE.glob {x : Str} {pos : Pos} {v : Value} {Q : AV → St → Prop} (hs : C.env.scope = sc) (hx : sc.names.lookup x = some .globalImplicit) (hv : C.mg x = some v) (hp : plainV v = true) (q : Q (.con v) σ)
    (hd : (x == ("__debug__" : Str)) = false := by decide) : TE C (.Name x pos) σ Q := by
  intro s hR _
  have hx' : C.env.kindOf x = some .globalImplicit := by unfold Env.kindOf; rw [hs]; exact hx
  exact Name_function_global C.hk hx' (loadGlobal_global (env := C.env) (by rw [C.eg]; exact C.hg.keeps hR.keep) hv (Post.toks (tk := s.toks) (.con hp) hR q)) hd
theorem TE.bltn {x : Str} {pos : Pos} {v : Value} {Q : AV → St → Prop} (hs : C.env.scope = sc) (hx : sc.names.lookup x = some .globalImplicit) (hn : C.mg x = none) (hv : C.mb x = some v) (hp : plainV v = true) (q : Q (.con v) σ)
    (hd : (x == ("__debug__" : Str)) = false := by decide) : TE C (.Name x pos) σ Q := by
  intro s hR _
  have hx' : C.env.kindOf x = some .globalImplicit := by unfold Env.kindOf; rw [hs]; exact hx
  exact Name_function_global C.hk hx' (loadGlobal_builtin (env := C.env) (by rw [C.eg]; exact C.hg.keeps hR.keep) hn (by rw [C.eb]; exact C.hb.keeps hR.keep) hv (Post.toks (tk := s.toks) (.con hp) hR q)) hd

/-! constants -/
theorem TE.cint {i : Int} {k} {pos : Pos} {Q : AV → St → Prop} (q : Q (.int i) σ) : TE C (.Constant (.int i) k pos) σ Q :=
  fun s hR _ => wpAny_Constant_int (Post.toks (.int i _) hR q)
theorem TE.cstr {x : Str} {k} {pos : Pos} {Q : AV → St → Prop} (q : Q (.str x) σ) : TE C (.Constant (.str x) k pos) σ Q :=
  fun s hR _ => wpAny_Constant_str (Post.toks (.str x _) hR q)
theorem TE.cbool {b : Bool} {k} {pos : Pos} {Q : AV → St → Prop} (q : Q (.con (.bool b)) σ) : TE C (.Constant (.bool b) k pos) σ Q :=
  fun s hR _ => wpAny_Constant_bool (Post.toks (tk := s.toks) (.con rfl) hR q)
theorem TE.cnone {k} {pos : Pos} {Q : AV → St → Prop} (q : Q (.con .none) σ) : TE C (.Constant .none k pos) σ Q :=
  fun s hR _ => wpAny_Constant_none (Post.toks (tk := s.toks) (.con rfl) hR q)

/-! operators -/
theorem TE.bin {l r : PySem.Expr} {op pos} {Q : AV → St → Prop} (h : TE C l σ fun a σ1 => TE C r σ1 fun b σ2 => TBin C op a b σ2 Q) : TE C (.BinOp l op r pos) σ Q := by
  intro s R0 _
  refine wpAny_BinOp (h.here R0 .nil fun va a σ1 s1 ra R1 g1 k1 q => ?_)
  refine q.andThen R0 R1 g1 .nil fun vb b σ2 s2 rb R2 g2 _ k2 q => ?_
  exact (q va vb).last R0 R2 g2 (.mk2 (ra.keep k2) rb)
theorem TE.cmp {l r : PySem.Expr} {op pos} {Q : AV → St → Prop} (h : TE C l σ fun a σ1 => TE C r σ1 fun b σ2 => TCmp C op a b σ2 Q) (hm : behindInMarks op r = false := by with_unfolding_all rfl) : TE C (.Compare l [op] [r] pos) σ Q := by
  intro s R0 _
  refine wpAny_Compare1 (h.here R0 .nil fun va a σ1 s1 ra R1 g1 k1 q => ?_) hm
  refine q.andThen R0 R1 g1 .nil fun vb b σ2 s2 rb R2 g2 _ k2 q => ?_
  exact (q va vb).last R0 R2 g2 (.mk2 (ra.keep k2) rb)
theorem TE.un {x : PySem.Expr} {op pos} {Q : AV → St → Prop} (h : TE C x σ fun a σ1 => TUn C op a σ1 Q) : TE C (.UnaryOp op x pos) σ Q := by
  intro s R0 _
  refine wpAny_UnaryOp (h.here R0 .nil fun va a σ1 s1 ra R1 g1 k1 q => ?_)
  exact (q va).last R0 R1 g1 (.one ra)
theorem TE.ifExp {t b o : PySem.Expr} {pos} {Q : AV → St → Prop} (h : TB C t σ fun c σ1 => if c then TE C b σ1 Q else TE C o σ1 Q) : TE C (.IfExp t b o pos) σ Q := by
  intro s R0 _
  refine wpAny_IfExp (h.here R0 .nil fun vc c σ1 s1 rc R1 g1 k1 q => ?_)
  cases rc
  cases vc
  · simp only [Bool.false_eq_true, if_false] at q ⊢; exact q.last R0 R1 g1 .nil
  · simp only [if_true] at q ⊢; exact q.last R0 R1 g1 .nil
theorem TE.and2 {x y : PySem.Expr} {pos} {Q : AV → St → Prop} (h : TE C x σ fun a σ1 => TTr C a σ1 fun b σ2 => if b then TE C y σ2 Q else Q a σ2) : TE C (.BoolOp .And [x, y] pos) σ Q := by
  intro s R0 _
  refine wpAny_And2 (h.here R0 .nil fun va a σ1 s1 ra R1 g1 k1 q => ?_)
  refine (q va).andThen R0 R1 g1 (.one ra) fun vb b σ2 s2 rb R2 g2 _ k2 q => ?_
  cases rb
  cases vb
  · simp only [Bool.false_eq_true, if_false] at q ⊢; exact ⟨a, σ2, ra.keep k2, R2, g2, q⟩
  · simp only [if_true] at q ⊢; exact q.last R0 R2 g2 .nil

/-! tests -/
theorem TB.cmp {l r : PySem.Expr} {op pos} {Q : Bool → St → Prop} (h : TE C l σ fun a σ1 => TE C r σ1 fun b σ2 => TCmp C op a b σ2 fun c σ3 => TTr C c σ3 Q) (hm : behindInMarks op r = false := by with_unfolding_all rfl) :
    TB C (.Compare l [op] [r] pos) σ Q := by
  intro s R0 _
  refine wpAny_isTrue_Compare1 (h.here R0 .nil fun va a σ1 s1 ra R1 g1 k1 q => ?_) hm
  refine q.andThen R0 R1 g1 .nil fun vb b σ2 s2 rb R2 g2 _ k2 q => ?_
  refine (q va vb).andThen R0 R2 g2 (.mk2 (ra.keep k2) rb) fun vc c σ3 s3 rc R3 g3 _ k3 q => ?_
  exact (q vc).last R0 R3 g3 (.one rc)
theorem TB.not {x : PySem.Expr} {pos} {Q : Bool → St → Prop} (h : TB C x σ fun b σ1 => Q (!b) σ1) : TB C (.UnaryOp .Not x pos) σ Q := by
  intro s R0 _
  refine wpAny_isTrue_Not (h.here R0 .nil fun va a σ1 s1 ra R1 g1 k1 q => ?_)
  cases ra
  exact ⟨_, σ1, rfl, R1, g1, q⟩
def TAll (C : Cx) (op : BoolOp) (es : List PySem.Expr) (σ : St) (Q : Bool → St → Prop) : Prop := TV C [] [] RB (allTrue op es C.env) σ Q
theorem TB.bool {op} {es : List PySem.Expr} {pos} {Q : Bool → St → Prop} (h : TAll C op es σ Q) : TB C (.BoolOp op es pos) σ Q :=
  fun s R0 hv => wpAny_isTrue_BoolOp (h s R0 hv)
theorem TAll.and_nil {Q : Bool → St → Prop} (q : Q true σ) : TAll C .And [] σ Q := fun s R0 _ => wpAny_allTrue_And_nil (Post.toks (tk := s.toks) rfl R0 q)
theorem TAll.or_nil {Q : Bool → St → Prop} (q : Q false σ) : TAll C .Or [] σ Q := fun s R0 _ => wpAny_allTrue_Or_nil (Post.toks (tk := s.toks) rfl R0 q)
theorem TAll.and_cons {x : PySem.Expr} {r : List PySem.Expr} {Q : Bool → St → Prop} (h : TB C x σ fun b σ1 => if b then TAll C .And r σ1 Q else Q false σ1) : TAll C .And (x :: r) σ Q := by
  intro s R0 _
  refine wpAny_allTrue_And_cons (h.here R0 .nil fun va a σ1 s1 ra R1 g1 k1 q => ?_)
  cases ra
  cases va
  · simp only [Bool.false_eq_true, if_false] at q ⊢; exact ⟨_, σ1, rfl, R1, g1, q⟩
  · simp only [if_true] at q ⊢; exact TV.last q R0 R1 g1 .nil
theorem TAll.or_cons {x : PySem.Expr} {r : List PySem.Expr} {Q : Bool → St → Prop} (h : TB C x σ fun b σ1 => if b then Q true σ1 else TAll C .Or r σ1 Q) : TAll C .Or (x :: r) σ Q := by
  intro s R0 _
  refine wpAny_allTrue_Or_cons (h.here R0 .nil fun va a σ1 s1 ra R1 g1 k1 q => ?_)
  cases ra
  cases va
  · simp only [Bool.false_eq_true, if_false] at q ⊢; exact TV.last q R0 R1 g1 .nil
  · simp only [if_true] at q ⊢; exact ⟨_, σ1, rfl, R1, g1, q⟩
theorem TB.value {e : PySem.Expr} {Q : Bool → St → Prop} (h : TE C e σ fun a σ1 => TTr C a σ1 Q)
    (he : isTrue e C.env (eval e C.env) = (do let v ← eval e C.env; standAt e.pos; holding [v] (truthy v)) := by rfl) : TB C e σ Q := by
  intro s R0 _
  refine wpAny_isTrue_value (h.here R0 .nil fun va a σ1 s1 ra R1 g1 k1 q => ?_) he
  exact (q va).last R0 R1 g1 (.one ra)
theorem TTr.bool {b : Bool} {Q : Bool → St → Prop} (q : Q b σ) : TTr C (.con (.bool b)) σ Q := by
  intro va s R0 hv
  have := hv.inv1
  cases this
  exact wpAny_truthy_bool (Post.toks (tk := s.toks) rfl R0 q)

/-! lists of expressions, displays -/
theorem TL.nil {Q : List AV → St → Prop} (q : Q [] σ) : TL C [] σ Q := fun _ s R0 _ => wpAny_pure (Post.toks (tk := s.toks) .nil R0 q)
theorem TL.cons {e : PySem.Expr} {r : List PySem.Expr} {Q : List AV → St → Prop} (h : TE C e σ fun a σ1 => TL C r σ1 fun as σ2 => Q (a :: as) σ2)
    (he : starEach (e :: r) C.env = (false, eval e C.env) :: starEach r C.env := by rfl) : TL C (e :: r) σ Q := by
  intro pos s R0 _
  rw [he]
  refine spliced_cons (h.here R0 .nil fun va a σ1 s1 ra R1 g1 k1 q => ?_)
  refine (q pos).andThen R0 R1 g1 .nil fun vs as σ2 s2 rs R2 g2 _ k2 q => ?_
  exact ⟨_, σ2, .cons (ra.keep k2) rs, R2, g2, q⟩

theorem tupObj {xs : List Value} : ({ cls := .type "tuple", data := .seq xs.toArray } : Obj) = ⟨.type "tuple", none, .seq xs.toArray 0, #[]⟩ := rfl
theorem TE.tuple {es : List PySem.Expr} {k} {pos} {Q : AV → St → Prop} (h : TL C es σ fun as σ1 => as.length ≤ 16777216 ∧ Q (.tup as) σ1) : TE C (.Tuple es k pos) σ Q := by
  intro s R0 _
  refine wpAny_Tuple_spliced ((h pos).here R0 .nil fun vs as σ1 s1 rs R1 g1 _ q => ⟨?_, ?_⟩)
  · rw [rs.length, sizeLine_eq]; exact q.1
  · have k : ∀ b o, s1.heap.get? b = some o → (s1.heap.push { cls := .type "tuple", data := .seq vs.toArray }).get? b = some o := fun b o e => Heap.get?_push_of_some _ e
    obtain ⟨R2, g2⟩ := R1.ext (s' := { s1 with heap := s1.heap.push { cls := .type "tuple", data := .seq vs.toArray } }) k rfl rfl
    exact ⟨_, σ1, .tup (Heap.get?_push_size _ rfl) (rs.keep fun a _ _ e => k a _ e), R2, g1.trans g2, q.2⟩

theorem Rep.alloc {prog : Program} {w : World} {h₀ : Heap} {os : OsState} {env : Env} {s : Shared} {s1 : Shared} {a : Addr} {ao : AO} (R : Rep prog w h₀ os env σ s) (ha : s.heap.objs.size ≤ a)
    (k : ∀ b o, s.heap.get? b = some o → s1.heap.get? b = some o) (e : OBJ prog w s1.heap a ao) (hg : s1.gens = s.gens) (ho : s1.os = s.os) :
    Rep prog w h₀ os env (σ.put a ao) s1 ∧ Grow env σ s (σ.put a ao) s1 ∧ σ.H a = none := by
  have f := R.free ha
  obtain ⟨R1, g⟩ := R.ext (s' := s1) k hg ho
  refine ⟨⟨R1.keep, R1.locs, R1.cels, ?_, R1.owns, R1.apart, R1.inj, R1.gens, R1.os⟩, ⟨fun b o e1 => ⟨o, k b o e1⟩, fun b o e1 n q => ⟨k b o e1, ?_⟩⟩, f.2⟩
  · intro b o hb
    by_cases hba : b = a
    · subst hba
      rw [show (σ.put b ao).H b = some ao from AH.put_self] at hb
      cases hb
      exact ⟨e, Nat.le_trans R.size ha, f.1⟩
    · rw [show (σ.put a ao).H b = σ.H b from AH.put_ne hba] at hb
      exact R1.objs b o hb
  · have hba : b ≠ a := fun h => absurd (Heap.lt_size e1) (by rw [h]; exact Nat.not_lt.mpr ha)
    exact (AH.put_ne hba).trans q
theorem Rep.allocPush {prog : Program} {w : World} {h₀ : Heap} {os : OsState} {env : Env} {s : Shared} {ob : Obj} {ao : AO} (R : Rep prog w h₀ os env σ s)
    (e : OBJ prog w (s.heap.push ob) s.heap.objs.size ao) :
    Rep prog w h₀ os env (σ.put s.heap.objs.size ao) { s with heap := s.heap.push ob } ∧ Grow env σ s (σ.put s.heap.objs.size ao) { s with heap := s.heap.push ob } ∧ σ.H s.heap.objs.size = none :=
  R.alloc (s1 := { s with heap := s.heap.push ob }) (Nat.le_refl _) (fun b o e => Heap.get?_push_of_some _ e) e rfl rfl

theorem TE.list {es : List PySem.Expr} {pos} {Q : AV → St → Prop} (h : TL C es σ fun as σ1 => as.length ≤ 16777216 ∧ ∀ a, σ1.H a = none → Q (.con (.ref a)) (σ1.put a (.list as))) : TE C (.List es pos) σ Q := by
  intro s R0 _
  refine wpAny_List_spliced ((h pos).here R0 .nil fun vs as σ1 s1 rs R1 g1 _ q => ⟨?_, ?_⟩)
  · rw [rs.length, sizeLine_eq]; exact q.1
  · have k : ∀ b o, s1.heap.get? b = some o → (s1.heap.push { cls := .type "list", data := .seq vs.toArray }).get? b = some o := fun b o e => Heap.get?_push_of_some _ e
    obtain ⟨R2, g2, fr⟩ := R1.allocPush (ob := { cls := .type "list", data := .seq vs.toArray }) (ao := .list as) ⟨vs, ⟨0, Heap.get?_push_size _ rfl⟩, rs.keep fun a _ _ e => k a _ e⟩
    exact ⟨_, _, .con rfl, R2, g1.trans g2, q.2 _ fr⟩
theorem TE.dict0 {pos} {Q : AV → St → Prop} (q : ∀ a, σ.H a = none → Q (.con (.ref a)) (σ.put a (.dict []))) : TE C (.Dict [] [] pos) σ Q := by
  intro s R0 _
  refine wpAny_Dict_empty ?_
  obtain ⟨R2, g2, fr⟩ := R0.allocPush (ob := { cls := .type "dict", data := .dict #[] }) (ao := .dict []) ⟨[], ⟨_, #[], 0, Heap.get?_push_size _ rfl, ⟨rfl, rfl, rfl⟩, rfl, (fun _ h => by simp at h), .nil, .nil⟩, .nil⟩
  exact ⟨_, _, .con rfl, R2, g2, q _ fr⟩
end

theorem Rep.locFalse {C : Cx} : (C.env.scope.kind == .class || (C.env.scope.kind == .module && C.env.locals != C.env.globals)) = false := by rw [C.hk]; rfl

section
variable {C : Cx} {σ : St} {sc : Scope}

/-! stores -/
theorem TSt.local {x : Str} {a : AV} {Q : Unit → St → Prop} (hs : C.env.scope = sc) (hx : sc.names.lookup x = some .local) (q : Q () (σ.set x a)) : TSt C x a σ Q := by
  intro va s R0 hv
  have hx' : C.env.kindOf x = some .local := by unfold Env.kindOf; rw [hs]; exact hx
  obtain ⟨m', hn, hm⟩ := R0.locs
  refine wpAny_storeName_local hx' hn (fun h' hn' hs' => ?_) Rep.locFalse
  obtain ⟨R1, g1⟩ := R0.setLocal (tk := s.toks + 1) hx' hm hv.inv1 hn' hs'
  exact ⟨(), _, trivial, R1, g1, q⟩
theorem TSt.cell {x : Str} {a : AV} {Q : Unit → St → Prop} (hs : C.env.scope = sc) (hx : sc.names.lookup x = some .cell) (q : Q () (σ.set x a)) : TSt C x a σ Q := by
  intro va s R0 hv
  have hx' : C.env.kindOf x = some .cell := by unfold Env.kindOf; rw [hs]; exact hx
  obtain ⟨c, v, hc, hcell, _⟩ := R0.cels x hx'
  refine wpAny_storeName_cell C.hk hx' hc hcell fun h' hn' hs' => ?_
  obtain ⟨R1, g1⟩ := R0.setCell (tk := s.toks) hx' hc hv.inv1 hn' hs'
  exact ⟨(), _, trivial, R1, g1, q⟩

/-! targets -/
def TAsg (C : Cx) (t : PySem.Expr) (a : AV) (σ : St) (Q : Unit → St → Prop) : Prop := ∀ va, TV C [va] [a] RU (assign t C.env va) σ Q
theorem TAsg.name {x : Str} {pos : Pos} {a : AV} {Q : Unit → St → Prop} (h : TSt C x a σ Q) : TAsg C (.Name x pos) a σ Q :=
  fun va s R0 hv => wpAny_assign_Name (h va s R0 hv)
def TOrd (C : Cx) (ts : List (Value → Sem Unit)) (as : List AV) (σ : St) (Q : Unit → St → Prop) : Prop := ∀ vs, TV C vs as RU (assignInOrder ts vs) σ Q
theorem TOrd.nil {Q : Unit → St → Prop} (q : Q () σ) : TOrd C [] [] σ Q :=
  fun vs s R0 _ => assignInOrder_nil (Post.toks (tk := s.toks) trivial R0 q)
theorem TOrd.cons {t : PySem.Expr} {ts : List (Value → Sem Unit)} {a : AV} {as : List AV} {Q : Unit → St → Prop} (h : TAsg C t a σ fun _ σ1 => TOrd C ts as σ1 Q) : TOrd C (assign t C.env :: ts) (a :: as) σ Q := by
  intro vs s R0 hv
  cases hv with
  | cons e r =>
    refine assignInOrder_cons ((h _).here R0 (.one e) fun _ _ σ1 s1 _ R1 g1 k1 q => ?_)
    exact (q _).last R0 R1 g1 (r.keep k1)
theorem TOrd.consB {x : Str} {ts : List (Value → Sem Unit)} {a : AV} {as : List AV} {Q : Unit → St → Prop} (h : TSt C x a σ fun _ σ1 => TOrd C ts as σ1 Q) : TOrd C (bindName C.env x :: ts) (a :: as) σ Q := by
  intro vs s R0 hv
  cases hv with
  | cons e r =>
    refine assignInOrder_cons (wpAny_bindName ((h _).here R0 (.one e) fun _ _ σ1 s1 _ R1 g1 k1 q => ?_))
    exact (q _).last R0 R1 g1 (r.keep k1)
theorem TAsg.tuple {es : List PySem.Expr} {k} {pos : Pos} {as : List AV} {ts : List (Value → Sem Unit)} {Q : Unit → St → Prop} (hh : C.A.handled = none) (ht : (assignEach es C.env).map (·.2) = ts) (hl : ts.length = as.length)
    (hst : (assignEach es C.env).findIdx? (·.1) = none) (h : TOrd C ts as σ Q) : TAsg C (.Tuple es k pos) (.tup as) σ Q := by
  intro va s R0 hv
  cases hv.inv1 with
  | tup e r =>
    rename_i a xs n
    refine wpAny_assign_Tuple (items := xs.toArray) hh ⟨_, e, rfl, n, rfl⟩ ?_ hst fun h' he => ?_
    · rw [← List.length_map (f := (·.2)), ht, hl, List.size_toArray, r.length]
    · rw [ht]
      obtain ⟨fr1, fr2⟩ := R0.free (Nat.le_refl _)
      have k : ∀ b o, s.heap.get? b = some o → h'.get? b = some o := fun b o q => he b o (Nat.ne_of_lt (Heap.lt_size q)) q
      obtain ⟨R1, g1⟩ := R0.ext (s' := { s with heap := h' }) k rfl rfl
      exact (h _).last R0 R1 g1 (r.keep fun b _ _ q => k b _ q)

/-! statements -/
theorem TS.nil {Q : AFl → St → Prop} (q : Q .next σ) : TS C [] σ Q := fun s R0 _ => wpAny_execs_nil (Post.toks (tk := s.toks) .next R0 q)
def andThen (Z : St → Prop) (Q : AFl → St → Prop) (f : AFl) (σ : St) : Prop := match f with | .next => Z σ | f => Q f σ
theorem TS.cons {st : Stmt} {r : List Stmt} {Q : AFl → St → Prop} (h : TX C st σ (andThen (fun σ1 => TS C r σ1 Q) Q)) : TS C (st :: r) σ Q := by
  intro s R0 _
  refine wpAny_execs_cons (h.here R0 .nil fun vf f σ1 s1 rf R1 g1 _ q => ?_)
  cases rf with
  | next => exact TV.last q R0 R1 g1 .nil
  | brk => exact ⟨.brk, σ1, .brk, R1, g1, q⟩
  | cont => exact ⟨.cont, σ1, .cont, R1, g1, q⟩
  | ret e => exact ⟨.ret _, σ1, .ret e, R1, g1, q⟩
theorem TX.assign {x : Str} {p pos : Pos} {e : PySem.Expr} {Q : AFl → St → Prop} (h : TE C e σ fun a σ1 => TSt C x a σ1 fun _ σ2 => Q .next σ2)
    (hsw : swapsWith e (some (.Name x p)) pos.line C.env = pure false := by rfl) : TX C (.Assign [.Name x p] e pos) σ Q := by
  intro s R0 _
  refine wpAny_Assign_Name (h.here R0 .nil fun va a σ1 s1 ra R1 g1 k1 q => ?_) hsw
  exact (q va).andThen R0 R1 g1 (.one ra) fun _ _ σ2 s2 _ R2 g2 _ _ q => ⟨.next, σ2, .next, R2, g2, q⟩
theorem TX.assignSub {o i e : PySem.Expr} {p pos : Pos} {Q : AFl → St → Prop} (h : TE C e σ fun a σ1 => TE C o σ1 fun b σ2 => TE C i σ2 fun c σ3 => TSet C b c a σ3 fun _ σ4 => Q .next σ4)
    (hsw : swapsWith e (some (.Subscript o i p)) pos.line C.env = pure false := by rfl) : TX C (.Assign [.Subscript o i p] e pos) σ Q := by
  intro s R0 _
  refine wpAny_Assign_Subscript (h.here R0 .nil fun va a σ1 s1 ra R1 g1 k1 q => ?_) hsw
  refine q.andThen R0 R1 g1 .nil fun vb b σ2 s2 rb R2 g2 _ k2 q => ?_
  refine q.andThen R0 R2 g2 .nil fun vc c σ3 s3 rc R3 g3 _ k3 q => ?_
  exact (q vb vc va).andThen R0 R3 g3 (.mk3 (rb.keep k3) rc ((ra.keep k2).keep k3)) fun _ _ σ2 s2 _ R2 g2 _ _ q => ⟨.next, σ2, .next, R2, g2, q⟩
theorem TX.assignTup {es : List PySem.Expr} {k} {p pos : Pos} {e : PySem.Expr} {Q : AFl → St → Prop} (h : TE C e σ fun a σ1 => TAsg C (.Tuple es k p) a σ1 fun _ σ2 => Q .next σ2)
    (hs : swapsWithSole [.Tuple es k p] e pos.line C.env = pure false) (hw : swappedStores [.Tuple es k p] e C.env = pure none) : TX C (.Assign [.Tuple es k p] e pos) σ Q := by
  intro s R0 _
  refine Assign_Tuple (h.here R0 .nil fun va a σ1 s1 ra R1 g1 k1 q => ?_) hs hw
  exact (q va).andThen R0 R1 g1 (.one ra) fun _ _ σ2 s2 _ R2 g2 _ _ q => ⟨.next, σ2, .next, R2, g2, q⟩
theorem TX.assignSwap {es : List PySem.Expr} {k} {p pos : Pos} {e : PySem.Expr} {names : List Str} {Q : AFl → St → Prop} (hh : C.A.handled = none)
    (h : TE C e σ fun a σ1 => ∃ as, a = .tup as ∧ as.length = names.length ∧ TOrd C (names.reverse.map fun n => bindName C.env n) as.reverse σ1 fun _ σ2 => Q .next σ2)
    (hs : swapsWithSole [.Tuple es k p] e pos.line C.env = pure false) (hw : swappedStores [.Tuple es k p] e C.env = pure (some names)) : TX C (.Assign [.Tuple es k p] e pos) σ Q := by
  intro s R0 _
  refine Assign_Tuple_swapped (names := names) (h.here R0 .nil fun va a σ1 s1 ra R1 g1 k1 q => ?_) hs hw
  obtain ⟨as, rfl, hl, q⟩ := q
  cases ra with
  | tup e r =>
    rename_i a xs n
    rw [show names.length = xs.toArray.size from by rw [List.size_toArray, r.length, hl]]
    refine wpAny_unpackItems_tuple hh ⟨_, e, rfl, n, rfl⟩ fun h' he => ?_
    have k : ∀ b o, s1.heap.get? b = some o → h'.get? b = some o := fun b o q => he b o (Nat.ne_of_lt (Heap.lt_size q)) q
    obtain ⟨R2, g2⟩ := R1.ext (s' := { s1 with heap := h' }) k rfl rfl
    have r' : VRels h' xs as := r.keep fun b _ _ q => k b _ q
    have rev : ∀ {l : List Value} {m : List AV}, VRels h' l m → VRels h' l.reverse m.reverse := by
      intro l
      induction l with
      | nil => intro m r; cases r; exact .nil
      | cons v l ih => intro m r; cases r with | cons e r => rw [List.reverse_cons, List.reverse_cons]; exact (ih r).append (.one e)
    exact (q _).andThen R0 R2 (g1.trans g2) (rev r') fun _ _ σ2 s2 _ R2 g2 _ _ q => ⟨.next, σ2, .next, R2, g2, q⟩
theorem TX.aug {x : Str} {p pos : Pos} {op} {e : PySem.Expr} {Q : AFl → St → Prop} (h : TLd C x σ fun a σ1 => TE C e σ1 fun b σ2 => TInp C op a b σ2 fun c σ3 => TSt C x c σ3 fun _ σ4 => Q .next σ4) :
    TX C (.AugAssign (.Name x p) op e pos) σ Q := by
  intro s R0 _
  refine wpAny_AugAssign_Name (h.here R0 .nil fun va a σ1 s1 ra R1 g1 k1 q => ?_)
  refine q.andThen R0 R1 g1 .nil fun vb b σ2 s2 rb R2 g2 _ k2 q => ?_
  refine (q va vb).andThen R0 R2 g2 (.mk2 (ra.keep k2) rb) fun vc c σ3 s3 rc R3 g3 _ k3 q => ?_
  exact (q vc).andThen R0 R3 g3 (.one rc) fun _ _ σ2 s2 _ R2 g2 _ _ q => ⟨.next, σ2, .next, R2, g2, q⟩
theorem TX.expr {e : PySem.Expr} {pos : Pos} {Q : AFl → St → Prop} (h : TE C e σ fun _ σ1 => Q .next σ1) (hi : interactive C.env = false) (hs : swapsWith e none pos.line C.env = pure false := by rfl) : TX C (.Expr e pos) σ Q := by
  intro s R0 _
  exact wpAny_Expr_any (h.here R0 .nil fun _ _ σ1 s1 _ R1 g1 _ q => ⟨.next, σ1, .next, R1, g1, q⟩) hi hs
theorem TX.ret {e : PySem.Expr} {pos : Pos} {Q : AFl → St → Prop} (h : TE C e σ fun a σ1 => Q (.ret a) σ1) : TX C (.Return (some e) pos) σ Q := by
  intro s R0 _
  exact wpAny_Return_some (h.here R0 .nil fun _ a σ1 s1 r R1 g1 _ q => ⟨.ret a, σ1, .ret r, R1, g1, q⟩)
theorem TX.ifS {t : PySem.Expr} {b o : List Stmt} {pos : Pos} {Q : AFl → St → Prop} (h : TB C t σ fun c σ1 => if c then TS C b σ1 Q else TS C o σ1 Q) : TX C (.If t b o pos) σ Q := by
  intro s R0 _
  refine wpAny_If (h.here R0 .nil fun vc c σ1 s1 rc R1 g1 k1 q => ?_)
  cases rc
  cases vc
  · simp only [Bool.false_eq_true, if_false] at q ⊢; exact TV.last q R0 R1 g1 .nil
  · simp only [if_true] at q ⊢; exact TV.last q R0 R1 g1 .nil
end

/-- what flies out of a loop's turn is what flies out of the loop -/
def Cx.Loops (C : Cx) : Prop := ∀ σ s e s', C.X σ s e s' → notedBy C.M C.A C.env (cameBackBy C.M C.A C.env (C.X σ s)) e s'
/-- nothing flies -/
def Cx.Calm (C : Cx) : Prop := ∀ σ s e s', ¬ C.X σ s e s'
theorem Cx.Calm.loops {C : Cx} (h : C.Calm) : C.Loops := fun σ s e s' x => (h σ s e s' x).elim

section
variable {C : Cx} {α β : Type} {vs : List Value} {as : List AV} {R : Heap → α → β → Prop} {t : Sem α} {σ σ1 σ2 : St} {s s1 s2 : Shared} {Q Q' : β → St → Prop}
theorem TV.thenE (h : TV C vs as R t σ1 Q) {Z : α → Shared → Prop} {E : Value → Shared → Prop} (R0 : C.R σ s) (R1 : C.R σ1 s1) (g : C.G σ s σ1 s1) (hv : VRels s1.heap vs as) (hE : ∀ e s', C.X σ s e s' → E e s')
    (k : ∀ a b σ2 s2, R s2.heap a b → C.R σ2 s2 → C.G σ s σ2 s2 → C.G σ1 s1 σ2 s2 → TupKeep s1.heap s2.heap → Q b σ2 → Z a s2) : wpAny C.M C.A t Z E s1 :=
  wpAny_mono (h.andThen R0 R1 g hv k) (fun _ _ x => x) hE
end

def Objs (prog : Program) (w : World) (h : Heap) (H : AH) : Prop := ∀ a o, H a = some o → OBJ prog w h a o
theorem Rep.Objs {prog : Program} {w : World} {h₀ : Heap} {os : OsState} {env : Env} {σ : St} {s : Shared} (R : Rep prog w h₀ os env σ s) : Mine.Objs prog w s.heap σ.H := fun a o e => (R.objs a o e).1
structure ItOk (prog : Program) (w : World) (A : Around) (it : Addr) (xs : List AV) (ok : AH → Prop) (It : Nat → Heap → Prop) : Prop where
  item : ∀ i x H s (Q : Option Value → Shared → Prop) (E : Value → Shared → Prop), xs[i]? = some x → Objs prog w s.heap H → ok H → It i s.heap →
    (∀ v h' tk, VRel h' v x → It (i + 1) h' → Heap.ExtBut it s.heap h' → Q (some v) { s with heap := h', toks := tk }) → wpAny (model prog w) A (pyNext (.ref it)) Q E s
  done : ∀ H s (Q : Option Value → Shared → Prop) (E : Value → Shared → Prop), Objs prog w s.heap H → ok H → It xs.length s.heap → (∀ h' tk, Heap.ExtBut it s.heap h' → Q none { s with heap := h', toks := tk }) → wpAny (model prog w) A (pyNext (.ref it)) Q E s
  keep : ∀ i h h', It i h → TupKeep h h' → (∀ o, h.get? it = some o → h'.get? it = some o) → It i h'
  go : ∀ i (target : PySem.Expr) v s (Q : Unit → Shared → Prop) (E : Value → Shared → Prop), It i s.heap → Q () s → wpAny (model prog w) A (letOwnedTupleGo target (.ref it) v) Q E s
  obj : ∀ i h, It i h → ∃ o, h.get? it = some o ∧ notTup o
  self : ∀ i s (Q : Value → Shared → Prop) (E : Value → Shared → Prop), It i s.heap → Q (.ref it) s → wpAny (model prog w) A (pyIter (.ref it)) Q E s

def FEnd (I : Nat → St → Prop) (i : Nat) (Q : AFl → St → Prop) : AFl → St → Prop
  | .next, σ => I (i + 1) σ
  | .cont, σ => I (i + 1) σ
  | .brk, σ => Q .next σ
  | .ret v, σ => Q (.ret v) σ

section
variable {C : Cx} {σ σ1 : St} {s s1 : Shared} {it : Addr} {xs : List AV} {ok : AH → Prop} {It : Nat → Heap → Prop}

theorem for_run {target : PySem.Expr} {body : List Stmt} {Q : AFl → St → Prop} (hL : C.Loops) (W : ItOk C.prog C.w C.A it xs ok It) (I : Nat → St → Prop) (hok : ∀ i σ, i ≤ xs.length → I i σ → ok σ.H)
    (R0 : C.R σ s) (R1 : C.R σ1 s1) (g1 : C.G σ s σ1 s1) (hi : It 0 s1.heap) (fr : s.heap.get? it = none) (ho : it ∉ own C.env) (hH : σ1.H it = none) (hz : C.h₀.objs.size ≤ it) (h0 : I 0 σ1)
    (turn : ∀ i x σ2, xs[i]? = some x → I i σ2 → TAsg C target x σ2 fun _ σ3 => TS C body σ3 (FEnd I i Q))
    (fin : ∀ σ2, I xs.length σ2 → Q .next σ2) :
    codeAny C.M C.A (.forLoop target (.ref it) body [] C.env) (fun r s' => match r with | .ok f => Post C RF σ s Q f s' | .error e => cameBackBy C.M C.A C.env (C.X σ s) e s') s1 := by
  refine codeAny_forLoop_any (fun k s' => ∃ i σ', k + i = xs.length + 1 ∧ i ≤ xs.length ∧ C.R σ' s' ∧ C.G σ s σ' s' ∧ It i s'.heap ∧ σ'.H it = none ∧ I i σ') ?_ (xs.length + 1) ⟨0, σ1, rfl, Nat.zero_le _, R1, g1, hi, hH, h0⟩
  rintro k s' ⟨i, σ', hk, hle, R', g', hI, hH', hinv⟩
  obtain ⟨o, hob, nt⟩ := W.obj i _ hI
  by_cases hlt : i < xs.length
  · have hx : xs[i]? = some xs[i] := by simp [hlt]
    refine W.item i _ σ'.H s' _ _ hx R'.Objs (hok i σ' hle hinv) hI fun v h' tk rv hI' hs' => ?_
    obtain ⟨R2, tk2⟩ := R'.touch (tk := tk) hz ho hH' hob nt hs'
    have g2 := g'.but (tk := tk) fr hs'
    refine W.go (i + 1) _ _ _ _ _ hI' ?_
    refine (turn i _ σ' hx hinv v).thenE R0 R2 g2 (.one rv) (fun e s' x => hL _ _ _ _ x) fun _ _ σ3 s3 _ R3 g3 g23 k3 q => ?_
    obtain ⟨o', hob', _⟩ := W.obj (i + 1) _ hI'
    have e3 := g23.2 it o' hob' ho hH'
    refine TV.thenE q R0 R3 g3 .nil (fun e s' x => hL _ _ _ _ x) fun vf f σ4 s4 rf R4 g4 g34 k4 q => ?_
    have e4 := g34.2 it o' e3.1 ho e3.2
    have hI4 : It (i + 1) s4.heap := W.keep _ _ _ (W.keep _ _ _ hI' k3 fun o q => by rw [hob'] at q; cases q; exact e3.1) k4 fun o q => by rw [e3.1] at q; cases q; exact e4.1
    cases rf with
    | next => exact ⟨k - 1, by omega, i + 1, σ4, by omega, hlt, R4, g4, hI4, e4.2, q⟩
    | cont => exact ⟨k - 1, by omega, i + 1, σ4, by omega, hlt, R4, g4, hI4, e4.2, q⟩
    | brk => exact ⟨.next, σ4, .next, R4, g4, q⟩
    | ret e => exact ⟨.ret _, σ4, .ret e, R4, g4, q⟩
  · have he : i = xs.length := by omega
    subst he
    refine W.done σ'.H s' _ _ R'.Objs (hok _ σ' hle hinv) hI fun h' tk hs' => ?_
    obtain ⟨R2, _⟩ := R'.touch (tk := tk) hz ho hH' hob nt hs'
    exact wpAny_execs_nil ⟨.next, σ', .next, R2, g'.but fr hs', fin σ' hinv⟩

end
section
variable {C : Cx} {prog : Program} {w : World} {A : Around} {σ σ1 : St} {s s1 : Shared} {it : Addr} {xs : List AV} {ok : AH → Prop} {It : Nat → Heap → Prop}
/-! the iterators -/
theorem go_plain {M : Model} {A : Around} {E : Value → Shared → Prop} {s : Shared} {o : Obj} {n : String} {it : Addr} {target : PySem.Expr} {v : Value} {Q : Unit → Shared → Prop} (ho : s.heap.get? it = some o) (hc : o.cls = .type n) (hd : ∃ vs, o.data = .fields vs)
    (hn : (["enumerate", "zip", "dict_itemiterator", "dict_reverseitemiterator", "odict_iterator", "itertools.zip_longest", "itertools.pairwise"] : List String).contains n = false) (q : Q () s) : wpAny M A (letOwnedTupleGo target (.ref it) v) Q E s := by
  obtain ⟨c, d, dt, sl⟩ := o
  dsimp only at hc hd
  subst hc
  obtain ⟨vs, rfl⟩ := hd
  have key : ∀ r, v = .ref r → wpAny M A (do
      let o ← load it
      match o.cls, o.data with
      | .type n, .fields vs =>
        if (["enumerate", "zip", "dict_itemiterator", "dict_reverseitemiterator", "odict_iterator", "itertools.zip_longest", "itertools.pairwise"] : List String).contains n && vs[0]? == some (rawInt r) then
          rule "for.unpacks-the-owned-tuple"
          updateField it 0 .none
      | _, _ => pure ()) Q E s := fun r _ => by
    refine wpAny_bind (wpAny_load ho ?_)
    dsimp only
    rw [hn]
    exact wpAny_pure q
  cases target <;> first | exact wpAny_pure q | skip
  · cases v <;> first | exact wpAny_pure q | exact key _ rfl
  · cases v <;> first | exact wpAny_pure q | exact key _ rfl

theorem ext_tups {h h' : Heap} {it : Addr} {o : Obj} {T : String} (ho : h.get? it = some o) (hc : o.cls = .type T) (hT : (T == "tuple") = false) (hs : Heap.ExtBut it h h') : TupKeep h h' := fun b xs n q => hs b _ (fun x => by
  subst x; rw [ho] at q; cases q; cases hc; exact absurd hT (by decide)) q

theorem itList {l : Addr} (hh : A.handled = none) : ItOk prog w A it xs (fun H => H l = some (.list xs)) (fun i h => h.IsListIter it l i) where
  item := fun i x H s Q E hx R0 hok hI k => by
    obtain ⟨ys, ⟨n, e⟩, r⟩ := (R0 l _ hok)
    obtain ⟨v, hv, rv⟩ := r.get hx
    refine wpAny_pyNext_list_item hI ⟨_, e, rfl, n, rfl⟩ (by simpa using hv) fun h' hI' hs' => ?_
    obtain ⟨o, ho, hc, hd⟩ := hI
    exact k v h' s.toks (rv.keep (ext_tups ho hc rfl hs'.extBut)) hI' hs'.extBut
  done := fun H s Q E R0 hok hI k => by
    obtain ⟨ys, ⟨n, e⟩, r⟩ := (R0 l _ hok)
    exact wpAny_pyNext_list_end hh hI ⟨_, e, rfl, n, rfl⟩ (by simp [r.length]) fun h' hs' => k h' s.toks hs'
  keep := fun i h h' hI _ e => hI.at e
  go := fun i target v s Q E ⟨o, ho, hc, hd⟩ q => go_plain ho hc ⟨_, hd⟩ (by decide) q
  obj := fun i h ⟨o, ho, hc, hd⟩ => ⟨o, ho, fun xs n q => by rw [q] at hd; cases hd⟩
  self := fun i s Q E hI q => wpAny_pyIter_listiter hI q
theorem itTuple {t : Addr} (hh : A.handled = none) : ItOk prog w A it xs (fun _ => True) (fun i h => h.IsTupleIter it t i ∧ ∃ ys n, h.get? t = some ⟨.type "tuple", none, .seq ys.toArray n, #[]⟩ ∧ VRels h ys xs) where
  item := fun i x H s Q E hx R0 _ hI k => by
    obtain ⟨hI, ys, n, e, r⟩ := hI
    obtain ⟨v, hv, rv⟩ := r.get hx
    refine wpAny_pyNext_tuple_item hI ⟨_, e, rfl, n, rfl⟩ (by simpa using hv) fun h' hI' hs' => ?_
    obtain ⟨o, ho, hc, hd⟩ := hI
    have tk := ext_tups ho hc rfl hs'.extBut
    exact k v h' s.toks (rv.keep tk) ⟨hI', ys, n, tk _ _ _ e, r.keep tk⟩ hs'.extBut
  done := fun H s Q E R0 _ hI k => by
    obtain ⟨hI, ys, n, e, r⟩ := hI
    exact wpAny_pyNext_tuple_end hh hI ⟨_, e, rfl, n, rfl⟩ (by simp [r.length]) fun h' hs' => k h' s.toks hs'
  keep := fun i h h' ⟨hI, ys, n, e, r⟩ tk ke => ⟨let ⟨o, ho, rr⟩ := hI; ⟨o, ke _ ho, rr⟩, ys, n, tk _ _ _ e, r.keep tk⟩
  go := fun i target v s Q E ⟨⟨o, ho, hc, hd⟩, _⟩ q => go_plain ho hc ⟨_, hd⟩ (by decide) q
  obj := fun i h ⟨⟨o, ho, hc, hd⟩, _⟩ => ⟨o, ho, fun xs n q => by rw [q] at hd; cases hd⟩
  self := fun i s Q E hI q => wpAny_pyIter_tupleiter hI.1 q
def intsA (n : Nat) : List AV := (List.range n).map fun i : Nat => AV.int (i : Int)
theorem itRange {n : Nat} (hh : A.handled = none) : ItOk prog w A it (intsA n) (fun _ => True) (fun i h => IsRangeIter h it i ((n : Int) - i) 1) where
  item := fun i x H s Q E hx R0 _ hI k => by
    have hi : i < n := by
      have := (List.getElem?_eq_some_iff.mp hx).1
      simpa [intsA] using this
    have hx' : x = .int i := by
      simp only [intsA, List.getElem?_map, List.getElem?_range hi, Option.map_some, Option.some.injEq] at hx
      exact hx.symm
    subst hx'
    refine wpAny_pyNext_range_item hI (by omega) fun h' hI' hs' => ?_
    have e : ((n : Int) - (i : Int) - 1) = (n : Int) - ((i + 1 : Nat) : Int) := by omega
    rw [e] at hI'
    exact k _ h' (s.toks + 1) (.int _ _) (by simpa using hI') hs'.extBut
  done := fun H s Q E R0 _ hI k => by
    have hn : (intsA n).length = n := by simp [intsA]
    rw [hn] at hI
    exact wpAny_pyNext_range_end hh hI (by omega) fun h' hs' => k h' s.toks hs'
  keep := fun i h h' hI _ e => e _ hI
  go := fun i target v s Q E hI q => go_plain hI rfl ⟨_, rfl⟩ (by decide) q
  obj := fun i h hI => ⟨_, hI, fun xs n q => by injection q with q1; injection q1 with q2; exact absurd q2 (by decide)⟩
  self := fun i s Q E hI q => wpAny_pyIter_rangeiter hI q
theorem itKeys {d : Addr} {es : List (Str × AV)} {ep : Nat} (hh : A.handled = none) : ItOk prog w A it (es.map fun e => .str e.1) (fun H => H d = some (.dictE es ep)) (fun i h => h.IsKeyIter it d i es.length ep) where
  item := fun i x H s Q E hx R0 hok hI k => by
    obtain ⟨ds, hd, r⟩ := (R0 d _ hok)
    rw [List.getElem?_map] at hx
    obtain ⟨⟨kk, a⟩, he, rfl⟩ := Option.map_eq_some_iff.mp hx
    obtain ⟨v, hv, _⟩ := r.at he
    rw [← r.length] at hI
    refine wpAny_pyNext_dict_item hI hd hv fun key h' hk hI' hs' => ?_
    rw [r.length] at hI'
    obtain ⟨t, rfl⟩ := Value.isStrOf_shape hk
    exact k _ h' s.toks (.str _ _) hI' hs'.extBut
  done := fun H s Q E R0 hok hI k => by
    obtain ⟨ds, hd, r⟩ := (R0 d _ hok)
    rw [← r.length] at hI
    exact wpAny_pyNext_dict_end hh hI hd (by simp [r.length]) fun h' hs' => k h' s.toks hs'
  keep := fun i h h' hI _ e => hI.at e
  go := fun i target v s Q E ⟨o, ho, hc, hd⟩ q => go_plain ho hc ⟨_, hd⟩ (by decide) q
  obj := fun i h ⟨o, ho, hc, hd⟩ => ⟨o, ho, fun xs n q => by rw [q] at hd; cases hd⟩
  self := fun i s Q E hI q => wpAny_pyIter_keyiter hI q

theorem ItOk.mono {ok' : AH → Prop} (W : ItOk prog w A it xs ok It) (h : ∀ H, ok' H → ok H) : ItOk prog w A it xs ok' It :=
  ⟨fun i x σ s Q E hx R0 o => W.item i x σ s Q E hx R0 (h _ o), fun σ s Q E R0 o => W.done σ s Q E R0 (h _ o), W.keep, W.go, W.obj, W.self⟩

/-- what a for runs through -/
def IterAs (C : Cx) (a : AV) (xs : List AV) (ok : AH → Prop) : Prop :=
  ∀ va σ s, C.R σ s → ok σ.H → VRel s.heap va a → ∀ (Q : Value → Shared → Prop) (E : Value → Shared → Prop),
    (∀ h' It, (∀ b o, s.heap.get? b = some o → h'.get? b = some o) → It 0 h' → ItOk C.prog C.w C.A s.heap.objs.size xs ok It → Q (.ref s.heap.objs.size) { s with heap := h' }) → wpAny C.M C.A (pyIter va) Q E s
theorem IterAs.list {l : Addr} (hh : C.A.handled = none) : IterAs C (.con (.ref l)) xs (fun H => H l = some (.list xs)) := by
  intro va σ s R0 hok rv Q E k
  cases rv
  obtain ⟨ys, ⟨n, e⟩, r⟩ := (R0.objs l _ hok).1
  exact wpAny_pyIter_list ⟨_, e, rfl, n, rfl⟩ (k _ (fun i h => h.IsListIter s.heap.objs.size l i) (fun b o q => Heap.get?_push_of_some _ q) ⟨_, Heap.get?_push_size _ rfl, rfl, rfl⟩ (itList hh))
theorem IterAs.tuple (hh : C.A.handled = none) : IterAs C (.tup xs) xs (fun _ => True) := by
  intro va σ s R0 hok rv Q E k
  cases rv with
  | tup e r =>
    rename_i t ys n
    have kp : ∀ b o, s.heap.get? b = some o → (s.heap.push { cls := .type "tuple_iterator", data := .fields #[.ref t, .int 0 0] }).get? b = some o := fun b o q => Heap.get?_push_of_some _ q
    exact wpAny_pyIter_tuple ⟨_, e, rfl, n, rfl⟩ (k _ _ kp ⟨⟨_, Heap.get?_push_size _ rfl, rfl, rfl⟩, ys, n, kp _ _ e, r.keep fun a _ _ e => kp a _ e⟩ (itTuple (t := t) hh))
theorem rangeSize_nat (n : Nat) : Builtin.Range.rangeSize 0 (n : Int) 1 = (n : Int) := by
  unfold Builtin.Range.rangeSize
  simp only [show (1 : Int) > 0 from by decide, if_true]
  split
  · omega
  · omega
theorem range_small {n : Nat} (hn : n ≤ 16777216) : Builtin.Range.small 0 (n : Int) 1 = true := by
  unfold Builtin.Range.small
  rw [rangeSize_nat]
  have : ∀ i : Int, -10 ≤ i → i ≤ 16777226 → Builtin.Range.rangeFitsLong i = true := fun i h1 h2 => by
    unfold Builtin.Range.rangeFitsLong
    simp only [Bool.and_eq_true, decide_eq_true_eq]
    omega
  simp only [this 0 (by omega) (by omega), this n (by omega) (by omega), this 1 (by omega) (by omega), this ((n : Int) + (1 - 1)) (by omega) (by omega), Bool.and_self, Bool.true_and, show (1 : Int) > 0 from by decide, if_true, Bool.or_true]
theorem IterAs.range {r : Addr} {n : Nat} (hh : C.A.handled = none) (hn : n ≤ 16777216) : IterAs C (.con (.ref r)) (intsA n) (fun H => H r = some (.rng n)) := by
  intro va σ s R0 hok rv Q E k
  cases rv
  obtain ⟨t, u, v, e⟩ := (R0.objs r _ hok).1
  refine wpAny_pyIter_range e (range_small hn) (k _ (fun i h => IsRangeIter h s.heap.objs.size i ((n : Int) - i) 1) (fun b o q => Heap.get?_push_of_some _ q) ?_ ((itRange hh).mono fun _ _ => trivial))
  rw [rangeSize_nat]
  simpa using Heap.get?_push_size s.heap (o := { cls := .type "range_iterator", data := .fields #[rawInt 0, rawInt (n : Int), rawInt 1] }) rfl
theorem Cx.notSys (C : Cx) {d : Addr} (h : C.h₀.objs.size ≤ d) : (d == sysModules) = false := by
  have := C.hsys
  simp only [beq_eq_false_iff_ne, ne_eq]
  intro e; subst e; exact absurd this (Nat.not_lt.mpr h)
theorem IterAs.keys {d : Addr} {es : List (Str × AV)} {ep : Nat} (hh : C.A.handled = none) : IterAs C (.con (.ref d)) (es.map fun e => .str e.1) (fun H => H d = some (.dictE es ep)) := by
  intro va σ s R0 hok rv Q E k
  cases rv
  obtain ⟨⟨ds, hd, r⟩, hz, _⟩ := R0.objs d _ hok
  refine wpAny_pyIter_dict (C.notSys hz) hd (k _ (fun i h => h.IsKeyIter s.heap.objs.size d i es.length ep) (fun b o q => Heap.get?_push_of_some _ q) ?_ (itKeys hh))
  rw [← r.length]
  exact ⟨_, Heap.get?_push_size _ rfl, rfl, rfl⟩

theorem TX.for {target iter : PySem.Expr} {body : List Stmt} {pos : Pos} {Q : AFl → St → Prop} (hL : C.Loops)
    (h : TE C iter σ fun a σ1 => ∃ xs ok I, IterAs C a xs ok ∧ (∀ i σ, i ≤ xs.length → I i σ → ok σ.H) ∧ I 0 σ1 ∧
      (∀ i x σ2, xs[i]? = some x → I i σ2 → TAsg C target x σ2 fun _ σ3 => TS C body σ3 (FEnd I i Q)) ∧ (∀ σ2, I xs.length σ2 → Q .next σ2))
    (hf : ∀ x, foldedSetIterable iter C.env x = pure x := by intro _; rfl) : TX C (.For target iter body [] pos) σ Q := by
  intro s R0 _
  refine wpAny_For (h.here R0 .nil fun va a σ1 s1 ra R1 g1 k1 q => ?_) hf
  obtain ⟨xs, ok, I, hi, hok, h0, turn, fin⟩ := q
  refine hi va σ1 s1 R1 (hok 0 σ1 (Nat.zero_le _) h0) ra _ _ fun h' It kp hI W => ?_
  obtain ⟨R2, g2⟩ := R1.ext (s' := { s1 with heap := h' }) kp rfl rfl
  obtain ⟨f1, f2⟩ := R1.free (Nat.le_refl _)
  exact for_run hL W I hok R0 R2 (g1.trans g2) hI g1.fresh f1 f2 R1.size h0 turn fin
end

section
variable {C : Cx} {σ σ1 : St} {s s1 : Shared}

def WEnd (I : Nat → St → Prop) (n : Nat) (Q : AFl → St → Prop) : AFl → St → Prop
  | .next, σ => ∃ m, m < n ∧ I m σ
  | .cont, σ => ∃ m, m < n ∧ I m σ
  | .brk, σ => Q .next σ
  | .ret v, σ => Q (.ret v) σ
theorem TX.while {test : PySem.Expr} {body : List Stmt} {pos : Pos} {Q : AFl → St → Prop} (hL : C.Loops) (I : Nat → St → Prop) (n : Nat) (h0 : I n σ)
    (turn : ∀ n σ1, I n σ1 → TB C test σ1 fun b σ2 => if b then TS C body σ2 (WEnd I n Q) else Q .next σ2) : TX C (.While test body [] pos) σ Q := by
  intro s R0 _
  refine wpAny_While (codeAny_whileLoop (fun k s' => ∃ σ', C.R σ' s' ∧ C.G σ s σ' s' ∧ I k σ') ?_ n ⟨σ, R0, Grow.refl _ _ _, h0⟩)
  rintro k s' ⟨σ', R', g', hI⟩
  refine (turn k σ' hI).thenE R0 R' g' .nil (fun e s' x => hL _ _ _ _ x) fun vb b σ2 s2 rb R2 g2 _ _ q => ?_
  cases rb
  cases vb
  · simp only [Bool.false_eq_true, if_false] at q ⊢
    exact wpAny_execs_nil ⟨.next, σ2, .next, R2, g2, q⟩
  · simp only [if_true] at q ⊢
    refine TV.thenE q R0 R2 g2 .nil (fun e s' x => hL _ _ _ _ x) fun vf f σ4 s4 rf R4 g4 g34 k4 q => ?_
    cases rf with
    | next => obtain ⟨m, hm, hI⟩ := q; exact ⟨m, hm, σ4, R4, g4, hI⟩
    | cont => obtain ⟨m, hm, hI⟩ := q; exact ⟨m, hm, σ4, R4, g4, hI⟩
    | brk => exact ⟨.next, σ4, .next, R4, g4, q⟩
    | ret e => exact ⟨.ret _, σ4, .ret e, R4, g4, q⟩

/-! comprehensions -/
def relab (sc : Scope) : Scope := { sc with names := sc.names.map fun p => if p.2 == .free then (p.1, .cell) else p }
theorem relabel_eq {sc : Scope} {env : Env} (hk : env.scope.kind = .function) (hf : ∀ p ∈ sc.names, p.2 = .free → env.kindOf p.1 = some .cell) : relabel sc env = relab sc := by
  unfold relabel relab
  congr 1
  refine List.map_congr_left fun p hp => ?_
  obtain ⟨n, k⟩ := p
  by_cases h : k = .free
  · subst h
    have := hf _ hp rfl
    simp [hk, this]
  · have h' : (k == NameKind.free) = false := by simpa using h
    simp [h']
def closeL (c : Str → Addr) : List (Str × NameKind) → List (Str × Addr) → List (Str × Addr)
  | [], acc => acc
  | p :: r, acc => if p.2 == .free then closeL c r ((p.1, c p.1) :: acc) else closeL c r acc
theorem closureFor_eq {sc : Scope} {env : Env} (c : Str → Addr) (h : ∀ p ∈ sc.names, p.2 = .free → env.cells.lookup p.1 = some (c p.1)) : closureFor sc env = pure (closeL c sc.names []) := by
  unfold closureFor
  have key : ∀ (l : List (Str × NameKind)) (acc : List (Str × Addr)), (∀ p ∈ l, p.2 = .free → env.cells.lookup p.1 = some (c p.1)) →
      (forIn l acc fun p cs => (do
        let (name, kind) := p
        if kind == .free then do
          let __x ← cellOf env name
          pure (ForInStep.yield ((name, __x) :: cs))
        else pure (ForInStep.yield cs) : Sem (ForInStep (List (Str × Addr))))) = (pure (closeL c l acc) : Sem _) := by
    intro l
    induction l with
    | nil => intro acc _; rfl
    | cons p r ih =>
      intro acc hl
      rw [List.forIn_cons]
      obtain ⟨n, k⟩ := p
      by_cases hk : k = .free
      · subst hk
        have e := hl _ List.mem_cons_self rfl
        dsimp only at e
        simp only [beq_self_eq_true, if_true, cellOf, e, closeL]
        exact ih _ fun p hp => hl p (List.mem_cons_of_mem _ hp)
      · have h' : (k == NameKind.free) = false := by simpa using hk
        simp only [h', Bool.false_eq_true, if_false, closeL]
        exact ih _ fun p hp => hl p (List.mem_cons_of_mem _ hp)
  have := key sc.names [] h
  simp only [] at this ⊢
  show (forIn sc.names [] _ >>= fun cs => pure cs) = _
  rw [show (forIn sc.names [] _ : Sem (List (Str × Addr))) = pure (closeL c sc.names []) from this]
  rfl
theorem closeL_mem {c : Str → Addr} : ∀ {l : List (Str × NameKind)} {acc : List (Str × Addr)} {q : Str × Addr}, q ∈ closeL c l acc → q ∈ acc ∨ (q.2 = c q.1 ∧ (q.1, NameKind.free) ∈ l)
  | [], _, _, h => .inl h
  | p :: r, acc, q, h => by
    unfold closeL at h
    obtain ⟨n, k⟩ := p
    by_cases hk : k = .free
    · subst hk
      simp only [beq_self_eq_true, if_true] at h
      rcases closeL_mem h with h | ⟨h1, h2⟩
      · rcases List.mem_cons.mp h with rfl | h
        · exact .inr ⟨rfl, List.mem_cons_self⟩
        · exact .inl h
      · exact .inr ⟨h1, List.mem_cons_of_mem _ h2⟩
    · have h' : (k == NameKind.free) = false := by simpa using hk
      simp only [h', Bool.false_eq_true, if_false] at h
      rcases closeL_mem h with h | ⟨h1, h2⟩
      · exact .inl h
      · exact .inr ⟨h1, List.mem_cons_of_mem _ h2⟩
theorem closeL_has {c : Str → Addr} {x : Str} : ∀ {l : List (Str × NameKind)} {acc : List (Str × Addr)}, (∀ q ∈ acc, q.2 = c q.1) → ((x, NameKind.free) ∈ l ∨ (acc.lookup x).isSome = true) → (closeL c l acc).lookup x = some (c x)
  | [], acc, ha, h => by
    rcases h with h | h
    · cases h
    · obtain ⟨d, hd⟩ := Option.isSome_iff_exists.mp h
      have := ha _ (mem_of_lookup hd)
      dsimp only at this
      unfold closeL; rw [hd, this]
  | p :: r, acc, ha, h => by
    unfold closeL
    obtain ⟨n, k⟩ := p
    by_cases hk : k = .free
    · subst hk
      simp only [beq_self_eq_true, if_true]
      refine closeL_has (fun q hq => ?_) ?_
      · rcases List.mem_cons.mp hq with rfl | hq
        · rfl
        · exact ha q hq
      · by_cases hx : x = n
        · right; rw [List.lookup_cons]; simp [hx]
        · rcases h with h | h
          · rcases List.mem_cons.mp h with e | h
            · exact absurd (Prod.mk.inj e).1 hx
            · exact .inl h
          · right; rw [List.lookup_cons]; have : (x == n) = false := by simpa using hx
            rw [this]; exact h
    · have h' : (k == NameKind.free) = false := by simpa using hk
      simp only [h', Bool.false_eq_true, if_false]
      refine closeL_has ha ?_
      rcases h with h | h
      · rcases List.mem_cons.mp h with e | h
        · exact absurd (Prod.mk.inj e).2.symm hk
        · exact .inl h
      · exact .inr h
theorem relab_cell {sc : Scope} (hc : ∀ p ∈ sc.names, p.2 ≠ .cell) {x : Str} (h : (relab sc).names.lookup x = some .cell) : (x, NameKind.free) ∈ sc.names := by
  have := mem_of_lookup h
  obtain ⟨p, hp, e⟩ := List.mem_map.mp this
  obtain ⟨n, k⟩ := p
  by_cases hk : k = .free
  · subst hk; simp at e; subst e; exact hp
  · have h' : (k == NameKind.free) = false := by simpa using hk
    simp only [h', Bool.false_eq_true, if_false] at e
    cases e; exact absurd rfl (hc _ hp)

@[reducible] def Cx.comp (C : Cx) (sc : Scope) (cl : List (Str × Addr)) (L : Addr) (hk : sc.kind = .function) : Cx :=
  { C with env := { scope := relab sc, locals := L, globals := C.env.globals, cells := cl, qual := C.env.qual, func := none, code := C.env.code, frame := C.env.frame, builtins := C.env.builtins }
           X := fun _ _ _ _ => False
           hk := hk
           clo := fun _ _ _ _ _ _ _ _ h => h }
theorem Cx.comp_calm (C : Cx) (sc : Scope) (cl : List (Str × Addr)) (L : Addr) (hk : sc.kind = .function) : (C.comp sc cl L hk).Calm := fun _ _ _ _ h => h
end

section
variable {C : Cx} {α β : Type} {vs : List Value} {as : List AV} {R : Heap → α → β → Prop} {t : Sem α} {σ σ1 σ2 : St} {s s1 s2 : Shared} {Q Q' : β → St → Prop}
theorem leN {a b : Nat} (h : a ≤ b) : a ≤ b := h
theorem TV.calm (hC : C.Calm) (h : TV C vs as R t σ1 Q) {Z : α → Shared → Prop} {E : Value → Shared → Prop} (R1 : C.R σ1 s1) (hv : VRels s1.heap vs as)
    (k : ∀ a b σ2 s2, R s2.heap a b → C.R σ2 s2 → C.G σ1 s1 σ2 s2 → TupKeep s1.heap s2.heap → Q b σ2 → Z a s2) : wpAny C.M C.A t Z E s1 :=
  wpAny_mono (h s1 R1 hv) (fun _ _ ⟨b, σ', r, R', g', q⟩ => k _ b σ' _ r R' g' (g'.tups R1) q) fun _ _ x => (hC _ _ _ _ x).elim
end

def mcOf (sc : Scope) (m : Str → Option AV) : Str → Option AV := fun x => if (relab sc).names.lookup x = some .cell then m x else none
def Same (sc : Scope) (m0 m : Str → Option AV) : Prop := ∀ x, (relab sc).names.lookup x = some .cell → m x = m0 x
theorem Same.mc {sc : Scope} {m : Str → Option AV} : Same sc m (mcOf sc m) := fun x hx => by unfold mcOf; rw [if_pos hx]
theorem Same.upd {sc : Scope} {m0 m : Str → Option AV} {y : Str} {v : AV} (h : Same sc m0 m) (hy : (relab sc).names.lookup y = some .local) : Same sc m0 (upd m y v) := fun x hx => by
  unfold Mine.upd
  rw [if_neg fun e => by rw [e, hy] at hx; cases hx]
  exact h x hx

section
variable {C : Cx} {σ σ1 : St} {s s1 : Shared} {sc : Scope} {c : Str → Addr} {L : Addr}

theorem comp_enter {s4 : Shared} (hk : sc.kind = .function) (R1 : C.R σ1 s1) (hcell : ∀ p ∈ sc.names, p.2 ≠ .cell) (hfree : ∀ p ∈ sc.names, p.2 = .free → C.env.kindOf p.1 = some .cell)
    (hc : ∀ p ∈ sc.names, p.2 = .free → C.env.cells.lookup p.1 = some (c p.1)) (k : ∀ b o, s1.heap.get? b = some o → s4.heap.get? b = some o) (hn : s4.heap.Ns L fun _ => none) (hL : s1.heap.get? L = none) (hz : C.h₀.objs.size ≤ L)
    (hg : s4.gens = s1.gens) (ho : s4.os = s1.os) : (C.comp sc (closeL c sc.names []) L hk).R ⟨mcOf sc σ1.m, σ1.H⟩ s4 := by
  have tk : TupKeep s1.heap s4.heap := fun a _ _ e => k a _ e
  have hin : ∀ d ∈ (closeL c sc.names []).map (·.2), d ∈ own C.env := fun d hd => by
    obtain ⟨q, hq, rfl⟩ := List.mem_map.mp hd
    rcases closeL_mem hq with h | ⟨h1, h2⟩
    · cases h
    · rw [h1]; exact List.mem_cons_of_mem _ (List.mem_map.mpr ⟨_, mem_of_lookup (hc _ h2 rfl), rfl⟩)
  have hLo : L ∉ own C.env := fun q => by obtain ⟨_, o, e, _⟩ := R1.owns L q; rw [hL] at e; cases e
  have hcl : ∀ x d, (closeL c sc.names []).lookup x = some d → (x, NameKind.free) ∈ sc.names ∧ d = c x := fun x d h => by
    rcases closeL_mem (mem_of_lookup h) with h | ⟨h1, h2⟩
    · cases h
    · exact ⟨h2, h1⟩
  refine ⟨fun b o e => k b o (R1.keep b o e), ⟨_, hn, fun x hx => ?_⟩, fun x hx => ?_, fun a o e => ?_, fun d hd => ?_, fun h => hLo (hin _ h), fun x y d hx hy e1 e2 => ?_, hg.trans R1.gens, ho.trans R1.os⟩
  · have : (relab sc).names.lookup x = some .local := hx
    show ORel _ none (mcOf sc σ1.m x)
    unfold mcOf; rw [this, if_neg (by decide)]; exact .none
  · have hx' : (relab sc).names.lookup x = some .cell := hx
    have hm := relab_cell hcell hx'
    obtain ⟨c0, v, h1, h2, h3⟩ := R1.cels x (hfree _ hm rfl)
    have e : c0 = c x := Option.some.inj (h1.symm.trans (hc _ hm rfl))
    subst e
    refine ⟨c x, v, closeL_has (fun _ h => by cases h) (.inl hm), h2.keeps k, ?_⟩
    show ORel _ v (mcOf sc σ1.m x)
    unfold mcOf; rw [if_pos hx']; exact h3.keep tk
  · obtain ⟨h1, h2, h3⟩ := R1.objs a o e
    refine ⟨h1.keep tk (k a), h2, fun q => ?_⟩
    rcases List.mem_cons.mp q with q | q
    · obtain ⟨ob, e', _⟩ := h1.notTup; rw [q, show (C.comp sc (closeL c sc.names []) L hk).env.locals = L from rfl, hL] at e'; cases e'
    · exact h3 (hin _ q)
  · rcases List.mem_cons.mp hd with q | q
    · obtain ⟨o, es, ep, e, hd', _⟩ := hn
      exact ⟨q ▸ hz, o, q ▸ e, fun xs n e2 => by rw [e2] at hd'; cases hd'⟩
    · obtain ⟨h1, o, e, nt⟩ := R1.owns d (hin _ q)
      exact ⟨h1, o, k _ _ e, nt⟩
  · have hx' := relab_cell hcell hx
    have hy' := relab_cell hcell hy
    obtain ⟨_, rfl⟩ := hcl _ _ e1
    obtain ⟨_, e4⟩ := hcl _ _ e2
    exact R1.inj x y (c x) (hfree _ hx' rfl) (hfree _ hy' rfl) (hc _ hx' rfl) (e4 ▸ hc _ hy' rfl)

theorem comp_back {s4 : Shared} {σ' : St} {m1 : Str → Option AV} (hk : sc.kind = .function) (R1 : C.R σ1 s1) (hcell : ∀ p ∈ sc.names, p.2 ≠ .cell) (hfree : ∀ p ∈ sc.names, p.2 = .free → C.env.kindOf p.1 = some .cell)
    (hc : ∀ p ∈ sc.names, p.2 = .free → C.env.cells.lookup p.1 = some (c p.1)) (hrel : ∀ p ∈ sc.names, p.2 = .free → (relab sc).names.lookup p.1 = some .cell) (hL : s1.heap.get? L = none)
    (R4 : (C.comp sc (closeL c sc.names []) L hk).R σ' s4) (g : Grow (C.comp sc (closeL c sc.names []) L hk).env ⟨m1, σ1.H⟩ s1 σ' s4) (hs : Same sc σ1.m σ'.m) :
    C.R ⟨σ1.m, σ'.H⟩ s4 ∧ C.G σ1 s1 ⟨σ1.m, σ'.H⟩ s4 := by
  have hin : ∀ d ∈ (closeL c sc.names []).map (·.2), ∃ x, (x, NameKind.free) ∈ sc.names ∧ d = c x := fun d hd => by
    obtain ⟨q, hq, rfl⟩ := List.mem_map.mp hd
    rcases closeL_mem hq with h | ⟨h1, h2⟩
    · cases h
    · exact ⟨_, h2, h1⟩
  have hown : ∀ d o, s1.heap.get? d = some o → d ∈ own (C.comp sc (closeL c sc.names []) L hk).env → ∃ x, (x, NameKind.free) ∈ sc.names ∧ d = c x := fun d o e q => by
    rcases List.mem_cons.mp q with q | q
    · rw [q, show (C.comp sc (closeL c sc.names []) L hk).env.locals = L from rfl, hL] at e; cases e
    · exact hin _ q
  have hcin : ∀ x, (x, NameKind.free) ∈ sc.names → c x ∈ C.env.cells.map (·.2) := fun x hx => List.mem_map.mpr ⟨_, mem_of_lookup (hc _ hx rfl), rfl⟩
  have gt : TupKeep s1.heap s4.heap := fun a xs n e => by
    have := R1.tup e
    refine (g.2 a _ e (fun q => ?_) this.2).1
    obtain ⟨x, hx, rfl⟩ := hown _ _ e q
    exact this.1 (List.mem_cons_of_mem _ (hcin x hx))
  have hLk : ∀ o, s1.heap.get? C.env.locals = some o → s4.heap.get? C.env.locals = some o ∧ σ'.H C.env.locals = none := fun o e => by
    refine g.2 _ _ e (fun q => ?_) ?_
    · obtain ⟨x, hx, e2⟩ := hown _ _ e q
      exact R1.apart (e2 ▸ hcin x hx)
    · cases q : σ1.H C.env.locals with
      | none => rfl
      | some o' => exact absurd List.mem_cons_self (R1.objs _ _ q).2.2
  have hck : ∀ x d, C.env.kindOf x = some .cell → C.env.cells.lookup x = some d → (∃ y, (y, NameKind.free) ∈ sc.names ∧ d = c y) → (x, NameKind.free) ∈ sc.names := fun x d hx h1 ⟨y, hy, e⟩ => by
    have := R1.inj x y d hx (hfree _ hy rfl) h1 (e ▸ hc _ hy rfl)
    subst this; exact hy
  have hown2 : ∀ d ∈ own C.env, ∃ o, s1.heap.get? d = some o ∧ notTup o ∧ σ1.H d = none := fun d hd => by
    obtain ⟨_, o, e, nt⟩ := R1.owns d hd
    refine ⟨o, e, nt, ?_⟩
    cases q : σ1.H d with
    | none => rfl
    | some o' => exact absurd hd (R1.objs _ _ q).2.2
  refine ⟨⟨R4.keep, ?_, fun x hx => ?_, fun a o e => ?_, fun d hd => ?_, R1.apart, R1.inj, R4.gens, R4.os⟩, g.1, fun b o e n1 n2 => ?_⟩
  · obtain ⟨m', hn, hm⟩ := R1.locs
    exact ⟨m', hn.at' fun o e => (hLk o e).1, fun x hx => (hm x hx).keep gt⟩
  · obtain ⟨d, v, h1, ⟨oc, h2, hd⟩, h3⟩ := R1.cels x hx
    by_cases q : ∃ y, (y, NameKind.free) ∈ sc.names ∧ d = c y
    · have hxf := hck x d hx h1 q
      have hxc : (C.comp sc (closeL c sc.names []) L hk).env.kindOf x = some .cell := hrel _ hxf rfl
      obtain ⟨d', v', e1, e2, e3⟩ := R4.cels x hxc
      have ed : d' = c x := Option.some.inj (e1.symm.trans (closeL_has (fun _ h => by cases h) (.inl hxf)))
      rw [hs x (hrel _ hxf rfl)] at e3
      exact ⟨d', v', ed ▸ hc _ hxf rfl, e2, e3⟩
    · have hH : σ1.H d = none := by
        obtain ⟨_, _, _, h⟩ := hown2 d (List.mem_cons_of_mem _ (List.mem_map.mpr ⟨_, mem_of_lookup h1, rfl⟩)); exact h
      exact ⟨d, v, h1, ⟨oc, (g.2 d oc h2 (fun h => q (hown _ _ h2 h)) hH).1, hd⟩, h3.keep gt⟩
  · obtain ⟨k1, k2, k3⟩ := R4.objs a o e
    refine ⟨k1, k2, fun q => ?_⟩
    obtain ⟨ob, e1, _, hH⟩ := hown2 a q
    by_cases h : a ∈ own (C.comp sc (closeL c sc.names []) L hk).env
    · exact k3 h
    · have := (g.2 a ob e1 h hH).2; rw [show σ'.H a = some o from e] at this; cases this
  · obtain ⟨h1, o, e, nt⟩ := R1.owns d hd
    by_cases h : d ∈ own (C.comp sc (closeL c sc.names []) L hk).env
    · obtain ⟨_, o', e', nt'⟩ := R4.owns d h; exact ⟨h1, o', e', nt'⟩
    · obtain ⟨_, _, _, hH⟩ := hown2 d hd
      exact ⟨h1, o, (g.2 d o e h hH).1, nt⟩
  · refine g.2 b o e (fun q => ?_) n2
    obtain ⟨x, hx, rfl⟩ := hown _ _ e q
    exact n1 (List.mem_cons_of_mem _ (hcin x hx))
end

/-- a turn of a comprehension -/
def CTurn (C : Cx) (sc : Scope) (m0 : Str → Option AV) (target elt : PySem.Expr) (I : Nat → List AV → AH → Prop) (i : Nat) (x : AV) (acc : List AV) (σ : St) : Option PySem.Expr → Prop
  | none => TAsg C target x σ fun _ σ2 => TE C elt σ2 fun y σ4 => Same sc m0 σ4.m ∧ I (i + 1) (acc ++ [y]) σ4.H
  | some c => TAsg C target x σ fun _ σ2 => TB C c σ2 fun b σ3 => if b then TE C elt σ3 fun y σ4 => Same sc m0 σ4.m ∧ I (i + 1) (acc ++ [y]) σ4.H else Same sc m0 σ3.m ∧ I (i + 1) acc σ3.H

section
variable {C : Cx} {σ1 : St} {s1 : Shared} {sc : Scope} {it D : Addr} {xs : List AV} {ok : AH → Prop} {It : Nat → Heap → Prop}

structure CInv (C : Cx) (sc : Scope) (σ1 : St) (s1 : Shared) (it D : Addr) (It : Nat → Heap → Prop) (I : Nat → List AV → AH → Prop) (i : Nat) (acc : List AV) (σ' : St) (s' : Shared) : Prop where
  rep : C.R σ' s'
  grow : Grow C.env ⟨mcOf sc σ1.m, σ1.H⟩ s1 σ' s'
  itr : It i s'.heap
  itH : σ'.H it = none
  lst : ∃ ys, s'.heap.PlainList D ys.toArray ∧ VRels s'.heap ys acc
  DH : σ'.H D = none
  same : Same sc σ1.m σ'.m
  inv : I i acc σ'.H
  len : acc.length ≤ i

theorem CInv.append {A : Around} {I : Nat → List AV → AH → Prop} {i : Nat} {acc : List AV} {σ2 σ' : St} {s' s2 : Shared} {y : AV} {vy : Value} {Z : Value → Shared → Prop} {E : Value → Shared → Prop} (W : ItOk C.prog C.w A it xs ok It)
    (hit : it ∉ own C.env) (hD : D ∉ own C.env) (hne : D ≠ it) (hDz : C.h₀.objs.size ≤ D) (fD : s1.heap.get? D = none)
    (g' : Grow C.env ⟨mcOf sc σ1.m, σ1.H⟩ s1 σ' s') (hI : It (i + 1) s'.heap) (hH : σ'.H it = none) (hl : ∃ ys, s'.heap.PlainList D ys.toArray ∧ VRels s'.heap ys acc) (hDH : σ'.H D = none) (hlen : acc.length ≤ i) (hi : i < 16777216)
    (R' : C.R σ' s') (R2 : C.R σ2 s2) (g2 : C.G σ' s' σ2 s2) (ry : VRel s2.heap vy y) (hs : Same sc σ1.m σ2.m) (hinv : I (i + 1) (acc ++ [y]) σ2.H)
    (k : ∀ s3, CInv C sc σ1 s1 it D It I (i + 1) (acc ++ [y]) σ2 s3 → Z .none s3) : wpAny C.M A (call (.builtin "list.append") [.ref D, vy]) Z E s2 := by
  obtain ⟨ys, ⟨n, e⟩, r⟩ := hl
  obtain ⟨o, ho, _⟩ := W.obj _ _ hI
  have tk := g2.tups R'
  have e2 := g2.2 D _ e hD hDH
  have i2 := g2.2 it _ ho hit hH
  have r2 := r.keep tk
  refine wpAny_list_append_plain (hsz := by rw [List.size_toArray, r.length, sizeLine_eq]; omega) ⟨n, e2.1⟩ fun h' hp hs' => ?_
  obtain ⟨n', hp'⟩ := hp
  obtain ⟨R3, tk3⟩ := R2.touch (tk := s2.toks) hDz hD e2.2 e2.1 (fun xs n q => by injection q with q1; injection q1 with q2; exact absurd q2 (by decide)) hs'.extBut
  refine k _ ⟨R3, (g'.trans g2).but fD hs'.extBut, ?_, i2.2, ⟨ys ++ [vy], ⟨n', ?_⟩, (r2.keep tk3).append (.one (ry.keep tk3))⟩, e2.2, hs, hinv, by rw [List.length_append, List.length_singleton]; omega⟩
  · refine W.keep _ _ _ (W.keep _ _ _ hI tk fun o' q => by rw [ho] at q; cases q; exact i2.1) tk3 fun o' q => ?_
    exact hs'.extBut _ _ (Ne.symm hne) q
  · rw [hp']; simp

theorem CInv.keep {A : Around} {j : Nat} {acc : List AV} {σ2 σ' : St} {s' s2 : Shared} (W : ItOk C.prog C.w A it xs ok It)
    (hit : it ∉ own C.env) (hD : D ∉ own C.env) (hI : It j s'.heap) (hH : σ'.H it = none) (hl : ∃ ys, s'.heap.PlainList D ys.toArray ∧ VRels s'.heap ys acc) (hDH : σ'.H D = none) (g' : Grow C.env ⟨mcOf sc σ1.m, σ1.H⟩ s1 σ' s')
    (R' : C.R σ' s') (R2 : C.R σ2 s2) (g2 : C.G σ' s' σ2 s2) : It j s2.heap ∧ σ2.H it = none ∧ (∃ ys, s2.heap.PlainList D ys.toArray ∧ VRels s2.heap ys acc) ∧ σ2.H D = none ∧ Grow C.env ⟨mcOf sc σ1.m, σ1.H⟩ s1 σ2 s2 := by
  obtain ⟨ys, ⟨n, e⟩, r⟩ := hl
  obtain ⟨o, ho, _⟩ := W.obj _ _ hI
  have tk := g2.tups R'
  have e2 := g2.2 D _ e hD hDH
  have i2 := g2.2 it _ ho hit hH
  exact ⟨W.keep _ _ _ hI tk fun o' q => by rw [ho] at q; cases q; exact i2.1, i2.2, ⟨ys, ⟨n, e2.1⟩, r.keep tk⟩, e2.2, g'.trans g2⟩

def CFin (C : Cx) (sc : Scope) (σ1 : St) (s1 : Shared) (D : Addr) (I : Nat → List AV → AH → Prop) (n : Nat) (s' : Shared) : Prop :=
  ∃ acc σ', C.R σ' s' ∧ Grow C.env ⟨mcOf sc σ1.m, σ1.H⟩ s1 σ' s' ∧ (∃ ys, s'.heap.PlainList D ys.toArray ∧ VRels s'.heap ys acc) ∧ σ'.H D = none ∧ Same sc σ1.m σ'.m ∧ I n acc σ'.H

theorem comp_loop {target elt iter : PySem.Expr} {test : Option PySem.Expr} {scope : Scope} {pos : Pos} {I : Nat → List AV → AH → Prop} {σ4 : St} {s4 : Shared} {RR : Result → Shared → Prop} (hC : C.Calm) (W : ItOk C.prog C.w C.A it xs ok It)
    (hit : it ∉ own C.env) (hD : D ∉ own C.env) (hne : D ≠ it) (hDz : C.h₀.objs.size ≤ D) (hiz : C.h₀.objs.size ≤ it) (fD : s1.heap.get? D = none) (fi : s1.heap.get? it = none) (hn : xs.length ≤ 16777216)
    (hok : ∀ i acc H, i ≤ xs.length → I i acc H → ok H) (h0 : CInv C sc σ1 s1 it D It I 0 [] σ4 s4)
    (turn : ∀ i x acc σ2, xs[i]? = some x → I i acc σ2.H → Same sc σ1.m σ2.m → CTurn C sc σ1.m target elt I i x acc σ2 test)
    (fin : ∀ s', CFin C sc σ1 s1 D I xs.length s' → RR (.ok .next) s') :
    codeAny C.M C.A (.compLoop (.ListComp elt [⟨target, iter, test.toList, 0⟩] scope pos) 0 (.ref it) (.ref D) C.env) RR s4 := by
  let J : Nat → Shared → Prop := fun k s' => ∃ i acc σ', k + i = xs.length + 1 ∧ i ≤ xs.length ∧ CInv C sc σ1 s1 it D It I i acc σ' s'
  have hJ : J (xs.length + 1) s4 := ⟨0, [], σ4, rfl, Nat.zero_le _, h0⟩
  have pn : ∀ k s' (Z : Option Value → Shared → Prop) (E : Value → Shared → Prop), J k s' →
      (∀ s'', CFin C sc σ1 s1 D I xs.length s'' → Z none s'') →
      (∀ i x acc σ' s'' v, k + i = xs.length + 1 → xs[i]? = some x → VRel s''.heap v x → C.R σ' s'' → Grow C.env ⟨mcOf sc σ1.m, σ1.H⟩ s1 σ' s'' → It (i + 1) s''.heap → σ'.H it = none →
        (∃ ys, s''.heap.PlainList D ys.toArray ∧ VRels s''.heap ys acc) → σ'.H D = none → Same sc σ1.m σ'.m → I i acc σ'.H → acc.length ≤ i → Z (some v) s'') → wpAny C.M C.A (pyNext (.ref it)) Z E s' := by
    rintro k s' Z E ⟨i, acc, σ', hk, hle, V⟩ hdone hitem
    obtain ⟨o, hob, nt⟩ := W.obj i _ V.itr
    obtain ⟨ys, ⟨n, e⟩, r⟩ := V.lst
    by_cases hlt : i < xs.length
    · have hx : xs[i]? = some xs[i] := by simp [hlt]
      refine W.item i _ σ'.H s' _ _ hx V.rep.Objs (hok i acc σ'.H hle V.inv) V.itr fun v h' tk rv hI' hs' => ?_
      obtain ⟨R2, tk2⟩ := V.rep.touch (tk := tk) hiz hit V.itH hob nt hs'
      exact hitem i _ acc σ' { s' with heap := h', toks := tk } v hk hx rv R2 (V.grow.but fi hs') hI' V.itH ⟨ys, ⟨n, hs' _ _ hne e⟩, r.keep tk2⟩ V.DH V.same V.inv V.len
    · have he : i = xs.length := by omega
      subst he
      refine W.done σ'.H s' _ _ V.rep.Objs (hok _ acc σ'.H hle V.inv) V.itr fun h' tk hs' => ?_
      obtain ⟨R2, tk2⟩ := V.rep.touch (tk := tk) hiz hit V.itH hob nt hs'
      exact hdone _ ⟨acc, σ', R2, V.grow.but fi hs', ⟨ys, ⟨n, hs' _ _ hne e⟩, r.keep tk2⟩, V.DH, V.same, V.inv⟩
  cases test with
  | none =>
    refine PySem.W.kcp_loop J (fun k s' hJ' => pn k s' _ _ hJ' (fun s'' h => fin s'' h) fun i x acc σ' s'' v hk hx rv R' g' hI hiH hl hDH hsm hinv hlen => ?_) _ hJ
    refine W.go (i + 1) _ _ _ _ _ hI ?_
    refine TV.calm hC (turn i x acc σ' hx hinv hsm v) R' (.one rv) fun _ _ σ2 s2 _ R2 g2 k2 q => ?_
    obtain ⟨a1, a2, a3, a4, a5⟩ := CInv.keep W hit hD hI hiH hl hDH g' R' R2 g2
    refine TV.calm hC q R2 .nil fun vy y σ3 s3 ry R3 g3 k3 q => ?_
    have hi := (List.getElem?_eq_some_iff.mp hx).1
    exact CInv.append (I := I) W hit hD hne hDz fD a5 a1 a2 a3 a4 hlen (by omega) R2 R3 g3 ry q.1 q.2 fun s5 V => ⟨k - 1, by omega, i + 1, _, σ3, by omega, hi, V⟩
  | some c =>
    refine PySem.W.kct_loop J (fun k s' hJ' => pn k s' _ _ hJ' (fun s'' h => fin s'' h) fun i x acc σ' s'' v hk hx rv R' g' hI hiH hl hDH hsm hinv hlen => ?_) _ hJ
    refine W.go (i + 1) _ _ _ _ _ hI ?_
    refine TV.calm hC (turn i x acc σ' hx hinv hsm v) R' (.one rv) fun _ _ σ2 s2 _ R2 g2 k2 q => ?_
    obtain ⟨a1, a2, a3, a4, a5⟩ := CInv.keep W hit hD hI hiH hl hDH g' R' R2 g2
    refine TV.calm hC q R2 .nil fun vb b σ3 s3 rb R3 g3 k3 q => ?_
    obtain ⟨b1, b2, b3, b4, b5⟩ := CInv.keep W hit hD a1 a2 a3 a4 a5 R2 R3 g3
    have hi := (List.getElem?_eq_some_iff.mp hx).1
    cases rb
    cases vb
    · simp only [Bool.false_eq_true, if_false] at q ⊢
      exact ⟨k - 1, by omega, i + 1, acc, σ3, by omega, hi, R3, b5, b1, b2, b3, b4, q.1, q.2, by omega⟩
    · simp only [if_true] at q ⊢
      refine TV.calm hC q R3 .nil fun vy y σ4 s4 ry R4 g4 k4 q => ?_
      exact CInv.append (I := I) W hit hD hne hDz fD b5 b1 b2 b3 b4 hlen (by omega) R3 R4 g4 ry q.1 q.2 fun s5 V => ⟨k - 1, by omega, i + 1, _, σ4, by omega, hi, V⟩
end

section
variable {C : Cx} {σ : St} {s : Shared} {sc : Scope}

structure CompOk (C : Cx) (sc : Scope) : Prop where
  kind : sc.kind = .function
  cell : ∀ p ∈ sc.names, p.2 ≠ .cell
  free : ∀ p ∈ sc.names, p.2 = .free → C.env.kindOf p.1 = some .cell
  rel : ∀ p ∈ sc.names, p.2 = .free → (relab sc).names.lookup p.1 = some .cell
  names : ∀ p ∈ sc.names, p.2 = .local → sc.names.lookup p.1 = some .local

/-- a comprehension; use: what is done with it while its block still stands -/
theorem comp_main {target elt iter : PySem.Expr} {test : Option PySem.Expr} {pos cpos : Pos} {use : Option (Value → Sem Unit)} {Q : AV → St → Prop} {Z : Value → Shared → Prop} (K : CompOk C sc) (hC : C.Calm)
    (h : TE C iter σ fun a σ1 => ∃ xs ok I, IterAs C a xs ok ∧ xs.length ≤ 16777216 ∧ (∀ i acc H, i ≤ xs.length → I i acc H → ok H) ∧ I 0 [] σ1.H ∧
      (∀ cl L i x acc σ2, xs[i]? = some x → I i acc σ2.H → Same sc σ1.m σ2.m → CTurn (C.comp sc cl L K.kind) sc σ1.m target elt I i x acc σ2 test) ∧
      (∀ acc H D, I xs.length acc H → H D = none → Q (.con (.ref D)) ⟨σ1.m, H.put D (.list acc)⟩))
    (hu : ∀ D σ' s' L, Q (.con (.ref D)) σ' → C.R σ' s' → C.G σ s σ' s' → s.heap.get? L = none → σ'.H L = none → L ∉ own C.env → C.h₀.objs.size ≤ L → (∃ m, s'.heap.Ns L m) → compPost C.M C.A (C.X σ s) use Z (.ref D) L (.ok .next) s')
    (R0 : C.R σ s) (hs : ∀ x, foldedSetIterable iter C.env x = pure x := by intro _; rfl) :
    wpAny C.M C.A (comprehension (.ListComp elt [⟨target, iter, test.toList, 0⟩] sc cpos) sc C.env pos (newList []) false (eval iter C.env) use) Z (C.X σ s) s := by
  have hce : ∀ p ∈ sc.names, p.2 = .free → ∃ c, C.env.cells.lookup p.1 = some c := fun p hp e => let ⟨c, _, h, _⟩ := R0.cels _ (K.free p hp e); ⟨c, h⟩
  let c : Str → Addr := fun x => (C.env.cells.lookup x).getD 0
  have hc : ∀ p ∈ sc.names, p.2 = .free → C.env.cells.lookup p.1 = some (c p.1) := fun p hp e => by obtain ⟨d, hd⟩ := hce p hp e; show _ = some ((C.env.cells.lookup p.1).getD 0); rw [hd]; rfl
  refine wpAny_comprehension_free rfl hs (closureFor_eq c hc) K.kind K.names (h.here R0 .nil fun va a σ1 s1 ra R1 g1 k1 q => ?_)
  obtain ⟨xs, ok, I, hi, hn, hok, h0, turn, fin⟩ := q
  refine hi va σ1 s1 R1 (hok 0 [] _ (Nat.zero_le _) h0) ra _ _ fun h2 It kp2 hI W => ?_
  refine wpAny_newObj_type (wpAny_newFunctionEnv K.cell (by intro y hy; simp at hy) (fun h4 hns hsb => ?_) K.kind) (by show ([] : List Value).toArray.size ≤ sizeLine; exact Nat.zero_le _)
  dsimp only at hns hsb ⊢
  have hi1 : s1.heap.objs.size < h2.objs.size := by obtain ⟨o, ho, _⟩ := W.obj _ _ hI; exact ltN (Heap.lt_size ho)
  generalize hH3 : h2.push { cls := .type "list", dict := none, data := .seq ([] : List Value).toArray } = h3 at hns hsb ⊢
  have hz3 : h3.objs.size = h2.objs.size + 1 := by rw [← hH3, Heap.size_push]
  have kp3 : ∀ b o, s1.heap.get? b = some o → h3.get? b = some o := fun b o e => hH3 ▸ Heap.get?_push_of_some _ (kp2 b o e)
  have up4 : ∀ b o, b ≠ h3.objs.size → h3.get? b = some o → h4.get? b = some o := fun b o n e => hsb.extBut b o n (Heap.get?_push_of_some _ e)
  have kp4 : ∀ b o, s1.heap.get? b = some o → h4.get? b = some o := fun b o e => up4 b o (Nat.ne_of_lt (by have := ltN (Heap.lt_size e); omega)) (kp3 b o e)
  have fr : ∀ b, s1.heap.objs.size ≤ b → s1.heap.get? b = none := fun b hb => by
    cases e : s1.heap.get? b with
    | none => rfl
    | some o => exact absurd (Heap.lt_size e) (Nat.not_lt.mpr hb)
  have fs : ∀ b, s1.heap.objs.size ≤ b → s.heap.get? b = none := fun b hb => by
    cases e : s.heap.get? b with
    | none => rfl
    | some o => obtain ⟨o', e'⟩ := g1.1 _ _ e; rw [fr b hb] at e'; cases e'
  have z1 := R1.size
  have hL := fr h3.objs.size (by first | omega | exact leN (by omega) | exact neN (by omega))
  have hCc := C.comp_calm sc (closeL c sc.names []) h3.objs.size K.kind
  have R4 := comp_enter (s4 := { s1 with heap := h4, toks := s1.toks }) K.kind R1 K.cell K.free hc kp4 hns hL (by first | omega | exact leN (by omega) | exact neN (by omega)) rfl rfl
  have e4 : ∀ tk, (C.comp sc (closeL c sc.names []) h3.objs.size K.kind).R ⟨mcOf sc σ1.m, σ1.H⟩ { s1 with heap := h4, toks := tk } := fun tk => ⟨R4.keep, R4.locs, R4.cels, R4.objs, R4.owns, R4.apart, R4.inj, R4.gens, R4.os⟩
  have notIn : ∀ b, s1.heap.objs.size ≤ b → b ≠ h3.objs.size → b ∉ own (C.comp sc (closeL c sc.names []) h3.objs.size K.kind).env := fun b hb hne q => by
    rcases List.mem_cons.mp q with q | q
    · exact hne q
    · obtain ⟨p, hp, rfl⟩ := List.mem_map.mp q
      rcases closeL_mem hp with h | ⟨h1, h2⟩
      · cases h
      · have := (R1.free hb).1
        exact this (List.mem_cons_of_mem _ (List.mem_map.mpr ⟨_, mem_of_lookup (hc _ h2 rfl), h1.symm⟩))
  have hpl : h4.PlainList h2.objs.size ([] : List Value).toArray := ⟨0, up4 _ _ (by first | omega | exact leN (by omega) | exact neN (by omega)) (hH3 ▸ Heap.get?_push_size _ rfl)⟩
  obtain ⟨oi, hoi, _⟩ := W.obj _ _ hI
  have hI4 : It 0 h4 := W.keep _ _ _ hI (fun a xs n e => up4 _ _ (Nat.ne_of_lt (by have := ltN (Heap.lt_size e); omega)) (hH3 ▸ Heap.get?_push_of_some _ e)) fun o e => up4 _ _ (by first | omega | exact leN (by omega) | exact neN (by omega)) (hH3 ▸ Heap.get?_push_of_some _ e)
  have loop : ∀ tk, codeAny C.M C.A (.compLoop (.ListComp elt [⟨target, iter, test.toList, 0⟩] sc cpos) 0 (.ref s1.heap.objs.size) (.ref h2.objs.size) (C.comp sc (closeL c sc.names []) h3.objs.size K.kind).env)
      (compPost C.M C.A (C.X σ s) use Z (.ref h2.objs.size) h3.objs.size) { s1 with heap := h4, toks := tk } := fun tk => by
    refine comp_loop (C := C.comp sc (closeL c sc.names []) h3.objs.size K.kind) (s1 := s1) (σ1 := σ1) (sc := sc) (I := I) (D := h2.objs.size) (it := s1.heap.objs.size) hCc W (notIn _ (Nat.le_refl _) (by first | omega | exact leN (by omega) | exact neN (by omega))) (notIn _ (by first | omega | exact leN (by omega) | exact neN (by omega)) (by first | omega | exact leN (by omega) | exact neN (by omega))) (by first | omega | exact leN (by omega) | exact neN (by omega)) (leN (a := C.h₀.objs.size) (b := h2.objs.size) (by omega)) (leN (a := C.h₀.objs.size) (b := s1.heap.objs.size) (by omega))
      (fr _ (by first | omega | exact leN (by omega) | exact neN (by omega))) (fr _ (Nat.le_refl _)) hn hok ⟨e4 tk, ⟨fun b o e => ⟨o, kp4 b o e⟩, fun b o e _ q => ⟨kp4 b o e, q⟩⟩, hI4, (R1.free (Nat.le_refl _)).2, ⟨[], hpl, .nil⟩, (R1.free (by first | omega | exact leN (by omega) | exact neN (by omega))).2, Same.mc, h0, Nat.le_refl _⟩ (turn _ _) ?_
    rintro s' ⟨acc, σ', R5, g5, ⟨ys, ⟨n, e⟩, r⟩, hDH, hsm, hinv⟩
    obtain ⟨R6, g6⟩ := comp_back K.kind R1 K.cell K.free hc K.rel hL R5 g5 hsm
    have q := fin acc σ'.H h2.objs.size hinv hDH
    have hDo : h2.objs.size ∉ own C.env := (R1.free (by first | omega | exact leN (by omega) | exact neN (by omega))).1
    have hLo : h3.objs.size ∉ own C.env := (R1.free (by first | omega | exact leN (by omega) | exact neN (by omega))).1
    have hLH : σ'.H h3.objs.size = none := by
      cases q : σ'.H h3.objs.size with
      | none => rfl
      | some o => exact absurd List.mem_cons_self (R5.objs _ _ q).2.2
    have R7 : C.R ⟨σ1.m, σ'.H.put h2.objs.size (.list acc)⟩ s' := ⟨R6.keep, R6.locs, R6.cels, fun a o ha => by
      by_cases hab : a = h2.objs.size
      · subst hab
        have ha' : (AH.put σ'.H h2.objs.size (.list acc)) h2.objs.size = some o := ha
        rw [AH.put_self] at ha'
        have ha := ha'
        cases ha
        exact ⟨⟨ys, ⟨n, e⟩, r⟩, leN (by omega), hDo⟩
      · have ha' : (AH.put σ'.H h2.objs.size (.list acc)) a = some o := ha
        rw [AH.put_ne hab] at ha'
        exact R6.objs a o ha', R6.owns, R6.apart, R6.inj, R6.gens, R6.os⟩
    have g7 : C.G σ1 s1 ⟨σ1.m, σ'.H.put h2.objs.size (.list acc)⟩ s' := ⟨g6.1, fun b o e n q => by
      obtain ⟨e1, q1⟩ := g6.2 b o e n q
      exact ⟨e1, (AH.put_ne fun x => absurd (Heap.lt_size e) (by rw [x]; exact Nat.not_lt.mpr (leN (by omega)))).trans q1⟩⟩
    obtain ⟨mL, hnL, _⟩ := R5.locs
    exact hu _ _ s' _ q R7 (g1.trans g7) (fs _ (by first | omega | exact leN (by omega) | exact neN (by omega))) ((AH.put_ne (by first | omega | exact leN (by omega) | exact neN (by omega))).trans hLH) hLo (by first | omega | exact leN (by omega) | exact neN (by omega)) ⟨mL, hnL⟩
  show codeAny C.M C.A (.compStart _ 0 (.ref s1.heap.objs.size) (.ref h2.objs.size) { (newEnv sc h3.objs.size C.env.globals (closeL c sc.names []) C.env.qual none Value.none (some C.env) 0) with scope := relabel sc C.env }) _ _
  rw [relabel_eq C.hk K.free]
  exact codeAny_compStart_list (loop _) (W.self 0 _ _ _ hI4 (loop _))

theorem TE.comp {target elt iter : PySem.Expr} {test : Option PySem.Expr} {cpos : Pos} {ifs : List PySem.Expr} {Q : AV → St → Prop} (hifs : test.toList = ifs) (K : CompOk C sc) (hC : C.Calm)
    (h : TE C iter σ fun a σ1 => ∃ xs ok I, IterAs C a xs ok ∧ xs.length ≤ 16777216 ∧ (∀ i acc H, i ≤ xs.length → I i acc H → ok H) ∧ I 0 [] σ1.H ∧
      (∀ cl L i x acc σ2, xs[i]? = some x → I i acc σ2.H → Same sc σ1.m σ2.m → CTurn (C.comp sc cl L K.kind) sc σ1.m target elt I i x acc σ2 test) ∧
      (∀ acc H D, I xs.length acc H → H D = none → Q (.con (.ref D)) ⟨σ1.m, H.put D (.list acc)⟩))
    (hs : ∀ x, foldedSetIterable iter C.env x = pure x := by intro _; rfl) : TE C (.ListComp elt [⟨target, iter, ifs, 0⟩] sc cpos) σ Q := by
  intro s R0 _
  subst hifs
  rw [eval_ListComp]
  refine comp_main (use := none) (Q := Q) K hC h ?_ R0 hs
  intro D σ' s' L q R' g' fL hL ho hz ⟨m, hn⟩
  refine ⟨m, hn, fun h' hs' => ?_⟩
  obtain ⟨o, es, ep, e, hd, _⟩ := hn
  obtain ⟨R2, tk⟩ := R'.touch (tk := s'.toks) hz ho hL e (fun xs n q => by rw [q] at hd; cases hd) hs'.extBut
  exact ⟨_, σ', .con rfl, R2, g'.but fL hs'.extBut, q⟩
theorem TX.assignComp {x : Str} {p pos : Pos} {target elt iter : PySem.Expr} {test : Option PySem.Expr} {cpos : Pos} {ifs : List PySem.Expr} {Q : AFl → St → Prop} (hifs : test.toList = ifs) (K : CompOk C sc) (hC : C.Calm)
    (h : TE C iter σ fun a σ1 => ∃ xs ok I, IterAs C a xs ok ∧ xs.length ≤ 16777216 ∧ (∀ i acc H, i ≤ xs.length → I i acc H → ok H) ∧ I 0 [] σ1.H ∧
      (∀ cl L i x acc σ2, xs[i]? = some x → I i acc σ2.H → Same sc σ1.m σ2.m → CTurn (C.comp sc cl L K.kind) sc σ1.m target elt I i x acc σ2 test) ∧
      (∀ acc H D, I xs.length acc H → H D = none → TSt C x (.con (.ref D)) ⟨σ1.m, H.put D (.list acc)⟩ fun _ σ2 => Q .next σ2))
    (hsw : swapsWith (.ListComp elt [⟨target, iter, ifs, 0⟩] sc cpos) (some (.Name x p)) pos.line C.env = pure true) (hs : ∀ x, foldedSetIterable iter C.env x = pure x := by intro _; rfl) :
    TX C (.Assign [.Name x p] (.ListComp elt [⟨target, iter, ifs, 0⟩] sc cpos) pos) σ Q := by
  intro s R0 _
  subst hifs
  rw [exec_Assign_Name_used _ _ _ _ hsw]
  refine wpAny_bind (wpAny_standAt (wpAny_bind ?_))
  show wpAny C.M C.A (comprehension _ sc C.env _ (newList []) false (eval iter C.env) (some (PySem.assign (.Name x p) C.env)) >>= fun _ => pure ()) _ _ s
  refine wpAny_bind (comp_main (use := some _) (Q := fun a σ' => TSt C x a σ' fun _ σ2 => Q .next σ2) (Z := fun _ s' => wpAny C.M C.A (pure () : Sem Unit) (fun _ s' => wpAny C.M C.A (pure Flow.next : Sem Flow) (Post C RF σ s Q) (C.X σ s) s') (C.X σ s) s') K hC h ?_ R0 hs)
  intro D σ' s' L q R' g' fL hL ho hz ⟨m, hn⟩
  show wpAny C.M C.A (PySem.assign (.Name x p) C.env (.ref D)) _ _ s'
  refine wpAny_assign_Name ((q (.ref D)).andThen R0 R' g' (.one (.con rfl)) fun _ _ σ2 s2 _ R2 g2 g12 k2 q2 => ?_)
  obtain ⟨o, es, ep, e, hd, r⟩ := hn
  obtain ⟨e2, h2⟩ := g12.2 L o e ho hL
  refine ⟨m, ⟨o, es, ep, e2, hd, r⟩, fun h' hs' => ?_⟩
  obtain ⟨R3, tk⟩ := R2.touch (tk := s2.toks) hz ho h2 e2 (fun xs n q => by rw [q] at hd; cases hd) hs'.extBut
  exact wpAny_pure (wpAny_pure ⟨.next, σ2, .next, R3, g2.but fL hs'.extBut, q2⟩)
end

/-! data: ints, texts and tuples of these -/
mutual
def pdOf : AV → PyData
  | .int i => .int i
  | .str x => .str x
  | .tup l => .tuple (pdsOf l)
  | .con _ => .none
def pdsOf : List AV → List PyData
  | [] => []
  | a :: r => pdOf a :: pdsOf r
end
inductive DataA : Nat → AV → Prop
  | int (n : Nat) (i : Int) : DataA n (.int i)
  | str (n : Nat) (x : Str) (h : PyData.strOk x = true) : DataA n (.str x)
  | tup (n : Nat) (l : List AV) (h : ∀ a ∈ l, DataA n a) : DataA (n + 1) (.tup l)
section
variable {h : Heap}
mutual
theorem reads_of : ∀ {v : Value} {a : AV} {n : Nat}, VRel h v a → DataA n a → ∃ as, Reads h v (pdOf a) as
  | _, _, _, .int i t, _ => ⟨_, Reads.int i t⟩
  | _, _, _, .str x t, _ => ⟨_, Reads.str x t⟩
  | _, _, _, .con _, k => nomatch k
  | _, _, _, .tup e r, .tup n _ k => by
    obtain ⟨as, q⟩ := readsAll_of r k
    rw [pdOf]
    exact ⟨as, reads_tuple_at e rfl rfl (by simpa using q)⟩
theorem readsAll_of : ∀ {vs : List Value} {as : List AV} {n : Nat}, VRels h vs as → (∀ a ∈ as, DataA n a) → ∃ bs, ReadsAll h vs (pdsOf as) bs
  | _, _, _, .nil, _ => ⟨_, ReadsAll.nil⟩
  | _, _, _, .cons e r, k => by
    obtain ⟨as, q⟩ := reads_of e (k _ List.mem_cons_self)
    obtain ⟨bs, p⟩ := readsAll_of r fun d hm => k d (List.mem_cons_of_mem _ hm)
    rw [pdsOf]
    exact ⟨_, ReadsAll.cons q p⟩
end
end
theorem pds_map (l : List AV) : pdsOf l = l.map pdOf := by
  induction l with
  | nil => rfl
  | cons a r ih => rw [pdsOf, ih]; rfl
theorem canLayAll_of {l : List PyData} (h : ∀ d ∈ l, d.canLay0 = true) : PyData.canLayAll0 l = true := by
  induction l with
  | nil => rfl
  | cons d r ih =>
    rw [PyData.canLayAll0, h d List.mem_cons_self, ih fun x hx => h x (List.mem_cons_of_mem _ hx)]; rfl
theorem depthAll_of {n : Nat} {l : List PyData} (h : ∀ d ∈ l, d.depth ≤ n) : PyData.depthAll l ≤ n := by
  induction l with
  | nil => exact Nat.zero_le _
  | cons d r ih =>
    rw [PyData.depthAll]
    exact Nat.max_le.mpr ⟨h d List.mem_cons_self, ih fun x hx => h x (List.mem_cons_of_mem _ hx)⟩
theorem DataA.lay {n : Nat} {a : AV} (k : DataA n a) : (pdOf a).canLay0 = true ∧ (pdOf a).depth ≤ n := by
  induction k with
  | int n i => exact ⟨rfl, Nat.zero_le _⟩
  | str n x h => exact ⟨by rw [pdOf, PyData.canLay0]; exact h, Nat.zero_le _⟩
  | tup n l h ih =>
    rw [pdOf, pds_map]
    constructor
    · rw [PyData.canLay0]
      refine canLayAll_of fun d hd => ?_
      obtain ⟨a, ha, rfl⟩ := List.mem_map.mp hd; exact (ih a ha).1
    · rw [PyData.depth]
      have := depthAll_of (n := n) (l := l.map pdOf) fun d hd => by obtain ⟨a, ha, rfl⟩ := List.mem_map.mp hd; exact (ih a ha).2
      omega
theorem eqvAll_iff {l m : List AV} (h : ∀ a ∈ l, ∀ b ∈ m, PyData.eqv (pdOf a) (pdOf b) = true ↔ a = b) : PyData.eqvAll (pdsOf l) (pdsOf m) = true ↔ l = m := by
  induction l generalizing m with
  | nil => cases m <;> simp [pdsOf, PyData.eqvAll]
  | cons a l ih =>
    cases m with
    | nil => simp [pdsOf, PyData.eqvAll]
    | cons b m =>
      have h1 := h a List.mem_cons_self b List.mem_cons_self
      have h2 := ih (m := m) fun x hx y hy => h x (List.mem_cons_of_mem _ hx) y (List.mem_cons_of_mem _ hy)
      simp only [pdsOf, PyData.eqvAll, Bool.and_eq_true, h1, h2, List.cons.injEq]
theorem DataA.eqv {n : Nat} {a : AV} (k : DataA n a) : ∀ {m : Nat} {b : AV}, DataA m b → (PyData.eqv (pdOf a) (pdOf b) = true ↔ a = b) := by
  induction k with
  | int n i => intro m b j; cases j <;> simp [pdOf, PyData.eqv]
  | str n x h => intro m b j; cases j <;> simp [pdOf, PyData.eqv]
  | tup n l h ih =>
    intro m b j
    cases j with
    | int m i => simp [pdOf, PyData.eqv]
    | str m x h => simp [pdOf, PyData.eqv]
    | tup m l' h' =>
      simp only [pdOf, PyData.eqv, AV.tup.injEq]
      exact eqvAll_iff fun a ha b hb => ih a ha (h' b hb)
open Classical in
theorem DataA.eqvB {n m : Nat} {a b : AV} (k : DataA n a) (j : DataA m b) : PyData.eqv (pdOf a) (pdOf b) = decide (a = b) := by
  by_cases h : a = b
  · rw [decide_eq_true h]; exact (k.eqv j).mpr h
  · rw [decide_eq_false h]; exact Bool.eq_false_iff.mpr fun x => h ((k.eqv j).mp x)
theorem DataA.shaped {n : Nat} {a : AV} (k : DataA n a) (hn : n ≤ 64) : SeqAt.shaped (pdOf a) = true := by
  unfold SeqAt.shaped; rw [k.lay.1, Bool.true_and]; exact decide_eq_true (Nat.le_trans k.lay.2 hn)

section
variable {C : Cx} {σ : St}

theorem VRel.int_inv {h : Heap} {v : Value} {i : Int} (r : VRel h v (.int i)) : ∃ t, v = .int i t := by cases r; exact ⟨_, rfl⟩
theorem VRel.str_inv {h : Heap} {v : Value} {x : Str} (r : VRel h v (.str x)) : ∃ t, v = .str x t := by cases r; exact ⟨_, rfl⟩
theorem VRel.con_inv {h : Heap} {v w : Value} (r : VRel h v (.con w)) : v = w := by cases r; rfl
theorem VRel.tup_inv {h : Heap} {v : Value} {l : List AV} (r : VRel h v (.tup l)) : ∃ a xs n, v = .ref a ∧ h.get? a = some ⟨.type "tuple", none, .seq xs.toArray n, #[]⟩ ∧ VRels h xs l := by cases r with | tup e r => exact ⟨_, _, _, rfl, e, r⟩

/-! ints -/
theorem TBin.addI {i j : Int} {Q : AV → St → Prop} (q : Q (.int (i + j)) σ) : TBin C .Add (.int i) (.int j) σ Q := by
  intro va vb s R0 hv
  obtain ⟨t, rfl⟩ := hv.inv2.1.int_inv; obtain ⟨u, rfl⟩ := hv.inv2.2.int_inv
  exact PyProof.Rows.add_int (Post.toks (.int _ _) R0 q)
theorem TBin.subI {i j : Int} {Q : AV → St → Prop} (q : Q (.int (i - j)) σ) : TBin C .Sub (.int i) (.int j) σ Q := by
  intro va vb s R0 hv
  obtain ⟨t, rfl⟩ := hv.inv2.1.int_inv; obtain ⟨u, rfl⟩ := hv.inv2.2.int_inv
  exact PyProof.Rows.sub_int (Post.toks (.int _ _) R0 q)
theorem TBin.modI {i j : Int} {Q : AV → St → Prop} (h0 : j ≠ 0) (q : Q (.int (i.fmod j)) σ) : TBin C .Mod (.int i) (.int j) σ Q := by
  intro va vb s R0 hv
  obtain ⟨t, rfl⟩ := hv.inv2.1.int_inv; obtain ⟨u, rfl⟩ := hv.inv2.2.int_inv
  exact PyProof.Rows.mod_int h0 (Post.toks (.int _ _) R0 q)
theorem TBin.divI {i j : Int} {Q : AV → St → Prop} (h0 : j ≠ 0) (hj : j.natAbs < 1073741824) (q : Q (.int (i.fdiv j)) σ) : TBin C .FloorDiv (.int i) (.int j) σ Q := by
  intro va vb s R0 hv
  obtain ⟨t, rfl⟩ := hv.inv2.1.int_inv; obtain ⟨u, rfl⟩ := hv.inv2.2.int_inv
  exact PyProof.Rows.floordiv_int h0 (Post.toks (.int _ _) R0 q) (.inl (PyProof.noPylong_small hj))
theorem TUn.neg {i : Int} {Q : AV → St → Prop} (q : Q (.int (-i)) σ) : TUn C .USub (.int i) σ Q := by
  intro va s R0 hv
  obtain ⟨t, rfl⟩ := hv.inv1.int_inv
  exact PySem.P.neg_int (Post.toks (.int _ _) R0 q)
theorem TCmp.ltI {i j : Int} {Q : AV → St → Prop} (q : Q (.con (.bool (decide (i < j)))) σ) : TCmp C .Lt (.int i) (.int j) σ Q := by
  intro va vb s R0 hv
  obtain ⟨t, rfl⟩ := hv.inv2.1.int_inv; obtain ⟨u, rfl⟩ := hv.inv2.2.int_inv
  exact PyProof.Rows.lt_int (Post.toks (tk := s.toks) (.con rfl) R0 q)
theorem TCmp.gtI {i j : Int} {Q : AV → St → Prop} (q : Q (.con (.bool (decide (j < i)))) σ) : TCmp C .Gt (.int i) (.int j) σ Q := by
  intro va vb s R0 hv
  obtain ⟨t, rfl⟩ := hv.inv2.1.int_inv; obtain ⟨u, rfl⟩ := hv.inv2.2.int_inv
  exact PyProof.Rows.gt_int (Post.toks (tk := s.toks) (.con rfl) R0 q)
theorem TCmp.geI {i j : Int} {Q : AV → St → Prop} (q : Q (.con (.bool (decide (j ≤ i)))) σ) : TCmp C .GtE (.int i) (.int j) σ Q := by
  intro va vb s R0 hv
  obtain ⟨t, rfl⟩ := hv.inv2.1.int_inv; obtain ⟨u, rfl⟩ := hv.inv2.2.int_inv
  exact PySem.P.ge_int (Post.toks (tk := s.toks) (.con rfl) R0 q)

/-! data compared -/
open Classical in
theorem TCmp.eqD {a b : AV} {n m : Nat} {Q : AV → St → Prop} (hu : C.A.units + 64 < cLine) (ka : DataA n a) (kb : DataA m b) (hn : n ≤ 64) (hm : m ≤ 64) (q : Q (.con (.bool (decide (a = b)))) σ) : TCmp C .Eq a b σ Q := by
  intro va vb s R0 hv
  obtain ⟨_, ra⟩ := reads_of hv.inv2.1 ka
  obtain ⟨_, rb⟩ := reads_of hv.inv2.2 kb
  exact eq_dataH ra rb (ka.shaped hn) (kb.shaped hm) hu (by rw [ka.eqvB kb]; exact Post.toks (tk := s.toks) (.con rfl) R0 q)
open Classical in
theorem TCmp.neD {a b : AV} {n m : Nat} {Q : AV → St → Prop} (hu : C.A.units + 64 < cLine) (ka : DataA n a) (kb : DataA m b) (hn : n ≤ 64) (hm : m ≤ 64) (q : Q (.con (.bool (!decide (a = b)))) σ) : TCmp C .NotEq a b σ Q := by
  intro va vb s R0 hv
  obtain ⟨_, ra⟩ := reads_of hv.inv2.1 ka
  obtain ⟨_, rb⟩ := reads_of hv.inv2.2 kb
  exact ne_dataH ra rb (ka.shaped hn) (kb.shaped hm) hu (by rw [ka.eqvB kb]; exact Post.toks (tk := s.toks) (.con rfl) R0 q)
theorem reads_list {s : Shared} {a : Addr} {xs : List AV} {n : Nat} (R0 : C.R σ s) (hH : σ.H a = some (.list xs)) (h : ∀ x ∈ xs, DataA n x) : ∃ as, Reads s.heap (.ref a) (.list (pdsOf xs)) as := by
  obtain ⟨ys, ⟨k, e⟩, r⟩ := (R0.objs a _ hH).1
  obtain ⟨bs, q⟩ := readsAll_of r h
  exact ⟨_, reads_list_at e rfl rfl (by simpa using q)⟩
theorem shaped_list {xs : List AV} {n : Nat} (h : ∀ x ∈ xs, DataA n x) (hn : n < 64) : SeqAt.shaped (.list (pdsOf xs)) = true := by
  have l := (DataA.tup n xs h).lay
  unfold SeqAt.shaped
  rw [show (PyData.list (pdsOf xs)).canLay0 = true from l.1, Bool.true_and]
  exact decide_eq_true (Nat.le_trans (show (PyData.list (pdsOf xs)).depth ≤ n + 1 from l.2) (by omega))
open Classical in
theorem eqv_list {xs ys : List AV} {n m : Nat} (h : ∀ x ∈ xs, DataA n x) (k : ∀ y ∈ ys, DataA m y) : PyData.eqv (.list (pdsOf xs)) (.list (pdsOf ys)) = decide (xs = ys) := by
  have := (DataA.tup n xs h).eqvB (DataA.tup m ys k)
  simp only [pdOf, PyData.eqv, AV.tup.injEq] at this ⊢
  exact this
open Classical in
theorem TCmp.neL {a b : Addr} {xs ys : List AV} {n m : Nat} {Q : AV → St → Prop} (hu : C.A.units + 64 < cLine) (ha : σ.H a = some (.list xs)) (hb : σ.H b = some (.list ys)) (ka : ∀ x ∈ xs, DataA n x) (kb : ∀ y ∈ ys, DataA m y) (hn : n < 64) (hm : m < 64)
    (q : Q (.con (.bool (!decide (xs = ys)))) σ) : TCmp C .NotEq (.con (.ref a)) (.con (.ref b)) σ Q := by
  intro va vb s R0 hv
  have e1 := hv.inv2.1.con_inv; have e2 := hv.inv2.2.con_inv
  subst e1; subst e2
  obtain ⟨_, ra⟩ := reads_list R0 ha ka
  obtain ⟨_, rb⟩ := reads_list R0 hb kb
  exact ne_dataH ra rb (shaped_list ka hn) (shaped_list kb hm) hu (by rw [eqv_list ka kb]; exact Post.toks (tk := s.toks) (.con rfl) R0 q)
open Classical in
theorem TCmp.eqL {a b : Addr} {xs ys : List AV} {n m : Nat} {Q : AV → St → Prop} (hu : C.A.units + 64 < cLine) (ha : σ.H a = some (.list xs)) (hb : σ.H b = some (.list ys)) (ka : ∀ x ∈ xs, DataA n x) (kb : ∀ y ∈ ys, DataA m y) (hn : n < 64) (hm : m < 64)
    (q : Q (.con (.bool (decide (xs = ys)))) σ) : TCmp C .Eq (.con (.ref a)) (.con (.ref b)) σ Q := by
  intro va vb s R0 hv
  have e1 := hv.inv2.1.con_inv; have e2 := hv.inv2.2.con_inv
  subst e1; subst e2
  obtain ⟨_, ra⟩ := reads_list R0 ha ka
  obtain ⟨_, rb⟩ := reads_list R0 hb kb
  exact eq_dataH ra rb (shaped_list ka hn) (shaped_list kb hm) hu (by rw [eqv_list ka kb]; exact Post.toks (tk := s.toks) (.con rfl) R0 q)
/-- a list against the empty one -/
theorem TCmp.neNil {a b : Addr} {xs : List AV} {Q : AV → St → Prop} (hu : C.A.units + 64 < cLine) (ha : σ.H a = some (.list xs)) (hb : σ.H b = some (.list [])) (q : Q (.con (.bool (!xs.isEmpty))) σ) : TCmp C .NotEq (.con (.ref a)) (.con (.ref b)) σ Q := by
  intro va vb s R0 hv
  have e1 := hv.inv2.1.con_inv; have e2 := hv.inv2.2.con_inv
  subst e1; subst e2
  obtain ⟨ys, ⟨k, e⟩, r⟩ := (R0.objs a _ ha).1
  obtain ⟨zs, ⟨k2, e2⟩, r2⟩ := (R0.objs b _ hb).1
  cases r2
  refine cmp_ofNotEq ?_
  cases xs with
  | nil =>
    cases r
    exact (SeqAt.RcNeAt.lists (e := fun _ => true) ⟨_, e, rfl, k, rfl⟩ ⟨_, e2, rfl, k2, rfl⟩ rfl (by omega) (fun j h => absurd h (by simp))) _ _ _ _ (Post.toks (tk := s.toks) (.con rfl) R0 q)
  | cons x xs =>
    have hl := r.length
    exact (SeqAt.RcNeAt.lists_lengths ⟨_, e, rfl, k, rfl⟩ ⟨_, e2, rfl, k2, rfl⟩ (by simp [hl]) (by omega)) _ _ _ _ (Post.toks (tk := s.toks) (.con rfl) R0 q)
theorem TCmp.eqNil {a b : Addr} {xs : List AV} {Q : AV → St → Prop} (hu : C.A.units + 64 < cLine) (ha : σ.H a = some (.list xs)) (hb : σ.H b = some (.list [])) (q : Q (.con (.bool xs.isEmpty)) σ) : TCmp C .Eq (.con (.ref a)) (.con (.ref b)) σ Q := by
  intro va vb s R0 hv
  have e1 := hv.inv2.1.con_inv; have e2 := hv.inv2.2.con_inv
  subst e1; subst e2
  obtain ⟨ys, ⟨k, e⟩, r⟩ := (R0.objs a _ ha).1
  obtain ⟨zs, ⟨k2, e2⟩, r2⟩ := (R0.objs b _ hb).1
  cases r2
  cases xs with
  | nil =>
    cases r
    exact SeqAt.eq_listAt (e := fun _ => true) ⟨_, e, rfl, k, rfl⟩ ⟨_, e2, rfl, k2, rfl⟩ rfl (by omega) (fun j h => absurd h (by simp)) (Post.toks (tk := s.toks) (.con rfl) R0 q)
  | cons x xs =>
    have hl := r.length
    exact SeqAt.eq_list_lengthsAt ⟨_, e, rfl, k, rfl⟩ ⟨_, e2, rfl, k2, rfl⟩ (by simp [hl]) (by omega) (Post.toks (tk := s.toks) (.con rfl) R0 q)
theorem ORel.isSome {h : Heap} {v : Option Value} {a : Option AV} (o : ORel h v a) : v.isSome = a.isSome := by cases o <;> rfl
def DictIs (H : AH) (d : Addr) (es : List (Str × AV)) : Prop := H d = some (.dict es) ∨ ∃ ep, H d = some (.dictE es ep)
theorem DictIs.of {s : Shared} {d : Addr} {es : List (Str × AV)} (h : DictIs σ.H d es) (R0 : C.R σ s) : (∃ ds, s.heap.DictOf (PySem.strKind C.prog C.w) d ds ∧ DRel s.heap ds es) ∧ (d == sysModules) = false := by
  rcases h with h | ⟨ep, h⟩
  · obtain ⟨⟨ds, h1, h2⟩, hz, _⟩ := R0.objs d _ h; exact ⟨⟨ds, h1, h2⟩, C.notSys hz⟩
  · obtain ⟨⟨ds, h1, h2⟩, hz, _⟩ := R0.objs d _ h; exact ⟨⟨ds, h1.dictOf, h2⟩, C.notSys hz⟩
theorem TCmp.neDict0 {a b : Addr} {Q : AV → St → Prop} (hu : C.A.units + 64 < cLine) (ha : DictIs σ.H a []) (hb : DictIs σ.H b []) (q : Q (.con (.bool false)) σ) : TCmp C .NotEq (.con (.ref a)) (.con (.ref b)) σ Q := by
  intro va vb s R0 hv
  have e1 := hv.inv2.1.con_inv; have e2 := hv.inv2.2.con_inv
  subst e1; subst e2
  obtain ⟨⟨ds, h1, r1⟩, s1⟩ := ha.of R0
  obtain ⟨⟨ds2, h2, r2⟩, s2⟩ := hb.of R0
  cases r1; cases r2
  exact keq_ne (r := true) s1 s2 h1 h2 (by omega) (fun _ => .nil) (Post.toks (tk := s.toks) (.con rfl) R0 q)

/-! is -/
theorem TCmp.isNotC {v w : Value} {Q : AV → St → Prop} (hp : plainIs v w = true) (q : Q (.con (.bool (!(v == w)))) σ) : TCmp C .IsNot (.con v) (.con w) σ Q := by
  intro va vb s R0 hv
  have e1 := hv.inv2.1.con_inv; have e2 := hv.inv2.2.con_inv
  subst e1; subst e2
  exact wpAny_isNot_plain hp (Post.toks (tk := s.toks) (.con rfl) R0 q)
theorem TCmp.isC {v w : Value} {Q : AV → St → Prop} (hp : plainIs v w = true) (q : Q (.con (.bool (v == w))) σ) : TCmp C .Is (.con v) (.con w) σ Q := by
  intro va vb s R0 hv
  have e1 := hv.inv2.1.con_inv; have e2 := hv.inv2.2.con_inv
  subst e1; subst e2
  exact wpAny_is_plain hp (Post.toks (tk := s.toks) (.con rfl) R0 q)

/-! in -/
theorem TCmp.inDict {k : Str} {d : Addr} {es : List (Str × AV)} {Q : AV → St → Prop} (hd : DictIs σ.H d es) (q : Q (.con (.bool (valA es k).isSome)) σ) : TCmp C .In (.str k) (.con (.ref d)) σ Q := by
  intro va vb s R0 hv
  obtain ⟨t, rfl⟩ := hv.inv2.1.str_inv
  have e2 := hv.inv2.2.con_inv
  subst e2
  obtain ⟨⟨ds, h1, r1⟩, s1⟩ := hd.of R0
  refine wpAny_in_of (strKind_is C.prog C.w k t) s1 h1.mapOf ?_
  have o := r1.val k
  rw [show (valueAt ds k).isSome = (valA es k).isSome from o.isSome]
  exact Post.toks (.con rfl) R0 q
theorem TCmp.notInDict {k : Str} {d : Addr} {es : List (Str × AV)} {Q : AV → St → Prop} (hd : DictIs σ.H d es) (q : Q (.con (.bool (!(valA es k).isSome))) σ) : TCmp C .NotIn (.str k) (.con (.ref d)) σ Q := by
  intro va vb s R0 hv
  obtain ⟨t, rfl⟩ := hv.inv2.1.str_inv
  have e2 := hv.inv2.2.con_inv
  subst e2
  obtain ⟨⟨ds, h1, r1⟩, s1⟩ := hd.of R0
  refine wpAny_notIn_of (strKind_is C.prog C.w k t) s1 h1.mapOf ?_
  have o := r1.val k
  rw [show (valueAt ds k).isSome = (valA es k).isSome from o.isSome]
  exact Post.toks (.con rfl) R0 q
theorem any_mem {xs : List AV} {x : AV} {n m : Nat} (hx : DataA m x) (h : ∀ y ∈ xs, DataA n y) : ((pdsOf xs).any fun y => PyData.eqv y (pdOf x)) = true ↔ x ∈ xs := by
  induction xs with
  | nil => simp [pdsOf]
  | cons y ys ih =>
    have h1 := (h y List.mem_cons_self).eqv hx
    have h2 := ih fun z hz => h z (List.mem_cons_of_mem _ hz)
    simp only [pdsOf, List.any_cons, Bool.or_eq_true, h1, h2, List.mem_cons]
    constructor
    · rintro (e | e)
      · exact .inl e.symm
      · exact .inr e
    · rintro (e | e)
      · exact .inl e.symm
      · exact .inr e
open Classical in
theorem any_memB {xs : List AV} {x : AV} {n m : Nat} (hx : DataA m x) (h : ∀ y ∈ xs, DataA n y) : ((pdsOf xs).any fun y => PyData.eqv y (pdOf x)) = decide (x ∈ xs) := by
  by_cases q : x ∈ xs
  · rw [decide_eq_true q]; exact (any_mem hx h).mpr q
  · rw [decide_eq_false q]; exact Bool.eq_false_iff.mpr fun z => q ((any_mem hx h).mp z)
open Classical in
theorem TCmp.inL {x : AV} {l : Addr} {xs : List AV} {n m : Nat} {Q : AV → St → Prop} (hu : C.A.units + 64 < cLine) (hl : σ.H l = some (.list xs)) (h : ∀ y ∈ xs, DataA n y) (hx : DataA m x) (hm : m ≤ 60) (q : Q (.con (.bool (decide (x ∈ xs)))) σ) : TCmp C .In x (.con (.ref l)) σ Q := by
  intro va vb s R0 hv
  have e2 := hv.inv2.2.con_inv
  subst e2
  obtain ⟨_, rl⟩ := reads_list R0 hl h
  obtain ⟨_, rx⟩ := reads_of hv.inv2.1 hx
  refine SeqAt.in_list_reads rl rx (canLayAll_of fun d hd => ?_) hx.lay.1 ?_ (by rw [any_memB hx h]; exact Post.toks (tk := s.toks) (.con rfl) R0 q)
  · rw [pds_map] at hd; obtain ⟨a, ha, rfl⟩ := List.mem_map.mp hd; exact (h a ha).lay.1
  · have := hx.lay.2; have := Nat.min_le_right (PyData.depthAll (pdsOf xs)) (pdOf x).depth; omega
open Classical in
theorem TCmp.notInL {x : AV} {l : Addr} {xs : List AV} {n m : Nat} {Q : AV → St → Prop} (hu : C.A.units + 64 < cLine) (hl : σ.H l = some (.list xs)) (h : ∀ y ∈ xs, DataA n y) (hx : DataA m x) (hm : m ≤ 60) (q : Q (.con (.bool (!decide (x ∈ xs)))) σ) : TCmp C .NotIn x (.con (.ref l)) σ Q := by
  intro va vb s R0 hv
  have e2 := hv.inv2.2.con_inv
  subst e2
  obtain ⟨_, rl⟩ := reads_list R0 hl h
  obtain ⟨_, rx⟩ := reads_of hv.inv2.1 hx
  refine SeqAt.notIn_list_reads rl rx (canLayAll_of fun d hd => ?_) hx.lay.1 ?_ (by rw [any_memB hx h]; exact Post.toks (tk := s.toks) (.con rfl) R0 q)
  · rw [pds_map] at hd; obtain ⟨a, ha, rfl⟩ := List.mem_map.mp hd; exact (h a ha).lay.1
  · have := hx.lay.2; have := Nat.min_le_right (PyData.depthAll (pdsOf xs)) (pdOf x).depth; omega
end

def withoutA (es : List (Str × AV)) (k : Str) : List (Str × AV) := es.filter fun kv => !decide (kv.1 = k)

section
variable {C : Cx} {σ : St}

theorem Rep.fr {s : Shared} (R : C.R σ s) : ∃ m', Fr C.h₀ C.env.locals s.heap m' := by
  obtain ⟨m', hn, _⟩ := R.locs
  exact ⟨m', hn, R.keep, (R.owns _ List.mem_cons_self).1⟩
theorem Rep.kin {s : Shared} (R : C.R σ s) : C.K.In s.heap := C.hK.keeps R.keep

/-! concatenation -/
theorem TBin.addT {l m : List AV} {Q : AV → St → Prop} (hz : l.length + m.length ≤ 16384) (q : Q (.tup (l ++ m)) σ) : TBin C .Add (.tup l) (.tup m) σ Q := by
  intro va vb s R0 hv
  obtain ⟨t, xs, n, rfl, e1, r1⟩ := hv.inv2.1.tup_inv
  obtain ⟨b, ys, k, rfl, e2, r2⟩ := hv.inv2.2.tup_inv
  obtain ⟨m', F⟩ := R0.fr
  have hz' : xs.toArray.toList.length + ys.toArray.toList.length ≤ 16384 := by simpa [r1.length, r2.length] using hz
  cases l with
  | nil =>
    cases r1
    exact kde_addT0 F News.nil ⟨_, e1, rfl, n, rfl⟩ ⟨_, e2, rfl, k, rfl⟩ rfl hz' (Post.toks (tk := s.toks) (.tup e2 r2) R0 q)
  | cons a l =>
    cases m with
    | nil =>
      cases r2
      refine kde_addT1 F News.nil ⟨_, e1, rfl, n, rfl⟩ ⟨_, e2, rfl, k, rfl⟩ ?_ rfl hz' (Post.toks (tk := s.toks) (.tup e1 r1) R0 (by simpa using q))
      cases r1; simp
    | cons b' m =>
      refine P.add_tuple e1 e2 (by cases r1; simp) (by cases r2; simp) ?_ (by rw [sizeLine_eq]; simp only [List.size_toArray]; simp at hz'; omega)
      have kp : ∀ b o, s.heap.get? b = some o → (s.heap.push { cls := .type "tuple", data := .seq (xs.toArray ++ ys.toArray) }).get? b = some o := fun b o e => Heap.get?_push_of_some _ e
      obtain ⟨R2, g2⟩ := R0.ext (s' := { s with heap := s.heap.push { cls := .type "tuple", data := .seq (xs.toArray ++ ys.toArray) } }) kp rfl rfl
      have e3 := Heap.get?_push_size s.heap (o := { cls := .type "tuple", data := .seq (xs.toArray ++ ys.toArray) }) rfl
      have e4 : xs.toArray ++ ys.toArray = (xs ++ ys).toArray := by simp
      refine ⟨_, σ, VRel.tup (xs := xs ++ ys) (n := 0) ?_ ((r1.append r2).keep fun a _ _ e => kp a _ e), R2, g2, q⟩
      rw [← e4]; exact e3
theorem TBin.addL {a b : Addr} {xs ys : List AV} {Q : AV → St → Prop} (ha : σ.H a = some (.list xs)) (hb : σ.H b = some (.list ys)) (hz : xs.length + ys.length ≤ 16777216) (q : ∀ c, σ.H c = none → Q (.con (.ref c)) (σ.put c (.list (xs ++ ys)))) :
    TBin C .Add (.con (.ref a)) (.con (.ref b)) σ Q := by
  intro va vb s R0 hv
  have h1 := hv.inv2.1.con_inv; have h2 := hv.inv2.2.con_inv
  subst h1; subst h2
  obtain ⟨us, ⟨n, e1⟩, r1⟩ := (R0.objs a _ ha).1
  obtain ⟨ws, ⟨k, e2⟩, r2⟩ := (R0.objs b _ hb).1
  refine P.add_list e1 e2 ?_ (by rw [sizeLine_eq]; simp [r1.length, r2.length]; omega)
  have kp : ∀ b o, s.heap.get? b = some o → (s.heap.push { cls := .type "list", data := .seq (us.toArray ++ ws.toArray) }).get? b = some o := fun b o e => Heap.get?_push_of_some _ e
  have e3 := Heap.get?_push_size s.heap (o := { cls := .type "list", data := .seq (us.toArray ++ ws.toArray) }) rfl
  have e4 : us.toArray ++ ws.toArray = (us ++ ws).toArray := by simp
  obtain ⟨R2, g2, fr⟩ := R0.allocPush (ob := { cls := .type "list", data := .seq (us.toArray ++ ws.toArray) }) (ao := .list (xs ++ ys)) ⟨us ++ ws, ⟨0, by rw [← e4]; exact e3⟩, (r1.append r2).keep fun a _ _ e => kp a _ e⟩
  exact ⟨_, _, .con rfl, R2, g2, q _ fr⟩
/-- a list of the ground's (the script) with one of the call's -/
theorem TBin.addS {x y : Str} {Q : AV → St → Prop} (hz : x.length + y.length ≤ 16777216) (q : Q (.str (x ++ y)) σ) : TBin C .Add (.str x) (.str y) σ Q := by
  intro va vb s R0 hv
  obtain ⟨t, rfl⟩ := hv.inv2.1.str_inv; obtain ⟨u, rfl⟩ := hv.inv2.2.str_inv
  exact PyProof.Rows.add_str (fun t' tk => Post.toks (.str _ _) R0 q) (by rw [sizeLine_eq]; exact hz)

/-! items -/
theorem TE.sub {value slice : PySem.Expr} {pos} {Q : AV → St → Prop} (h : TE C value σ fun a σ1 => TE C slice σ1 fun b σ2 => TSub C value slice a b σ2 Q) : TE C (.Subscript value slice pos) σ Q := by
  intro s R0 _
  refine Subscript_ (h.here R0 .nil fun va a σ1 s1 ra R1 g1 k1 q => ?_)
  refine q.andThen R0 R1 g1 .nil fun vb b σ2 s2 rb R2 g2 _ k2 q => ?_
  exact (q va vb).last R0 R2 g2 (.mk2 (ra.keep k2) rb)
def subOps (slice : PySem.Expr) : Prop := ∀ o i, ∃ ops, subscripted slice false o i = operate ops (getItem o i)
theorem TSub.tup {value slice : PySem.Expr} {l : List AV} {i : Int} {j : Nat} {a : AV} {Q : AV → St → Prop} (hs : subOps slice) (hlo : -(2 ^ 63) ≤ i) (hhi : i < 2 ^ 63) (hj : seqIndex? i l.length = some j) (ha : l[j]? = some a) (q : Q a σ) : TSub C value slice (.tup l) (.int i) σ Q := by
  intro va vb s R0 hv
  obtain ⟨t, xs, n, rfl, e1, r1⟩ := hv.inv2.1.tup_inv
  obtain ⟨u, rfl⟩ := hv.inv2.2.int_inv
  obtain ⟨v, hv', rv⟩ := r1.get ha
  obtain ⟨ops, ho⟩ := hs (.ref t) (.int i u)
  have ht : IsTup s.heap t xs.toArray := ⟨_, e1, rfl, n, rfl⟩
  exact tail_any ht.typeIs slot_tuple_getitem.lookup (PyProof.Rows.getItem_tuple ht hlo hhi (by simpa [r1.length] using hj) (by simpa using hv') (Post.toks (tk := s.toks) rv R0 q)) ho
theorem TSub.list {value slice : PySem.Expr} {l : Addr} {xs : List AV} {i : Int} {a : AV} {Q : AV → St → Prop} (hs : subOps slice) (hl : σ.H l = some (.list xs)) (h0 : 0 ≤ i) (hi : i < 2 ^ 63) (ha : xs[i.toNat]? = some a) (q : Q a σ) : TSub C value slice (.con (.ref l)) (.int i) σ Q := by
  intro va vb s R0 hv
  have h1 := hv.inv2.1.con_inv
  subst h1
  obtain ⟨u, rfl⟩ := hv.inv2.2.int_inv
  obtain ⟨ys, ⟨n, e⟩, r⟩ := (R0.objs l _ hl).1
  obtain ⟨v, hv', rv⟩ := r.get ha
  obtain ⟨ops, ho⟩ := hs (.ref l) (.int i u)
  have hL : s.heap.IsList l ys.toArray := ⟨_, e, rfl, n, rfl⟩
  exact tail_any hL.typeIs slot_list_getitem.lookup (wpAny_getItem_list hL h0 hi (by simpa using hv') (Post.toks (tk := s.toks) rv R0 q)) ho
theorem TSub.listLast {value slice : PySem.Expr} {l : Addr} {xs : List AV} {a : AV} {Q : AV → St → Prop} (hs : subOps slice) (hl : σ.H l = some (.list (xs ++ [a]))) (q : Q a σ) : TSub C value slice (.con (.ref l)) (.int (-1)) σ Q := by
  intro va vb s R0 hv
  have h1 := hv.inv2.1.con_inv
  subst h1
  obtain ⟨u, rfl⟩ := hv.inv2.2.int_inv
  obtain ⟨ys, ⟨n, e⟩, r⟩ := (R0.objs l _ hl).1
  obtain ⟨ws, v, rfl, r2, rv⟩ := r.snoc
  obtain ⟨ops, ho⟩ := hs (.ref l) (.int (-1) u)
  have hL : s.heap.IsList l (ws ++ [v]).toArray := ⟨_, e, rfl, n, rfl⟩
  refine tail_any hL.typeIs slot_list_getitem.lookup (wpAny_getItem_list_neg hL (by decide) (by rw [List.size_toArray, List.length_append, List.length_singleton]; omega) (by decide) ?_ (Post.toks (tk := s.toks) rv R0 q)) ho
  have : ((-1 : Int) + ((ws ++ [v]).toArray.size : Nat)).toNat = ws.length := by rw [List.size_toArray, List.length_append, List.length_singleton]; omega
  rw [this, List.getElem?_toArray, List.getElem?_append_right (Nat.le_refl _), Nat.sub_self]; rfl
theorem TSub.dict {value slice : PySem.Expr} {d : Addr} {es : List (Str × AV)} {k : Str} {a : AV} {Q : AV → St → Prop} (hs : subOps slice) (hd : DictIs σ.H d es) (ha : valA es k = some a) (q : Q a σ) : TSub C value slice (.con (.ref d)) (.str k) σ Q := by
  intro va vb s R0 hv
  have h1 := hv.inv2.1.con_inv
  subst h1
  obtain ⟨u, rfl⟩ := hv.inv2.2.str_inv
  obtain ⟨⟨ds, h1, r1⟩, s1⟩ := hd.of R0
  have o := r1.val k
  rw [ha] at o
  obtain ⟨ops, ho⟩ := hs (.ref d) (.str k u)
  cases hq : valueAt ds k with
  | none => rw [hq] at o; cases o
  | some v =>
    rw [hq] at o
    cases o with
    | some rv => exact tail_any h1.typeIs slot_dict_getitem.lookup (wpAny_getItem_of (strKind_is C.prog C.w k u) h1.mapOf hq (Post.toks rv R0 q)) ho

/-! stores into a dict -/
theorem TSet.dict {d : Addr} {es : List (Str × AV)} {k : Str} {a : AV} {Q : Unit → St → Prop} (hd : σ.H d = some (.dict es)) (hz : es.length ≤ 16777215) (q : Q () (σ.put d (.dict (storeA es k a)))) : TSet C (.con (.ref d)) (.str k) a σ Q := by
  intro vo vi vv s R0 hv
  obtain ⟨r1, r2, r3⟩ := hv.inv3
  have h1 := r1.con_inv
  subst h1
  obtain ⟨u, rfl⟩ := r2.str_inv
  obtain ⟨ds, h1, rd⟩ := (R0.objs d _ hd).1
  refine wpAny_setItem_pairs (strKind_is C.prog C.w k u) h1 (fun h' hm' hs' => ?_) (by rw [sizeLine_eq, rd.length]; omega)
  obtain ⟨R2, g2⟩ := R0.store (ao' := .dict (storeA es k a)) (tk := s.toks + 1) hd hs'.extBut fun tk => ⟨_, hm', (rd.keep tk).store (r3.keep tk)⟩
  exact ⟨(), _, trivial, R2, g2, q⟩

/-! calls -/
def Cl (C : Cx) (f : Value) : Prop := ∀ h, C.K.In h → ∃ k, (k = Keeper.frame ∨ k = Keeper.machine ∨ k = Keeper.boundFrame) ∧ Looks C.M h (keeperOf f) k
theorem Cl.type (T : String) : Cl C (.type T) := fun _ _ => ⟨.machine, .inr (.inl rfl), Looks.of_pure rfl⟩
theorem Cl.builtin (T : String) : Cl C (.builtin T) := fun _ _ => ⟨.machine, .inr (.inl rfl), Looks.of_pure rfl⟩
theorem Cl.ref {a : Addr} (h : keepIn C.K (.ref a) = true) : Cl C (.ref a) := fun h' X => keeps_K h h' X

/-- a call of f upon the values as -/
def TCall (C : Cx) (f : Value) (as : List AV) (σ : St) (Q : AV → St → Prop) : Prop := ∀ vs, TV C vs as VRel (call f vs) σ Q
/-- .. and one more by a name -/
def TCallK (C : Cx) (f : Value) (as : List AV) (n : Str) (k : AV) (σ : St) (Q : AV → St → Prop) : Prop := ∀ vs w, TV C (w :: vs) (k :: as) VRel (call f vs [(n, w)]) σ Q
def TMeth (C : Cx) (a : AV) (name : Str) (σ : St) (Q : AV × List AV → St → Prop) : Prop := ∀ va pl, TV C [va] [a] RP (getMethod va name pl) σ Q

theorem callW {A : Around} {env : Env} {E : Value → Shared → Prop} {s : Shared} {f : Value} {pos : Pos} {first : List Value} {e : PySem.Expr} {rest : List PySem.Expr} {Q : Value → Shared → Prop} (hk : Cl C f)
    (h : wpAny C.M A (spliced (backTo pos (starEach (e :: rest) env))) (fun vs s₁ => C.K.In s₁.heap ∧ wpAny C.M A (call f (first ++ vs)) Q E s₁) E s)
    (he : starEach (e :: rest) env = (false, eval e env) :: starEach rest env) (hplain : (backTo pos (starEach rest env)).any (·.1) = false) :
    wpAny C.M A (callWith pos f first (backTo pos (starEach (e :: rest) env)) []) Q E s := by
  rw [he] at h ⊢
  exact callWith_of (P := fun h => C.K.In h) (by show ((false || (backTo pos (starEach rest env)).any (·.1)) || false) = false; rw [hplain]; rfl) hk (evalArgs_plain h)
theorem callW0 {A : Around} {env : Env} {E : Value → Shared → Prop} {s : Shared} {f : Value} {pos : Pos} {first : List Value} {Q : Value → Shared → Prop} (hk : Cl C f) (hX : C.K.In s.heap)
    (h : wpAny C.M A (call f (first ++ [])) Q E s) : wpAny C.M A (callWith pos f first (backTo pos (starEach [] env)) []) Q E s :=
  callWith_of (P := fun h => C.K.In h) rfl hk (evalArgs_nil3 ⟨hX, h⟩)
theorem callWK {A : Around} {env : Env} {E : Value → Shared → Prop} {s : Shared} {f : Value} {pos kp : Pos} {first : List Value} {e ke : PySem.Expr} {n : Str} {rest : List PySem.Expr} {Q : Value → Shared → Prop} (hk : Cl C f)
    (h : wpAny C.M A (spliced (backTo pos (starEach (e :: rest) env))) (fun vs s₁ => wpAny C.M A (eval ke env) (fun w s₂ => C.K.In s₂.heap ∧ wpAny C.M A (call f (first ++ vs) [(n, w)]) Q E s₂) E s₁) E s)
    (he : starEach (e :: rest) env = (false, eval e env) :: starEach rest env) (hplain : (backTo pos (starEach rest env)).any (·.1) = false) :
    wpAny C.M A (callWith pos f first (backTo pos (starEach (e :: rest) env)) (backToKw pos (keywordEach [⟨some n, ke, kp⟩] env))) Q E s := by
  refine callWith_of (P := fun h => C.K.In h) ?_ hk (evalArgs_kw2 rfl (wpAny_mono h (fun vs s1 h1 => kwAll_cons (wpAny_mono h1 (fun w s2 h2 => kwAll_nil h2) fun _ _ x => x)) fun _ _ x => x) he)
  rw [he]
  show (((false || (backTo pos (starEach rest env)).any (·.1)) || false) = false)
  rw [hplain]; rfl

def noStar (C : Cx) (es : List PySem.Expr) : Prop := ∀ pos, (backTo pos (starEach es C.env)).any (·.1) = false
theorem TE.call0 {x : Str} {np pos : Pos} {Q : AV → St → Prop} (h : TE C (.Name x np) σ fun f σ1 => ∃ vf, f = .con vf ∧ Cl C vf ∧ TCall C vf [] σ1 Q) : TE C (.Call (.Name x np) [] [] pos) σ Q := by
  intro s R0 _
  refine wpAny_Call_ofName (h.here R0 .nil fun vf f σ1 s1 rf R1 g1 k1 q => ?_)
  obtain ⟨w, rfl, hc, q⟩ := q
  have := rf.con_inv
  subst this
  exact callW0 hc R1.kin ((q []).last R0 R1 g1 .nil)
theorem TE.call {x : Str} {np pos : Pos} {e : PySem.Expr} {r : List PySem.Expr} {Q : AV → St → Prop}
    (h : TE C (.Name x np) σ fun f σ1 => ∃ vf, f = .con vf ∧ Cl C vf ∧ TL C (e :: r) σ1 fun as σ2 => TCall C vf as σ2 Q)
    (he : starEach (e :: r) C.env = (false, eval e C.env) :: starEach r C.env := by rfl) (hp : noStar C r := by intro _; rfl) : TE C (.Call (.Name x np) (e :: r) [] pos) σ Q := by
  intro s R0 _
  refine wpAny_Call_ofName (h.here R0 .nil fun vf f σ1 s1 rf R1 g1 k1 q => ?_)
  obtain ⟨w, rfl, hc, q⟩ := q
  have := rf.con_inv
  subst this
  refine callW hc ((q pos).andThen R0 R1 g1 .nil fun vs as σ2 s2 rs R2 g2 _ k2 q => ⟨R2.kin, ?_⟩) he (hp pos)
  exact (q vs).last R0 R2 g2 rs
def methForm (C : Cx) (o : PySem.Expr) (name : Str) (apos pos : Pos) (args : List PySem.Expr) (kws : List Keyword) (pl : Sem Bool) : Prop :=
  eval (.Call (.Attribute o name apos) args kws pos) C.env = (do
    let ov ← eval o C.env
    standAt apos.atName
    let (f, first) ← holding [ov] (getMethod ov name pl)
    callWith pos f first (backTo pos (starEach args C.env)) (backToKw pos (keywordEach kws C.env)))
theorem TE.meth0 {o : PySem.Expr} {name : Str} {apos pos : Pos} {pl : Sem Bool} {Q : AV → St → Prop} (hm : methForm C o name apos pos [] [] pl)
    (h : TE C o σ fun a σ1 => TMeth C a name σ1 fun p σ2 => ∃ vf, p.1 = .con vf ∧ Cl C vf ∧ TCall C vf p.2 σ2 Q) : TE C (.Call (.Attribute o name apos) [] [] pos) σ Q := by
  intro s R0 _
  refine methodCall_KW (pl := pl) (h.here R0 .nil fun va a σ1 s1 ra R1 g1 k1 q => ?_) hm
  refine (q va pl).andThen R0 R1 g1 (.one ra) fun fx p σ2 s2 rp R2 g2 _ k2 q => ?_
  obtain ⟨w, e, hc, q⟩ := q
  obtain ⟨r1, r2⟩ := rp
  rw [e] at r1
  rw [r1.con_inv]
  exact callW0 hc R2.kin ((q _).last R0 R2 g2 (by rw [List.append_nil]; exact r2))
theorem TE.meth {o : PySem.Expr} {name : Str} {apos pos : Pos} {pl : Sem Bool} {e : PySem.Expr} {r : List PySem.Expr} {Q : AV → St → Prop} (hm : methForm C o name apos pos (e :: r) [] pl)
    (h : TE C o σ fun a σ1 => TMeth C a name σ1 fun p σ2 => ∃ vf, p.1 = .con vf ∧ Cl C vf ∧ TL C (e :: r) σ2 fun as σ3 => TCall C vf (p.2 ++ as) σ3 Q)
    (he : starEach (e :: r) C.env = (false, eval e C.env) :: starEach r C.env := by rfl) (hp : noStar C r := by intro _; rfl) : TE C (.Call (.Attribute o name apos) (e :: r) [] pos) σ Q := by
  intro s R0 _
  refine methodCall_KW (pl := pl) (h.here R0 .nil fun va a σ1 s1 ra R1 g1 k1 q => ?_) hm
  refine (q va pl).andThen R0 R1 g1 (.one ra) fun fx p σ2 s2 rp R2 g2 _ k2 q => ?_
  obtain ⟨w, e, hc, q⟩ := q
  obtain ⟨r1, r2⟩ := rp
  rw [e] at r1
  rw [r1.con_inv]
  refine callW hc ((q pos).andThen R0 R2 g2 .nil fun vs as σ3 s3 rs R3 g3 _ k3 q => ⟨R3.kin, ?_⟩) he (hp pos)
  exact (q _).last R0 R3 g3 ((r2.keep k3).append rs)
theorem TE.methK {o : PySem.Expr} {name : Str} {apos pos kp : Pos} {pl : Sem Bool} {e ke : PySem.Expr} {n : Str} {r : List PySem.Expr} {Q : AV → St → Prop} (hm : methForm C o name apos pos (e :: r) [⟨some n, ke, kp⟩] pl)
    (h : TE C o σ fun a σ1 => TMeth C a name σ1 fun p σ2 => ∃ vf, p.1 = .con vf ∧ Cl C vf ∧ TL C (e :: r) σ2 fun as σ3 => TE C ke σ3 fun k σ4 => TCallK C vf (p.2 ++ as) n k σ4 Q)
    (he : starEach (e :: r) C.env = (false, eval e C.env) :: starEach r C.env := by rfl) (hp : noStar C r := by intro _; rfl) : TE C (.Call (.Attribute o name apos) (e :: r) [⟨some n, ke, kp⟩] pos) σ Q := by
  intro s R0 _
  refine methodCall_KW (pl := pl) (h.here R0 .nil fun va a σ1 s1 ra R1 g1 k1 q => ?_) hm
  refine (q va pl).andThen R0 R1 g1 (.one ra) fun fx p σ2 s2 rp R2 g2 _ k2 q => ?_
  obtain ⟨w, e, hc, q⟩ := q
  obtain ⟨r1, r2⟩ := rp
  rw [e] at r1
  rw [r1.con_inv]
  refine callWK hc ((q pos).andThen R0 R2 g2 .nil fun vs as σ3 s3 rs R3 g3 _ k3 q => ?_) he (hp pos)
  refine q.andThen R0 R3 g3 .nil fun vk kk σ4 s4 rk R4 g4 _ k4 q => ⟨R4.kin, ?_⟩
  exact (q _ _).last R0 R4 g4 (.cons rk (((r2.keep k3).append rs).keep k4))
def attrForm (C : Cx) (value : PySem.Expr) (attr : Str) (pos : Pos) : Prop :=
  eval (.Attribute value attr pos) C.env = (do let o ← eval value C.env; standAt pos.atName; let r ← holding [o] (getAttr o attr true); letTemporaryGo value o r; pure r)
def TAttr (C : Cx) (a : AV) (attr : Str) (σ : St) (Q : AV → St → Prop) : Prop := ∀ va, TV C [va] [a] VRel (getAttr va attr true) σ Q
theorem TE.attr {value : PySem.Expr} {attr : Str} {pos : Pos} {Q : AV → St → Prop} (hf : attrForm C value attr pos) (h : TE C value σ fun a σ1 => TAttr C a attr σ1 Q) : TE C (.Attribute value attr pos) σ Q := by
  intro s R0 _
  refine Attribute_any_ (h.here R0 .nil fun va a σ1 s1 ra R1 g1 k1 q => ?_) hf
  exact (q va).last R0 R1 g1 (.one ra)
end

inductive TyOf (H : AH) : AV → String → Prop
  | int (i : Int) : TyOf H (.int i) "int"
  | str (x : Str) : TyOf H (.str x) "str"
  | tup (l : List AV) : TyOf H (.tup l) "tuple"
  | list {a : Addr} {l : List AV} (h : H a = some (.list l)) : TyOf H (.con (.ref a)) "list"
  | dict {a : Addr} {es : List (Str × AV)} (h : DictIs H a es) : TyOf H (.con (.ref a)) "dict"

section
variable {C : Cx} {σ : St}

theorem TyOf.is {s : Shared} {v : Value} {a : AV} {T : String} (h : TyOf σ.H a T) (R0 : C.R σ s) (r : VRel s.heap v a) : s.TypeIs v T := by
  cases h with
  | int i => obtain ⟨t, rfl⟩ := r.int_inv; exact typeIs_int s i t
  | str x => obtain ⟨t, rfl⟩ := r.str_inv; exact typeIs_str s x t
  | tup l => obtain ⟨a, xs, n, rfl, e, _⟩ := r.tup_inv; exact ⟨_, e, rfl⟩
  | list h => rw [r.con_inv]; obtain ⟨ys, ⟨n, e⟩, _⟩ := (R0.objs _ _ h).1; exact ⟨_, e, rfl⟩
  | dict h => rw [r.con_inv]; obtain ⟨⟨ds, h1, _⟩, _⟩ := h.of R0; exact h1.typeIs
theorem TCall.type {a : AV} {T : String} {Q : AV → St → Prop} (h : TyOf σ.H a T) (q : Q (.con (.type T)) σ) : TCall C (.type "type") [a] σ Q := by
  intro vs s R0 hv
  cases hv with
  | cons e r =>
    cases r
    exact call_type_of (h.is R0 e) (by cases h <;> decide) (Post.toks (tk := s.toks) (.con rfl) R0 q)
theorem TCall.lenL {l : Addr} {xs : List AV} {Q : AV → St → Prop} (hl : σ.H l = some (.list xs)) (hz : xs.length ≤ 16777216) (q : Q (.int xs.length) σ) : TCall C (.builtin "len") [.con (.ref l)] σ Q := by
  intro vs s R0 hv
  cases hv with
  | cons e r =>
    cases r
    rw [e.con_inv]
    obtain ⟨ys, ⟨n, e⟩, r⟩ := (R0.objs l _ hl).1
    refine call_len_list ⟨_, e, rfl, n, rfl⟩ (by simp [r.length]; omega) ?_
    rw [List.size_toArray, r.length]
    exact Post.toks (.int _ _) R0 q
theorem TCall.lenT {l : List AV} {Q : AV → St → Prop} (hz : l.length ≤ 16777216) (q : Q (.int l.length) σ) : TCall C (.builtin "len") [.tup l] σ Q := by
  intro vs s R0 hv
  cases hv with
  | cons e r =>
    cases r
    obtain ⟨a, xs, n, rfl, e, r⟩ := e.tup_inv
    refine PyProof.Rows.len_tuple ⟨_, e, rfl, n, rfl⟩ (by simp [r.length]; omega) ?_
    rw [List.size_toArray, r.length]
    exact Post.toks (.int _ _) R0 q
theorem TCall.abs {i : Int} {Q : AV → St → Prop} (q : Q (.int (if i < 0 then -i else i)) σ) : TCall C (.builtin "abs") [.int i] σ Q := by
  intro vs s R0 hv
  cases hv with
  | cons e r =>
    cases r
    obtain ⟨t, rfl⟩ := e.int_inv
    exact call_abs_int fun u tk => Post.toks (.int _ _) R0 q
theorem TCall.str {i : Int} {Q : AV → St → Prop} (hi : i.natAbs.log2 < 1920) (q : Q (.str (Str.ofString (toString i))) σ) : TCall C (.type "str") [.int i] σ Q := by
  intro vs s R0 hv
  cases hv with
  | cons e r =>
    cases r
    obtain ⟨t, rfl⟩ := e.int_inv
    exact P.str_of_int hi (Post.toks (.str _ _) R0 q)
theorem TCall.range {i : Nat} {Q : AV → St → Prop} (q : ∀ a, σ.H a = none → Q (.con (.ref a)) (σ.put a (.rng i))) : TCall C (.type "range") [.int i] σ Q := by
  intro vs s R0 hv
  cases hv with
  | cons e r =>
    cases r
    obtain ⟨t, rfl⟩ := e.int_inv
    refine call_range_1 ?_
    have kp : ∀ b o, s.heap.get? b = some o → (s.heap.push { cls := .type "range", data := .fields #[.int 0 s.toks, .int (i : Int) t, .int 1 (s.toks + 1)] }).get? b = some o := fun b o e => Heap.get?_push_of_some _ e
    obtain ⟨R2, g2, fr⟩ := R0.alloc (s1 := { s with heap := s.heap.push { cls := .type "range", data := .fields #[.int 0 s.toks, .int (i : Int) t, .int 1 (s.toks + 1)] }, toks := s.toks + 1 + 1 }) (ao := .rng i) (Nat.le_refl _) kp
      ⟨_, _, _, Heap.get?_push_size _ rfl⟩ rfl rfl
    exact ⟨_, _, .con rfl, R2, g2, q _ fr⟩
theorem TCall.tuple {l : Addr} {xs : List AV} {Q : AV → St → Prop} (hl : σ.H l = some (.list xs)) (hz : xs.length ≤ 16777216) (q : Q (.tup xs) σ) : TCall C (.type "tuple") [.con (.ref l)] σ Q := by
  intro vs s R0 hv
  cases hv with
  | cons e r =>
    cases r
    rw [e.con_inv]
    obtain ⟨ys, ⟨n, e⟩, r⟩ := (R0.objs l _ hl).1
    refine call_tuple_list ⟨_, e, rfl, n, rfl⟩ (fun h' kp => ?_) (by rw [sizeLine_eq, List.size_toArray, r.length]; exact hz)
    have kp2 : ∀ b o, s.heap.get? b = some o → (h'.push { cls := .type "tuple", data := .seq ys.toArray }).get? b = some o := fun b o e => Heap.get?_push_of_some _ (kp b o e)
    obtain ⟨R2, g2⟩ := R0.ext (s' := { s with heap := h'.push { cls := .type "tuple", data := .seq ys.toArray } }) kp2 rfl rfl
    exact ⟨_, σ, .tup (Heap.get?_push_size _ rfl) (r.keep fun a _ _ e => kp2 a _ e), R2, g2, q⟩
theorem VRels.of_get {h : Heap} {vs : List Value} {as : List AV} (hl : vs.length = as.length) (k : ∀ (j : Nat) (a : AV) (v : Value), as[j]? = some a → vs[j]? = some v → VRel h v a) : VRels h vs as := by
  induction vs generalizing as with
  | nil => cases as; exact .nil; simp at hl
  | cons v vs ih =>
    cases as with
    | nil => simp at hl
    | cons a as => exact .cons (k 0 a v rfl rfl) (ih (by simpa using hl) fun j a v h1 h2 => k (j + 1) a v (by simpa using h1) (by simpa using h2))
theorem TCall.listKeys {d : Addr} {es : List (Str × AV)} {Q : AV → St → Prop} (hh : C.A.handled = none) (hd : DictIs σ.H d es) (hz : es.length ≤ 16777216) (q : ∀ a, σ.H a = none → Q (.con (.ref a)) (σ.put a (.list (es.map fun e => .str e.1)))) :
    TCall C (.type "list") [.con (.ref d)] σ Q := by
  intro vs s R0 hv
  cases hv with
  | cons e r =>
    cases r
    rw [e.con_inv]
    obtain ⟨⟨ds, h1, r1⟩, s1⟩ := hd.of R0
    obtain ⟨ep, h2⟩ := h1.dictAt
    refine kdl_call (kdl_dict s1) hh h2 (by rw [sizeLine_eq, r1.length]; exact hz) fun h' tk acc' c' kp hS hi => ?_
    have hv : VRels h' acc'.toList (es.map fun e => AV.str e.1) := by
      refine VRels.of_get (by rw [Array.length_toList, hi.1, List.length_map, r1.length]) fun j a v ha hv => ?_
      obtain ⟨k, x, hk, hs⟩ := hi.2 j v (by rw [← Array.getElem?_toList]; exact hv)
      obtain ⟨t, rfl⟩ := Value.isStrOf_shape hs
      rw [List.getElem?_map] at ha
      obtain ⟨⟨kk, y⟩, he, rfl⟩ := Option.map_eq_some_iff.mp ha
      obtain ⟨v', hv', _⟩ := r1.at he
      rw [hk] at hv'; cases hv'
      exact .str _ _
    obtain ⟨R2, g2, fr⟩ := R0.alloc (s1 := { s with heap := h', toks := tk }) (ao := .list (es.map fun e => .str e.1)) (Nat.le_refl _) kp ⟨acc'.toList, ⟨c', by rw [Array.toArray_toList]; exact hS⟩, hv⟩ rfl rfl
    exact ⟨_, _, .con rfl, R2, g2, q _ fr⟩
theorem TCall.listRange {r : Addr} {n : Nat} {Q : AV → St → Prop} (hh : C.A.handled = none) (hr : σ.H r = some (.rng n)) (hz : n ≤ 16777216) (q : ∀ a, σ.H a = none → Q (.con (.ref a)) (σ.put a (.list (intsA n)))) : TCall C (.type "list") [.con (.ref r)] σ Q := by
  intro vs s R0 hv
  cases hv with
  | cons e rr =>
    cases rr
    rw [e.con_inv]
    obtain ⟨t, u, v, e1⟩ := (R0.objs r _ hr).1
    refine call_list_range hh e1 (range_small hz) (rangeSize_nat n) (by simpa using hz) fun h' tk acc' c' kp hS hi => ?_
    have hv : VRels h' acc'.toList (intsA n) := by
      refine VRels.of_get (by rw [Array.length_toList, hi.1, intsA, List.length_map, List.length_range]) fun j a v ha hv => ?_
      obtain ⟨t, rfl⟩ := hi.2 j v (by rw [← Array.getElem?_toList]; exact hv)
      have hj : j < n := by have := (List.getElem?_eq_some_iff.mp ha).1; simpa [intsA] using this
      simp only [intsA, List.getElem?_map, List.getElem?_range hj, Option.map_some, Option.some.injEq] at ha
      subst ha
      have : (0 : Int) + (j : Int) * 1 = (j : Int) := by omega
      rw [this]; exact .int _ _
    obtain ⟨R2, g2, fr⟩ := R0.alloc (s1 := { s with heap := h', toks := tk }) (ao := .list (intsA n)) (Nat.le_refl _) kp ⟨acc'.toList, ⟨c', by rw [Array.toArray_toList]; exact hS⟩, hv⟩ rfl rfl
    exact ⟨_, _, .con rfl, R2, g2, q _ fr⟩

/-! isinstance -/
theorem TCall.isinst {a : AV} {T U : String} {Q : AV → St → Prop} (h : TyOf σ.H a T) (hT : T ≠ "tuple") (hU : U = "list" ∨ U = "dict" ∨ U = "str")
    (q : Q (.con (.bool (decide (T = U)))) σ) : TCall C (.builtin "isinstance") [a, .con (.type U)] σ Q := by
  intro vs s R0 hv
  obtain ⟨v, w, rfl⟩ : ∃ v w, vs = [v, w] := by
    cases hv with
    | cons _ r => cases r with | cons _ r => cases r; exact ⟨_, _, rfl⟩
  obtain ⟨r1, r2⟩ := hv.inv2
  rw [r2.con_inv]
  have yes : ∀ {b : Bool} {tk : Nat}, Q (.con (.bool b)) σ → Post C VRel σ s Q (.bool b) { s with toks := tk } := fun q => Post.toks (.con rfl) R0 q
  cases h with
  | int i => obtain ⟨t, rfl⟩ := r1.int_inv; rcases hU with rfl | rfl | rfl <;> first | exact IsiPair.int_list (yes q) | exact IsiPair.int_dict (yes q) | exact IsiPair.int_str (yes q)
  | str x => obtain ⟨t, rfl⟩ := r1.str_inv; rcases hU with rfl | rfl | rfl <;> first | exact IsiPair.str_list (yes q) | exact IsiPair.str_dict (yes q) | exact IsiPair.str_str (yes (tk := s.toks) q)
  | tup l => exact absurd rfl hT
  | list h =>
    rw [r1.con_inv]; obtain ⟨ys, ⟨n, e⟩, _⟩ := (R0.objs _ _ h).1
    rcases hU with rfl | rfl | rfl <;> first | exact IsiPair.list_list e rfl (yes (tk := s.toks) q) | exact IsiPair.list_dict e rfl (yes q) | exact IsiPair.list_str e rfl (yes q)
  | dict h =>
    rw [r1.con_inv]; obtain ⟨⟨ds, h1, _⟩, _⟩ := h.of R0
    obtain ⟨o, es', ep, ho, hx, _⟩ := h1
    rcases hU with rfl | rfl | rfl <;> first | exact IsiPair.dict_list ho hx.1 (yes q) | exact IsiPair.dict_dict ho hx.1 (yes (tk := s.toks) q) | exact IsiPair.dict_str ho hx.1 (yes q)

/-! methods of the built-in types -/
theorem TMeth.list {l : Addr} {xs : List AV} {name : Str} {id : String} {Q : AV × List AV → St → Prop} (hl : σ.H l = some (.list xs)) (slot : Slot "list" name id) (hty : typeOf (.builtin id) = pure (.type "method_descriptor"))
    (q : Q (.con (.builtin id), [.con (.ref l)]) σ) : TMeth C (.con (.ref l)) name σ Q := by
  intro va pl s R0 hv
  have h1 := hv.inv1.con_inv
  subst h1
  obtain ⟨ys, ⟨n, e⟩, r⟩ := (R0.objs l _ hl).1
  refine getMethod_builtin (T := "list") ⟨_, e, rfl⟩ PySem.F.plainAttrs_list slot hty (fun a ha => by cases ha; exact ⟨_, e, rfl⟩) ?_
  exact Post.toks (tk := s.toks) (b := (AV.con (.builtin id), [AV.con (.ref l)])) ⟨.con rfl, .one (.con rfl)⟩ R0 q
theorem TMeth.dict {d : Addr} {es : List (Str × AV)} {name : Str} {id : String} {Q : AV × List AV → St → Prop} (hl : DictIs σ.H d es) (slot : Slot "dict" name id) (hty : typeOf (.builtin id) = pure (.type "method_descriptor"))
    (q : Q (.con (.builtin id), [.con (.ref d)]) σ) : TMeth C (.con (.ref d)) name σ Q := by
  intro va pl s R0 hv
  have h1 := hv.inv1.con_inv
  subst h1
  obtain ⟨⟨ds, h1, r1⟩, s1⟩ := hl.of R0
  obtain ⟨o, es', ep, ho, hx, _⟩ := _root_.id h1
  refine getMethod_builtin (T := "dict") h1.typeIs PySem.F.plainAttrs_dict slot hty (fun a ha => by cases ha; exact ⟨_, ho, hx.2.1⟩) ?_
  exact Post.toks (tk := s.toks) (b := (AV.con (.builtin id), [AV.con (.ref d)])) ⟨.con rfl, .one (.con rfl)⟩ R0 q
theorem TCall.append {l : Addr} {xs : List AV} {a : AV} {Q : AV → St → Prop} (hl : σ.H l = some (.list xs)) (hz : xs.length ≤ 16777216) (q : Q (.con .none) (σ.put l (.list (xs ++ [a])))) : TCall C (.builtin "list.append") [.con (.ref l), a] σ Q := by
  intro vs s R0 hv
  obtain ⟨v, w, rfl⟩ : ∃ v w, vs = [v, w] := by
    cases hv with
    | cons _ r => cases r with | cons _ r => cases r; exact ⟨_, _, rfl⟩
  obtain ⟨r1, r2⟩ := hv.inv2
  rw [r1.con_inv]
  obtain ⟨ys, ⟨n, e⟩, r⟩ := (R0.objs l _ hl).1
  refine wpAny_list_append_plain ⟨n, e⟩ (fun h' hp hs' => ?_) (by rw [sizeLine_eq, List.size_toArray, r.length]; exact hz)
  obtain ⟨R2, g2⟩ := R0.store (ao' := .list (xs ++ [a])) (tk := s.toks) hl hs'.extBut fun tk => ⟨ys ++ [w], by simpa using hp, (r.keep tk).append (.one (r2.keep tk))⟩
  exact ⟨_, _, .con rfl, R2, g2, q⟩
theorem TCall.pop {l : Addr} {xs : List AV} {a : AV} {Q : AV → St → Prop} (hl : σ.H l = some (.list (xs ++ [a]))) (hz : xs.length < 16777216) (q : Q a (σ.put l (.list xs))) : TCall C (.builtin "list.pop") [.con (.ref l)] σ Q := by
  intro vs s R0 hv
  cases hv with
  | cons e0 r0 =>
    cases r0
    rw [e0.con_inv]
    obtain ⟨ys, ⟨n, e⟩, r⟩ := (R0.objs l _ hl).1
    obtain ⟨ws, v, rfl, r2, rv⟩ := r.snoc
    have hsz : (ws ++ [v]).toArray.size = xs.length + 1 := by rw [List.size_toArray, List.length_append, List.length_singleton, r2.length]
    refine call_meets PySem.F.slot_list_pop ⟨_, e, rfl⟩ PySem.F.entry_list_pop (PySem.F.args_list_pop_1 _) (PySem.MeetsSeq.list_pop_last l (ws ++ [v]).toArray n v ?_ (by rw [sizeLine_eq, hsz]; omega)) ⟨e, ?_⟩
    · rw [hsz, Nat.add_sub_cancel, List.getElem?_toArray, ← r2.length, List.getElem?_append_right (Nat.le_refl _), Nat.sub_self]; rfl
    · have hs' : Heap.ExtBut l s.heap (s.heap.update l (Obj.mapSeq fun xs_1 => xs_1.eraseIdxIfInBounds ((ws ++ [v]).toArray.size - 1))) := (Heap.SameBut.update ..).extBut
      have he : ((ws ++ [v]).toArray.eraseIdxIfInBounds ((ws ++ [v]).toArray.size - 1)) = ws.toArray := by
        apply Array.ext'
        rw [List.size_toArray, List.length_append, List.length_singleton, Nat.add_sub_cancel, Array.eraseIdxIfInBounds]
        simp [List.eraseIdx_append_of_length_le]
      obtain ⟨R2, g2⟩ := R0.store (ao' := .list xs) (tk := s.toks) hl hs' fun tk => ⟨ws, ⟨_, by
        rw [Heap.get?_update_self _ e rfl]
        show some (Obj.mk _ _ (.seq (Array.eraseIdxIfInBounds _ _) _) _) = _
        rw [he]⟩, r2.keep tk⟩
      exact ⟨_, _, rv.keep (g2.tups R0), R2, g2, q⟩
theorem DRel.without {h : Heap} {ds : List (Str × Value)} {es : List (Str × AV)} (r : DRel h ds es) (k : Str) : DRel h (PySem.without ds k) (withoutA es k) := by
  induction r with
  | nil => exact .nil
  | @cons k' v a ds es e _ ih =>
    unfold PySem.without withoutA at ih ⊢
    by_cases hk : k' = k
    · simp only [List.filter_cons, hk, ne_eq, not_true_eq_false, decide_false, decide_true, Bool.not_true, Bool.false_eq_true, if_false]; exact ih
    · simp only [List.filter_cons, hk, ne_eq, not_false_eq_true, decide_true, decide_false, Bool.not_false, if_true]; exact .cons e ih
theorem TCall.dpop {d : Addr} {es : List (Str × AV)} {k : Str} {a : AV} {Q : AV → St → Prop} (hd : σ.H d = some (.dict es)) (hz : es.length ≤ 16777216) (ha : valA es k = some a) (q : Q a (σ.put d (.dict (withoutA es k)))) : TCall C (.builtin "dict.pop") [.con (.ref d), .str k] σ Q := by
  intro vs s R0 hv
  obtain ⟨v, w, rfl⟩ : ∃ v w, vs = [v, w] := by
    cases hv with
    | cons _ r => cases r with | cons _ r => cases r; exact ⟨_, _, rfl⟩
  obtain ⟨r1, r2⟩ := hv.inv2
  rw [r1.con_inv]
  obtain ⟨t, rfl⟩ := r2.str_inv
  obtain ⟨ds, h1, rd⟩ := (R0.objs d _ hd).1
  have o := rd.val k
  rw [ha] at o
  cases hq : valueAt ds k with
  | none => rw [hq] at o; cases o
  | some v =>
    rw [hq] at o
    cases o with
    | some rv =>
      refine call_meetsIn PySem.F.slot_dict_pop h1.typeIs PySem.F.entry_dict_pop (PySem.F.args_dict_pop_2 _ _) (meets_dict_pop_there (PySem.strKind C.prog C.w) d (strKind_is C.prog C.w k t) [] (.inl rfl) rfl) ⟨ds, v, h1, by rw [sizeLine_eq, rd.length]; exact hz, hq, fun h' hm' hs' => ?_⟩
      obtain ⟨R2, g2⟩ := R0.store (ao' := .dict (withoutA es k)) (tk := s.toks + 1) hd hs'.extBut fun tk => ⟨_, hm', (rd.keep tk).without k⟩
      exact ⟨_, _, rv.keep (g2.tups R0), R2, g2, q⟩
theorem TCall.setdefault {d : Addr} {es : List (Str × AV)} {k : Str} {a : AV} {Q : AV → St → Prop} (hd : σ.H d = some (.dict es)) (hz : es.length ≤ 16777216)
    (q : match valA es k with | some b => Q b σ | none => Q a (σ.put d (.dict (storeA es k a)))) : TCall C (.builtin "dict.setdefault") [.con (.ref d), .str k, a] σ Q := by
  intro vs s R0 hv
  obtain ⟨v, w, u, rfl⟩ : ∃ v w u, vs = [v, w, u] := by
    cases hv with
    | cons _ r => cases r with | cons _ r => cases r with | cons _ r => cases r; exact ⟨_, _, _, rfl⟩
  obtain ⟨r1, r2, r3⟩ := hv.inv3
  rw [r1.con_inv]
  obtain ⟨t, rfl⟩ := r2.str_inv
  obtain ⟨⟨ds, h1, rd⟩, hn, _⟩ := R0.objs d _ hd
  have o := rd.val k
  refine call_meetsIn PySem.F.slot_dict_setdefault h1.typeIs PySem.F.entry_dict_setdefault (PySem.F.args_dict_setdefault_3 _ _ _) (kt_meets_setdefault (PySem.strKind C.prog C.w) d (strKind_is C.prog C.w k t) (C.notSys hn) u)
    ⟨ds, h1, by rw [sizeLine_eq, rd.length]; exact hz, fun v hv => ?_, fun hv h' hm' hs' => ?_⟩
  · rw [hv] at o
    cases hq : valA es k with
    | none => rw [hq] at o; cases o
    | some b =>
      rw [hq] at o q
      cases o with
      | some rv => exact Post.toks rv R0 q
  · rw [hv] at o
    cases hq : valA es k with
    | some b => rw [hq] at o; cases o
    | none =>
      rw [hq] at q
      obtain ⟨R2, g2⟩ := R0.store (ao' := .dict (storeA es k a)) (tk := s.toks + 1) hd hs'.extBut fun tk => ⟨_, hm', (rd.keep tk).store (r3.keep tk)⟩
      exact ⟨_, _, r3.keep (g2.tups R0), R2, g2, q⟩
end

def bindA : List (Str × AV) → (Str → Option AV) → Str → Option AV
  | [], m => m
  | (n, v) :: r, m => bindA r (upd m n v)

/-- the callee's context -/
@[reducible] def Cx.callee (C : Cx) (A : Around) (env : Env) (hk : env.scope.kind = .function) (eg : env.globals = mainGlobals) (eb : env.builtins = builtinsNs) : Cx :=
  { C with A := A.deeper env
           env := env
           X := fun _ _ _ _ => False
           hk := hk
           eg := eg
           eb := eb
           clo := fun _ _ _ _ _ _ _ _ h => h }

section
variable {C : Cx} {A : Around} {σ σ' : St} {s s1 s' : Shared} {env : Env}

theorem bind_rel {h : Heap} {kindOf : Str → Option NameKind} {x : Str} : ∀ {binds : List (Str × Value)} {ab : List (Str × AV)} {m cm : Str → Option Value} {ma : Str → Option AV}, DRel h binds ab → (kindOf x = some .local → ORel h (m x) (ma x)) → (kindOf x ≠ some .local → ORel h (cm x) (ma x)) →
    (kindOf x = some .local → ORel h (bindL kindOf binds m x) (bindA ab ma x)) ∧ (kindOf x ≠ some .local → ORel h (bindC kindOf binds cm x) (bindA ab ma x))
  | _, _, _, _, _, .nil, h1, h2 => ⟨h1, h2⟩
  | _, _, m, cm, ma, .cons (k := n) (v := v) (a := a) (ds := ds) (es := es) e r, h1, h2 => by
    unfold bindL bindC bindA
    refine bind_rel r (fun hx => ?_) fun hx => ?_
    · by_cases hn : n = x
      · subst hn; rw [if_pos hx]; unfold upd; simp only [if_true]; exact .some e
      · by_cases hk : kindOf n = some .local
        · rw [if_pos hk]; unfold upd; rw [if_neg (Ne.symm hn)]; simp only [if_neg (Ne.symm hn)]; exact h1 hx
        · rw [if_neg hk]; unfold upd; rw [if_neg (Ne.symm hn)]; exact h1 hx
    · by_cases hn : n = x
      · subst hn; rw [if_neg hx]; unfold upd; simp only [if_true]; exact .some e
      · by_cases hk : kindOf n = some .local
        · rw [if_pos hk]; unfold upd; rw [if_neg (Ne.symm hn)]; exact h2 hx
        · rw [if_neg hk]; unfold upd; rw [if_neg (Ne.symm hn)]; simp only [if_neg (Ne.symm hn)]; exact h2 hx

theorem call_enter {m cm : Str → Option Value} {ma : Str → Option AV} (R0 : C.R σ s) (kp : ∀ b o, s.heap.get? b = some o → s1.heap.get? b = some o) (hn : s1.heap.Ns env.locals m) (hL : s.heap.objs.size ≤ env.locals)
    (hc : ∀ n c, env.cells.lookup n = some c → s1.heap.IsCell c (cm n)) (ha : env.cells.Pairwise fun x y => x.2 ≠ y.2) (hab : ∀ n c, (n, c) ∈ env.cells → env.locals < c) (hnd : (env.cells.map (·.1)).Nodup)
    (hm : ∀ x, env.kindOf x = some .local → ORel s1.heap (m x) (ma x)) (hcm : ∀ x, env.kindOf x = some .cell → ORel s1.heap (cm x) (ma x)) (hcl : ∀ x, env.kindOf x = some .cell → (env.cells.lookup x).isSome = true)
    (hg : s1.gens = s.gens) (ho : s1.os = s.os) : Rep C.prog C.w C.h₀ C.os env ⟨ma, σ.H⟩ s1 ∧ ∀ d ∈ own env, s.heap.get? d = none := by
  have tk : TupKeep s.heap s1.heap := fun a _ _ e => kp a _ e
  have big : ∀ d ∈ own env, s.heap.objs.size ≤ d := fun d hd => by
    rcases List.mem_cons.mp hd with rfl | q
    · exact hL
    · obtain ⟨p, hp, rfl⟩ := List.mem_map.mp q
      exact Nat.le_trans hL (Nat.le_of_lt (hab p.1 p.2 hp))
  have lk : ∀ {l : List (Str × Addr)} {p : Str × Addr}, (l.map (·.1)).Nodup → p ∈ l → l.lookup p.1 = some p.2 := by
    intro l
    induction l with
    | nil => intro p _ h; cases h
    | cons q r ih =>
      intro p hd h
      rw [List.map_cons, List.nodup_cons] at hd
      obtain ⟨y, d⟩ := q
      rcases List.mem_cons.mp h with rfl | h
      · rw [List.lookup_cons, beq_self_eq_true]
      · rw [List.lookup_cons]
        have : (p.1 == y) = false := by
          rw [beq_eq_false_iff_ne]; intro e; exact hd.1 (List.mem_map.mpr ⟨p, h, e⟩)
        rw [this]; exact ih hd.2 h
  have fresh : ∀ d ∈ own env, s.heap.get? d = none := fun d hd => by
    cases q : s.heap.get? d with
    | none => rfl
    | some o => exact absurd (Heap.lt_size q) (Nat.not_lt.mpr (big d hd))
  refine ⟨⟨fun b o e => kp b o (R0.keep b o e), ⟨m, hn, hm⟩, fun x hx => ?_, fun a o e => ?_, fun d hd => ?_, fun q => ?_, fun x y c _ _ e1 e2 => ?_, hg.trans R0.gens, ho.trans R0.os⟩, fresh⟩
  · obtain ⟨c, h1⟩ := Option.isSome_iff_exists.mp (hcl x hx)
    exact ⟨c, cm x, h1, hc x c h1, hcm x hx⟩
  · obtain ⟨h1, h2, h3⟩ := R0.objs a o e
    refine ⟨h1.keep tk (kp a), h2, fun q => ?_⟩
    obtain ⟨ob, e', _⟩ := h1.notTup
    rw [fresh a q] at e'; cases e'
  · refine ⟨Nat.le_trans R0.size (big d hd), ?_⟩
    rcases List.mem_cons.mp hd with rfl | q
    · obtain ⟨o, es, ep, e, hd', _⟩ := hn
      exact ⟨o, e, fun xs n e2 => by rw [e2] at hd'; cases hd'⟩
    · obtain ⟨p, hp, rfl⟩ := List.mem_map.mp q
      obtain ⟨o, e, hd'⟩ := hc _ _ (lk hnd hp)
      exact ⟨o, e, fun xs n e2 => by rw [e2] at hd'; cases hd'⟩
  · obtain ⟨p, hp, e⟩ := List.mem_map.mp q
    exact absurd (hab p.1 p.2 hp) (by rw [e]; exact Nat.lt_irrefl _)
  · have m1 := mem_of_lookup e1
    have m2 := mem_of_lookup e2
    have inj : ∀ {l : List (Str × Addr)} {p q : Str × Addr}, (l.Pairwise fun x y => x.2 ≠ y.2) → p ∈ l → q ∈ l → p.2 = q.2 → p = q := by
      intro l
      induction l with
      | nil => intro p q _ h; cases h
      | cons z r ih =>
        intro p q hp h1 h2 e
        rw [List.pairwise_cons] at hp
        rcases List.mem_cons.mp h1 with a1 | a1 <;> rcases List.mem_cons.mp h2 with a2 | a2
        · rw [a1, a2]
        · exact absurd (by rw [← a1]; exact e) (hp.1 _ a2)
        · exact absurd (by rw [← a2]; exact e.symm) (hp.1 _ a1)
        · exact ih hp.2 a1 a2 e
    exact (Prod.mk.inj (inj ha m1 m2 rfl)).1

theorem call_back {ma : Str → Option AV} (R0 : C.R σ s) (kp : ∀ b o, s.heap.get? b = some o → s1.heap.get? b = some o) (fresh : ∀ d ∈ own env, s.heap.get? d = none)
    (R' : Rep C.prog C.w C.h₀ C.os env σ' s') (g : Grow env ⟨ma, σ.H⟩ s1 σ' s') : C.R ⟨σ.m, σ'.H⟩ s' ∧ C.G σ s ⟨σ.m, σ'.H⟩ s' := by
  have still : ∀ b o, s.heap.get? b = some o → σ.H b = none → s'.heap.get? b = some o ∧ σ'.H b = none := fun b o e n =>
    g.2 b o (kp b o e) (fun q => by rw [fresh b q] at e; cases e) n
  have tk : TupKeep s.heap s'.heap := fun a xs n e => (still a _ e (R0.tup e).2).1
  have hown : ∀ d ∈ own C.env, ∃ o, s.heap.get? d = some o ∧ notTup o ∧ σ.H d = none := fun d hd => by
    obtain ⟨_, o, e, nt⟩ := R0.owns d hd
    refine ⟨o, e, nt, ?_⟩
    cases q : σ.H d with
    | none => rfl
    | some o' => exact absurd hd (R0.objs _ _ q).2.2
  refine ⟨⟨R'.keep, ?_, fun x hx => ?_, fun a o e => ?_, fun d hd => ?_, R0.apart, R0.inj, R'.gens, R'.os⟩, fun b o e => g.1 b o (kp b o e), fun b o e _ n => still b o e n⟩
  · obtain ⟨m', hn, hm⟩ := R0.locs
    obtain ⟨_, _, _, hH⟩ := hown C.env.locals List.mem_cons_self
    exact ⟨m', hn.at' fun o e => (still _ o e hH).1, fun x hx => (hm x hx).keep tk⟩
  · obtain ⟨c, v, h1, ⟨o, h2, hd⟩, h3⟩ := R0.cels x hx
    obtain ⟨_, _, _, hH⟩ := hown c (List.mem_cons_of_mem _ (List.mem_map.mpr ⟨_, mem_of_lookup h1, rfl⟩))
    exact ⟨c, v, h1, ⟨o, (still c o h2 hH).1, hd⟩, h3.keep tk⟩
  · obtain ⟨k1, k2, k3⟩ := R'.objs a o e
    refine ⟨k1, k2, fun q => ?_⟩
    obtain ⟨ob, e1, _, hH⟩ := hown a q
    have := (still a ob e1 hH).2
    rw [show σ'.H a = some o from e] at this; cases this
  · obtain ⟨o, e, nt, hH⟩ := hown d hd
    exact ⟨(R0.owns d hd).1, o, (still d o e hH).1, nt⟩

def retOf : AFl → AV
  | .ret v => v
  | _ => .con .none

theorem cellsFrom_names {n n' : Nat} : ∀ {names : List (Str × NameKind)} {acc acc' : List (Str × Addr)}, acc.map (·.1) = acc'.map (·.1) → (cellsFrom n names acc).map (·.1) = (cellsFrom n' names acc').map (·.1) := by
  intro names
  induction names generalizing n n' with
  | nil => intro acc acc' h; exact h
  | cons p r ih =>
    intro acc acc' h
    obtain ⟨x, k⟩ := p
    unfold cellsFrom
    cases hk : k == .cell
    · simp only [Bool.false_eq_true, if_false]; exact ih h
    · simp only [if_true]; exact ih (by simp [h])

theorem code_user {R : Result → Shared → Prop} {name qual : Str} {params : Arguments} {body : List Stmt} {scope : Scope} {dV kV doc pm cdv ct oc : Value} {an od : Option Addr} {osl : Array (Option Value)} {f : Addr} {args : Args} {binds : List (Str × Value)} {ab : List (Str × AV)} {Q : AFl → St → Prop}
    (R0 : C.R σ s) (ho : C.K.lookup f = some ⟨oc, od, .func (fnOf name qual params body scope dV kV doc pm an cdv ct), osl⟩) (hcd : codeIn C.K cdv qual = true) (hroom : A.depth < recursionLimit)
    (hbind : BindsTo s (fnOf name qual params body scope dV kV doc pm an cdv ct) args binds) (hb : DRel s.heap binds ab)
    (hkind : (binds.all fun y => scope.names.lookup y.1 == some .local || scope.names.lookup y.1 == some .cell) = true) (hnd : ((cellsFrom 0 scope.names []).map (·.1)).Nodup)
    (hco : scope.isCoroutine = false) (hgen : scope.isGenerator = false) (hk : scope.kind = .function)
    (h : ∀ env hk eg eb, env.scope = scope → TS (C.callee A env hk eg eb) body ⟨bindA ab fun _ => none, σ.H⟩ Q)
    (fin : ∀ fl v σ' s', Q fl σ' → VRel s'.heap v (retOf fl) → C.R ⟨σ.m, σ'.H⟩ s' → C.G σ s ⟨σ.m, σ'.H⟩ s' → R (.ok (.ret v)) s') :
    codeAny C.M A (.call (.ref f) args) R s := by
  refine codeAny_call_function hroom (R0.kin f _ ho) rfl hco hgen rfl (codeRec_of R0.kin hcd) (hbind _ _ _ _ ?_)
  refine wpAny_newFunctionEnv_cells hk (kindsX hkind _) fun env he s1 x => ⟨C.hlim.keeps fun b o e => x.toInCall.keep b o (R0.keep b o e), codeAny_func ?_⟩
  have hs : env.scope = scope := by rw [he]; rfl
  have kp := x.toInCall.keep
  have tk : TupKeep s.heap s1.heap := fun a _ _ e => kp a _ e
  have rel := fun y => bind_rel (h := s1.heap) (kindOf := env.kindOf) (x := y) (m := fun _ => none) (cm := fun _ => none) (ma := fun _ => none) (hb.keep tk) (fun _ => .none) fun _ => .none
  obtain ⟨h1, tk1, e1⟩ := x.toInCall.same
  have hec : env.cells = cellsFrom (s.heap.objs.size + 1) scope.names [] := by rw [he]; rfl
  obtain ⟨RC, fr⟩ := call_enter (env := env) (ma := bindA ab fun _ => none) R0 kp x.toInCall.ns x.toInCall.fresh x.cell x.apart x.above
    (by rw [hec, cellsFrom_names (n' := 0) (acc' := []) rfl]; exact hnd) (fun y hy => (rel y).1 hy) (fun y hy => (rel y).2 (by rw [hy]; decide))
    (fun y hy => by
      rw [hec]
      refine cellsFrom_some _ _ _ (.inl ?_)
      have : env.scope.names.lookup y = some .cell := hy
      rwa [hs] at this) (by rw [e1]) (by rw [e1])
  have key := h env (by rw [hs]; exact hk) (by rw [he]; rfl) (by rw [he]; rfl) hs
  refine wpAny_mono (key s1 RC .nil) (fun fl s' p => ?_) fun _ _ x => x.elim
  obtain ⟨b, σ', rf, R', g, q⟩ := p
  obtain ⟨R2, g2⟩ := call_back R0 kp fr R' g
  cases rf with
  | next => exact fin .next .none σ' s' q (.con rfl) R2 g2
  | brk => exact fin .brk .none σ' s' q (.con rfl) R2 g2
  | cont => exact fin .cont .none σ' s' q (.con rfl) R2 g2
  | ret e => exact fin (.ret _) _ σ' s' q e R2 g2
end

section
variable {C : Cx} {σ : St}

theorem zip_rel {h : Heap} : ∀ {ps : List Str} {vs : List Value} {as : List AV}, VRels h vs as → DRel h (ps.zip vs) (ps.zip as)
  | [], _, _, _ => by simp [List.zip]; exact .nil
  | _ :: _, _, _, .nil => .nil
  | p :: ps, _, _, .cons e r => .cons e (zip_rel r)
theorem con_rel {h : Heap} : ∀ {ds : List (Str × Value)}, (∀ p ∈ ds, plainV p.2 = true) → DRel h ds (ds.map fun p => (p.1, AV.con p.2))
  | [], _ => .nil
  | _ :: _, k => .cons (.con (k _ List.mem_cons_self)) (con_rel fun p hp => k p (List.mem_cons_of_mem _ hp))

/-- a function of the program's, as K has it -/
structure FnAt (K : Frag) (f : Addr) (body : List Stmt) (scope : Scope) (fd : FuncData) : Prop where
  at_ : ∃ oc od name qual params dV kV doc pm an cdv ct osl, K.lookup f = some ⟨oc, od, .func fd, osl⟩ ∧ fd = fnOf name qual params body scope dV kV doc pm an cdv ct ∧ codeIn K cdv qual = true
  nd : ((cellsFrom 0 scope.names []).map (·.1)).Nodup
  co : scope.isCoroutine = false
  gen : scope.isGenerator = false
  kind : scope.kind = .function
def kindsOk (scope : Scope) (ps : List Str) : Bool := ps.all fun y => scope.names.lookup y == some .local || scope.names.lookup y == some .cell

theorem FnAt.code {A : Around} {s : Shared} {R : Result → Shared → Prop} {f : Addr} {body : List Stmt} {scope : Scope} {fd : FuncData} (F : FnAt C.K f body scope fd) {args : Args} {binds : List (Str × Value)} {ab : List (Str × AV)} {Q : AFl → St → Prop}
    (R0 : C.R σ s) (hroom : A.depth < recursionLimit) (hbind : BindsTo s fd args binds) (hb : DRel s.heap binds ab) (hk : kindsOk scope (ab.map (·.1)) = true)
    (h : ∀ env hk eg eb, env.scope = scope → TS (C.callee A env hk eg eb) body ⟨bindA ab fun _ => none, σ.H⟩ Q)
    (fin : ∀ fl v σ' s', Q fl σ' → VRel s'.heap v (retOf fl) → C.R ⟨σ.m, σ'.H⟩ s' → C.G σ s ⟨σ.m, σ'.H⟩ s' → R (.ok (.ret v)) s') : codeAny C.M A (.call (.ref f) args) R s := by
  obtain ⟨⟨oc, od, name, qual, params, dV, kV, doc, pm, an, cdv, ct, osl, e1, rfl, e2⟩, nd, co, gen, kind⟩ := F
  refine code_user R0 e1 e2 hroom hbind hb ?_ nd co gen kind h fin
  unfold kindsOk at hk
  rw [← hb.keys, List.all_map] at hk
  exact hk

theorem TCall.user {f : Addr} {body : List Stmt} {scope : Scope} {fd : FuncData} (F : FnAt C.K f body scope fd) {as : List AV} {ps : List Str} {ds : List (Str × Value)} {Q : AV → St → Prop}
    (hl : as.length = ps.length) (hds : ∀ p ∈ ds, plainV p.2 = true) (hroom : C.A.depth < recursionLimit) (hk : kindsOk scope (ps ++ ds.map (·.1)) = true)
    (hbind : ∀ vs s, vs.length = ps.length → C.K.In s.heap → BindsTo s fd ⟨vs, []⟩ (ps.zip vs ++ ds))
    (h : ∀ env hk eg eb, env.scope = scope → TS (C.callee C.A env hk eg eb) body ⟨bindA (ps.zip as ++ ds.map fun p => (p.1, AV.con p.2)) fun _ => none, σ.H⟩ fun fl σ' => Q (retOf fl) ⟨σ.m, σ'.H⟩) : TCall C (.ref f) as σ Q := by
  intro vs s R0 hv
  refine wpAny_call (F.code R0 hroom (hbind vs s (by rw [hv.length, hl]) R0.kin) ((zip_rel hv).append (con_rel hds)) ?_ h fun fl v σ' s' q r R' g => ⟨_, _, r, R', g, q⟩)
  rw [List.map_append, List.map_fst_zip (by omega), List.map_map]
  exact hk
theorem TCallK.user {f : Addr} {body : List Stmt} {scope : Scope} {fd : FuncData} (F : FnAt C.K f body scope fd) {as : List AV} {ps : List Str} {n : Str} {k : AV} {Q : AV → St → Prop}
    (hl : as.length = ps.length) (hroom : C.A.depth < recursionLimit) (hk : kindsOk scope (ps ++ [n]) = true)
    (hbind : ∀ vs w s, vs.length = ps.length → C.K.In s.heap → BindsTo s fd ⟨vs, [(n, w)]⟩ (ps.zip vs ++ [(n, w)]))
    (h : ∀ env hk eg eb, env.scope = scope → TS (C.callee C.A env hk eg eb) body ⟨bindA (ps.zip as ++ [(n, k)]) fun _ => none, σ.H⟩ fun fl σ' => Q (retOf fl) ⟨σ.m, σ'.H⟩) : TCallK C (.ref f) as n k σ Q := by
  intro vs w s R0 hv
  cases hv with
  | cons e hv =>
    refine wpAny_call (F.code R0 hroom (hbind vs w s (by rw [hv.length, hl]) R0.kin) ((zip_rel hv).append (.cons e .nil)) ?_ h fun fl v σ' s' q r R' g => ⟨_, _, r, R', g, q⟩)
    rw [List.map_append, List.map_fst_zip (by omega)]
    exact hk

/-! making an instance -/
theorem TCall.cls {c f : Addr} {body : List Stmt} {scope : Scope} {fd : FuncData} (F : FnAt C.K f body scope fd) {p : Str} {Q : AV → St → Prop} (hm : makesIn C.K c = true) (hi : findIn C.K (.ref c) "__init__" = some (some (.ref f))) (hf : isFn C.K (.ref f) = true)
    (hroom : (C.A.under (.builtin "type.__call__" ⟨[.ref c], []⟩)).depth < recursionLimit) (hk : kindsOk scope [p] = true)
    (hbind : ∀ v s, C.K.In s.heap → BindsTo s fd ⟨[v], []⟩ [(p, v)])
    (h : ∀ x dx, σ.H x = none → σ.H dx = none → x ≠ dx → ∀ env hk eg eb, env.scope = scope → TS (C.callee (C.A.under (.builtin "type.__call__" ⟨[.ref c], []⟩)) env hk eg eb) body ⟨bindA [(p, .con (.ref x))] fun _ => none, ((σ.put dx (.dict [])).put x (.inst c dx)).H⟩
      fun fl σ' => retOf fl = .con .none ∧ Q (.con (.ref x)) ⟨σ.m, σ'.H⟩) : TCall C (.ref c) [] σ Q := by
  intro vs s R0 hv
  cases hv
  have X := R0.kin
  obtain ⟨hh, g, d, t, os⟩ := s
  refine wpAny_call (make_core (makes_of X hm) (looks_findIn X hi) (fun self => bind_fn X self (beq_iff_eq.mp hf)) (.inl rfl) ?_)
  obtain ⟨R1, g1, n1⟩ := R0.allocPush (ob := emptyDict) (ao := .dict []) ⟨[], ⟨_, #[], 0, Heap.get?_push_size _ rfl, ⟨rfl, rfl, rfl⟩, rfl, (fun _ h => by simp at h), .nil, .nil⟩, .nil⟩
  obtain ⟨R2, g2, n2⟩ := R1.allocPush (ob := instObj c hh.objs.size) (ao := .inst c hh.objs.size) (Heap.get?_push_size _ rfl)
  simp only [Heap.size_push] at R2 g2 n2
  have hne : hh.objs.size + 1 ≠ hh.objs.size := Nat.succ_ne_self _
  have n2' : σ.H (hh.objs.size + 1) = none := (AH.put_ne (H := σ.H) (o := .dict []) (a := hh.objs.size) hne).symm.trans n2
  refine F.code (σ := (σ.put hh.objs.size (.dict [])).put (hh.objs.size + 1) (.inst c hh.objs.size)) (binds := [(p, .ref (hh.objs.size + 1))]) (ab := [(p, .con (.ref (hh.objs.size + 1)))]) R2 hroom (hbind _ _ R2.kin) (.cons (.con rfl) .nil) hk (h _ _ n2' n1 hne) ?_
  intro fl v σ' s' q r R' g'
  obtain ⟨q1, q2⟩ := q
  rw [q1] at r
  refine ⟨r.con_inv, _, _, .con rfl, R', (g1.trans g2).trans g', q2⟩

/-! attributes of an instance -/
theorem inst_at {s : Shared} {x c dx : Addr} {es : List (Str × AV)} (R0 : C.R σ s) (hx : σ.H x = some (.inst c dx)) (hd : σ.H dx = some (.dict es)) :
    ∃ ds n, InstAt s.heap x (instObj c dx) c (some (dictOf ds n)) ∧ Pairs (PySem.strKind C.prog C.w) ds (ds.map fun e => ((match e.key with | .str x _ => x | _ => default), e.val)) ∧
      DRel s.heap (ds.map fun e => ((match e.key with | .str x _ => x | _ => default), e.val)) es ∧ (∀ e ∈ ds, ∃ t, ∃ y : Str, e.key = .str y t) ∧ KeysOf (PySem.strKind C.prog C.w) ds.toArray := by
  obtain ⟨kvs, ⟨o, es', ep, e1, ⟨e2, e3, e4⟩, e5, ko, pr, nd⟩, rd⟩ := (R0.objs dx _ hd).1
  have hs : ∀ e ∈ es'.toList, ∃ t, ∃ y : Str, e.key = .str y t := fun e he => by
    obtain ⟨k, hk, _⟩ := ko e (by simpa using he)
    obtain ⟨t, ht⟩ := Value.isStrOf_shape hk
    exact ⟨t, k, ht⟩
  have hp : ∀ {l : List DictEntry} {kvs : List (Str × Value)}, Pairs (PySem.strKind C.prog C.w) l kvs → kvs = l.map fun e => ((match e.key with | .str x _ => x | _ => default), e.val) := by
    intro l kvs pr
    induction pr with
    | nil => rfl
    | cons a b _ ih =>
      obtain ⟨t, ht⟩ := Value.isStrOf_shape a
      rw [List.map_cons, ← ih, ht, b]
  have hk := hp pr
  subst hk
  refine ⟨es'.toList, ep, ⟨(R0.objs x _ hx).1, rfl, rfl, ?_⟩, pr, rd, hs, by simpa using ko⟩
  show s.heap.get? dx = some (dictOf es'.toList ep)
  rw [e1]
  obtain ⟨a, b, cc, dd⟩ := o
  dsimp only at e2 e3 e4 e5
  subst e2; subst e3; subst e4; subst e5
  simp [dictOf]
theorem getL_at {h : Heap} {name : Str} : ∀ {ds : List DictEntry} {es : List (Str × AV)}, DRel h (ds.map fun e => ((match e.key with | .str x _ => x | _ => default), e.val)) es → (∀ e ∈ ds, ∃ t, ∃ y : Str, e.key = .str y t) →
    match valA es name with | some a => ∃ v, getL name ds = some (some v) ∧ VRel h v a | none => getL name ds = some none := by
  intro ds es r hs
  have any : ∀ {l : List DictEntry}, (∀ e ∈ l, ∃ t, ∃ y : Str, e.key = .str y t) → l.any (·.refKey) = false := by
    intro l hl
    rw [List.any_eq_false]
    intro e he
    obtain ⟨t, y, hk⟩ := hl e he
    simp [DictEntry.refKey, hk]
  have fnd : ∀ {ds : List DictEntry} {es : List (Str × AV)}, DRel h (ds.map fun e => ((match e.key with | .str x _ => x | _ => default), e.val)) es → (∀ e ∈ ds, ∃ t, ∃ y : Str, e.key = .str y t) →
      match valA es name with | some a => ∃ e, ds.find? (·.key.isStr name) = some e ∧ VRel h e.val a | none => ds.find? (·.key.isStr name) = none := by
    intro ds
    induction ds with
    | nil => intro es r _; cases r; rfl
    | cons e l ih =>
      intro es r hs
      obtain ⟨t, y, hk⟩ := hs e List.mem_cons_self
      rw [List.map_cons, hk] at r
      cases r with
      | cons rv r =>
        have i := ih r fun e he => hs e (List.mem_cons_of_mem _ he)
        unfold valA at i ⊢
        rw [List.find?_cons, List.find?_cons, hk]
        by_cases hy : y = name
        · subst hy
          have : (Value.str y t).isStr y = true := by simp [Value.isStr]
          simp only [this, decide_true, Option.map_some]
          exact ⟨e, rfl, rv⟩
        · have : (Value.str y t).isStr name = false := by simp [Value.isStr, hy]
          simp only [this, hy, decide_false]
          exact i
  have f := fnd r hs
  unfold getL
  cases hq : valA es name with
  | none => rw [hq] at f; dsimp only at f ⊢; rw [f]; dsimp only; rw [any hs]; rfl
  | some a => rw [hq] at f; dsimp only at f ⊢; obtain ⟨e, f1, f2⟩ := f; rw [f1]; exact ⟨_, rfl, f2⟩

theorem TAttr.inst {x c dx : Addr} {es : List (Str × AV)} {name : Str} {a : AV} {Q : AV → St → Prop} (hx : σ.H x = some (.inst c dx)) (hd : σ.H dx = some (.dict es)) (hg : plainGet C.K c name = true) (hh : hasDictIn C.K c = true)
    (ha : findIn C.K (.ref c) name = some none) (hv : valA es name = some a) (hp : ∃ d, a = .con (.ref d)) (q : Q a σ) : TAttr C (.con (.ref x)) name σ Q := by
  intro va s R0 hr
  rw [hr.inv1.con_inv]
  obtain ⟨ds, n, I, _, rd, hs, _⟩ := inst_at R0 hx hd
  have g := getL_at (name := name) rd hs
  rw [hv] at g
  obtain ⟨v, g1, g2⟩ := g
  obtain ⟨m', F⟩ := R0.fr
  obtain ⟨d, rfl⟩ := hp
  rw [g2.con_inv] at g1
  exact get_own F C.hK I hg hh ha rfl g1 rfl (Post.toks (.con rfl) R0 q)
theorem TMeth.inst {x c dx f : Addr} {es : List (Str × AV)} {name : Str} {Q : AV × List AV → St → Prop} (hx : σ.H x = some (.inst c dx)) (hd : σ.H dx = some (.dict es)) (hg : plainGet C.K c name = true)
    (hf : findIn C.K (.ref c) name = some (some (.ref f))) (ht : isFn C.K (.ref f) = true) (hv : valA es name = none) (q : Q (.con (.ref f), [.con (.ref x)]) σ) : TMeth C (.con (.ref x)) name σ Q := by
  intro va pl s R0 hr
  rw [hr.inv1.con_inv]
  obtain ⟨ds, n, I, _, rd, hs, _⟩ := inst_at R0 hx hd
  have g := getL_at (name := name) rd hs
  rw [hv] at g
  obtain ⟨m', F⟩ := R0.fr
  exact method_inst F C.hK I hg hf ht g (Post.toks (tk := s.toks) (b := (AV.con (.ref f), [AV.con (.ref x)])) ⟨.con rfl, .one (.con rfl)⟩ R0 q)
end

section
variable {C : Cx} {σ : St}

def TSetA (C : Cx) (o : AV) (name : Str) (v : AV) (σ : St) (Q : Unit → St → Prop) : Prop := ∀ vo vv, TV C [vo, vv] [o, v] RU (setAttr vo name vv) σ Q
theorem TX.assignAttr {o e : PySem.Expr} {name : Str} {p pos : Pos} {Q : AFl → St → Prop} (h : TE C e σ fun a σ1 => TE C o σ1 fun b σ2 => TSetA C b name a σ2 fun _ σ3 => Q .next σ3)
    (hsw : swapsWith e (some (.Attribute o name p)) pos.line C.env = pure false := by rfl) : TX C (.Assign [.Attribute o name p] e pos) σ Q := by
  intro s R0 _
  refine plainObj_wpAny_Assign_Attribute (h.here R0 .nil fun va a σ1 s1 ra R1 g1 k1 q => ?_) hsw
  refine q.andThen R0 R1 g1 .nil fun vb b σ2 s2 rb R2 g2 _ k2 q => ?_
  exact (q vb va).andThen R0 R2 g2 (.mk2 rb (ra.keep k2)) fun _ _ σ3 s3 _ R3 g3 _ _ q => ⟨.next, σ3, .next, R3, g3, q⟩

/-- a first attribute laid into an instance's empty dict -/
theorem TSetA.first {x c dx : Addr} {name : Str} {a : AV} {Q : Unit → St → Prop} (hx : σ.H x = some (.inst c dx)) (hd : σ.H dx = some (.dict []))
    (hs : findIn C.K (.ref c) "__setattr__" = some (some (.builtin "object.__setattr__"))) (hp : plainOver C.K c = true) (ht : takerIn C.K c name = some none) (hh : hasDictIn C.K c = true)
    (q : Q () (σ.put dx (.dict [(name, a)]))) : TSetA C (.con (.ref x)) name a σ Q := by
  intro vo vv s R0 hr
  obtain ⟨r1, r2⟩ := hr.inv2
  rw [r1.con_inv]
  obtain ⟨ds, n, I, pr, rd, _, _⟩ := inst_at R0 hx hd
  have e0 : ds = [] := by
    cases ds with
    | nil => rfl
    | cons e l => cases rd
  subst e0
  have hdx : s.heap.get? dx = some (dictOf [] n) := I.dict
  have hX := R0.kin
  obtain ⟨cd, hc, hd'⟩ := any_some hh
  have hxx := (R0.objs x _ hx).1
  have U := Heap.get?_update_self (Obj.putName name (PyData.keyHash C.w.params name) (.str name (s.toks + 1)) vv) hdx (by rw [putName_dict]; rfl)
  rw [putName_dict] at U
  refine set_plain hX I hs (osa_open hX (od := some (dictOf [] n)) I hp ht fun b => ?_)
  refine wpAny_bind (wpAny_pure (wpAny_bind (wpAny_bind (wpAny_loadPart hxx (wpAny_bind (Looks.here (s := { s with toks := s.toks + 1 }) (looks_clsIn (h := s.heap) hX hc) ?_))))))
  rw [hd']
  refine wpAny_pure (a := some dx) (wpAny_bind (wpAny_pure (wpAny_bind ?_)))
  unfold nsSet
  refine wpAny_bind (wpAny_bind (wpAny_askSetting (wpAny_pure (wpAny_bind (wpAny_mkText (wpAny_bind (wpAny_loadPart hdx ?_)))))))
  dsimp only
  rw [aRefKeyMayBeTheName_at]
  have c0 : ((!(#[] : Array DictEntry).any fun x => x.key.isStr name) && (#[] : Array DictEntry).any fun x => x.refKey) = false := by simp
  rw [show (([] : List DictEntry).toArray) = #[] from rfl, c0]
  refine wpAny_updatePart (s := { s with toks := s.toks + 1 + 1 }) hdx ?_
  refine wpAny_bind (wpAny_lookBehind U (pastItsLine_dict (by rw [List.size_toArray, sizeLine_eq]; show 1 ≤ _; omega)) ?_)
  refine wpAny_pure ?_
  obtain ⟨R2, g2⟩ := R0.store (tk := s.toks + 1 + 1) (ao' := .dict [(name, a)]) hd (Heap.SameBut.update ..).extBut fun tk =>
    ⟨[(name, vv)], ⟨_, _, _, U, ⟨rfl, rfl, rfl⟩, rfl, fun e he => by
      have he : e = ⟨PyData.keyHash C.w.params name, .str name (s.toks + 1), vv⟩ := by simpa [putL] using he
      subst he
      exact ⟨name, strKind_is C.prog C.w name _, rfl⟩, .cons (strKind_is C.prog C.w name _) rfl .nil, by simp⟩, .cons (r2.keep tk) .nil⟩
  exact ⟨(), _, trivial, R2, g2, q⟩
end

theorem upd_same {m : Str → Option AV} {x : Str} {v : AV} : upd m x v x = some v := by simp [upd]
theorem upd_ne {m : Str → Option AV} {x y : Str} {v : AV} (h : y ≠ x) : upd m x v y = m y := by simp [upd, h]
theorem set_same {σ : St} {x : Str} {v : AV} : (σ.set x v).m x = some v := upd_same
theorem set_ne {σ : St} {x y : Str} {v : AV} (h : y ≠ x) : (σ.set x v).m y = σ.m y := upd_ne h
theorem put_m {σ : St} {a : Addr} {o : AO} {y : Str} : (σ.put a o).m y = σ.m y := rfl
theorem mk_m {m : Str → Option AV} {H : AH} {y : Str} : (St.mk m H).m y = m y := rfl
theorem mk_H {m : Str → Option AV} {H : AH} {y : Addr} : (St.mk m H).H y = H y := rfl
theorem set_H {σ : St} {x : Str} {v : AV} {a : Addr} : (σ.set x v).H a = σ.H a := rfl
theorem putH_self {σ : St} {a : Addr} {o : AO} : (σ.put a o).H a = some o := AH.put_self
theorem putH_ne {σ : St} {a b : Addr} {o : AO} (h : b ≠ a) : (σ.put a o).H b = σ.H b := AH.put_ne h

/-- a context of the program whose written part is K, n calls deep -/
structure Wd (K : Frag) (C : Cx) (n : Nat) : Prop where
  K : C.K = K
  B : ∀ x : Str, x ≠ "__name__" → C.mb x = bootBuiltins x
  calm : C.Calm
  hand : C.A.handled = none
  depth : C.A.depth ≤ 310 + n
  units : C.A.units ≤ 100 + 10 * n

section
variable {C : Cx} {σ : St} {sc : Scope} {K : Frag} {n : Nat}
theorem Wd.room (W : Wd K C n) (h : n ≤ 100) : C.A.depth < recursionLimit := by have := W.depth; show C.A.depth < 1000; omega
theorem Wd.unit (W : Wd K C n) (h : n ≤ 100) : C.A.units + 64 < cLine := by have := W.units; show C.A.units + 64 < 9900; omega
theorem Wd.callee (W : Wd K C n) {env : Env} {hk eg eb} : Wd K (C.callee C.A env hk eg eb) (n + 1) :=
  ⟨W.K, W.B, fun _ _ _ _ h => h, W.hand, by show C.A.depth + 1 ≤ _; have := W.depth; omega, by show C.A.units + 3 ≤ _; have := W.units; omega⟩
theorem Wd.comp (W : Wd K C n) {sc cl L hk} : Wd K (C.comp sc cl L hk) n := ⟨W.K, W.B, fun _ _ _ _ h => h, W.hand, W.depth, W.units⟩

theorem TE.globK {x : Str} {pos : Pos} {v : Value} {Q : AV → St → Prop} (W : Wd K C n) (hs : C.env.scope = sc) (hx : sc.names.lookup x = some .globalImplicit) (e : nsIn K mainGlobals x = some (some v)) (hp : plainV v = true) (q : Q (.con v) σ)
    (hd : (x == ("__debug__" : Str)) = false := by decide) : TE C (.Name x pos) σ Q :=
  TE.glob hs hx (mg_of C.hK C.hg (by rw [W.K]; exact e)) hp q hd
theorem TE.bltnK {x : Str} {pos : Pos} {v : Value} {Q : AV → St → Prop} (W : Wd K C n) (hs : C.env.scope = sc) (hx : sc.names.lookup x = some .globalImplicit) (e : nsIn K mainGlobals x = some none) (hn : x ≠ "__name__") (hv : bootBuiltins x = some v) (hp : plainV v = true) (q : Q (.con v) σ)
    (hd : (x == ("__debug__" : Str)) = false := by decide) : TE C (.Name x pos) σ Q :=
  TE.bltn hs hx (mg_none_of C.hK C.hg (by rw [W.K]; exact e)) (by rw [W.B x hn]; exact hv) hp q hd

theorem TCmp.eqB {a b : Bool} {Q : AV → St → Prop} (q : Q (.con (.bool (a == b))) σ) : TCmp C .Eq (.con (.bool a)) (.con (.bool b)) σ Q := by
  intro va vb s R0 hv
  rw [hv.inv2.1.con_inv, hv.inv2.2.con_inv]
  exact eq_bool (Post.toks (tk := s.toks) (.con rfl) R0 q)

/-- the front of a list of the ground's -/
theorem TE.front {value : PySem.Expr} {k : Nat} {c} {p p1 pos : Pos} {Q : AV → St → Prop} {l : Addr} {vs : List Value} {as : List AV} (hl : C.h₀.IsList l vs.toArray) (hr : VRels C.h₀ vs as) (hz : vs.length ≤ 16777216)
    (h : TE C value σ fun a σ1 => a = .con (.ref l) ∧ ∀ b, σ1.H b = none → Q (.con (.ref b)) (σ1.put b (.list (as.take k))))
    (ht : ∀ o r, letTemporaryGo value o r = pure () := by intro _ _; rfl) : TE C (.Subscript value (.Slice none (some (.Constant (.int k) c p1)) none p) pos) σ Q := by
  intro s R0 _
  refine wpAny_Subscript_list_slice (h.here R0 .nil fun va a σ1 s1 ra R1 g1 k1 q => ?_) ht
  obtain ⟨rfl, q⟩ := q
  rw [ra.con_inv]
  refine wpAny_pure ?_
  show wpAny C.M C.A (eval (.Constant (.int (k : Int)) c p1) C.env) _ _ s1
  refine wpAny_Constant_int ?_
  obtain ⟨o, e1, e2, n, e3⟩ := hl
  refine ⟨l, vs.toArray, none, some (k : Int), rfl, ⟨o, R1.keep _ _ e1, e2, n, e3⟩, by rw [sizeLine_eq]; simpa using hz, .none, .int _ _, ?_⟩
  rw [slicePick_upto']
  obtain ⟨R2, g2⟩ := R1.ext (s' := { s1 with heap := s1.heap.push { cls := .type "slice", data := .fields #[.none, .int (k : Int) s1.toks, .none] }, toks := s1.toks + 1 }) (fun b o e => Heap.get?_push_of_some _ e) rfl rfl
  have kp : ∀ b o, C.h₀.get? b = some o → ((s1.heap.push { cls := .type "slice", data := .fields #[.none, .int (k : Int) s1.toks, .none] }).push { cls := .type "list", data := .seq (vs.take k).toArray }).get? b = some o := fun b o e => Heap.get?_push_of_some _ (Heap.get?_push_of_some _ (R1.keep b o e))
  obtain ⟨R3, g3, fr⟩ := R2.allocPush (ob := { cls := .type "list", data := .seq (vs.take k).toArray }) (ao := .list (as.take k)) ⟨vs.take k, ⟨0, Heap.get?_push_size _ rfl⟩, (hr.take k).keep fun a _ _ e => kp a _ e⟩
  simp only [Heap.size_push] at R3 g3 fr
  exact ⟨_, _, .con rfl, R3, (g1.trans g2).trans g3, q _ fr⟩
/-- a dict's epoch -/
theorem TV.epoch {α β : Type} {R : Heap → α → β → Prop} {t : Sem α} {Q : β → St → Prop} {vs : List Value} {as : List AV} {d : Addr} {es : List (Str × AV)} (hd : σ.H d = some (.dict es)) (h : ∀ ep, TV C vs as R t (σ.put d (.dictE es ep)) Q) : TV C vs as R t σ Q := by
  intro s R0 hv
  obtain ⟨⟨ds, ⟨o, es', ep, e1, e2⟩, rd⟩, hz, ho⟩ := R0.objs d _ hd
  have R1 : C.R (σ.put d (.dictE es ep)) s := ⟨R0.keep, R0.locs, R0.cels, fun a ao ha => by
    by_cases hab : a = d
    · subst hab
      rw [putH_self] at ha; cases ha
      exact ⟨⟨ds, ⟨o, es', e1, e2⟩, rd⟩, hz, ho⟩
    · rw [putH_ne hab] at ha
      exact R0.objs a ao ha, R0.owns, R0.apart, R0.inj, R0.gens, R0.os⟩
  have g1 : C.G σ s (σ.put d (.dictE es ep)) s := ⟨fun b o e => ⟨o, e⟩, fun b o e _ n => ⟨e, by
    by_cases hab : b = d
    · subst hab; rw [hd] at n; cases n
    · rw [putH_ne hab]; exact n⟩⟩
  exact (h ep).last R0 R1 g1 hv
theorem TV.unepoch {α β : Type} {R : Heap → α → β → Prop} {t : Sem α} {Q : β → St → Prop} {vs : List Value} {as : List AV} {d : Addr} {es : List (Str × AV)} {ep : Nat} (hd : σ.H d = some (.dictE es ep)) (h : TV C vs as R t (σ.put d (.dict es)) Q) : TV C vs as R t σ Q := by
  intro s R0 hv
  obtain ⟨⟨ds, e1, rd⟩, hz, ho⟩ := R0.objs d _ hd
  have R1 : C.R (σ.put d (.dict es)) s := ⟨R0.keep, R0.locs, R0.cels, fun a ao ha => by
    by_cases hab : a = d
    · subst hab
      rw [putH_self] at ha; cases ha
      exact ⟨⟨ds, e1.dictOf, rd⟩, hz, ho⟩
    · rw [putH_ne hab] at ha
      exact R0.objs a ao ha, R0.owns, R0.apart, R0.inj, R0.gens, R0.os⟩
  have g1 : C.G σ s (σ.put d (.dict es)) s := ⟨fun b o e => ⟨o, e⟩, fun b o e _ n => ⟨e, by
    by_cases hab : b = d
    · subst hab; rw [hd] at n; cases n
    · rw [putH_ne hab]; exact n⟩⟩
  exact h.last R0 R1 g1 hv
/-- what is no longer of interest is let go -/
theorem noInter (hs : C.env.scope = sc) (hk : sc.kind = .function) : interactive C.env = false := by unfold interactive; rw [hs, hk]; rfl
end

section
variable {C : Cx} {σ : St} {x y z u : Str} {px py pz pu pos : Pos} {k : Nat} {a b c d : AV} {Q : Unit → St → Prop}
theorem TSt.mono {Q' : Unit → St → Prop} (h : TSt C x a σ Q) (k : ∀ σ', Q () σ' → Q' () σ') : TSt C x a σ Q' := fun va => TV.mono (h va) fun _ σ' q => k σ' q
theorem TAsg.names2 (hh : C.A.handled = none) (h : TSt C x a σ fun _ σ1 => TSt C y b σ1 Q) : TAsg C (.Tuple [.Name x px, .Name y py] k pos) (.tup [a, b]) σ Q :=
  TAsg.tuple (ts := [PySem.assign (.Name x px) C.env, PySem.assign (.Name y py) C.env]) hh rfl rfl rfl (.cons (.name (h.mono fun _ h => .cons (.name (h.mono fun _ q => .nil q)))))
theorem TAsg.names3 (hh : C.A.handled = none) (h : TSt C x a σ fun _ σ1 => TSt C y b σ1 fun _ σ2 => TSt C z c σ2 Q) : TAsg C (.Tuple [.Name x px, .Name y py, .Name z pz] k pos) (.tup [a, b, c]) σ Q :=
  TAsg.tuple (ts := [PySem.assign (.Name x px) C.env, PySem.assign (.Name y py) C.env, PySem.assign (.Name z pz) C.env]) hh rfl rfl rfl (.cons (.name (h.mono fun _ h => .cons (.name (h.mono fun _ h => .cons (.name (h.mono fun _ q => .nil q)))))))
theorem TAsg.names4 (hh : C.A.handled = none) (h : TSt C x a σ fun _ σ1 => TSt C y b σ1 fun _ σ2 => TSt C z c σ2 fun _ σ3 => TSt C u d σ3 Q) : TAsg C (.Tuple [.Name x px, .Name y py, .Name z pz, .Name u pu] k pos) (.tup [a, b, c, d]) σ Q :=
  TAsg.tuple (ts := [PySem.assign (.Name x px) C.env, PySem.assign (.Name y py) C.env, PySem.assign (.Name z pz) C.env, PySem.assign (.Name u pu) C.env]) hh rfl rfl rfl (.cons (.name (h.mono fun _ h => .cons (.name (h.mono fun _ h => .cons (.name (h.mono fun _ h => .cons (.name (h.mono fun _ q => .nil q)))))))))
end
section
variable {C : Cx} {σ : St} {sc : Scope} {K : Frag} {n : Nat}
/-- what a comprehension asks for, the inner context opaque -/
def CompW (K : Frag) (n : Nat) (C : Cx) (sc : Scope) (target elt : PySem.Expr) (test : Option PySem.Expr) (a : AV) (σ1 : St) (F : List AV → AH → Addr → Prop) : Prop :=
  ∃ xs ok I, IterAs C a xs ok ∧ xs.length ≤ 16777216 ∧ (∀ i acc H, i ≤ xs.length → I i acc H → ok H) ∧ I 0 [] σ1.H ∧
    (∀ C2 i x acc σ2, Wd K C2 n → C2.env.scope = relab sc → C2.A.handled = none → xs[i]? = some x → I i acc σ2.H → Same sc σ1.m σ2.m → CTurn C2 sc σ1.m target elt I i x acc σ2 test) ∧
    (∀ acc H D, I xs.length acc H → H D = none → F acc H D)
theorem TE.compW {target elt iter : PySem.Expr} {test : Option PySem.Expr} {cpos : Pos} {ifs : List PySem.Expr} {Q : AV → St → Prop} (W : Wd K C n) (hifs : test.toList = ifs) (k : CompOk C sc)
    (h : TE C iter σ fun a σ1 => CompW K n C sc target elt test a σ1 fun acc H D => Q (.con (.ref D)) ⟨σ1.m, H.put D (.list acc)⟩)
    (hs : ∀ x, foldedSetIterable iter C.env x = pure x := by intro _; rfl) : TE C (.ListComp elt [⟨target, iter, ifs, 0⟩] sc cpos) σ Q := by
  refine TE.comp hifs k W.calm (TV.mono h ?_) hs
  rintro a σ1 ⟨xs, ok, I, h1, h2, h3, h4, h5, h6⟩
  exact ⟨xs, ok, I, h1, h2, h3, h4, fun cl L i x acc σ2 hx hI hm => h5 _ i x acc σ2 W.comp rfl W.hand hx hI hm, h6⟩
theorem TX.assignCompW {x : Str} {p pos : Pos} {target elt iter : PySem.Expr} {test : Option PySem.Expr} {cpos : Pos} {ifs : List PySem.Expr} {Q : AFl → St → Prop} (W : Wd K C n) (hifs : test.toList = ifs) (k : CompOk C sc)
    (h : TE C iter σ fun a σ1 => CompW K n C sc target elt test a σ1 fun acc H D => TSt C x (.con (.ref D)) ⟨σ1.m, H.put D (.list acc)⟩ fun _ σ2 => Q .next σ2)
    (hsw : swapsWith (.ListComp elt [⟨target, iter, ifs, 0⟩] sc cpos) (some (.Name x p)) pos.line C.env = pure true) (hs : ∀ x, foldedSetIterable iter C.env x = pure x := by intro _; rfl) :
    TX C (.Assign [.Name x p] (.ListComp elt [⟨target, iter, ifs, 0⟩] sc cpos) pos) σ Q := by
  refine TX.assignComp hifs k W.calm (TV.mono h ?_) hsw hs
  rintro a σ1 ⟨xs, ok, I, h1, h2, h3, h4, h5, h6⟩
  exact ⟨xs, ok, I, h1, h2, h3, h4, fun cl L i x acc σ2 hx hI hm => h5 _ i x acc σ2 W.comp rfl W.hand hx hI hm, h6⟩
end

/-! the plain law: names behind a beginning, in first-come order -/
abbrev Tid := Nat × Bool
abbrev Lab := Tid × List Str

def addNew (l : List Str) (x : Str) : List Str := if x ∈ l then l else l ++ [x]
def next? (p q : List Str) : Option Str := if q.take p.length = p then q[p.length]? else none
def step (p : List Str) (acc : List Str) (q : List Str) : List Str := match next? p q with | some x => addNew acc x | none => acc
def nxt (qs : List (List Str)) (p : List Str) : List Str := qs.foldl (step p) []
def Has (qs : List (List Str)) (p : List Str) : Prop := ∃ q ∈ qs, q.take p.length = p

theorem mem_addNew {l : List Str} {x y : Str} : y ∈ addNew l x ↔ y ∈ l ∨ y = x := by
  unfold addNew; split
  · constructor
    · exact .inl
    · rintro (h | rfl) <;> assumption
  · simp
theorem nxt_snoc {qs : List (List Str)} {q p : List Str} : nxt (qs ++ [q]) p = step p (nxt qs p) q := by simp [nxt, List.foldl_append]
theorem mem_step {p acc q : List Str} {x : Str} : x ∈ step p acc q ↔ x ∈ acc ∨ next? p q = some x := by
  unfold step
  cases h : next? p q with
  | none => simp
  | some y => simp only [mem_addNew, Option.some.injEq]; constructor <;> (rintro (h | h); exact .inl h; exact .inr h.symm)
theorem mem_nxt {qs : List (List Str)} {p : List Str} {x : Str} : x ∈ nxt qs p ↔ ∃ q ∈ qs, next? p q = some x := by
  unfold nxt
  have key : ∀ (qs : List (List Str)) (acc : List Str), x ∈ qs.foldl (step p) acc ↔ x ∈ acc ∨ ∃ q ∈ qs, next? p q = some x := by
    intro qs
    induction qs with
    | nil => simp
    | cons q r ih => intro acc; rw [List.foldl_cons, ih, mem_step]; simp only [List.mem_cons, exists_eq_or_imp, or_assoc]
  rw [key]; simp
theorem take_snoc_iff {p q : List Str} {x : Str} : q.take (p ++ [x]).length = p ++ [x] ↔ next? p q = some x := by
  unfold next?
  rw [List.length_append, List.length_singleton]
  constructor
  · intro h
    have hl : p.length < q.length := by
      have := congrArg List.length h
      simp at this; omega
    have h1 : q.take p.length = p := by
      have := congrArg (List.take p.length) h
      simpa [List.take_take] using this
    rw [if_pos h1]
    have := congrArg (fun l => l[p.length]?) h
    simpa [List.getElem?_take] using this
  · intro h
    split at h
    · rename_i h1
      have hl : p.length < q.length := (List.getElem?_eq_some_iff.mp h).1
      rw [List.take_succ, h1, h]; rfl
    · cases h
theorem has_snoc {qs : List (List Str)} {p : List Str} {x : Str} : Has qs (p ++ [x]) ↔ x ∈ nxt qs p := by
  unfold Has
  rw [mem_nxt]
  simp only [take_snoc_iff]
theorem Has.up {qs : List (List Str)} {p : List Str} {x : Str} (h : Has qs (p ++ [x])) : Has qs p := by
  obtain ⟨q, hq, e⟩ := h
  refine ⟨q, hq, ?_⟩
  have := congrArg (List.take p.length) e
  simpa [List.take_take] using this
theorem Has.names {qs : List (List Str)} {p : List Str} {F : List Str} (hF : ∀ q ∈ qs, ∀ x ∈ q, x ∈ F) : ∀ x ∈ nxt qs p, x ∈ F := by
  intro x hx
  obtain ⟨q, hq, e⟩ := mem_nxt.mp hx
  unfold next? at e
  split at e
  · exact hF q hq x (List.mem_of_getElem? e)
  · cases e

theorem step_take {p acc q : List Str} {i : Nat} (hi : i < q.length) : step p acc (q.take (i + 1)) = if p = q.take i then addNew acc q[i] else step p acc (q.take i) := by
  unfold step
  have hn : next? p (q.take (i + 1)) = if p = q.take i then some q[i] else next? p (q.take i) := by
    unfold next?
    by_cases hp : p = q.take i
    · rw [if_pos hp]
      have hl : p.length = i := by rw [hp, List.length_take]; omega
      rw [hl, List.take_take, show min i (i + 1) = i by omega, if_pos hp.symm, List.getElem?_take, if_pos (Nat.lt_succ_self i)]
      simp [hi]
    · rw [if_neg hp]
      rcases Nat.lt_trichotomy p.length i with h | h | h
      · rw [List.take_take, List.take_take, show min p.length (i + 1) = p.length by omega, show min p.length i = p.length by omega, List.getElem?_take, List.getElem?_take, if_pos (show p.length < i + 1 by omega), if_pos h]
      · rw [if_neg, if_neg]
        · rw [List.take_take, h, Nat.min_self]; exact fun e => hp e.symm
        · rw [List.take_take, h, show min i (i + 1) = i by omega]; exact fun e => hp e.symm
      · have e1 : (q.take (i + 1))[p.length]? = none := by rw [List.getElem?_eq_none]; rw [List.length_take]; omega
        have e2 : (q.take i)[p.length]? = none := by rw [List.getElem?_eq_none]; rw [List.length_take]; omega
        rw [e1, e2]; simp
  rw [hn]
  by_cases hp : p = q.take i
  · rw [if_pos hp, if_pos hp]
  · rw [if_neg hp, if_neg hp]

/-! the layout -/
def atN (n : Nat) : Str := ("at " : Str) ++ Str.ofString (toString (n : Int))
def ents (ad : Lab → Addr) (ks : Tid → List (List Str)) (pre : Lab → List (Str × AV)) (mk : Lab → List Nat) (l : Lab) : List (Str × AV) :=
  pre l ++ (nxt (ks l.1) l.2).map (fun x => (x, AV.con (.ref (ad (l.1, l.2 ++ [x]))))) ++ (mk l).map fun n => (atN n, AV.int (n : Int))
structure Lay (ad : Lab → Addr) (ks : Tid → List (List Str)) (pre : Lab → List (Str × AV)) (mk : Lab → List Nat) (H : AH) : Prop where
  at_ : ∀ l : Lab, Has (ks l.1) l.2 → H (ad l) = some (.dict (ents ad ks pre mk l))
  inj : ∀ l l' : Lab, Has (ks l.1) l.2 → Has (ks l'.1) l'.2 → ad l = ad l' → l = l'
def addK (ks : Tid → List (List Str)) (t : Tid) (q : List Str) : Tid → List (List Str) := fun t' => if t' = t then ks t ++ [q] else ks t'

section
variable {ad : Lab → Addr} {ks : Tid → List (List Str)} {pre : Lab → List (Str × AV)} {mk : Lab → List Nat} {H H' : AH} {t : Tid} {q p : List Str} {i : Nat} {d : Addr}

theorem addK_same : addK ks t q t = ks t ++ [q] := by simp [addK]
theorem addK_ne {t' : Tid} (h : t' ≠ t) : addK ks t q t' = ks t' := by simp [addK, h]
theorem Has.addK {l : Lab} (h : Has (ks l.1) l.2) : Has (Mine.addK ks t q l.1) l.2 := by
  by_cases e : l.1 = t
  · rw [e, addK_same, ← e]; obtain ⟨x, hx, y⟩ := h; exact ⟨x, List.mem_append_left _ hx, y⟩
  · rw [addK_ne e]; exact h
theorem Has.last {l : Lab} (e : l.1 = t) (h : q.take l.2.length = l.2) : Has (Mine.addK ks t q l.1) l.2 := by
  rw [e, addK_same]; exact ⟨q, by simp, h⟩

theorem Lay.keep (L : Lay ad ks pre mk H) (h : ∀ l : Lab, Has (ks l.1) l.2 → H' (ad l) = H (ad l)) : Lay ad ks pre mk H' := ⟨fun l hl => (h l hl).trans (L.at_ l hl), L.inj⟩
theorem Lay.ext (L : Lay ad ks pre mk H) (h : ∀ a o, H a = some o → H' a = some o) : Lay ad ks pre mk H' := L.keep fun l hl => (h _ _ (L.at_ l hl)).trans (L.at_ l hl).symm

/-- a beginning of a key once more: nothing changes -/
theorem Lay.start (L : Lay ad ks pre mk H) (h0 : Has (ks t) []) : Lay ad (addK ks t []) pre mk H := by
  have hn : ∀ l : Lab, nxt (addK ks t [] l.1) l.2 = nxt (ks l.1) l.2 := fun l => by
    by_cases e : l.1 = t
    · rw [e, addK_same, nxt_snoc]; unfold step next?; simp
    · rw [addK_ne e]
  have hp : ∀ l : Lab, Has (addK ks t [] l.1) l.2 → Has (ks l.1) l.2 := fun l h => by
    by_cases e : l.1 = t
    · rw [e, addK_same] at h
      obtain ⟨x, hx, y⟩ := h
      rcases List.mem_append.mp hx with hx | hx
      · rw [e]; exact ⟨x, hx, y⟩
      · rw [List.mem_singleton.mp hx] at y
        have : l.2 = [] := by simpa using y.symm
        rw [this, e]; exact h0
    · rwa [addK_ne e] at h
  refine ⟨fun l h => ?_, fun l l' h h' => L.inj l l' (hp l h) (hp l' h')⟩
  rw [L.at_ l (hp l h)]
  unfold ents; rw [hn]

theorem nxt_next (hi : i < q.length) (l : Lab) : nxt (addK ks t (q.take (i + 1)) l.1) l.2 = if l = (t, q.take i) then addNew (nxt (addK ks t (q.take i) t) (q.take i)) q[i] else nxt (addK ks t (q.take i) l.1) l.2 := by
  by_cases e : l.1 = t
  · obtain ⟨t', p⟩ := l
    dsimp only at e ⊢
    subst e
    rw [addK_same, addK_same, nxt_snoc, step_take hi]
    by_cases hp : p = q.take i
    · subst hp
      rw [if_pos rfl, if_pos rfl, nxt_snoc]
      have : step (q.take i) (nxt (ks t') (q.take i)) (q.take i) = nxt (ks t') (q.take i) := by unfold step next?; simp
      rw [this]
    · rw [if_neg hp, if_neg (fun x => hp (Prod.mk.inj x).2), nxt_snoc]
  · rw [addK_ne e, addK_ne e, if_neg (fun x => e (by rw [x]))]
theorem has_next (hi : i < q.length) {l : Lab} (h : Has (addK ks t (q.take (i + 1)) l.1) l.2) : Has (addK ks t (q.take i) l.1) l.2 ∨ l = (t, q.take i ++ [q[i]]) := by
  by_cases e : l.1 = t
  · obtain ⟨t', p⟩ := l
    dsimp only at e h ⊢
    subst e
    rw [addK_same] at h ⊢
    obtain ⟨x, hx, y⟩ := h
    rcases List.mem_append.mp hx with hx | hx
    · exact .inl ⟨x, List.mem_append_left _ hx, y⟩
    · rw [List.mem_singleton.mp hx, List.take_take] at y
      by_cases hl : p.length ≤ i
      · left
        refine ⟨q.take i, by simp, ?_⟩
        rw [List.take_take, show min p.length i = p.length by omega]
        rwa [show min p.length (i + 1) = p.length by omega] at y
      · right
        have h2 := congrArg List.length y
        rw [List.length_take] at h2
        have : p.length = i + 1 := by omega
        rw [this, Nat.min_self] at y
        rw [← y, List.take_succ]; simp [hi]
  · left; rwa [addK_ne e] at h ⊢

theorem Lay.old (L : Lay ad (addK ks t (q.take i)) pre mk H) (hi : i < q.length) (hm : q[i] ∈ nxt (addK ks t (q.take i) t) (q.take i)) : Lay ad (addK ks t (q.take (i + 1))) pre mk H := by
  have hp : ∀ l : Lab, Has (addK ks t (q.take (i + 1)) l.1) l.2 → Has (addK ks t (q.take i) l.1) l.2 := fun l h => by
    rcases has_next hi h with h | rfl
    · exact h
    · exact has_snoc.mpr hm
  refine ⟨fun l h => ?_, fun l l' h h' => L.inj l l' (hp l h) (hp l' h')⟩
  rw [L.at_ l (hp l h)]
  unfold ents
  rw [nxt_next hi]
  split
  · rename_i e; subst e
    unfold addNew
    rw [if_pos hm]
  · rfl

def adNew (ad : Lab → Addr) (l : Lab) (d : Addr) : Lab → Addr := fun l' => if l' = l then d else ad l'
theorem Lay.new (L : Lay ad (addK ks t (q.take i)) pre mk H) (hi : i < q.length) (hm : q[i] ∉ nxt (addK ks t (q.take i) t) (q.take i)) (hd : H d = none) (hmk : ∀ l, mk l = []) (hpre : ∀ l : Lab, l.2 ≠ [] → pre l = [])
    (H2 : AH) (h1 : H2 d = some (.dict [])) (h2 : H2 (ad (t, q.take i)) = some (.dict (ents ad (addK ks t (q.take i)) pre mk (t, q.take i) ++ [(q[i], .con (.ref d))]))) (h3 : ∀ a, a ≠ d → a ≠ ad (t, q.take i) → H2 a = H a) :
    Lay (adNew ad (t, q.take i ++ [q[i]]) d) (addK ks t (q.take (i + 1))) pre mk H2 := by
  have hno : ¬ Has (addK ks t (q.take i) t) (q.take i ++ [q[i]]) := fun x => hm (has_snoc.mp x)
  have hne : ∀ l : Lab, Has (addK ks t (q.take i) l.1) l.2 → l ≠ (t, q.take i ++ [q[i]]) := fun l h e => by subst e; exact hno h
  have hda : ∀ l : Lab, Has (addK ks t (q.take i) l.1) l.2 → ad l ≠ d := fun l h e => by have := L.at_ l h; rw [e, hd] at this; cases this
  have had : ∀ l : Lab, l ≠ (t, q.take i ++ [q[i]]) → adNew ad (t, q.take i ++ [q[i]]) d l = ad l := fun l h => by unfold adNew; rw [if_neg h]
  have hcur : Has (addK ks t (q.take i) t) (q.take i) := Has.last (l := (t, q.take i)) rfl (by rw [List.take_of_length_le (Nat.le_refl _)])
  have kids : ∀ l : Lab, (nxt (addK ks t (q.take i) l.1) l.2).map (fun x => (x, AV.con (.ref (adNew ad (t, q.take i ++ [q[i]]) d (l.1, l.2 ++ [x]))))) = (nxt (addK ks t (q.take i) l.1) l.2).map (fun x => (x, AV.con (.ref (ad (l.1, l.2 ++ [x]))))) := fun l =>
    List.map_congr_left fun x hx => by rw [had _ (hne (l.1, l.2 ++ [x]) (has_snoc.mpr hx))]
  refine ⟨fun l h => ?_, fun l l' h h' e => ?_⟩
  · rcases has_next hi h with h | rfl
    · rw [had l (hne l h)]
      unfold ents
      rw [nxt_next hi]
      by_cases hl : l = (t, q.take i)
      · subst hl
        rw [if_pos rfl, h2]
        unfold ents addNew
        rw [if_neg hm, hmk, List.map_append, kids (t, q.take i)]
        simp [adNew]
      · rw [if_neg hl, h3 _ (hda l h) (fun e => hl (L.inj _ _ h hcur e)), L.at_ l h, kids l]
        rfl
    · have : adNew ad (t, q.take i ++ [q[i]]) d (t, q.take i ++ [q[i]]) = d := by simp [adNew]
      rw [this, h1]
      have hz : nxt (addK ks t (q.take (i + 1)) t) (q.take i ++ [q[i]]) = [] := by
        rw [List.eq_nil_iff_forall_not_mem]
        intro x hx
        rw [← has_snoc] at hx
        rcases has_next hi (l := (t, q.take i ++ [q[i]] ++ [x])) hx with hx | hx
        · exact hno hx.up
        · have := congrArg (fun l : Lab => l.2.length) hx
          simp at this
      unfold ents
      rw [hz, hmk, hpre _ (List.append_ne_nil_of_right_ne_nil _ (List.cons_ne_nil _ _))]
      rfl
  · rcases has_next hi h with h | rfl <;> rcases has_next hi h' with h' | rfl
    · rw [had l (hne l h), had l' (hne l' h')] at e
      exact L.inj l l' h h' e
    · rw [had l (hne l h)] at e
      have : adNew ad (t, q.take i ++ [q[i]]) d (t, q.take i ++ [q[i]]) = d := by simp [adNew]
      rw [this] at e; exact absurd e (hda l h)
    · rw [had l' (hne l' h')] at e
      have : adNew ad (t, q.take i ++ [q[i]]) d (t, q.take i ++ [q[i]]) = d := by simp [adNew]
      rw [this] at e; exact absurd e.symm (hda l' h')
    · rfl

theorem valA_append {es fs : List (Str × AV)} {k : Str} : valA (es ++ fs) k = (valA es k).or (valA fs k) := by
  unfold valA; rw [List.find?_append]; cases List.find? _ es <;> rfl
theorem valA_none {es : List (Str × AV)} {k : Str} (h : ∀ e ∈ es, e.1 ≠ k) : valA es k = none := by
  unfold valA; rw [List.find?_eq_none.mpr]; rfl
  intro e he; simpa using h e he
theorem valA_map {l : List Str} {f : Str → AV} {k : Str} : valA (l.map fun x => (x, f x)) k = if k ∈ l then some (f k) else none := by
  unfold valA
  induction l with
  | nil => rfl
  | cons y l ih =>
    rw [List.map_cons, List.find?_cons]
    by_cases h : y = k
    · subst h; simp
    · simp only [h, decide_false]
      rw [ih]
      simp [Ne.symm h]
theorem storeA_new {es : List (Str × AV)} {k : Str} {a : AV} (h : valA es k = none) : storeA es k a = es ++ [(k, a)] := by
  unfold storeA
  rw [if_neg]
  unfold valA at h
  rw [Option.map_eq_none_iff, List.find?_eq_none] at h
  simp only [List.any_eq_true, not_exists, not_and, decide_eq_true_eq]
  intro e he; simpa using h e he
theorem ents_name {l : Lab} {x : Str} (hx : ∀ e ∈ pre l, e.1 ≠ x) (hmk : mk l = []) : valA (ents ad ks pre mk l) x = if x ∈ nxt (ks l.1) l.2 then some (.con (.ref (ad (l.1, l.2 ++ [x])))) else none := by
  unfold ents
  rw [hmk, List.map_nil, List.append_nil, valA_append, valA_none hx, valA_map (f := fun x => AV.con (.ref (ad (l.1, l.2 ++ [x]))))]
  rfl
end

/-! the plain law: what _law_holds makes of the rows of one tree -/
abbrev Row := List Str × Nat
def insG (g : List (Str × List Row)) (y : Str) (r : Row) : List (Str × List Row) :=
  if y ∈ g.map (·.1) then g.map (fun e => if e.1 = y then (e.1, e.2 ++ [r]) else e) else g ++ [(y, [r])]
def stepG (d : Nat) (g : List (Str × List Row)) (r : Row) : List (Str × List Row) := match r.1[d]? with
  | some y => insG g y r
  | none => g
def grp (R : List Row) (d : Nat) : List (Str × List Row) := R.foldl (stepG d) []
def rowsAt (rows : List Row) (p : List Str) : List Row := rows.filter fun r => decide (r.1.take p.length = p)
def sumL (l : List Nat) : Nat := l.foldr (· + ·) 0
def wtL (d : Nat) (R : List Row) : Nat := sumL (R.map fun r => r.1.length - d)
def wt (rows : List Row) (p : List Str) : Nat := 1 + wtL p.length (rowsAt rows p)
def marksAt (rows : List Row) (p : List Str) : List Nat := (rows.filter fun r => decide (r.1 = p)).map (·.2)

theorem sumL_append {l m : List Nat} : sumL (l ++ m) = sumL l + sumL m := by
  induction l with
  | nil => simp [sumL]
  | cons a l ih => simp only [sumL, List.cons_append, List.foldr_cons] at ih ⊢; omega
theorem grp_snoc {R : List Row} {r : Row} {d : Nat} : grp (R ++ [r]) d = stepG d (grp R d) r := by simp [grp, List.foldl_append]
theorem insG_keys {g : List (Str × List Row)} {y : Str} {r : Row} : (insG g y r).map (·.1) = addNew (g.map (·.1)) y := by
  unfold insG addNew
  split
  · rw [List.map_map]; apply List.map_congr_left; intro e _; simp only [Function.comp]; split <;> rfl
  · simp
theorem snocInd {α : Type} {P : List α → Prop} (h0 : P []) (h : ∀ l a, P l → P (l ++ [a])) : ∀ l, P l := fun l => by
  have : ∀ n (l : List α), l.length = n → P l := by
    intro n
    induction n with
    | zero => intro l hl; rw [List.eq_nil_of_length_eq_zero hl]; exact h0
    | succ n ih =>
      intro l hl
      have hne : l ≠ [] := fun e => by subst e; cases hl
      rw [← List.dropLast_concat_getLast hne]
      exact h _ _ (ih _ (by rw [List.length_dropLast, hl]; rfl))
  exact this _ l rfl
theorem grp_keys (rows : List Row) (p : List Str) : (grp (rowsAt rows p) p.length).map (·.1) = nxt (rows.map (·.1)) p := by
  refine snocInd (P := fun rows => (grp (rowsAt rows p) p.length).map (·.1) = nxt (rows.map (·.1)) p) rfl (fun l r ih => ?_) rows
  rw [List.map_append, List.map_cons, List.map_nil, nxt_snoc, ← ih]
  have e : rowsAt (l ++ [r]) p = if r.1.take p.length = p then rowsAt l p ++ [r] else rowsAt l p := by
    unfold rowsAt; rw [List.filter_append]; by_cases h : r.1.take p.length = p <;> simp [h]
  rw [e]
  unfold step next?
  by_cases h : r.1.take p.length = p
  · rw [if_pos h, if_pos h, grp_snoc]
    unfold stepG
    cases r.1[p.length]? with
    | none => rfl
    | some y => exact insG_keys
  · rw [if_neg h, if_neg h]
theorem grp_mem (R : List Row) (d : Nat) : ∀ y, y ∈ (grp R d).map (·.1) ↔ ∃ r ∈ R, r.1[d]? = some y := by
  refine snocInd (P := fun R => ∀ y, y ∈ (grp R d).map (·.1) ↔ ∃ r ∈ R, r.1[d]? = some y) (fun y => by simp [grp]) (fun l r ih y => ?_) R
  rw [grp_snoc]
  unfold stepG
  cases h : r.1[d]? with
  | none => rw [ih]; simp [h]
  | some z => rw [insG_keys, mem_addNew, ih]; simp only [List.mem_append, List.mem_singleton, or_and_right, exists_or, exists_eq_left, h, Option.some.injEq]; constructor <;> (rintro (h | h); exact .inl h; exact .inr h.symm)
theorem grp_rows (R : List Row) (d : Nat) : ∀ e ∈ grp R d, e.2 = R.filter fun r => decide (r.1[d]? = some e.1) := by
  refine snocInd (P := fun R => ∀ e ∈ grp R d, e.2 = R.filter fun r => decide (r.1[d]? = some e.1)) (fun e h => by simp [grp] at h) (fun l r ih e he => ?_) R
  rw [grp_snoc] at he
  unfold stepG at he
  rw [List.filter_append]
  cases h : r.1[d]? with
  | none => rw [h] at he; rw [← ih e he]; simp [h]
  | some y =>
    rw [h] at he
    dsimp only at he
    unfold insG at he
    split at he
    · obtain ⟨e', he', rfl⟩ := List.mem_map.mp he
      by_cases hy : e'.1 = y
      · rw [if_pos hy]; dsimp only; rw [ih e' he']; simp [h, hy]
      · rw [if_neg hy, ← ih e' he']; simp [h, Ne.symm hy]
    · rename_i hn
      rcases List.mem_append.mp he with he | he
      · rw [← ih e he]
        have : y ≠ e.1 := fun x => hn (List.mem_map.mpr ⟨e, he, x.symm⟩)
        simp [h, this]
      · rw [List.mem_singleton.mp he]
        have : l.filter (fun r => decide (r.1[d]? = some y)) = [] := by
          rw [List.filter_eq_nil_iff]
          intro r' hr'
          simp only [decide_eq_true_eq]
          intro x
          exact hn ((grp_mem l d y).mpr ⟨r', hr', x⟩)
        dsimp only
        rw [this]; simp [h]
theorem grp_at {rows : List Row} {p : List Str} {e : Str × List Row} (he : e ∈ grp (rowsAt rows p) p.length) : e.2 = rowsAt rows (p ++ [e.1]) := by
  rw [grp_rows _ _ e he]
  unfold rowsAt
  rw [List.filter_filter]
  apply List.filter_congr
  intro r _
  rw [Bool.eq_iff_iff]
  simp only [Bool.and_eq_true, decide_eq_true_eq]
  rw [take_snoc_iff]
  unfold next?
  by_cases h : r.1.take p.length = p
  · simp [h]
  · simp [h]
theorem grp_nodup (R : List Row) (d : Nat) : ((grp R d).map (·.1)).Nodup := by
  refine snocInd (P := fun R => ((grp R d).map (·.1)).Nodup) (by simp [grp]) (fun l r ih => ?_) R
  rw [grp_snoc]
  unfold stepG
  cases r.1[d]? with
  | none => exact ih
  | some y =>
    rw [insG_keys]
    unfold addNew
    split
    · exact ih
    · rename_i hn
      rw [List.nodup_append]
      refine ⟨ih, by simp, ?_⟩
      intro a ha b hb
      rw [List.mem_singleton.mp hb]
      intro x; exact hn (x ▸ ha)
theorem grp_length (R : List Row) (d : Nat) : (grp R d).length ≤ R.length := by
  refine snocInd (P := fun R => (grp R d).length ≤ R.length) (by simp [grp]) (fun l r ih => ?_) R
  rw [grp_snoc, List.length_append, List.length_singleton]
  unfold stepG
  cases r.1[d]? with
  | none => dsimp only; omega
  | some y =>
    dsimp only
    unfold insG
    split
    · rw [List.length_map]; omega
    · rw [List.length_append, List.length_singleton]; omega
theorem marksAt_eq (rows : List Row) (p : List Str) : ((rowsAt rows p).filter fun r => decide (r.1.length = p.length)).map (·.2) = marksAt rows p := by
  unfold marksAt rowsAt
  rw [List.filter_filter]
  congr 1
  apply List.filter_congr
  intro r _
  rw [Bool.eq_iff_iff]
  simp only [Bool.and_eq_true, decide_eq_true_eq]
  constructor
  · rintro ⟨h1, h2⟩; rw [← h1, List.take_of_length_le (Nat.le_refl _)] at h2; exact h2
  · intro h; subst h; exact ⟨rfl, List.take_of_length_le (Nat.le_refl _)⟩
def wtG (d : Nat) (g : List (Str × List Row)) : Nat := sumL (g.map fun e => 1 + wtL (d + 1) e.2)
theorem wtL_snoc {d : Nat} {R : List Row} {r : Row} : wtL d (R ++ [r]) = wtL d R + (r.1.length - d) := by
  unfold wtL; rw [List.map_append, sumL_append]; simp [sumL]
theorem wtG_same {d : Nat} {y : Str} {r : Row} : ∀ {g : List (Str × List Row)}, y ∉ g.map (·.1) → g.map (fun e => if e.1 = y then (e.1, e.2 ++ [r]) else e) = g
  | [], _ => rfl
  | e :: g, h => by
    simp only [List.map_cons, List.mem_cons, not_or] at h ⊢
    rw [if_neg (Ne.symm h.1), wtG_same (d := d) h.2]
theorem wtG_ins {d : Nat} {y : Str} {r : Row} : ∀ {g : List (Str × List Row)}, (g.map (·.1)).Nodup → wtG d (g.map (fun e => if e.1 = y then (e.1, e.2 ++ [r]) else e)) ≤ wtG d g + (r.1.length - (d + 1))
  | [], _ => by simp [wtG, sumL]
  | e :: g, h => by
    rw [List.map_cons, List.nodup_cons] at h
    rw [List.map_cons]
    by_cases hy : e.1 = y
    · rw [if_pos hy, wtG_same (d := d) (hy ▸ h.1)]
      simp only [wtG, List.map_cons, sumL, List.foldr_cons, wtL_snoc]
      omega
    · rw [if_neg hy]
      have := wtG_ins (d := d) (y := y) (r := r) h.2
      simp only [wtG, List.map_cons, sumL, List.foldr_cons] at this ⊢
      omega
theorem wtG_le (R : List Row) (d : Nat) : wtG d (grp R d) ≤ wtL d R := by
  refine snocInd (P := fun R => wtG d (grp R d) ≤ wtL d R) (by simp [wtG, grp, sumL]) (fun l r ih => ?_) R
  rw [grp_snoc, wtL_snoc]
  unfold stepG
  cases h : r.1[d]? with
  | none => dsimp only; omega
  | some y =>
    have hl : d < r.1.length := (List.getElem?_eq_some_iff.mp h).1
    dsimp only
    unfold insG
    split
    · have := wtG_ins (d := d) (y := y) (r := r) (grp_nodup l d)
      omega
    · have e : wtG d (grp l d ++ [(y, [r])]) = wtG d (grp l d) + (1 + (r.1.length - (d + 1))) := by
        unfold wtG; rw [List.map_append, sumL_append]; simp [sumL, wtL]
      rw [e]; omega
theorem grp_wt {rows : List Row} {p : List Str} : sumL ((grp (rowsAt rows p) p.length).map fun e => wt rows (p ++ [e.1])) < wt rows p := by
  have h := wtG_le (rowsAt rows p) p.length
  have e : sumL ((grp (rowsAt rows p) p.length).map fun e => wt rows (p ++ [e.1])) = wtG p.length (grp (rowsAt rows p) p.length) := by
    unfold wtG
    congr 1
    apply List.map_congr_left
    intro e he
    unfold wt
    rw [← grp_at he, List.length_append, List.length_singleton]
  rw [e]; unfold wt; omega
theorem wtL_le {d N : Nat} {R : List Row} (h : ∀ r ∈ R, r.1.length ≤ N) : wtL d R ≤ R.length * N := by
  induction R with
  | nil => simp [wtL, sumL]
  | cons r R ih =>
    have h1 := ih fun r hr => h r (List.mem_cons_of_mem _ hr)
    have h2 := h r List.mem_cons_self
    simp only [wtL, List.map_cons, sumL, List.foldr_cons, List.length_cons, Nat.add_mul, Nat.one_mul] at h1 ⊢
    omega
theorem wt_pos {rows : List Row} {p : List Str} : 1 ≤ wt rows p := Nat.le_add_right 1 _

/-! numerals -/
theorem cps_append {x y z : Str} (h : x ++ y = x ++ z) : y = z := by
  have h1 := congrArg (fun s : Str => s.cps.toList) h
  have e : ∀ a b : Str, (a ++ b).cps = a.cps ++ b.cps := fun _ _ => rfl
  simp only [e, Array.toList_append] at h1
  have h2 := List.append_cancel_left h1
  cases y; cases z
  simp only [Str.mk.injEq]
  exact Array.ext' h2
theorem ofString_inj {a b : String} (h : Str.ofString a = Str.ofString b) : a = b := by
  rw [Str.ofString_eq_toList, Str.ofString_eq_toList] at h
  have h1 := congrArg (fun s : Str => s.cps.toList) h
  simp only at h1
  have h2 : a.toList = b.toList := (List.map_inj_right fun x y e => Char.ext (UInt32.toNat_inj.mp e)).mp h1
  exact String.toList_inj.mp h2
theorem toString_nat_inj {a b : Nat} (h : toString (a : Int) = toString (b : Int)) : a = b := by
  have : Nat.repr a = Nat.repr b := h
  exact Nat.repr_inj.mp this
theorem atN_inj {a b : Nat} (h : atN a = atN b) : a = b := toString_nat_inj (ofString_inj (cps_append h))
theorem strOk_ofString (s : String) : PyData.strOk (Str.ofString s) = true := by
  unfold PyData.strOk
  rw [Str.ofString_eq_toList]
  rw [Array.all_eq_true]
  intro i hi
  simp only [List.getElem_toArray, List.getElem_map, decide_eq_true_eq]
  have h := (s.toList[i]'(by simpa using hi)).valid
  unfold UInt32.isValidChar Nat.isValidChar at h
  show (s.toList[i]'(by simpa using hi)).val.toNat < _
  omega
theorem strOk_append {x y : Str} (hx : PyData.strOk x = true) (hy : PyData.strOk y = true) : PyData.strOk (x ++ y) = true := by
  unfold PyData.strOk at *
  show (x.cps ++ y.cps).all _ = true
  rw [Array.all_append, hx, hy]; rfl
theorem strOk_atN (n : Nat) : PyData.strOk (atN n) = true := strOk_append (by decide +kernel) (strOk_ofString _)
theorem valA_marks {l : List Nat} {k : Nat} (h : k ∈ l) : valA (l.map fun n : Nat => (atN n, AV.int (n : Int))) (atN k) = some (.int (k : Int)) := by
  unfold valA
  induction l with
  | nil => cases h
  | cons a l ih =>
    rw [List.map_cons, List.find?_cons]
    by_cases e : atN a = atN k
    · have := atN_inj e
      subst this
      simp
    · simp only [e, decide_false]
      rcases List.mem_cons.mp h with rfl | h
      · exact absurd rfl e
      · exact ih h
theorem atN_take (k : Nat) : (atN k).cps.toList.take 3 = [97, 116, 32] := by
  have e : (atN k).cps = ("at " : Str).cps ++ (Str.ofString (toString (k : Int))).cps := rfl
  have h3 : ("at " : Str).cps.toList = [97, 116, 32] := by decide +kernel
  rw [e, Array.toList_append, h3]
  rfl
theorem valA_notin {l : List (Str × AV)} {k : Nat} (h : ∀ e ∈ l, e.1.cps.toList.take 3 ≠ [97, 116, 32]) : valA l (atN k) = none := valA_none fun e he x => h e he (by rw [x]; exact atN_take k)
theorem short_num : ∀ k : Nat, k < 1001 → (Str.ofString (toString (k : Int))).length ≤ 10 := by decide +kernel

open_top hd02 for PySem.Challenge.rw_kq0029_02

local macro_rules | `(tactic| walk_at "lk") => `(tactic| (first
  | assumption
  | with_reducible exact set_same
  | with_reducible exact upd_same
  | ((with_reducible refine (set_ne ?hne).trans ?hgo); (case hne => decide); (case hgo => walk_at "lk"))
  | ((with_reducible refine (upd_ne ?hne).trans ?hgo); (case hne => decide); (case hgo => walk_at "lk"))
  | ((with_reducible refine put_m.trans ?_); walk_at "lk")
  | ((with_reducible refine mk_m.trans ?_); walk_at "lk")))
local macro_rules | `(tactic| walk_at "w0") => `(tactic| (first
  | with_reducible refine TS.cons ?_
  | with_reducible refine TS.nil ?_
  | ((with_reducible refine TX.assign ?hh ?hs); (case hs => rfl))
  | ((with_reducible refine TX.assignSub ?hh ?hs); (case hs => rfl))
  | ((with_reducible refine TX.expr ?hh (noInter (by assumption) ?h1) ?h2); (case h1 => rfl); (case h2 => rfl))
  | with_reducible refine TX.ifS ?_
  | with_reducible refine TX.ret ?_
  | with_reducible refine TX.aug ?_
  | with_reducible refine TE.cint ?_
  | with_reducible refine TE.cstr ?_
  | with_reducible refine TE.cbool ?_
  | with_reducible refine TE.cnone ?_
  | with_reducible refine TE.bin ?_
  | ((with_reducible refine TE.cmp ?hh ?hs); (case hs => rfl))
  | with_reducible refine TE.un ?_
  | with_reducible refine TE.sub ?_
  | ((with_reducible refine TB.cmp ?hh ?hs); (case hs => rfl))
  | with_reducible refine TB.not ?_
  | with_reducible refine TB.bool ?_
  | with_reducible refine TAll.and_cons ?_
  | with_reducible refine TAll.or_cons ?_
  | with_reducible refine TAll.and_nil ?_
  | with_reducible refine TAll.or_nil ?_
  | with_reducible refine TTr.bool ?_
  | with_reducible refine TL.nil ?_
  | ((with_reducible refine TL.cons ?hh ?hs); (case hs => rfl))
  | with_reducible refine TE.list ?_
  | with_reducible refine TE.tuple ?_
  | with_reducible refine TE.dict0 ?_
  | ((with_reducible refine TSt.local (by assumption) ?h1 ?hh); (case h1 => rfl))
  | ((with_reducible refine TSt.cell (by assumption) ?h1 ?hh); (case h1 => rfl))
  | ((with_reducible refine' TE.name (TLd.local (by assumption) ?h1 ?h2 ?hh) ?hd); (case h1 => rfl); (case hd => decide); (case h2 => walk_at "lk"))
  | ((with_reducible refine' TE.name (TLd.cell (by assumption) ?h1 ?h2 ?hh) ?hd); (case h1 => rfl); (case hd => decide); (case h2 => walk_at "lk"))
  | ((with_reducible refine' TE.globK (by assumption) (by assumption) ?h1 ?h2 ?h3 ?hh ?hd); (case h1 => rfl); (case hd => decide); (case h2 => rfl); (case h3 => rfl))
  | ((with_reducible refine' TE.bltnK (by assumption) (by assumption) ?h1 ?h2 ?h3 ?h4 ?h5 ?hh ?hd); (case h1 => rfl); (case hd => decide); (case h2 => rfl); (case h3 => decide); (case h4 => rfl); (case h5 => rfl))
  | ((with_reducible refine TE.call ?hh ?he ?hp); (case he => rfl); (case hp => intro _; rfl))
  | (with_reducible refine TE.call0 ?_)
  | ((with_reducible refine' TE.meth ?hm ?hh ?he ?hp); (case hm => exact rfl); (case he => rfl); (case hp => intro _; rfl))
  | ((with_reducible refine' TE.meth0 ?hm ?hh); (case hm => exact rfl))
  | ((with_reducible refine TE.attr ?hm ?hh); (case hm => exact rfl))
  | refine ⟨_, rfl, Cl.builtin _, ?_⟩
  | refine ⟨_, rfl, Cl.type _, ?_⟩
  | with_reducible refine TAsg.names2 (by assumption) ?_
  | with_reducible refine TAsg.names3 (by assumption) ?_
  | with_reducible refine TAsg.names4 (by assumption) ?_
  | with_reducible refine TAsg.name ?_
  | with_reducible refine TOrd.cons ?_
  | with_reducible refine TOrd.nil ?_
  | with_reducible refine TBin.addI ?_
  | with_reducible refine TBin.subI ?_
  | with_reducible refine TCmp.ltI ?_
  | with_reducible refine TCmp.gtI ?_
  | with_reducible refine TCmp.geI ?_
  | with_reducible refine TUn.neg ?_
  | ((with_reducible refine TB.value ?hh ?hs); (case hs => rfl))))
local macro_rules | `(tactic| walk_at "w") => `(tactic| first | (walk_at "w0"; try dsimp only [andThen, FEnd, WEnd]) | (dsimp only [andThen, FEnd, WEnd]; walk_at "w0"; try dsimp only [andThen, FEnd, WEnd]))
local macro_rules | `(tactic| walk_at "ws") => `(tactic| repeat (walk_at "w"))
local macro_rules | `(tactic| walk_at "cl") => `(tactic| (first | exact Cl.builtin _ | exact Cl.type _))

local macro_rules | `(tactic| walk_at "si") => `(tactic| repeat (first | walk_at "w" | simp only [String.reduceEq, decide_true, decide_false, Bool.not_true, Bool.not_false, Bool.false_eq_true, if_true, if_false, reduceCtorEq, Option.isSome_some, Option.isSome_none]))

def keyD (P : Params) : Σ' (body : List Stmt) (scope : Scope) (fd : FuncData), FnAt (hd02.heap_39 P) 64 body scope fd :=
  ⟨_, _, _, ⟨⟨_, _, _, _, _, _, _, _, _, _, _, _, _, rfl, rfl, rfl⟩, by decide, rfl, rfl, rfl⟩⟩

def four : List Str := ["", "a", " A.0 ", "dict"]
theorem four_ok : ∀ x ∈ four, PyData.strOk x = true := by decide +kernel
theorem four_at : ∀ x ∈ four, x.cps.toList.take 3 ≠ [97, 116, 32] := by decide +kernel
def Ext (H H' : AH) : Prop := ∀ a o, H a = some o → H' a = some o
theorem Ext.refl (H : AH) : Ext H H := fun _ _ e => e
theorem Ext.trans {H H1 H2 : AH} (x : Ext H H1) (y : Ext H1 H2) : Ext H H2 := fun a o e => y a o (x a o e)
theorem Ext.put {H H1 : AH} {a : Addr} {o : AO} (x : Ext H H1) (h : H a = none) : Ext H (H1.put a o) := fun b p e => by
  rw [AH.put_ne]; exact x b p e
  intro q; subst q; rw [h] at e; cases e

theorem key_walk (P : Params) {C : Cx} {n : Nat} (W : Wd (hd02.heap_39 P) C n) (hn : n ≤ 50) (hs : C.env.scope = (keyD P).2.1) {m : Str → Option AV} {H : AH} {i : Int} (hv : m "n" = some (.int i)) :
    TS C (keyD P).1 ⟨m, H⟩ fun fl σ' => ∃ q : List Str, q.length ≤ 200 ∧ (∀ x ∈ q, x ∈ four) ∧ retOf fl = .tup (q.map .str) ∧ Ext H σ'.H := by
  unfold keyD; dsimp only
  walk_at "ws"
  refine ⟨by simp, fun l hl => ?_⟩
  walk_at "ws"
  refine TX.while W.calm.loops (fun k σ => ∃ (i : Int) (q : List Str), k = 200 - q.length ∧ q.length ≤ 200 ∧ (∀ x ∈ q, x ∈ four) ∧ σ.m "n" = some (.int i) ∧ σ.m "key" = some (.con (.ref l)) ∧ σ.H l = some (.list (q.map .str)) ∧ Ext H σ.H) 200
    ⟨i, [], rfl, by simp, by simp, by walk_at "lk", by walk_at "lk", putH_self, (Ext.refl H).put hl⟩ ?_
  rintro k σ1 ⟨i, q, rfl, hq, h4, h1, h2, h3, h5⟩
  walk_at "ws"
  have done : ∀ σ1, σ1.m "key" = some (.con (.ref l)) → σ1.H l = some (.list (q.map .str)) → Ext H σ1.H → TCall C (.type "tuple") [.con (.ref l)] σ1 fun a σ1 => ∃ q : List Str, q.length ≤ 200 ∧ (∀ x ∈ q, x ∈ four) ∧ a = .tup (q.map .str) ∧ Ext H σ1.H :=
    fun σ1 _ h3 h5 => TCall.tuple h3 (by simp; omega) ⟨q, hq, h4, rfl, h5⟩
  by_cases hi : 0 < i
  · simp only [hi, decide_true, if_true]
    walk_at "ws"
    refine TCall.lenL h3 (by simp; omega) ?_
    walk_at "ws"
    by_cases hl2 : q.length < 200
    · have e : decide (((q.map AV.str).length : Int) < 200) = true := by simp; omega
      simp only [e, if_true]
      refine TAll.and_nil ?_
      simp only [if_true]
      walk_at "ws"
      refine TMeth.list h3 PySem.F.slot_list_append rfl ?_
      walk_at "ws"
      refine ⟨by decide, ?_⟩
      walk_at "ws"
      refine TBin.modI (by decide) ?_
      obtain ⟨j, x, hj, hx, hm⟩ : ∃ j x, seqIndex? ((i - 1).fmod 4) 4 = some j ∧ [AV.str "", AV.str "a", AV.str " A.0 ", AV.str "dict"][j]? = some (AV.str x) ∧ x ∈ four := by
        have h0 : 0 ≤ (i - 1).fmod 4 := Int.fmod_nonneg_of_pos _ (by decide)
        have h4 : (i - 1).fmod 4 < 4 := Int.fmod_lt_of_pos _ (by decide)
        rcases (by omega : (i - 1).fmod 4 = 0 ∨ (i - 1).fmod 4 = 1 ∨ (i - 1).fmod 4 = 2 ∨ (i - 1).fmod 4 = 3) with e | e | e | e <;> rw [e]
        · exact ⟨0, "", rfl, rfl, by decide⟩
        · exact ⟨1, "a", rfl, rfl, by decide⟩
        · exact ⟨2, " A.0 ", rfl, rfl, by decide⟩
        · exact ⟨3, "dict", rfl, rfl, by decide⟩
      have h0 : 0 ≤ (i - 1).fmod 4 := Int.fmod_nonneg_of_pos _ (by decide)
      have h44 : (i - 1).fmod 4 < 4 := Int.fmod_lt_of_pos _ (by decide)
      refine TSub.tup (fun _ _ => ⟨_, rfl⟩) (by omega) (by omega) hj hx ?_
      walk_at "ws"
      refine TCall.append h3 (by simp; omega) ?_
      walk_at "ws"
      refine TBin.divI (by decide) (by decide) ?_
      walk_at "ws"
      refine ⟨200 - (q ++ [x]).length, by simp; omega, _, q ++ [x], rfl, by simp; omega, ?_, by walk_at "lk", by walk_at "lk", ?_, ?_⟩
      · intro y hy
        rcases List.mem_append.mp hy with hy | hy
        · exact h4 y hy
        · rw [List.mem_singleton.mp hy]; exact hm
      · show (AH.put _ _ _) _ = _
        rw [AH.put_self]; simp
      · exact h5.put hl
    · have e : decide (((q.map AV.str).length : Int) < 200) = false := by simp; omega
      simp only [e, Bool.false_eq_true, if_false]
      walk_at "ws"
      exact done _ h2 h3 h5
  · simp only [hi, decide_false, Bool.false_eq_true, if_false]
    walk_at "ws"
    exact done _ h2 h3 h5

def initD (P : Params) : Σ' (body : List Stmt) (scope : Scope) (fd : FuncData), FnAt (hd02.heap_39 P) 35 body scope fd :=
  ⟨_, _, _, ⟨⟨_, _, _, _, _, _, _, _, _, _, _, _, _, rfl, rfl, rfl⟩, by decide, rfl, rfl, rfl⟩⟩
def nestD (P : Params) : Σ' (body : List Stmt) (scope : Scope) (fd : FuncData), FnAt (hd02.heap_39 P) 43 body scope fd :=
  ⟨_, _, _, ⟨⟨_, _, _, _, _, _, _, _, _, _, _, _, _, rfl, rfl, rfl⟩, by decide, rfl, rfl, rfl⟩⟩

theorem init_walk (P : Params) {C : Cx} {n : Nat} (W : Wd (hd02.heap_39 P) C n) (hn : n ≤ 50) (hs : C.env.scope = (initD P).2.1) {m : Str → Option AV} {H : AH} {x dx : Addr} (hv : m "self" = some (.con (.ref x)))
    (hx : H x = some (.inst 53 dx)) (hd : H dx = some (.dict [])) {Q : AFl → St → Prop} (q : ∀ d, H d = none → Q .next ⟨m, (H.put d (.dict [])).put dx (.dict [("dict", .con (.ref d))])⟩) : TS C (initD P).1 ⟨m, H⟩ Q := by
  have hK := W.K
  unfold initD; dsimp only
  walk_at "ws"
  refine TX.assignAttr ?_
  walk_at "ws"
  intro d hd'
  walk_at "ws"
  have h1 : d ≠ x := fun e => by subst e; rw [hx] at hd'; cases hd'
  have h2 : d ≠ dx := fun e => by subst e; rw [hd] at hd'; cases hd'
  refine TSetA.first (c := 53) (dx := dx) ?_ ?_ (by rw [hK]; rfl) (by rw [hK]; rfl) (by rw [hK]; rfl) (by rw [hK]; rfl) ?_
  · exact (AH.put_ne h1.symm).trans hx
  · exact (AH.put_ne h2.symm).trans hd
  walk_at "ws"
  exact q d hd'

theorem new_call (P : Params) {C : Cx} {n : Nat} (W : Wd (hd02.heap_39 P) C n) (hn : n ≤ 40) {σ : St} {Q : AV → St → Prop}
    (q : ∀ x dx d, x ≠ dx → x ≠ d → dx ≠ d → σ.H x = none → σ.H dx = none → σ.H d = none → Q (.con (.ref x)) (((σ.put d (.dict [])).put dx (.dict [("dict", .con (.ref d))])).put x (.inst 53 dx))) : TCall C (.ref 53) [] σ Q := by
  have hK := W.K
  refine TCall.cls (f := 35) (p := "self") (body := (initD P).1) (scope := (initD P).2.1) (fd := (initD P).2.2.1) (by rw [hK]; exact (initD P).2.2.2) (by rw [hK]; rfl) (by rw [hK]; rfl) (by rw [hK]; rfl) ?_ (by rfl) ?_ ?_
  · show C.A.depth + 1 < 1000
    have := W.depth; omega
  · intro v s X
    exact kp_binds X fun S => by rw [hK]; rfl
  · intro x dx hx hdx hne env hk eg eb hs
    have W2 : Wd (hd02.heap_39 P) (C.callee (C.A.under (.builtin "type.__call__" ⟨[.ref 53], []⟩)) env hk eg eb) (n + 2) :=
      ⟨W.K, W.B, fun _ _ _ _ h => h, W.hand, by show C.A.depth + 1 + 1 ≤ _; have := W.depth; omega, by
        show C.A.units + Code.cUnits _ + 3 ≤ _
        have := W.units
        have : Code.cUnits (.builtin "type.__call__" ⟨[.ref 53], []⟩) ≤ 10 := by decide +kernel
        omega⟩
    refine init_walk P W2 (by omega) hs (x := x) (dx := dx) (by rfl) AH.put_self ((AH.put_ne hne.symm).trans AH.put_self) fun d hd => ⟨rfl, ?_⟩
    have h1 : d ≠ x := fun e => by subst e; rw [AH.put_self] at hd; cases hd
    have h2 : d ≠ dx := fun e => by subst e; rw [AH.put_ne hne.symm, AH.put_self] at hd; cases hd
    have h3 : σ.H d = none := ((AH.put_ne h2).symm.trans (AH.put_ne h1).symm).trans hd
    have e : ((((σ.H.put dx (.dict [])).put x (.inst 53 dx)).put d (.dict [])).put dx (.dict [("dict", .con (.ref d))])) = (((σ.put d (.dict [])).put dx (.dict [("dict", .con (.ref d))])).put x (.inst 53 dx)).H := by
      funext b
      show AH.put (AH.put (AH.put (AH.put σ.H dx _) x _) d _) dx _ b = AH.put (AH.put (AH.put σ.H d _) dx _) x _ b
      unfold AH.put
      by_cases b1 : b = dx
      · subst b1; simp [hne.symm]
      · by_cases b2 : b = d
        · subst b2; simp [b1, h1]
        · by_cases b3 : b = x
          · subst b3; simp [b1, b2]
          · simp [b1, b2, b3]
    show Q _ ⟨σ.m, ((((σ.H.put dx (.dict [])).put x (.inst 53 dx)).put d (.dict [])).put dx (.dict [("dict", .con (.ref d))]))⟩
    rw [e]
    exact q x dx d hne h1.symm h2.symm hx hdx h3

def nestBody (P : Params) : List Stmt := match (nestD P).1 with
  | [_, .For _ _ b _ _, _] => b
  | _ => []

section
variable {P : Params} {C : Cx} {n : Nat} {σ : St} {c d : Addr} {es es' : List (Str × AV)} {nm : Str} {b : Bool} {Q : AFl → St → Prop}
theorem nest_tail (W : Wd (hd02.heap_39 P) C n) (hs : C.env.scope = (nestD P).2.1) (hc : σ.m "cont" = some (.con (.ref d))) (ha : σ.m "access_lists" = some (.con (.bool b))) (hd : σ.H d = some (.dict es)) (q : Q .next σ) :
    TS C ((nestBody P).drop 2) σ Q := by
  unfold nestBody nestD; dsimp only [List.drop]
  have ty := TyOf.dict (H := σ.H) (.inl hd)
  walk_at "ws"
  cases b
  · walk_at "si"
    refine TCall.isinst ty (by decide) (.inr (.inl rfl)) ?_
    walk_at "ws"
    walk_at "si"
    exact q
  · walk_at "si"
    refine TCall.isinst ty (by decide) (.inl rfl) ?_
    walk_at "ws"
    walk_at "si"
    refine TCall.isinst ty (by decide) (.inr (.inl rfl)) ?_
    walk_at "ws"
    walk_at "si"
    exact q
theorem nest_tail_list (W : Wd (hd02.heap_39 P) C n) (hs : C.env.scope = (nestD P).2.1) {l : Addr} {xs : List AV} (hc : σ.m "cont" = some (.con (.ref l))) (ha : σ.m "access_lists" = some (.con (.bool true))) (hl : σ.H l = some (.list (xs ++ [.con (.ref d)]))) (hd : σ.H d = some (.dict es))
    (q : Q .next (σ.set "cont" (.con (.ref d)))) : TS C ((nestBody P).drop 2) σ Q := by
  unfold nestBody nestD; dsimp only [List.drop]
  have ty := TyOf.dict (H := σ.H) (.inl hd)
  have tl := TyOf.list (H := σ.H) hl
  walk_at "si"
  refine TCall.isinst tl (by decide) (.inl rfl) ?_
  walk_at "si"
  refine TSub.listLast (by intro _ _; exact ⟨_, rfl⟩) hl ?_
  walk_at "ws"
  refine TCall.isinst (σ := σ.set "cont" (.con (.ref d))) ty (by decide) (.inr (.inl rfl)) ?_
  walk_at "si"
  exact q
theorem nest_turn (W : Wd (hd02.heap_39 P) C n) (hs : C.env.scope = (nestD P).2.1) (hc : σ.m "cont" = some (.con (.ref c))) (hk : σ.m "k" = some (.str nm)) (hH : σ.H c = some (.dict es)) {v : AV} (hv : valA es nm = some v)
    (q : TS C ((nestBody P).drop 2) (σ.set "cont" v) Q) : TS C (nestBody P) σ Q := by
  unfold nestBody nestD at q ⊢; dsimp only [List.drop] at q ⊢
  walk_at "ws"
  refine TCmp.notInDict (.inl hH) ?_
  rw [hv]
  walk_at "si"
  refine TSub.dict (by intro _ _; exact ⟨_, rfl⟩) (.inl hH) hv ?_
  walk_at "w"
  exact q
theorem nest_turn_new (W : Wd (hd02.heap_39 P) C n) (hs : C.env.scope = (nestD P).2.1) (hc : σ.m "cont" = some (.con (.ref c))) (hk : σ.m "k" = some (.str nm)) (ha : σ.m "access_lists" = some (.con (.bool b))) (hH : σ.H c = some (.dict es)) (hv : valA es nm = none) (hz : es.length ≤ 16777215)
    (q : ∀ d, σ.H d = none → Q .next (((σ.put d (.dict [])).put c (.dict (es ++ [(nm, .con (.ref d))]))).set "cont" (.con (.ref d)))) : TS C (nestBody P) σ Q := by
  unfold nestBody nestD; dsimp only [List.drop]
  walk_at "ws"
  refine TCmp.notInDict (.inl hH) ?_
  rw [hv]
  walk_at "si"
  intro d hd
  walk_at "ws"
  have hne : c ≠ d := fun e => by subst e; rw [hH] at hd; cases hd
  refine TSet.dict (es := es) ((AH.put_ne hne).trans hH) hz ?_
  rw [storeA_new hv]
  walk_at "ws"
  refine TSub.dict (by intro _ _; exact ⟨_, rfl⟩) (.inl AH.put_self) (a := .con (.ref d)) ?_ ?_
  · rw [valA_append, hv]; unfold valA; simp
  walk_at "w"
  exact nest_tail (P := P) W hs (set_same) ha ((AH.put_ne hne.symm).trans AH.put_self) (q d hd)
end

theorem nxt_length {qs : List (List Str)} {p : List Str} : (nxt qs p).length ≤ qs.length := by
  have key : ∀ (qs : List (List Str)) (acc : List Str), (qs.foldl (step p) acc).length ≤ acc.length + qs.length := by
    intro qs
    induction qs with
    | nil => intro acc; simp
    | cons q r ih =>
      intro acc
      rw [List.foldl_cons]
      refine Nat.le_trans (ih _) ?_
      have : (step p acc q).length ≤ acc.length + 1 := by
        unfold step addNew
        split
        · split
          · omega
          · simp
        · omega
      simp only [List.length_cons]; omega
  simpa [nxt] using key qs []

structure Grown (ad ad' : Lab → Addr) (ks ks' : Tid → List (List Str)) (pre : Lab → List (Str × AV)) (mk : Lab → List Nat) (H H' : AH) : Prop where
  lay : Lay ad' ks' pre mk H'
  same : ∀ l : Lab, Has (ks l.1) l.2 → ad' l = ad l
  rest : ∀ a o, H a = some o → (∀ l : Lab, Has (ks l.1) l.2 → ad l ≠ a) → H' a = some o
  old : ∀ l : Lab, Has (ks l.1) l.2 → Has (ks' l.1) l.2
  new : ∀ l : Lab, Has (ks' l.1) l.2 → Has (ks l.1) l.2 ∨ H (ad' l) = none
theorem Grown.fresh {ad ad' : Lab → Addr} {ks ks' : Tid → List (List Str)} {pre : Lab → List (Str × AV)} {mk : Lab → List Nat} {H H' : AH} (G : Grown ad ad' ks ks' pre mk H H') {d : Addr} (hd : H' d = none) : H d = none := by
  cases e : H d with
  | none => rfl
  | some o =>
    by_cases h : ∃ l : Lab, Has (ks l.1) l.2 ∧ ad l = d
    · obtain ⟨l, h1, h2⟩ := h
      have := G.lay.at_ l (G.old l h1)
      rw [G.same l h1, h2, hd] at this; cases this
    · have := G.rest d o e fun l h1 h2 => h ⟨l, h1, h2⟩
      rw [hd] at this; cases this

structure Trees (ad : Lab → Addr) (ks : Tid → List (List Str)) (pre : Lab → List (Str × AV)) (H : AH) : Prop where
  lay : Lay ad ks pre (fun _ => []) H
  pre0 : ∀ l : Lab, l.2 ≠ [] → pre l = []
  preN : ∀ l : Lab, ∀ e ∈ pre l, e.1 = "list"
  preL : ∀ l : Lab, (pre l).length ≤ 1
  len : ∀ t, (ks t).length ≤ 1000
  names : ∀ t, ∀ q ∈ ks t, ∀ x ∈ q, x ∈ four

theorem nest_walk (P : Params) {C : Cx} {n : Nat} (W : Wd (hd02.heap_39 P) C n) (hn : n ≤ 50) (hs : C.env.scope = (nestD P).2.1) {m : Str → Option AV} {H : AH} {x dx : Addr} {ad : Lab → Addr} {ks : Tid → List (List Str)} {pre : Lab → List (Str × AV)} {k : Nat} {b : Bool} {q : List Str}
    (h1 : m "self" = some (.con (.ref x))) (h2 : m "key" = some (.tup (if b then .str "list" :: q.map .str else q.map .str))) (h3 : m "access_lists" = some (.con (.bool b)))
    (hx : H x = some (.inst 53 dx)) (hdx : H dx = some (.dict [("dict", .con (.ref (ad ((k, false), []))))])) (T : Trees ad ks pre H) (r0 : Has (ks (k, false)) []) (r1 : Has (ks (k, b)) []) (hq : ∀ y ∈ q, y ∈ four)
    (hl : b = true → ∃ l xs, pre ((k, false), []) = [(("list" : Str), AV.con (.ref l))] ∧ H l = some (.list (xs ++ [.con (.ref (ad ((k, true), [])))]))) :
    TS C (nestD P).1 ⟨m, H⟩ fun fl σ' => ∃ ad', Grown ad ad' ks (addK ks (k, b) q) pre (fun _ => []) H σ'.H ∧ retOf fl = .con (.ref (ad' ((k, b), q))) := by
  have hK := W.K
  have hb : nestBody P = nestBody P := rfl
  unfold nestBody at hb
  unfold nestD at hb ⊢; dsimp only at hb ⊢
  walk_at "ws"
  refine TAttr.inst hx hdx (by rw [hK]; rfl) (by rw [hK]; rfl) (by rw [hK]; rfl) (a := .con (.ref (ad ((k, false), [])))) (by rfl) ⟨_, rfl⟩ ?_
  walk_at "ws"
  refine TX.for W.calm.loops ?_ (by intro _; rfl)
  walk_at "ws"
  refine ⟨_, _, fun i σ => ∃ ad' j c, Grown ad ad' ks (addK ks (k, b) (q.take j)) pre (fun _ => []) H σ.H ∧ σ.m "cont" = some (.con (.ref c)) ∧ σ.m "access_lists" = some (.con (.bool b)) ∧
    ((b = true ∧ i = 0 ∧ j = 0 ∧ c = ad' ((k, false), [])) ∨ (i = j + (if b then 1 else 0) ∧ j ≤ q.length ∧ c = ad' ((k, b), q.take j))), IterAs.tuple W.hand, fun _ _ _ _ => trivial, ?_, ?_, ?_⟩
  · refine ⟨ad, 0, _, ⟨?_, fun _ _ => rfl, fun _ _ h _ => h, fun l h => Has.addK h, ?_⟩, by walk_at "lk", by walk_at "lk", ?_⟩
    · rw [List.take_zero]; exact T.lay.start r1
    · intro l h
      left
      by_cases e : l.1 = (k, b)
      · rw [e, addK_same] at h
        obtain ⟨z, hz, y⟩ := h
        rcases List.mem_append.mp hz with hz | hz
        · rw [e]; exact ⟨z, hz, y⟩
        · rw [List.mem_singleton.mp hz, List.take_zero] at y
          have : l.2 = [] := by simpa using y.symm
          rw [this, e]; exact r1
      · rwa [addK_ne e] at h
    · cases b
      · exact .inr ⟨rfl, Nat.zero_le _, rfl⟩
      · exact .inl ⟨rfl, rfl, rfl, rfl⟩
  · rintro i y σ2 hy ⟨ad', j, c, G, c1, c2, hc⟩
    refine TAsg.name ?_
    walk_at "w"
    show TS C (nestBody P) _ _
    have keepc : ((σ2.set "k" y).m "cont" = some (.con (.ref c))) := by walk_at "lk"
    have keepa : ((σ2.set "k" y).m "access_lists" = some (.con (.bool b))) := by walk_at "lk"
    rcases hc with ⟨rfl, rfl, rfl, rfl⟩ | ⟨rfl, hj, rfl⟩
    · obtain ⟨l, xs, p1, p2⟩ := hl rfl
      have hy' : y = .str "list" := by simpa using hy.symm
      subst hy'
      have hr : Has (addK ks (k, true) (q.take 0) ((k, false), ([] : List Str)).1) ((k, false), ([] : List Str)).2 := Has.addK (l := ((k, false), [])) r0
      have hr1 : Has (addK ks (k, true) (q.take 0) ((k, true), ([] : List Str)).1) ((k, true), ([] : List Str)).2 := Has.addK (l := ((k, true), [])) r1
      have hc0 := G.lay.at_ _ hr
      have hc1 := G.lay.at_ _ hr1
      have hl2 : σ2.H l = some (.list (xs ++ [.con (.ref (ad ((k, true), [])))])) := G.rest _ _ p2 fun l' hl' e => by have := T.lay.at_ l' hl'; rw [e, p2] at this; cases this
      rw [← G.same ((k, true), []) r1] at hl2
      refine nest_turn W hs keepc (by walk_at "lk") hc0 (v := .con (.ref l)) ?_ ?_
      · unfold ents; rw [p1]; rfl
      · refine nest_tail_list W hs set_same (by walk_at "lk") hl2 hc1 ?_
        refine ⟨ad', 0, _, G, set_same, by walk_at "lk", .inr ⟨rfl, Nat.zero_le _, ?_⟩⟩
        rw [List.take_zero]
    · have hjl : j < q.length := by
        have := (List.getElem?_eq_some_iff.mp hy).1
        cases b <;> simp at this <;> omega
      have hy' : y = .str q[j] := by
        cases b
        · simp only [Bool.false_eq_true, if_false, Nat.add_zero, List.getElem?_map] at hy
          rw [List.getElem?_eq_getElem hjl] at hy
          simpa using hy.symm
        · simp only [if_true, List.getElem?_cons_succ, List.getElem?_map] at hy
          rw [List.getElem?_eq_getElem hjl] at hy
          simpa using hy.symm
      subst hy'
      have hcur : Has (addK ks (k, b) (q.take j) ((k, b), q.take j).1) ((k, b), q.take j).2 := Has.last (l := ((k, b), q.take j)) rfl (by rw [List.take_of_length_le (Nat.le_refl _)])
      have hc0 := G.lay.at_ _ hcur
      have hx4 : q[j] ∈ four := hq _ (List.getElem_mem hjl)
      have hval := ents_name (ad := ad') (ks := addK ks (k, b) (q.take j)) (pre := pre) (mk := fun _ => []) (l := ((k, b), q.take j)) (x := q[j]) (fun e he h => by
        rw [← h, T.preN _ e he] at hx4; exact absurd hx4 (by decide)) rfl
      have htk : q.take (j + 1) = q.take j ++ [q[j]] := by rw [List.take_succ]; simp [hjl]
      by_cases hm : q[j] ∈ nxt (addK ks (k, b) (q.take j) (k, b)) (q.take j)
      · rw [if_pos hm] at hval
        have hnew : Has (addK ks (k, b) (q.take j) (k, b)) (q.take j ++ [q[j]]) := has_snoc.mpr hm
        have hc1 := G.lay.at_ ((k, b), q.take j ++ [q[j]]) hnew
        refine nest_turn W hs keepc (by walk_at "lk") hc0 hval ?_
        refine nest_tail W hs set_same (by walk_at "lk") hc1 ?_
        refine ⟨ad', j + 1, _, ⟨G.lay.old hjl hm, G.same, G.rest, fun l h => Has.addK h, fun l h => ?_⟩, set_same, by walk_at "lk", .inr ⟨by omega, hjl, ?_⟩⟩
        · rcases has_next hjl h with h | rfl
          · exact G.new l h
          · exact G.new _ hnew
        · rw [htk]
      · rw [if_neg hm] at hval
        refine nest_turn_new W hs keepc (by walk_at "lk") keepa hc0 hval ?_ fun d hd => ?_
        · have h1 := nxt_length (qs := addK ks (k, b) (q.take j) (k, b)) (p := q.take j)
          rw [addK_same, List.length_append, List.length_singleton] at h1
          have h2 := T.len (k, b)
          have h3 := T.preL ((k, b), q.take j)
          unfold ents
          simp only [List.length_append, List.length_map, List.map_nil, List.length_nil]
          rw [addK_same]
          omega
        · have hd' : σ2.H d = none := hd
          have hne : ad' ((k, b), q.take j) ≠ d := fun e => by rw [e, hd'] at hc0; cases hc0
          refine ⟨adNew ad' ((k, b), q.take j ++ [q[j]]) d, j + 1, _, ⟨?_, fun l hl => ?_, fun a o ha hal => ?_, fun l h => Has.addK h, fun l h => ?_⟩, set_same, by walk_at "lk", .inr ⟨by omega, hjl, ?_⟩⟩
          · refine G.lay.new hjl hm hd' (fun _ => rfl) T.pre0 _ ((AH.put_ne hne.symm).trans AH.put_self) AH.put_self fun a h1 h2 => (AH.put_ne h2).trans (AH.put_ne h1)
          · have : l ≠ ((k, b), q.take j ++ [q[j]]) := fun e => by subst e; exact hm (has_snoc.mp (Has.addK hl))
            unfold adNew; rw [if_neg this]; exact G.same l hl
          · have h4 := G.rest a o ha hal
            have h5 : a ≠ d := fun e => by rw [e, hd'] at h4; cases h4
            have h6 : a ≠ ad' ((k, b), q.take j) := fun e => by
              rcases G.new _ hcur with h | h
              · exact hal _ h (by rw [← G.same _ h]; exact e.symm)
              · rw [← e, ha] at h; cases h
            exact (AH.put_ne h6).trans ((AH.put_ne h5).trans h4)
          · rcases has_next hjl h with h | rfl
            · have : l ≠ ((k, b), q.take j ++ [q[j]]) := fun e => by subst e; exact hm (has_snoc.mp h)
              unfold adNew; rw [if_neg this]; exact G.new l h
            · right
              simp only [adNew, if_true]
              exact G.fresh hd'
          · rw [htk]; simp [adNew]
  · rintro σ2 ⟨ad', j, c, G, c1, c2, hc⟩
    have hlen : (if b = true then AV.str "list" :: q.map AV.str else q.map AV.str).length = q.length + (if b then 1 else 0) := by cases b <;> simp
    rcases hc with ⟨rfl, h0, rfl, rfl⟩ | ⟨h0, hj, rfl⟩
    · simp at h0
    · have : j = q.length := by rw [hlen] at h0; omega
      subst this
      rw [List.take_of_length_le (Nat.le_refl _)] at G c1
      walk_at "si"
      exact ⟨ad', G, rfl⟩

section
variable {P : Params} {C : Cx} {n : Nat} {σ : St} {x dx : Addr} {ad : Lab → Addr} {ks : Tid → List (List Str)} {pre : Lab → List (Str × AV)} {k : Nat} {q : List Str} {Q : AV → St → Prop}
theorem two_of {vs : List Value} (h : vs.length = 2) : ∃ v w, vs = [v, w] := by
  match vs, h with
  | [v, w], _ => exact ⟨v, w, rfl⟩
theorem nest_meth (W : Wd (hd02.heap_39 P) C n) (hx : σ.H x = some (.inst 53 dx)) {d : AV} (hdx : σ.H dx = some (.dict [("dict", d)])) {Q : AV × List AV → St → Prop} (q : Q (.con (.ref 43), [.con (.ref x)]) σ) : TMeth C (.con (.ref x)) "get_or_create_nest" σ Q := by
  have hK := W.K
  exact TMeth.inst hx hdx (by rw [hK]; rfl) (by rw [hK]; rfl) (by rw [hK]; rfl) (by rfl) q
theorem nest_call_in (W : Wd (hd02.heap_39 P) C n) (hn : n ≤ 40) (hx : σ.H x = some (.inst 53 dx)) (hdx : σ.H dx = some (.dict [("dict", .con (.ref (ad ((k, false), []))))])) (T : Trees ad ks pre σ.H) (r0 : Has (ks (k, false)) []) (r1 : Has (ks (k, true)) []) (hq : ∀ y ∈ q, y ∈ four)
    (hl : ∃ l xs, pre ((k, false), []) = [(("list" : Str), AV.con (.ref l))] ∧ σ.H l = some (.list (xs ++ [.con (.ref (ad ((k, true), [])))])))
    (fin : ∀ ad' H', Grown ad ad' ks (addK ks (k, true) q) pre (fun _ => []) σ.H H' → Q (.con (.ref (ad' ((k, true), q)))) ⟨σ.m, H'⟩) : TCall C (.ref 43) [.con (.ref x), .tup (.str "list" :: q.map .str)] σ Q := by
  have hK := W.K
  refine TCall.user (body := (nestD P).1) (scope := (nestD P).2.1) (fd := (nestD P).2.2.1) (by rw [hK]; exact (nestD P).2.2.2) (ps := ["self", "key"]) (ds := [("access_lists", .bool true)]) rfl (by intro p hp; rw [List.mem_singleton.mp hp]; rfl) (W.room (by omega)) (by rfl) ?_ ?_
  · intro vs s h X
    obtain ⟨v, w, rfl⟩ := two_of h
    exact kp_binds X fun S => by rw [hK]; rfl
  · intro env hk eg eb hs
    refine TV.mono (nest_walk P (W.callee (hk := hk) (eg := eg) (eb := eb)) (by omega) hs (k := k) (b := true) (q := q) (x := x) (dx := dx) (ad := ad) (by rfl) (by rfl) (by rfl) hx hdx T r0 r1 hq fun _ => hl) ?_
    rintro fl σ' ⟨ad', G, e⟩
    rw [e]
    exact fin ad' σ'.H G
theorem nest_call_out (W : Wd (hd02.heap_39 P) C n) (hn : n ≤ 40) (hx : σ.H x = some (.inst 53 dx)) (hdx : σ.H dx = some (.dict [("dict", .con (.ref (ad ((k, false), []))))])) (T : Trees ad ks pre σ.H) (r0 : Has (ks (k, false)) []) (hq : ∀ y ∈ q, y ∈ four)
    (fin : ∀ ad' H', Grown ad ad' ks (addK ks (k, false) q) pre (fun _ => []) σ.H H' → Q (.con (.ref (ad' ((k, false), q)))) ⟨σ.m, H'⟩) : TCallK C (.ref 43) [.con (.ref x), .tup (q.map .str)] "access_lists" (.con (.bool false)) σ Q := by
  have hK := W.K
  refine TCallK.user (body := (nestD P).1) (scope := (nestD P).2.1) (fd := (nestD P).2.2.1) (by rw [hK]; exact (nestD P).2.2.2) (ps := ["self", "key"]) rfl (W.room (by omega)) (by rfl) ?_ ?_
  · intro vs u s h X
    obtain ⟨v, w, rfl⟩ := two_of h
    exact kp_binds X fun S => by rw [hK]; rfl
  · intro env hk eg eb hs
    refine TV.mono (nest_walk P (W.callee (hk := hk) (eg := eg) (eb := eb)) (by omega) hs (k := k) (b := false) (q := q) (x := x) (dx := dx) (ad := ad) (by rfl) (by rfl) (by rfl) hx hdx T r0 r0 hq fun h => by cases h) ?_
    rintro fl σ' ⟨ad', G, e⟩
    rw [e]
    exact fin ad' σ'.H G
theorem key_call (W : Wd (hd02.heap_39 P) C n) (hn : n ≤ 40) {i : Int} (fin : ∀ (q : List Str) H', q.length ≤ 200 → (∀ x ∈ q, x ∈ four) → Ext σ.H H' → Q (.tup (q.map .str)) ⟨σ.m, H'⟩) : TCall C (.ref 64) [.int i] σ Q := by
  have hK := W.K
  refine TCall.user (body := (keyD P).1) (scope := (keyD P).2.1) (fd := (keyD P).2.2.1) (by rw [hK]; exact (keyD P).2.2.2) (ps := ["n"]) (ds := []) rfl (by simp) (W.room (by omega)) (by rfl) ?_ ?_
  · intro vs s h X
    obtain ⟨v, rfl⟩ : ∃ v, vs = [v] := by
      match vs, h with
      | [v], _ => exact ⟨v, rfl⟩
    exact kp_binds X fun S => by rw [hK]; rfl
  · intro env hk eg eb hs
    refine TV.mono (key_walk P (W.callee (hk := hk) (eg := eg) (eb := eb)) (by omega) hs (i := i) (by rfl)) ?_
    rintro fl σ' ⟨q, h1, h2, e, h3⟩
    rw [e]
    exact fin q σ'.H h1 h2 h3
end

def holdsD (P : Params) : Σ' (body : List Stmt) (scope : Scope) (fd : FuncData), FnAt (hd02.heap_39 P) 69 body scope fd :=
  ⟨_, _, _, ⟨⟨_, _, _, _, _, _, _, _, _, _, _, _, _, rfl, rfl, rfl⟩, by decide, rfl, rfl, rfl⟩⟩

def rowA (r : Row) : AV := .tup [.tup (r.1.map .str), .int (r.2 : Int)]
def entA (adp : List Str → Addr) (e : List Str × Addr) : AV := .tup [.con (.ref (adp e.1)), .int (e.1.length : Int), .con (.ref e.2)]
def contA (adp : List Str → Addr) (rows : List Row) (p : List Str) : List (Str × AV) :=
  (nxt (rows.map (·.1)) p).map (fun x => (x, AV.con (.ref (adp (p ++ [x]))))) ++ (marksAt rows p).map fun n => (atN n, AV.int (n : Int))
def NodeP (rows : List Row) (p : List Str) : Prop := p = [] ∨ Has (rows.map (·.1)) p
structure TreeP (adp : List Str → Addr) (rows : List Row) (H : AH) : Prop where
  at_ : ∀ p, NodeP rows p → H (adp p) = some (.dict (contA adp rows p))
  names : ∀ r ∈ rows, ∀ x ∈ r.1, x ∈ four
  deep : ∀ r ∈ rows, r.1.length ≤ 200
  few : rows.length ≤ 100
  small : ∀ r ∈ rows, r.2 ≤ 1000

structure Pend (P : Params) (adp : List Str → Addr) (rows : List Row) (H : AH) (pl : Addr) (es : List (List Str × Addr)) (σ : St) : Prop where
  m : σ.m "pending" = some (.con (.ref pl))
  at_ : σ.H pl = some (.list (es.map (entA adp)))
  fr : H pl = none
  ext : Ext H σ.H
  ent : ∀ e ∈ es, NodeP rows e.1 ∧ σ.H e.2 = some (.list ((rowsAt rows e.1).map rowA)) ∧ e.2 ≠ pl

section
variable {P : Params} {adp : List Str → Addr} {rows : List Row} {H : AH} {pl : Addr} {es : List (List Str × Addr)} {σ : St}
theorem Pend.alloc (I : Pend P adp rows H pl es σ) {b : Addr} {o : AO} (hb : σ.H b = none) : Pend P adp rows H pl es (σ.put b o) := by
  have h1 : pl ≠ b := fun e => by have := I.at_; rw [e, hb] at this; cases this
  have h2 : H b = none := by
    cases e : H b with
    | none => rfl
    | some o => have := I.ext b o e; rw [hb] at this; cases this
  refine ⟨I.m, (AH.put_ne h1).trans I.at_, I.fr, I.ext.put h2, fun e he => ?_⟩
  obtain ⟨a1, a2, a3⟩ := I.ent e he
  exact ⟨a1, (AH.put_ne fun x => by rw [x, hb] at a2; cases a2).trans a2, a3⟩
theorem Pend.set (I : Pend P adp rows H pl es σ) {x : Str} {v : AV} (hx : "pending" ≠ x) : Pend P adp rows H pl es (σ.set x v) := ⟨(set_ne hx).trans I.m, I.at_, I.fr, I.ext, I.ent⟩
theorem Pend.pop {e : List Str × Addr} (I : Pend P adp rows H pl (es ++ [e]) σ) : Pend P adp rows H pl es (σ.put pl (.list (es.map (entA adp)))) := by
  refine ⟨I.m, AH.put_self, I.fr, I.ext.put I.fr, fun e he => ?_⟩
  obtain ⟨a1, a2, a3⟩ := I.ent e (List.mem_append_left _ he)
  exact ⟨a1, (AH.put_ne a3).trans a2, a3⟩
end

def GP (rows : List Row) (p : List Str) (i : Nat) : List (Str × List Row) := grp ((rowsAt rows p).take i) p.length
/-- the parts, i rows done; σ4: ahead of it -/
structure PI (adp : List Str → Addr) (rows : List Row) (p : List Str) (ra dp : Addr) (σ4 : St) (i : Nat) (σ : St) : Prop where
  m : ∀ x : Str, x ≠ "parts" → x ≠ "key" → x ≠ "n" → σ.m x = σ4.m x
  parts : σ.m "parts" = some (.con (.ref dp))
  ext : Ext σ4.H σ.H
  la : ∃ la : Str → Addr, σ.H dp = some (.dict ((GP rows p i).map fun e => (e.1, .con (.ref (la e.1))))) ∧ (∀ e ∈ GP rows p i, σ.H (la e.1) = some (.list (e.2.map rowA)) ∧ σ4.H (la e.1) = none) ∧
    (∀ e ∈ GP rows p i, ∀ e' ∈ GP rows p i, la e.1 = la e'.1 → e.1 = e'.1)
section
variable {P : Params} {adp : List Str → Addr} {rows : List Row} {p : List Str} {ra dp pl : Addr} {H : AH} {es : List (List Str × Addr)} {σ4 σ : St} {i : Nat}
theorem PI.start (hdp : σ4.H dp = none) : PI adp rows p ra dp σ4 0 ((σ4.put dp (.dict [])).set "parts" (.con (.ref dp))) :=
  ⟨fun x h _ _ => set_ne h, set_same, (Ext.refl _).put hdp, fun _ => 0, AH.put_self, fun e he => by simp [GP, grp] at he, fun e he => by simp [GP, grp] at he⟩
theorem PI.next (J : PI adp rows p ra dp σ4 i σ) {r : Row} (hr : (rowsAt rows p)[i]? = some r) : (rowsAt rows p).take (i + 1) = (rowsAt rows p).take i ++ [r] := by
  rw [List.take_succ, hr]; rfl
theorem PI.skip (J : PI adp rows p ra dp σ4 i σ) {r : Row} (hr : (rowsAt rows p)[i]? = some r) (hd : r.1[p.length]? = none) {a b : AV} : PI adp rows p ra dp σ4 (i + 1) ((σ.set "key" a).set "n" b) := by
  have e : GP rows p (i + 1) = GP rows p i := by unfold GP; rw [J.next hr, grp_snoc]; unfold stepG; rw [hd]
  obtain ⟨la, l1, l2, l3⟩ := J.la
  refine ⟨fun x h1 h2 h3 => (set_ne h3).trans ((set_ne h2).trans (J.m x h1 h2 h3)), (set_ne (by decide)).trans ((set_ne (by decide)).trans J.parts), J.ext, la, ?_, ?_, ?_⟩
  · rw [e]; exact l1
  · rw [e]; exact l2
  · rw [e]; exact l3
/-- a row put to the list that is under its name -/
theorem PI.there (J : PI adp rows p ra dp σ4 i σ) {r : Row} {y : Str} (hr : (rowsAt rows p)[i]? = some r) (hd : r.1[p.length]? = some y) (la : Str → Addr) (l1 : σ.H dp = some (.dict ((GP rows p i).map fun e => (e.1, .con (.ref (la e.1))))))
    (l2 : ∀ e ∈ GP rows p i, σ.H (la e.1) = some (.list (e.2.map rowA)) ∧ σ4.H (la e.1) = none) (l3 : ∀ e ∈ GP rows p i, ∀ e' ∈ GP rows p i, la e.1 = la e'.1 → e.1 = e'.1) {g : List Row} (hy : (y, g) ∈ GP rows p i) {a b : AV} {lb : Addr} (hb : σ.H lb = none) :
    PI adp rows p ra dp σ4 (i + 1) (((((σ.set "key" a).set "n" b).put lb (.list [])).put (la y) (.list (g.map rowA ++ [rowA r])))) := by
  have hk : y ∈ (GP rows p i).map (·.1) := List.mem_map.mpr ⟨_, hy, rfl⟩
  have e : GP rows p (i + 1) = (GP rows p i).map (fun e => if e.1 = y then (e.1, e.2 ++ [r]) else e) := by
    unfold GP; rw [J.next hr, grp_snoc]; unfold stepG; rw [hd]; dsimp only; unfold insG; exact if_pos hk
  have n4 : ∀ z, σ4.H z = none → z = z := fun _ _ => rfl
  have hb4 : σ4.H lb = none := by
    cases q : σ4.H lb with
    | none => rfl
    | some o => have := J.ext lb o q; rw [hb] at this; cases this
  have ne1 : dp ≠ lb := fun x => by rw [x, hb] at l1; cases l1
  have ne2 : dp ≠ la y := fun x => by rw [x, (l2 _ hy).1] at l1; cases l1
  refine ⟨fun x h1 h2 h3 => (set_ne h3).trans ((set_ne h2).trans (J.m x h1 h2 h3)), (show ((σ.set "key" a).set "n" b).m "parts" = _ from (set_ne (by decide)).trans ((set_ne (by decide)).trans J.parts)), (J.ext.put hb4).put (l2 _ hy).2, la, ?_, ?_, ?_⟩
  · refine (AH.put_ne ne2).trans ((AH.put_ne ne1).trans ?_)
    show σ.H dp = _
    rw [l1, e, List.map_map]
    congr 2
    apply List.map_congr_left
    intro e _
    simp only [Function.comp]
    split <;> rfl
  · intro z hz
    rw [e] at hz
    obtain ⟨z', hz', rfl⟩ := List.mem_map.mp hz
    by_cases hzy : z'.1 = y
    · rw [if_pos hzy]
      dsimp only
      have h1 := (l2 _ hz').1
      have h2 := (l2 _ hy).1
      rw [hzy] at h1 ⊢
      rw [h2] at h1
      have h3 : g.map rowA = z'.2.map rowA := by simpa using h1
      refine ⟨AH.put_self.trans ?_, (l2 _ hy).2⟩
      rw [List.map_append, ← h3]; rfl
    · rw [if_neg hzy]
      have h1 := l2 _ hz'
      refine ⟨(AH.put_ne fun x => hzy (l3 _ hz' _ hy x)).trans ((AH.put_ne fun x => by rw [x, hb] at h1; cases h1.1).trans h1.1), h1.2⟩
  · have key : ∀ z ∈ GP rows p (i + 1), ∃ z' ∈ GP rows p i, z'.1 = z.1 := fun z hz => by
      rw [e] at hz
      obtain ⟨z', hz', rfl⟩ := List.mem_map.mp hz
      refine ⟨z', hz', ?_⟩
      split <;> rfl
    intro z hz z' hz' h
    obtain ⟨u, hu, eu⟩ := key z hz
    obtain ⟨u', hu', eu'⟩ := key z' hz'
    rw [← eu, ← eu'] at h ⊢
    exact l3 u hu u' hu' h
/-- a row put to a list of its own -/
theorem PI.fresh (J : PI adp rows p ra dp σ4 i σ) {r : Row} {y : Str} (hr : (rowsAt rows p)[i]? = some r) (hd : r.1[p.length]? = some y) (la : Str → Addr) (l1 : σ.H dp = some (.dict ((GP rows p i).map fun e => (e.1, .con (.ref (la e.1))))))
    (l2 : ∀ e ∈ GP rows p i, σ.H (la e.1) = some (.list (e.2.map rowA)) ∧ σ4.H (la e.1) = none) (l3 : ∀ e ∈ GP rows p i, ∀ e' ∈ GP rows p i, la e.1 = la e'.1 → e.1 = e'.1) (hy : y ∉ (GP rows p i).map (·.1)) (hdp : σ4.H dp = none) {a b : AV} {lb : Addr} (hb : σ.H lb = none) :
    PI adp rows p ra dp σ4 (i + 1) ((((((σ.set "key" a).set "n" b).put lb (.list [])).put dp (.dict ((GP rows p i).map (fun e => (e.1, .con (.ref (la e.1)))) ++ [(y, .con (.ref lb))]))).put lb (.list ([] ++ [rowA r])))) := by
  have e : GP rows p (i + 1) = GP rows p i ++ [(y, [r])] := by
    unfold GP; rw [J.next hr, grp_snoc]; unfold stepG; rw [hd]; dsimp only; unfold insG; exact if_neg hy
  have hb4 : σ4.H lb = none := by
    cases q : σ4.H lb with
    | none => rfl
    | some o => have := J.ext lb o q; rw [hb] at this; cases this
  have ne1 : dp ≠ lb := fun x => by rw [x, hb] at l1; cases l1
  have nk : ∀ z ∈ GP rows p i, z.1 ≠ y := fun z hz x => hy (List.mem_map.mpr ⟨z, hz, x⟩)
  refine ⟨fun x h1 h2 h3 => (set_ne h3).trans ((set_ne h2).trans (J.m x h1 h2 h3)), (show ((σ.set "key" a).set "n" b).m "parts" = _ from (set_ne (by decide)).trans ((set_ne (by decide)).trans J.parts)), ((J.ext.put hb4).put hdp).put hb4, fun z => if z = y then lb else la z, ?_, ?_, ?_⟩
  · refine (AH.put_ne ne1).trans (AH.put_self.trans ?_)
    rw [e, List.map_append]
    congr 3
    · apply List.map_congr_left
      intro z hz
      dsimp only
      rw [if_neg (nk z hz)]
    · simp
  · intro z hz
    rw [e] at hz
    rcases List.mem_append.mp hz with hz | hz
    · dsimp only
      rw [if_neg (nk z hz)]
      have h1 := l2 _ hz
      have ne2 : la z.1 ≠ lb := fun x => by rw [x, hb] at h1; cases h1.1
      have ne3 : la z.1 ≠ dp := fun x => by rw [x, l1] at h1; cases h1.1
      exact ⟨(AH.put_ne ne2).trans ((AH.put_ne ne3).trans ((AH.put_ne ne2).trans h1.1)), h1.2⟩
    · rw [List.mem_singleton.mp hz]
      dsimp only
      rw [if_pos rfl]
      exact ⟨AH.put_self, hb4⟩
  · intro z hz z' hz' h
    rw [e] at hz hz'
    have old : ∀ z ∈ GP rows p i, la z.1 ≠ lb := fun z hz x => by have h1 := l2 _ hz; rw [x, hb] at h1; cases h1.1
    dsimp only at h
    rcases List.mem_append.mp hz with hz | hz <;> rcases List.mem_append.mp hz' with hz' | hz'
    · rw [if_neg (nk z hz), if_neg (nk z' hz')] at h; exact l3 _ hz _ hz' h
    · rw [List.mem_singleton.mp hz', if_neg (nk z hz), if_pos rfl] at h; exact absurd h (old z hz)
    · rw [List.mem_singleton.mp hz, if_neg (nk z' hz'), if_pos rfl] at h; exact absurd h.symm (old z' hz')
    · rw [List.mem_singleton.mp hz, List.mem_singleton.mp hz']
theorem PI.row (J : PI adp rows p ra dp σ4 i σ) {o : AO} (hr : σ4.H ra = some o) : σ.H ra = some o := J.ext _ _ hr
end

def holdsBody (P : Params) : List Stmt := match (holdsD P).1 with
  | [_, .While _ b _ _, _] => b
  | _ => []
structure Mid (P : Params) (adp : List Str → Addr) (rows : List Row) (H : AH) (pl dp D : Addr) (es' : List (List Str × Addr)) (p : List Str) (la : Str → Addr) (σ : St) : Prop where
  I : Pend P adp rows H pl es' σ
  m1 : σ.m "nest" = some (.con (.ref (adp p)))
  m2 : σ.m "depth" = some (.int (p.length : Int))
  m3 : σ.m "parts" = some (.con (.ref dp))
  m4 : σ.m "marks" = some (.con (.ref D))
  h1 : σ.H dp = some (.dict ((grp (rowsAt rows p) p.length).map fun e => (e.1, .con (.ref (la e.1)))))
  h2 : ∀ e ∈ grp (rowsAt rows p) p.length, σ.H (la e.1) = some (.list (e.2.map rowA)) ∧ la e.1 ≠ pl
  h3 : σ.H D = some (.list ((marksAt rows p).map fun n : Nat => AV.int (n : Int)))
  hdp : H dp = none
abbrev keysA (es : List (Str × AV)) : List AV := es.map fun e => AV.str e.1
theorem put_keep {H : AH} {a b : Addr} {o v : AO} (hb : H b = none) (h : H a = some v) : (H.put b o) a = some v := (AH.put_ne fun x => by rw [x, hb] at h; cases h).trans h
theorem Mid.alloc {P : Params} {adp : List Str → Addr} {rows : List Row} {H : AH} {pl dp D : Addr} {es' : List (List Str × Addr)} {p : List Str} {la : Str → Addr} {σ : St} (M : Mid P adp rows H pl dp D es' p la σ) {b : Addr} {o : AO} (hb : σ.H b = none) : Mid P adp rows H pl dp D es' p la (σ.put b o) :=
  ⟨M.I.alloc hb, M.m1, M.m2, M.m3, M.m4, put_keep hb M.h1, fun e he => ⟨put_keep hb (M.h2 e he).1, (M.h2 e he).2⟩, put_keep hb M.h3, M.hdp⟩
theorem grp_at' {rows : List Row} {p : List Str} : (grp (rowsAt rows p) p.length).length ≤ rows.length := Nat.le_trans (grp_length _ _) (List.length_filter_le _ _)
theorem marks_len {rows : List Row} {p : List Str} : (marksAt rows p).length ≤ rows.length := by unfold marksAt; rw [List.length_map]; exact List.length_filter_le _ _
theorem cont_keys {adp : List Str → Addr} {rows : List Row} {p : List Str} : (contA adp rows p).map (fun e => AV.str e.1) = (grp (rowsAt rows p) p.length).map (fun e => AV.str e.1) ++ (marksAt rows p).map fun n => AV.str (atN n) := by
  unfold contA
  rw [List.map_append, List.map_map, List.map_map, ← grp_keys, List.map_map]
  rfl
theorem cont_len {adp : List Str → Addr} {rows : List Row} {p : List Str} : (contA adp rows p).length ≤ rows.length + rows.length := by
  unfold contA
  rw [List.length_append, List.length_map, List.length_map]
  have h1 := nxt_length (qs := rows.map (·.1)) (p := p)
  rw [List.length_map] at h1
  have h2 := @marks_len rows p
  omega
theorem holds_rest3 {P : Params} {C : Cx} {n : Nat} (W : Wd (hd02.heap_39 P) C n) (hn : n ≤ 50) (hs : C.env.scope = (holdsD P).2.1) {H : AH} {adp : List Str → Addr} {rows : List Row} (T : TreeP adp rows H) {pl dp D : Addr} {es' : List (List Str × Addr)} {p : List Str} (np : NodeP rows p) {σ : St} {la : Str → Addr}
    (M : Mid P adp rows H pl dp D es' p la σ) (hz : es'.length + (grp (rowsAt rows p) p.length).length ≤ 16777215) {Q : AFl → St → Prop}
    (q : ∀ σ', Pend P adp rows H pl (es' ++ (grp (rowsAt rows p) p.length).map fun e => (p ++ [e.1], la e.1)) σ' → Q .next σ') : TS C ((holdsBody P).drop 7) σ Q := by
  have hh := W.hand
  have hu := W.unit (by omega)
  unfold holdsBody holdsD; dsimp only [List.drop]
  have hgl := @grp_at' rows p
  have hfew := T.few
  refine TV.epoch M.h1 fun ep => ?_
  walk_at "w"
  refine TX.for W.calm.loops ?_ (by intro _; rfl)
  have m3 := M.m3
  walk_at "ws"
  refine ⟨_, _, fun i σ' => Pend P adp rows H pl (es' ++ ((grp (rowsAt rows p) p.length).map fun e => (p ++ [e.1], la e.1)).take i) σ' ∧ (∀ x : Str, x ≠ "name" → σ'.m x = σ.m x) ∧ σ'.H dp = some (.dictE ((grp (rowsAt rows p) p.length).map fun e => (e.1, AV.con (.ref (la e.1)))) ep) ∧ ∀ e ∈ grp (rowsAt rows p) p.length, σ'.H (la e.1) = some (.list (e.2.map rowA)), IterAs.keys hh, fun i σ' _ J => J.2.2.1, ⟨?_, fun _ _ => rfl, putH_self, fun e he => (AH.put_ne fun x => by have := (M.h2 e he).1; rw [x, M.h1] at this; cases this).trans (M.h2 e he).1⟩, ?_, ?_⟩
  · rw [List.take_zero, List.append_nil]
    refine ⟨M.I.m, (AH.put_ne fun x => by have := M.I.at_; rw [x, M.h1] at this; cases this).trans M.I.at_, M.I.fr, M.I.ext.put M.hdp, fun e he => ?_⟩
    obtain ⟨a1, a2, a3⟩ := M.I.ent e he
    exact ⟨a1, (AH.put_ne fun x => by rw [x, M.h1] at a2; cases a2).trans a2, a3⟩
  · rintro i x σ2 hx ⟨J1, J2, J3, J4⟩
    rw [List.getElem?_map, List.getElem?_map] at hx
    obtain ⟨e', he', rfl⟩ := Option.map_eq_some_iff.mp hx
    obtain ⟨e, he, rfl⟩ := Option.map_eq_some_iff.mp he'
    have hmem := List.mem_of_getElem? he
    dsimp only
    walk_at "w"
    have k1 : (σ2.set "name" (.str e.1)).m "nest" = _ := (set_ne (by decide)).trans ((J2 "nest" (by decide)).trans M.m1)
    have k2 : (σ2.set "name" (.str e.1)).m "depth" = _ := (set_ne (by decide)).trans ((J2 "depth" (by decide)).trans M.m2)
    have k3 : (σ2.set "name" (.str e.1)).m "parts" = _ := (set_ne (by decide)).trans ((J2 "parts" (by decide)).trans M.m3)
    have k4 : (σ2.set "name" (.str e.1)).m "pending" = _ := (set_ne (by decide)).trans J1.m
    walk_at "ws"
    refine TMeth.list (σ := σ2.set "name" (.str e.1)) J1.at_ PySem.F.slot_list_append rfl ?_
    walk_at "ws"
    have hin : e.1 ∈ nxt (rows.map (·.1)) p := by rw [← grp_keys]; exact List.mem_map.mpr ⟨e, hmem, rfl⟩
    refine TSub.dict (σ := σ2.set "name" (.str e.1)) (by intro _ _; exact ⟨_, rfl⟩) (.inl (J1.ext _ _ (T.at_ p np))) (a := .con (.ref (adp (p ++ [e.1])))) ?_ ?_
    · unfold contA
      rw [valA_append, valA_map (f := fun x => AV.con (.ref (adp (p ++ [x])))), if_pos hin]; rfl
    walk_at "ws"
    refine TSub.dict (σ := σ2.set "name" (.str e.1)) (by intro _ _; exact ⟨_, rfl⟩) (.inr ⟨_, J3⟩) (a := .con (.ref (la e.1))) ?_ ?_
    · have h9 := valA_map (l := (grp (rowsAt rows p) p.length).map (·.1)) (f := fun x => AV.con (.ref (la x))) (k := e.1)
      rw [List.map_map, if_pos (List.mem_map.mpr ⟨e, hmem, rfl⟩)] at h9
      exact h9
    walk_at "ws"
    refine ⟨by simp, ?_⟩
    walk_at "ws"
    refine TCall.append (σ := σ2.set "name" (.str e.1)) J1.at_ ?_ ?_
    · rw [List.length_map, List.length_append, List.length_take, List.length_map]; omega
    walk_at "ws"
    have hnx : ((grp (rowsAt rows p) p.length).map fun e => (p ++ [e.1], la e.1)).take (i + 1) = ((grp (rowsAt rows p) p.length).map fun e => (p ++ [e.1], la e.1)).take i ++ [(p ++ [e.1], la e.1)] := by
      rw [List.take_succ, List.getElem?_map, he]; rfl
    have hpd : pl ≠ dp := fun x => by have := J1.at_; rw [x, J3] at this; cases this
    have hlap : σ2.H (la e.1) = some (.list (e.2.map rowA)) ∧ la e.1 ≠ pl := ⟨J4 e hmem, (M.h2 e hmem).2⟩
    refine ⟨⟨k4, AH.put_self.trans ?_, J1.fr, J1.ext.put J1.fr, fun z hz => ?_⟩, fun x hx => (set_ne hx).trans (J2 x hx), (AH.put_ne hpd.symm).trans J3, fun z hz => (AH.put_ne (M.h2 z hz).2).trans (J4 z hz)⟩
    · rw [hnx, ← List.append_assoc, List.map_append (l₂ := [_])]
      congr 3
      unfold entA
      simp
    · rw [hnx, ← List.append_assoc] at hz
      rcases List.mem_append.mp hz with hz | hz
      · obtain ⟨a1, a2, a3⟩ := J1.ent z hz
        exact ⟨a1, (AH.put_ne a3).trans a2, a3⟩
      · rw [List.mem_singleton.mp hz]
        refine ⟨.inr (has_snoc.mpr hin), (AH.put_ne hlap.2).trans ?_, hlap.2⟩
        show σ2.H (la e.1) = _
        rw [hlap.1, grp_at hmem]
  · rintro σ2 ⟨J1, J2, J3, J4⟩
    rw [List.take_of_length_le (by simp)] at J1
    refine TS.nil (q σ2 J1)
theorem holds_rest2 {P : Params} {C : Cx} {n : Nat} (W : Wd (hd02.heap_39 P) C n) (hn : n ≤ 50) (hs : C.env.scope = (holdsD P).2.1) {H : AH} {adp : List Str → Addr} {rows : List Row} (T : TreeP adp rows H) {pl dp D : Addr} {es' : List (List Str × Addr)} {p : List Str} (np : NodeP rows p) {σ : St} {la : Str → Addr}
    (M : Mid P adp rows H pl dp D es' p la σ) (hz : es'.length + (grp (rowsAt rows p) p.length).length ≤ 16777215) {Q : AFl → St → Prop}
    (q : ∀ σ', Pend P adp rows H pl (es' ++ (grp (rowsAt rows p) p.length).map fun e => (p ++ [e.1], la e.1)) σ' → Q .next σ') : TS C ((holdsBody P).drop 6) σ Q := by
  have hh := W.hand
  have hu := W.unit (by omega)
  have hs' := hs
  unfold holdsD at hs'; dsimp only at hs'
  have hml := @marks_len rows p
  have hfew := T.few
  have hnd : σ.H (adp p) = some (.dict (contA adp rows p)) := M.I.ext _ _ (T.at_ p np)
  have m1 := M.m1
  have m4 := M.m4
  unfold holdsBody holdsD; dsimp only [List.drop]
  walk_at "ws"
  refine TE.compW (test := some _) W rfl ⟨rfl, by decide, by intro q hq hf; unfold Env.kindOf; rw [hs']; revert q; decide, by decide, by decide⟩ ?_ (by intro _; rfl)
  walk_at "ws"
  refine ⟨(marksAt rows p).map fun n : Nat => AV.int (n : Int), _, fun i acc H' => H' = σ.H ∧ acc = [], IterAs.list hh, ?_, fun i acc H' _ hI => ?_, ⟨rfl, rfl⟩, ?_, ?_⟩
  · rw [List.length_map]; omega
  · rw [hI.1]; exact M.h3
  · intro C2 i x acc σ6 W2 hs2 hh2 hx hI hsame
    rw [List.getElem?_map] at hx
    obtain ⟨k, hk, rfl⟩ := Option.map_eq_some_iff.mp hx
    have hkm := List.mem_of_getElem? hk
    have hks : k ≤ 1000 := by
      unfold marksAt at hkm
      obtain ⟨r, hr, rfl⟩ := List.mem_map.mp hkm
      exact T.small r (List.mem_filter.mp hr).1
    have hu2 := W2.unit (by omega)
    have hnest := (hsame "nest" (by rfl)).trans m1
    unfold CTurn
    walk_at "ws"
    refine TCall.str (Nat.lt_of_le_of_lt (Nat.log2_le_self _) (by simp; omega)) ?_
    refine TBin.addS ?_ ?_
    · have := short_num k (by omega)
      have h3 : ("at " : Str).length = 3 := by decide +kernel
      omega
    have hd6 : (σ6.set "n" (.int (k : Int))).H (adp p) = some (.dict (contA adp rows p)) := by
      show σ6.H _ = _
      rw [hI.1]; exact hnd
    refine TSub.dict (by intro _ _; exact ⟨_, rfl⟩) (.inl hd6) (a := .int (k : Int)) ?_ ?_
    · unfold contA
      rw [show ("at " : Str) ++ Str.ofString (toString (k : Int)) = atN k from rfl, valA_append, valA_notin, valA_marks hkm]
      · rfl
      · intro e he
        obtain ⟨x, hx, rfl⟩ := List.mem_map.mp he
        refine four_at x (Has.names (F := four) (fun q hq x hx => ?_) _ hx)
        obtain ⟨r, hr, rfl⟩ := List.mem_map.mp hq
        exact T.names r hr x hx
    walk_at "ws"
    refine TCmp.neD hu2 (.int 0 _) (.int 0 _) (by omega) (by omega) ?_
    simp only [decide_true, Bool.not_true]
    walk_at "si"
    exact ⟨hsame.upd rfl, hI.1, hI.2⟩
  · rintro acc H' a3 ⟨rfl, rfl⟩ f3
    walk_at "ws"
    refine ⟨by simp, fun a4 f4 => ?_⟩
    refine TCmp.neNil hu (put_keep f4 putH_self) putH_self ?_
    walk_at "w"
    rw [show (!([] : List AV).isEmpty) = false from rfl]
    simp only [Bool.false_eq_true, if_false]
    refine TS.nil ?_
    exact holds_rest3 W hn hs T np ((M.alloc f3).alloc f4) hz q
theorem holds_rest {P : Params} {C : Cx} {n : Nat} (W : Wd (hd02.heap_39 P) C n) (hn : n ≤ 50) (hs : C.env.scope = (holdsD P).2.1) {H : AH} {adp : List Str → Addr} {rows : List Row} (T : TreeP adp rows H) {pl dp D : Addr} {es' : List (List Str × Addr)} {p : List Str} (np : NodeP rows p) {σ : St} {la : Str → Addr}
    (M : Mid P adp rows H pl dp D es' p la σ) (hz : es'.length + (grp (rowsAt rows p) p.length).length ≤ 16777215) {Q : AFl → St → Prop}
    (q : ∀ σ', Pend P adp rows H pl (es' ++ (grp (rowsAt rows p) p.length).map fun e => (p ++ [e.1], la e.1)) σ' → Q .next σ') : TS C ((holdsBody P).drop 5) σ Q := by
  have hh := W.hand
  have hu := W.unit (by omega)
  have hs' := hs
  unfold holdsD at hs'; dsimp only at hs'
  unfold holdsBody holdsD; dsimp only [List.drop]
  have hfew := T.few
  have hgl := @grp_at' rows p
  have hml := @marks_len rows p
  have hcl := @cont_len adp rows p
  have hnd : ∀ {σ}, Mid P adp rows H pl dp D es' p la σ → σ.H (adp p) = some (.dict (contA adp rows p)) := fun M => M.I.ext _ _ (T.at_ p np)
  have m1 := M.m1
  have m2 := M.m2
  have m3 := M.m3
  have m4 := M.m4
  have m5 := M.I.m
  walk_at "ws"
  refine TCall.listKeys hh (.inl (hnd M)) (by omega) fun a1 f1 => ?_
  walk_at "ws"
  have M1 := M.alloc (o := .list ((contA adp rows p).map fun e => .str e.1)) f1
  refine TCall.listKeys hh (.inl M1.h1) (by rw [List.length_map]; omega) fun a2 f2 => ?_
  have M2 := M1.alloc (o := .list (((grp (rowsAt rows p) p.length).map fun e => (e.1, AV.con (.ref (la e.1)))).map fun e => .str e.1)) f2
  refine TE.compW (test := none) W rfl ⟨rfl, by decide, by intro q hq hf; unfold Env.kindOf; rw [hs']; revert q; decide, by decide, by decide⟩ ?_ (by intro _; rfl)
  walk_at "ws"
  refine ⟨(marksAt rows p).map fun n : Nat => AV.int (n : Int), _, fun i acc H' => H' = _ ∧ acc = ((marksAt rows p).take i).map fun n => AV.str (atN n), IterAs.list hh, ?_, fun i acc H' _ hI => ?_, ⟨rfl, rfl⟩, ?_, ?_⟩
  · rw [List.length_map]; omega
  · rw [hI.1]; exact M2.h3
  · intro C2 i x acc σ6 W2 hs2 hh2 hx hI hsame
    rw [List.getElem?_map] at hx
    obtain ⟨k, hk, rfl⟩ := Option.map_eq_some_iff.mp hx
    have hks : k ≤ 1000 := by
      have := List.mem_of_getElem? hk
      unfold marksAt at this
      obtain ⟨r, hr, rfl⟩ := List.mem_map.mp this
      exact T.small r (List.mem_filter.mp hr).1
    unfold CTurn
    walk_at "ws"
    refine TCall.str (Nat.lt_of_le_of_lt (Nat.log2_le_self _) (by simp; omega)) ?_
    refine TBin.addS ?_ ⟨hsame.upd rfl, hI.1, ?_⟩
    · have := short_num k (by omega)
      have h3 : ("at " : Str).length = 3 := by decide +kernel
      omega
    · rw [hI.2, List.take_succ, List.map_append, hk]; rfl
  · rintro acc H' a3 ⟨rfl, rfl⟩ f3
    have M3 := M2.alloc (o := .list (((marksAt rows p).take ((marksAt rows p).map fun n : Nat => AV.int (n : Int)).length).map fun n => AV.str (atN n))) f3
    refine TBin.addL (xs := keysA ((grp (rowsAt rows p) p.length).map fun e => (e.1, AV.con (.ref (la e.1))))) (ys := ((marksAt rows p).take ((marksAt rows p).map fun n : Nat => AV.int (n : Int)).length).map fun n : Nat => AV.str (atN n)) (put_keep f3 putH_self) putH_self ?_ fun a4 f4 => ?_
    · simp only [List.length_map, List.length_take]; omega
    have M4 := M3.alloc (o := .list ((keysA ((grp (rowsAt rows p) p.length).map fun e => (e.1, AV.con (.ref (la e.1))))) ++ (((marksAt rows p).take ((marksAt rows p).map fun n : Nat => AV.int (n : Int)).length).map fun n : Nat => AV.str (atN n)))) f4
    have hk4 : ∀ e ∈ grp (rowsAt rows p) p.length, e.1 ∈ four := fun e he => by
      have h1 : e.1 ∈ (grp (rowsAt rows p) p.length).map (·.1) := List.mem_map.mpr ⟨e, he, rfl⟩
      rw [grp_keys] at h1
      refine Has.names (F := four) (fun q hq x hx => ?_) _ h1
      obtain ⟨r, hr, rfl⟩ := List.mem_map.mp hq
      exact T.names r hr x hx
    have dk : ∀ a ∈ (grp (rowsAt rows p) p.length).map (fun e => AV.str e.1) ++ (marksAt rows p).map fun n => AV.str (atN n), DataA 0 a := fun a ha => by
      rcases List.mem_append.mp ha with ha | ha
      · obtain ⟨e, he, rfl⟩ := List.mem_map.mp ha; exact .str 0 _ (four_ok _ (hk4 e he))
      · obtain ⟨k, hk, rfl⟩ := List.mem_map.mp ha; exact .str 0 _ (strOk_atN k)
    have hr4 : (keysA ((grp (rowsAt rows p) p.length).map fun e => (e.1, AV.con (.ref (la e.1))))) ++ (((marksAt rows p).take ((marksAt rows p).map fun n : Nat => AV.int (n : Int)).length).map fun n : Nat => AV.str (atN n)) = (grp (rowsAt rows p) p.length).map (fun e => AV.str e.1) ++ (marksAt rows p).map fun n => AV.str (atN n) := by
      unfold keysA; rw [List.map_map, List.length_map, List.take_of_length_le (Nat.le_refl _)]; rfl
    rw [hr4] at M4 ⊢
    refine TCmp.neL (xs := keysA (contA adp rows p)) hu (put_keep f4 (put_keep f3 (put_keep f2 putH_self))) putH_self (n := 0) (m := 0) (fun a ha => dk a (cont_keys (adp := adp) ▸ ha)) dk (by omega) (by omega) ?_
    have hck := eq_true (show keysA (contA adp rows p) = (grp (rowsAt rows p) p.length).map (fun e => AV.str e.1) ++ (marksAt rows p).map (fun n => AV.str (atN n)) from cont_keys)
    simp only [hck, decide_true]
    walk_at "w"
    simp only [Bool.not_true, Bool.false_eq_true, if_false]
    refine TS.nil ?_
    exact holds_rest2 W hn hs T np M4 hz q
theorem seqIndex_nat {j n : Nat} (h : j < n) : seqIndex? (j : Int) n = some j := by
  unfold seqIndex?
  simp [show ¬ ((j : Int) < 0) by omega, h]
theorem holds_walk (P : Params) {C : Cx} {n : Nat} (W : Wd (hd02.heap_39 P) C n) (hn : n ≤ 50) (hs : C.env.scope = (holdsD P).2.1) {m : Str → Option AV} {H : AH} {adp : List Str → Addr} {rows : List Row} {ra : Addr} (T : TreeP adp rows H)
    (h1 : m "root" = some (.con (.ref (adp [])))) (h2 : m "calls" = some (.con (.ref ra))) (h3 : H ra = some (.list (rows.map rowA))) :
    TS C (holdsD P).1 ⟨m, H⟩ fun fl σ' => retOf fl = .con (.bool true) ∧ Ext H σ'.H := by
  have hK := W.K
  have hu := W.unit (by omega)
  have hh := W.hand
  unfold holdsD; dsimp only
  walk_at "si"
  refine ⟨by simp, ?_⟩
  walk_at "si"
  refine ⟨by simp, fun pl hpl => ?_⟩
  walk_at "si"
  refine TX.while W.calm.loops (fun k σ => ∃ es, k = sumL (es.map fun e => wt rows e.1) ∧ Pend P adp rows H pl es σ ∧ sumL (es.map fun e => wt rows e.1) ≤ 20001) (wt rows [] + 0)
    ⟨[([], ra)], rfl, ⟨by walk_at "lk", AH.put_self, hpl, (Ext.refl H).put hpl, ?_⟩, ?_⟩ ?_
  · intro e he
    rw [List.mem_singleton.mp he]
    have hne : ra ≠ pl := fun e => by rw [e, hpl] at h3; cases h3
    refine ⟨.inl rfl, (AH.put_ne hne).trans (h3.trans ?_), hne⟩
    unfold rowsAt
    rw [List.filter_eq_self.mpr (by simp)]
  · have h := wtL_le (d := 0) (N := 200) (R := rowsAt rows []) fun r hr => T.deep r (List.mem_filter.mp hr).1
    have h' : (rowsAt rows []).length ≤ rows.length := List.length_filter_le _ _
    have := T.few
    show wt rows [] + 0 ≤ 20001
    unfold wt
    have : (rowsAt rows []).length * 200 ≤ 100 * 200 := Nat.mul_le_mul_right _ (by omega)
    simp only [List.length_nil] at h ⊢
    omega
  rintro k σ1 ⟨es, rfl, I, hlen⟩
  have hp := I.m
  have hl1 : es.length ≤ sumL (es.map fun e => wt rows e.1) := by
    clear I hlen
    induction es with
    | nil => exact Nat.zero_le _
    | cons e es ih =>
      have := @wt_pos rows e.1
      simp only [List.map_cons, sumL, List.foldr_cons, List.length_cons] at ih ⊢
      omega
  walk_at "ws"
  refine ⟨by simp, fun b hb => ?_⟩
  have hpb : pl ≠ b := fun e => by have := I.at_; rw [e, hb] at this; cases this
  refine TCmp.neNil hu ((AH.put_ne hpb).trans I.at_) AH.put_self ?_
  have I2 := I.alloc (o := .list []) hb
  have hp2 := I2.m
  rcases List.eq_nil_or_concat es with rfl | ⟨es', e, rfl⟩
  · walk_at "w"
    rw [show (!(List.map (entA adp) []).isEmpty) = false from rfl]
    walk_at "si"
    exact ⟨rfl, I2.ext⟩
  rw [List.concat_eq_append] at *
  walk_at "w"
  rw [show (!(List.map (entA adp) (es' ++ [e])).isEmpty) = true by simp]
  walk_at "si"
  refine TX.assignTup ?_ (by rfl) (by rfl)
  walk_at "ws"
  have hat := I2.at_
  rw [List.map_append, List.map_cons, List.map_nil] at hat
  refine TMeth.list hat PySem.F.slot_list_pop rfl ?_
  walk_at "ws"
  refine TCall.pop hat (by have h9 := Nat.le_trans hl1 hlen; simp only [List.length_append, List.length_singleton] at h9; rw [List.length_map]; omega) ?_
  obtain ⟨p, ra⟩ := e
  rw [show entA adp (p, ra) = .tup [.con (.ref (adp p)), .int (p.length : Int), .con (.ref ra)] from rfl]
  walk_at "w"
  walk_at "w"
  walk_at "w"
  walk_at "w"
  have I3 := I2.pop
  obtain ⟨e1, e2, e3⟩ := I2.ent (p, ra) (by simp)
  have I4 : Pend P adp rows H pl es' ((((σ1.put b (.list [])).put pl (.list (es'.map (entA adp)))).set "nest" (.con (.ref (adp p)))).set "depth" (.int (p.length : Int)) |>.set "rows" (.con (.ref ra))) :=
    ((I3.set (by decide)).set (by decide)).set (by decide)
  have hm1 : ((((σ1.put b (.list [])).put pl (.list (es'.map (entA adp)))).set "nest" (.con (.ref (adp p)))).set "depth" (.int (p.length : Int)) |>.set "rows" (.con (.ref ra))).m "nest" = some (.con (.ref (adp p))) := by walk_at "lk"
  have hm2 : ((((σ1.put b (.list [])).put pl (.list (es'.map (entA adp)))).set "nest" (.con (.ref (adp p)))).set "depth" (.int (p.length : Int)) |>.set "rows" (.con (.ref ra))).m "depth" = some (.int (p.length : Int)) := by walk_at "lk"
  have hm3 : ((((σ1.put b (.list [])).put pl (.list (es'.map (entA adp)))).set "nest" (.con (.ref (adp p)))).set "depth" (.int (p.length : Int)) |>.set "rows" (.con (.ref ra))).m "rows" = some (.con (.ref ra)) := by walk_at "lk"
  have hr : ((((σ1.put b (.list [])).put pl (.list (es'.map (entA adp)))).set "nest" (.con (.ref (adp p)))).set "depth" (.int (p.length : Int)) |>.set "rows" (.con (.ref ra))).H ra = some (.list ((rowsAt rows p).map rowA)) := (AH.put_ne e3).trans e2
  change TS C _ ((((σ1.put b (.list [])).put pl (.list (es'.map (entA adp)))).set "nest" (.con (.ref (adp p)))).set "depth" (.int (p.length : Int)) |>.set "rows" (.con (.ref ra))) _
  generalize ((((σ1.put b (.list [])).put pl (.list (es'.map (entA adp)))).set "nest" (.con (.ref (adp p)))).set "depth" (.int (p.length : Int)) |>.set "rows" (.con (.ref ra))) = σ4 at I4 hm1 hm2 hm3 hr ⊢
  clear hat I3 I2 hp2 hpb hb
  have hnd : σ4.H (adp p) = some (.dict (contA adp rows p)) := I4.ext _ _ (T.at_ p e1)
  walk_at "ws"
  refine TCall.type (.dict (.inl hnd)) ?_
  walk_at "ws"
  refine TCmp.isNotC (by rfl) ?_
  rw [show (!(Value.type "dict" == bootValue (Manifest.BuiltinName.type "dict") "dict")) = false from by rfl]
  walk_at "si"
  intro dp hdp
  walk_at "ws"
  refine TX.for W.calm.loops ?_ (by intro _; rfl)
  walk_at "ws"
  have hIt := PI.start (adp := adp) (rows := rows) (p := p) (ra := ra) hdp
  refine ⟨_, _, fun i σ => PI adp rows p ra dp σ4 i σ, IterAs.list W.hand, fun i σ _ J => J.row hr, hIt, ?_, ?_⟩
  · intro i x σ5 hx J
    obtain ⟨r, hr', rfl⟩ : ∃ r, (rowsAt rows p)[i]? = some r ∧ rowA r = x := by
      rw [List.getElem?_map] at hx
      obtain ⟨r, h1, h2⟩ := Option.map_eq_some_iff.mp hx
      exact ⟨r, h1, h2⟩
    have hmem : r ∈ rows := (List.mem_filter.mp (List.mem_of_getElem? hr')).1
    obtain ⟨la, l1, l2, l3⟩ := J.la
    rw [show rowA r = .tup [.tup (r.1.map .str), .int (r.2 : Int)] from rfl]
    walk_at "w"
    walk_at "w"
    walk_at "w"
    have d1 : ((σ5.set "key" (.tup (r.1.map .str))).set "n" (.int (r.2 : Int))).m "depth" = some (.int (p.length : Int)) := (set_ne (by decide)).trans ((set_ne (by decide)).trans ((J.m _ (by decide) (by decide) (by decide)).trans hm2))
    have d2 : ((σ5.set "key" (.tup (r.1.map .str))).set "n" (.int (r.2 : Int))).m "parts" = some (.con (.ref dp)) := (set_ne (by decide)).trans ((set_ne (by decide)).trans J.parts)
    have dl := T.deep r hmem
    walk_at "ws"
    refine TCall.lenT (by rw [List.length_map]; omega) ?_
    walk_at "ws"
    by_cases hdl : p.length < r.1.length
    · rw [show decide ((p.length : Int) < ((r.1.map AV.str).length : Int)) = true by simp; exact hdl]
      obtain ⟨y, hy⟩ : ∃ y, r.1[p.length]? = some y := ⟨_, List.getElem?_eq_getElem hdl⟩
      walk_at "si"
      refine TMeth.dict (.inl l1) PySem.F.slot_dict_setdefault rfl ?_
      walk_at "ws"
      refine TSub.tup (by intro _ _; exact ⟨_, rfl⟩) (by omega) (by omega) (j := p.length) ?_ (a := .str y) ?_ ?_
      · rw [List.length_map]; exact seqIndex_nat hdl
      · rw [List.getElem?_map, hy]; rfl
      walk_at "ws"
      refine ⟨by simp, fun lb hb => ?_⟩
      walk_at "ws"
      have ne1 : dp ≠ lb := fun x => by rw [x] at l1; exact absurd (l1.symm.trans hb) (by simp)
      have hval : valA ((GP rows p i).map fun e => (e.1, AV.con (.ref (la e.1)))) y = if y ∈ (GP rows p i).map (·.1) then some (.con (.ref (la y))) else none := by
        have := valA_map (l := (GP rows p i).map (·.1)) (f := fun x => AV.con (.ref (la x))) (k := y)
        rw [List.map_map] at this
        exact this
      have hrl : ((rowsAt rows p).take i).length ≤ 100 := by
        have h1 := T.few
        have h2 : (rowsAt rows p).length ≤ rows.length := List.length_filter_le _ _
        rw [List.length_take]; omega
      have hgl : (GP rows p i).length ≤ 16777215 := by
        have h1 := grp_length ((rowsAt rows p).take i) p.length
        unfold GP; omega
      have l1' : (((σ5.set "key" (.tup (r.1.map .str))).set "n" (.int (r.2 : Int))).put lb (.list [])).H dp = some (.dict ((GP rows p i).map fun e => (e.1, AV.con (.ref (la e.1))))) := (AH.put_ne ne1).trans l1
      refine TCall.setdefault l1' (by rw [List.length_map]; omega) ?_
      rw [hval]
      by_cases hk : y ∈ (GP rows p i).map (·.1)
      · rw [if_pos hk]
        dsimp only
        obtain ⟨⟨y', g⟩, hg, rfl⟩ := List.mem_map.mp hk
        have l2g := l2 _ hg
        have ne2 : la y' ≠ lb := fun x => by have := l2g.1; rw [x] at this; exact absurd (this.symm.trans hb) (by simp)
        have hlist : (((σ5.set "key" (.tup (r.1.map .str))).set "n" (.int (r.2 : Int))).put lb (.list [])).H (la y') = some (.list (g.map rowA)) := (AH.put_ne ne2).trans l2g.1
        refine TMeth.list hlist PySem.F.slot_list_append rfl ?_
        walk_at "ws"
        refine ⟨by simp, ?_⟩
        walk_at "ws"
        refine TCall.append hlist (by
          have h1 := grp_rows _ _ _ hg
          dsimp only at h1
          rw [List.length_map, h1]
          exact Nat.le_trans (List.length_filter_le _ _) (by omega)) ?_
        walk_at "ws"
        exact J.there hr' hy la l1 l2 l3 hg hb
      · rw [if_neg hk]
        dsimp only
        have hlist : ((((σ5.set "key" (.tup (r.1.map .str))).set "n" (.int (r.2 : Int))).put lb (.list [])).put dp (.dict (storeA ((GP rows p i).map fun e => (e.1, AV.con (.ref (la e.1)))) y (.con (.ref lb))))).H lb = some (.list []) := (AH.put_ne ne1.symm).trans AH.put_self
        refine TMeth.list hlist PySem.F.slot_list_append rfl ?_
        walk_at "ws"
        refine ⟨by simp, ?_⟩
        walk_at "ws"
        refine TCall.append hlist (by simp) ?_
        walk_at "ws"
        rw [storeA_new (by rw [hval, if_neg hk])]
        exact J.fresh hr' hy la l1 l2 l3 hk hdp hb
    · rw [show decide ((p.length : Int) < ((r.1.map AV.str).length : Int)) = false by simp; omega]
      walk_at "si"
      exact J.skip hr' (List.getElem?_eq_none (by omega))
  · intro σ5 J
    rw [List.length_map] at J
    have hs' := hs
    unfold holdsD at hs'; dsimp only at hs'
    have hm1' := (J.m "nest" (by decide) (by decide) (by decide)).trans hm1
    have hm2' := (J.m "depth" (by decide) (by decide) (by decide)).trans hm2
    have hm3' := (J.m "rows" (by decide) (by decide) (by decide)).trans hm3
    have hmp' := (J.m "pending" (by decide) (by decide) (by decide)).trans I4.m
    have hpt := J.parts
    walk_at "w"
    refine TX.assignCompW (test := some _) W rfl ⟨rfl, by decide, ?_, by decide, by decide⟩ ?_ ?_ (by intro _; rfl)
    · intro q hq hf
      unfold Env.kindOf; rw [hs']
      revert q; decide
    · walk_at "ws"
      refine ⟨(rowsAt rows p).map rowA, _, fun i acc H' => H' = σ5.H ∧ acc = (((rowsAt rows p).take i).filter fun r => decide (r.1.length = p.length)).map fun r => AV.int (r.2 : Int), IterAs.list W.hand, ?_, fun i acc H' _ hI => ?_, ⟨rfl, rfl⟩, ?_, ?_⟩
      · rw [List.length_map]
        have h1 := T.few
        have h2 : (rowsAt rows p).length ≤ rows.length := List.length_filter_le _ _
        omega
      · rw [hI.1]; exact J.row hr
      · intro C2 i x acc σ6 W2 hs2 hh2 hx hI hsame
        obtain ⟨r, hr', rfl⟩ : ∃ r, (rowsAt rows p)[i]? = some r ∧ rowA r = x := by
          rw [List.getElem?_map] at hx
          obtain ⟨r, h1, h2⟩ := Option.map_eq_some_iff.mp hx
          exact ⟨r, h1, h2⟩
        have hmem : r ∈ rows := (List.mem_filter.mp (List.mem_of_getElem? hr')).1
        have dl := T.deep r hmem
        have hdep := (hsame "depth" (by rfl)).trans hm2'
        have hu2 := W2.unit (by omega)
        have hnx : (rowsAt rows p).take (i + 1) = (rowsAt rows p).take i ++ [r] := by rw [List.take_succ, hr']; rfl
        rw [show rowA r = .tup [.tup (r.1.map .str), .int (r.2 : Int)] from rfl]
        unfold CTurn
        walk_at "ws"
        refine TCall.lenT (by rw [List.length_map]; omega) ?_
        walk_at "ws"
        refine TCmp.eqD hu2 (.int 0 _) (.int 0 _) (by omega) (by omega) ?_
        walk_at "ws"
        by_cases hle : r.1.length = p.length
        · have hA : AV.int ((r.1.map AV.str).length : Int) = AV.int (p.length : Int) := by rw [List.length_map, hle]
          simp only [hA, decide_true, if_true]
          walk_at "ws"
          refine ⟨(hsame.upd rfl).upd rfl, hI.1, ?_⟩
          rw [hI.2, hnx, List.filter_append, List.map_append]
          simp [hle]
        · have hA : ¬ AV.int ((r.1.map AV.str).length : Int) = AV.int (p.length : Int) := by
            rw [List.length_map]; intro x; injection x with x; omega
          simp only [hA, decide_false, Bool.false_eq_true, if_false]
          refine ⟨(hsame.upd rfl).upd rfl, hI.1, ?_⟩
          rw [hI.2, hnx, List.filter_append, List.map_append]
          simp [hle]
      · rintro acc H' D ⟨rfl, rfl⟩ hD
        walk_at "w"
        rw [List.length_map, List.take_of_length_le (Nat.le_refl _)]
        obtain ⟨la, l1, l2, l3⟩ := J.la
        have hG : GP rows p (rowsAt rows p).length = grp (rowsAt rows p) p.length := by unfold GP; rw [List.take_of_length_le (Nat.le_refl _)]
        rw [hG] at l1 l2 l3
        have I5 : Pend P adp rows H pl es' σ5 := ⟨hmp', J.ext _ _ I4.at_, I4.fr, I4.ext.trans J.ext, fun e he => let ⟨a, b, c⟩ := I4.ent e he; ⟨a, J.ext _ _ b, c⟩⟩
        have I6 : Pend P adp rows H pl es' ((⟨σ5.m, σ5.H.put D (.list ((((rowsAt rows p).filter fun r => decide (r.1.length = p.length)).map fun r => AV.int (r.2 : Int))))⟩ : St).set "marks" (.con (.ref D))) := (I5.alloc hD).set (by decide)
        have hne : ∀ z o, σ5.H z = some o → z ≠ D := fun z o h x => by rw [x, hD] at h; cases h
        have hmk : (((rowsAt rows p).filter fun r => decide (r.1.length = p.length)).map fun r => AV.int (r.2 : Int)) = (marksAt rows p).map fun n : Nat => AV.int (n : Int) := by
          rw [← marksAt_eq, List.map_map]; rfl
        refine holds_rest (P := P) W hn hs T e1 ⟨I6, by walk_at "lk", by walk_at "lk", by walk_at "lk", set_same, (AH.put_ne (hne _ _ l1)).trans l1, fun e he => ?_, AH.put_self.trans (by rw [hmk]), ?_⟩ ?_ fun σ' I7 => ?_
        · have l2e := l2 e he
          exact ⟨(AH.put_ne (hne _ _ l2e.1)).trans l2e.1, fun x => by have h9 := I4.at_; rw [← x, l2e.2] at h9; cases h9⟩
        · cases e : H dp with
          | none => rfl
          | some o => have := I4.ext dp o e; rw [hdp] at this; cases this
        · have h1 := grp_length (rowsAt rows p) p.length
          have h2 : (rowsAt rows p).length ≤ rows.length := List.length_filter_le _ _
          have h3 := T.few
          have h9 := Nat.le_trans hl1 hlen
          simp only [List.length_append, List.length_singleton] at h9
          show es'.length + (grp (rowsAt rows p) p.length).length ≤ 16777215
          omega
        · have hw := @grp_wt rows p
          have hsum : sumL ((es' ++ (grp (rowsAt rows p) p.length).map fun e => (p ++ [e.1], la e.1)).map fun e => wt rows e.1) = sumL (es'.map fun e => wt rows e.1) + sumL ((grp (rowsAt rows p) p.length).map fun e => wt rows (p ++ [e.1])) := by
            rw [List.map_append, sumL_append, List.map_map]; rfl
          have hold : sumL ((es' ++ [(p, ra)]).map fun e => wt rows e.1) = sumL (es'.map fun e => wt rows e.1) + wt rows p := by
            rw [List.map_append, sumL_append]; simp [sumL]
          refine ⟨_, ?_, _, rfl, I7, ?_⟩
          · rw [hsum, hold]; omega
          · rw [hsum]; rw [hold] at hlen; omega
    · unfold swapsWith Env.blockKind Env.kindOf
      simp only [hs']
      rfl

/-! the plain law of law 2: calls, their trees and their marks -/
def ksOf (M : Nat) (cs : List Lab) : Tid → List (List Str) := fun t => if t.1 < M then [] :: (cs.filter fun c => decide (c.1 = t)).map (·.2) else []
def rowsOf (cs : List Lab) (t : Tid) : List Row := (cs.zipIdx.filter fun c => decide (c.1.1 = t)).map fun c => (c.1.2, c.2)
def mkOf (cs : List Lab) (n : Nat) : Lab → List Nat := fun l => (List.range n).filter fun i => decide (cs[i]? = some l)
def preOf (L : Nat → Addr) (M k : Nat) : Lab → List (Str × AV) := fun l => if l.1.2 = false ∧ l.2 = [] ∧ k ≤ l.1.1 ∧ l.1.1 < M then [("list", .con (.ref (L l.1.1)))] else []

theorem ksOf_snoc {M : Nat} {cs : List Lab} {t : Tid} {q : List Str} (h : t.1 < M) : addK (ksOf M cs) t q = ksOf M (cs ++ [(t, q)]) := by
  funext t'
  unfold addK ksOf
  by_cases e : t' = t
  · subst e; rw [if_pos rfl, if_pos h, if_pos h, List.filter_append, List.map_append]; simp
  · rw [if_neg e]
    split
    · rw [List.filter_append, List.map_append]; simp [Ne.symm e]
    · rfl
theorem rowsOf_snoc {cs : List Lab} {c : Lab} {t : Tid} : rowsOf (cs ++ [c]) t = rowsOf cs t ++ (if c.1 = t then [(c.2, cs.length)] else []) := by
  unfold rowsOf
  rw [List.zipIdx_append, List.filter_append, List.map_append]
  congr 1
  by_cases h : c.1 = t <;> simp [h]
theorem rowsOf_keys {cs : List Lab} {t : Tid} : (rowsOf cs t).map (·.1) = (cs.filter fun c => decide (c.1 = t)).map (·.2) := by
  refine snocInd (P := fun cs => (rowsOf cs t).map (·.1) = (cs.filter fun c => decide (c.1 = t)).map (·.2)) rfl (fun l c ih => ?_) cs
  rw [rowsOf_snoc, List.map_append, ih, List.filter_append, List.map_append]
  congr 1
  by_cases h : c.1 = t <;> simp [h]
theorem mkOf_snoc {cs : List Lab} {c l : Lab} : mkOf (cs ++ [c]) (cs.length + 1) l = mkOf cs cs.length l ++ (if c = l then [cs.length] else []) := by
  unfold mkOf
  rw [List.range_succ, List.filter_append]
  congr 1
  · apply List.filter_congr
    intro i hi
    rw [List.getElem?_append_left (List.mem_range.mp hi)]
  · by_cases h : c = l <;> simp [h]
theorem marks_mk {cs : List Lab} {t : Tid} {p : List Str} : marksAt (rowsOf cs t) p = mkOf cs cs.length (t, p) := by
  refine snocInd (P := fun cs => marksAt (rowsOf cs t) p = mkOf cs cs.length (t, p)) rfl (fun l c ih => ?_) cs
  rw [rowsOf_snoc, List.length_append, List.length_singleton, mkOf_snoc, ← ih]
  unfold marksAt
  rw [List.filter_append, List.map_append]
  congr 1
  obtain ⟨t', q⟩ := c
  by_cases h : t' = t
  · by_cases h2 : q = p <;> simp [h, h2]
  · simp [h]
theorem mkOf_succ {cs : List Lab} {n : Nat} {l l' : Lab} (h : cs[n]? = some l) : mkOf cs (n + 1) l' = mkOf cs n l' ++ (if l' = l then [n] else []) := by
  unfold mkOf
  rw [List.range_succ, List.filter_append]
  congr 1
  by_cases e : l' = l
  · simp [h, e]
  · simp [h, e, Ne.symm e]
theorem mkOf_zero {cs : List Lab} : mkOf cs 0 = fun _ => [] := rfl
theorem has_root {M : Nat} {cs : List Lab} {t : Tid} (h : t.1 < M) : Has (ksOf M cs t) [] := ⟨[], by unfold ksOf; rw [if_pos h]; exact List.mem_cons_self, rfl⟩
theorem has_lt {M : Nat} {cs : List Lab} {t : Tid} {p : List Str} (h : Has (ksOf M cs t) p) : t.1 < M := by
  obtain ⟨q, hq, _⟩ := h
  unfold ksOf at hq
  split at hq
  · assumption
  · cases hq
theorem has_call {M : Nat} {cs : List Lab} {l : Lab} (hl : l ∈ cs) (h : l.1.1 < M) : Has (ksOf M cs l.1) l.2 := by
  refine ⟨l.2, ?_, List.take_of_length_le (Nat.le_refl _)⟩
  unfold ksOf; rw [if_pos h]
  exact List.mem_cons_of_mem _ (List.mem_map.mpr ⟨l, List.mem_filter.mpr ⟨hl, by simp⟩, rfl⟩)
theorem nxt_nil_cons {qs : List (List Str)} {p : List Str} : nxt ([] :: qs) p = nxt qs p := by
  unfold nxt
  rw [List.foldl_cons]
  congr 1
  unfold step next?
  simp

section
variable {ad : Lab → Addr} {ks : Tid → List (List Str)} {pre : Lab → List (Str × AV)} {mk : Lab → List Nat} {H : AH}
/-- a mark laid into a nest -/
theorem Lay.mark (L : Lay ad ks pre mk H) {l : Lab} (hl : Has (ks l.1) l.2) {n : Nat} {mk' : Lab → List Nat} (hm : ∀ l', mk' l' = mk l' ++ (if l' = l then [n] else [])) : Lay ad ks pre mk' (H.put (ad l) (.dict (ents ad ks pre mk l ++ [(atN n, .int (n : Int))]))) := by
  refine ⟨fun l' h => ?_, L.inj⟩
  by_cases e : l' = l
  · subst e
    rw [AH.put_self]
    unfold ents
    rw [hm, if_pos rfl, List.map_append, List.append_assoc]; rfl
  · rw [AH.put_ne fun x => e (L.inj _ _ h hl x), L.at_ l' h]
    unfold ents
    rw [hm, if_neg e, List.append_nil]
/-- the beginnings of the entries changed at one label -/
theorem Lay.repre (L : Lay ad ks pre mk H) {l : Lab} (hl : Has (ks l.1) l.2) {pre' : Lab → List (Str × AV)} (hp : ∀ l', l' ≠ l → pre' l' = pre l') : Lay ad ks pre' mk (H.put (ad l) (.dict (ents ad ks pre' mk l))) := by
  refine ⟨fun l' h => ?_, L.inj⟩
  by_cases e : l' = l
  · subst e; exact AH.put_self
  · rw [AH.put_ne fun x => e (L.inj _ _ h hl x), L.at_ l' h]
    unfold ents
    rw [hp l' e]
end

theorem tree_of {M N : Nat} {cs : List Lab} {ad : Lab → Addr} {pre : Lab → List (Str × AV)} {H : AH} {t : Tid} (L : Lay ad (ksOf M cs) pre (mkOf cs cs.length) H) (ht : t.1 < M) (hp : ∀ p, pre (t, p) = [])
    (h4 : ∀ c ∈ cs, ∀ x ∈ c.2, x ∈ four) (hd : ∀ c ∈ cs, c.2.length ≤ 200) (hN : cs.length ≤ N) (h100 : N ≤ 100) : TreeP (fun p => ad (t, p)) (rowsOf cs t) H := by
  have mem : ∀ r ∈ rowsOf cs t, ∃ c ∈ cs, r.1 = c.2 ∧ r.2 < cs.length := fun r hr => by
    unfold rowsOf at hr
    obtain ⟨⟨c, i⟩, hc, rfl⟩ := List.mem_map.mp hr
    have h1 := (List.mem_filter.mp hc).1
    have h2 := List.mem_zipIdx h1
    obtain ⟨_, h3, h4⟩ := h2
    refine ⟨c, ?_, rfl, by simpa using h3⟩
    rw [h4]; exact List.getElem_mem _
  refine ⟨fun p hp' => ?_, fun r hr x hx => ?_, fun r hr => ?_, ?_, fun r hr => ?_⟩
  · have hh : Has (ksOf M cs t) p := by
      rcases hp' with rfl | h
      · exact has_root ht
      · rw [rowsOf_keys] at h
        obtain ⟨q, hq, e⟩ := h
        exact ⟨q, by unfold ksOf; rw [if_pos ht]; exact List.mem_cons_of_mem _ hq, e⟩
    rw [L.at_ (t, p) hh]
    unfold ents contA
    rw [hp, rowsOf_keys, marks_mk]
    unfold ksOf
    dsimp only
    rw [if_pos ht, nxt_nil_cons]
    rfl
  · obtain ⟨c, hc, e, _⟩ := mem r hr; rw [e] at hx; exact h4 c hc x hx
  · obtain ⟨c, hc, e, _⟩ := mem r hr; rw [e]; exact hd c hc
  · have : (rowsOf cs t).length ≤ cs.length := by
      unfold rowsOf; rw [List.length_map]
      exact Nat.le_trans (List.length_filter_le _ _) (by rw [List.length_zipIdx]; exact Nat.le_refl _)
    omega
  · obtain ⟨c, hc, _, e⟩ := mem r hr; omega

theorem holds_call {P : Params} {C : Cx} {n : Nat} (W : Wd (hd02.heap_39 P) C n) (hn : n ≤ 40) {σ : St} {adp : List Str → Addr} {rows : List Row} {ra : Addr} {Q : AV → St → Prop} (T : TreeP adp rows σ.H) (h3 : σ.H ra = some (.list (rows.map rowA)))
    (fin : ∀ H', Ext σ.H H' → Q (.con (.bool true)) ⟨σ.m, H'⟩) : TCall C (.ref 69) [.con (.ref (adp [])), .con (.ref ra)] σ Q := by
  have hK := W.K
  refine TCall.user (body := (holdsD P).1) (scope := (holdsD P).2.1) (fd := (holdsD P).2.2.1) (by rw [hK]; exact (holdsD P).2.2.2) (ps := ["root", "calls"]) (ds := []) rfl (by simp) (W.room (by omega)) (by rfl) ?_ ?_
  · intro vs s h X
    obtain ⟨v, w, rfl⟩ := two_of h
    exact kp_binds X fun S => by rw [hK]; rfl
  · intro env hk eg eb hs
    refine TV.mono (holds_walk P (W.callee (hk := hk) (eg := eg) (eb := eb)) (by omega) hs (adp := adp) (rows := rows) (ra := ra) T (by rfl) (by rfl) h3) ?_
    rintro fl σ' ⟨e, h⟩
    rw [e]
    exact fin σ'.H h

def lawD (P : Params) : Σ' (body : List Stmt) (scope : Scope) (fd : FuncData), FnAt (hd02.heap_39 P) 74 body scope fd :=
  ⟨_, _, _, ⟨⟨_, _, _, _, _, _, _, _, _, _, _, _, _, rfl, rfl, rfl⟩, by decide, rfl, rfl, rfl⟩⟩

def callA (c : Lab × Nat) : AV := .tup [.int (c.1.1.1 : Int), .con (.bool c.1.1.2), .tup (c.1.2.map .str), .int (c.2 : Int)]
def refsA (f : Nat → Addr) (n : Nat) : List AV := (List.range n).map fun k => .con (.ref (f k))
theorem refsA_at {f : Nat → Addr} {n k : Nat} (h : k < n) : (refsA f n)[k]? = some (.con (.ref (f k))) := by
  unfold refsA; rw [List.getElem?_map, List.getElem?_range h]; rfl

/-- what stands in law: machines, lists, calls; k: the machines done with at the end -/
structure LawS (M : Nat) (X DX L E0 : Nat → Addr) (ml ll : Addr) (ad : Lab → Addr) (k : Nat) (H : AH) : Prop where
  hml : H ml = some (.list (refsA X M))
  hll : H ll = some (.list (refsA L M))
  x : ∀ j < M, H (X j) = some (.inst 53 (DX j))
  dx : ∀ j < M, H (DX j) = some (.dict [("dict", .con (.ref (ad ((j, false), []))))])
  l : ∀ j < M, k ≤ j → H (L j) = some (.list [.con (.ref (E0 j)), .con (.ref (ad ((j, true), [])))])
  e0 : ∀ j < M, H (E0 j) = some (.dict [])
  li : ∀ i < M, ∀ j < M, L i = L j → i = j
  small : M ≤ 65
  apart : ll ≠ ml ∧ (∀ j < M, L j ≠ ml) ∧ ∀ j < M, L j ≠ ll
theorem LawS.ext {M : Nat} {X DX L E0 : Nat → Addr} {ml ll : Addr} {ad : Lab → Addr} {k : Nat} {H H' : AH} (S : LawS M X DX L E0 ml ll ad k H) (e : Ext H H') : LawS M X DX L E0 ml ll ad k H' :=
  ⟨e _ _ S.hml, e _ _ S.hll, fun j h => e _ _ (S.x j h), fun j h => e _ _ (S.dx j h), fun j h h2 => e _ _ (S.l j h h2), fun j h => e _ _ (S.e0 j h), S.li, S.small, S.apart⟩

theorem ents_list {L : Nat → Addr} {M k : Nat} {cs : List Lab} {ad : Lab → Addr} (hk : k < M) (h4 : ∀ c ∈ cs, ∀ x ∈ c.2, x ∈ four) :
    valA (ents ad (ksOf M cs) (preOf L M k) (mkOf cs cs.length) ((k, false), [])) "list" = some (.con (.ref (L k))) ∧
    withoutA (ents ad (ksOf M cs) (preOf L M k) (mkOf cs cs.length) ((k, false), [])) "list" = ents ad (ksOf M cs) (preOf L M (k + 1)) (mkOf cs cs.length) ((k, false), []) := by
  have p1 : preOf L M k ((k, false), []) = [(("list" : Str), AV.con (.ref (L k)))] := by unfold preOf; rw [if_pos ⟨rfl, rfl, Nat.le_refl _, hk⟩]
  have p2 : preOf L M (k + 1) ((k, false), []) = [] := by unfold preOf; rw [if_neg]; rintro ⟨_, _, h, _⟩; exact absurd h (Nat.not_succ_le_self k)
  have hn : ∀ x ∈ nxt (ksOf M cs (k, false)) [], x ∈ four := Has.names fun q hq x hx => by
    unfold ksOf at hq
    rw [if_pos hk] at hq
    rcases List.mem_cons.mp hq with rfl | hq
    · cases hx
    · obtain ⟨c, hc, rfl⟩ := List.mem_map.mp hq
      exact h4 c (List.mem_filter.mp hc).1 x hx
  unfold ents
  rw [p1, p2]
  constructor
  · rfl
  · unfold withoutA
    rw [List.filter_append, List.filter_append]
    congr 1
    · have : ∀ e ∈ (nxt (ksOf M cs (k, false)) []).map (fun x => (x, AV.con (.ref (ad ((k, false), [] ++ [x]))))), (!decide (e.1 = ("list" : Str))) = true := fun e he => by
        obtain ⟨x, hx, rfl⟩ := List.mem_map.mp he
        have := hn x hx
        simp only [Bool.not_eq_true', decide_eq_false_iff_not]
        intro y; subst y; exact absurd this (by decide)
      rw [List.filter_eq_self.mpr this]
      rfl
    · rw [List.filter_eq_self]
      intro e he
      obtain ⟨n, hn, rfl⟩ := List.mem_map.mp he
      simp only [Bool.not_eq_true', decide_eq_false_iff_not]
      intro y
      have := atN_take n
      rw [y] at this; exact absurd this (by decide +kernel)

def lawBody (P : Params) : List Stmt := (lawD P).1
structure EndS (cs : List Lab) (M : Nat) (X DX L E0 : Nat → Addr) (ml ll cl : Addr) (ad : Lab → Addr) (k : Nat) (σ : St) : Prop where
  m1 : σ.m "machines" = some (.con (.ref ml))
  m2 : σ.m "lists" = some (.con (.ref ll))
  m3 : σ.m "calls" = some (.con (.ref cl))
  S : LawS M X DX L E0 ml ll ad k σ.H
  hcl : σ.H cl = some (.list (cs.zipIdx.map callA))
  cla : ∀ j < M, L j ≠ cl
  lay : Lay ad (ksOf M cs) (preOf L M k) (mkOf cs cs.length) σ.H
  av : ∀ l : Lab, Has (ksOf M cs l.1) l.2 → ∀ j < M, ad l ≠ DX j ∧ ad l ≠ E0 j
  h4 : ∀ c ∈ cs, ∀ x ∈ c.2, x ∈ four
  hd : ∀ c ∈ cs, c.2.length ≤ 200
  hN : cs.length ≤ 64

theorem put_ext {H : AH} {a : Addr} {o : AO} (h : H a = none) : Ext H (H.put a o) := (Ext.refl H).put h
theorem put_fresh {H : AH} {a b : Addr} {o : AO} (h : H a = none) (n : a ≠ b) : (H.put b o) a = none := (AH.put_ne n).trans h
theorem put_other {H : AH} {a b : Addr} {o v w : AO} (hb : H b = some w) (h : H a = some v) (hne : v ≠ w) : (H.put b o) a = some v := (AH.put_ne fun e => by rw [e, hb] at h; exact hne (Option.some.inj h.symm)).trans h
theorem TCmp.neSame {C : Cx} {σ : St} {a b : AV} {n m : Nat} {Q : AV → St → Prop} (hu : C.A.units + 64 < cLine) (ka : DataA n a) (kb : DataA m b) (hn : n ≤ 64) (hm : m ≤ 64) (e : a = b) (q : Q (.con (.bool false)) σ) : TCmp C .NotEq a b σ Q :=
  TCmp.neD hu ka kb hn hm (by subst e; simpa using q)
theorem EndS.ext {cs : List Lab} {M : Nat} {X DX L E0 : Nat → Addr} {ml ll cl : Addr} {ad : Lab → Addr} {k : Nat} {σ σ' : St} (E : EndS cs M X DX L E0 ml ll cl ad k σ) (e : Ext σ.H σ'.H) (h1 : σ'.m "machines" = σ.m "machines") (h2 : σ'.m "lists" = σ.m "lists") (h3 : σ'.m "calls" = σ.m "calls") : EndS cs M X DX L E0 ml ll cl ad k σ' :=
  ⟨h1.trans E.m1, h2.trans E.m2, h3.trans E.m3, E.S.ext e, e _ _ E.hcl, E.cla, E.lay.ext e, E.av, E.h4, E.hd, E.hN⟩
theorem EndS.pop {cs : List Lab} {M : Nat} {X DX L E0 : Nat → Addr} {ml ll cl : Addr} {ad : Lab → Addr} {k : Nat} {σ : St} (E : EndS cs M X DX L E0 ml ll cl ad k σ) (hk : k < M) {o : List AV} :
    EndS cs M X DX L E0 ml ll cl ad (k + 1) ((σ.put (L k) (.list o)).put (ad ((k, false), [])) (.dict (ents ad (ksOf M cs) (preOf L M (k + 1)) (mkOf cs cs.length) ((k, false), [])))) ∧
    (∀ a v, σ.H a = some v → a ≠ L k → a ≠ ad ((k, false), []) → ((σ.put (L k) (.list o)).put (ad ((k, false), [])) (.dict (ents ad (ksOf M cs) (preOf L M (k + 1)) (mkOf cs cs.length) ((k, false), [])))).H a = some v) := by
  have hr : Has (ksOf M cs ((k, false), ([] : List Str)).1) ((k, false), ([] : List Str)).2 := has_root hk
  have hroot := E.lay.at_ _ hr
  have hLk := E.S.l k hk (Nat.le_refl _)
  have all : ∀ a v, σ.H a = some v → a ≠ L k → a ≠ ad ((k, false), []) → ((σ.put (L k) (.list o)).put (ad ((k, false), [])) (.dict (ents ad (ksOf M cs) (preOf L M (k + 1)) (mkOf cs cs.length) ((k, false), [])))).H a = some v := fun a v h h1 h2 => (AH.put_ne h2).trans ((AH.put_ne h1).trans h)
  have nl : ∀ {a l}, σ.H a = some (.list l) → a ≠ ad ((k, false), []) := fun h e => by rw [e, hroot] at h; cases h
  have nd : ∀ {a d}, σ.H a = some (.dict d) → a ≠ L k := fun h e => by rw [e, hLk] at h; cases h
  refine ⟨⟨E.m1, E.m2, E.m3, ⟨all _ _ E.S.hml (E.S.apart.2.1 k hk).symm (nl E.S.hml), all _ _ E.S.hll ?_ (nl E.S.hll), fun j h => all _ _ (E.S.x j h) ?_ ?_, fun j h => all _ _ (E.S.dx j h) (nd (E.S.dx j h)) (E.av _ hr j h).1.symm,
    fun j h h2 => all _ _ (E.S.l j h (by omega)) ?_ (nl (E.S.l j h (by omega))), fun j h => all _ _ (E.S.e0 j h) (nd (E.S.e0 j h)) (E.av _ hr j h).2.symm, E.S.li, E.S.small, E.S.apart⟩, all _ _ E.hcl (E.cla k hk).symm (nl E.hcl), E.cla, ?_, E.av, E.h4, E.hd, E.hN⟩, all⟩
  · exact (E.S.apart.2.2 k hk).symm
  · intro e; have := E.S.x j h; rw [e, hLk] at this; cases this
  · intro e; have := E.S.x j h; rw [e, hroot] at this; cases this
  · intro e; have := E.S.li j h k hk e; omega
  · have L1 : Lay ad (ksOf M cs) (preOf L M k) (mkOf cs cs.length) (σ.put (L k) (.list o)).H := E.lay.keep fun l hl => AH.put_ne (nd (E.lay.at_ l hl))
    refine L1.repre hr fun l' hl' => ?_
    unfold preOf
    obtain ⟨⟨j, b⟩, p⟩ := l'
    dsimp only
    by_cases h : b = false ∧ p = []
    · obtain ⟨rfl, rfl⟩ := h
      have : j ≠ k := fun e => hl' (by rw [e])
      congr 1
      apply propext
      constructor
      · rintro ⟨a, b, c, d⟩; exact ⟨a, b, by omega, d⟩
      · rintro ⟨a, b, c, d⟩; exact ⟨a, b, by omega, d⟩
    · rw [if_neg fun x => h ⟨x.1, x.2.1⟩, if_neg fun x => h ⟨x.1, x.2.1⟩]
theorem ents_len {L : Nat → Addr} {M k : Nat} {cs : List Lab} {ad : Lab → Addr} {l : Lab} {n : Nat} (h : cs.length ≤ 64) (hn : n ≤ 64) : (ents ad (ksOf M cs) (preOf L M k) (mkOf cs n) l).length ≤ 16777215 := by
  unfold ents
  simp only [List.length_append, List.length_map]
  have h1 := nxt_length (qs := ksOf M cs l.1) (p := l.2)
  have h2 : (ksOf M cs l.1).length ≤ cs.length + 1 := by
    unfold ksOf
    split
    · rw [List.length_cons, List.length_map]; have := List.length_filter_le (fun c : Lab => decide (c.1 = l.1)) cs; omega
    · simp
  have h3 : (mkOf cs n l).length ≤ n := by
    unfold mkOf; exact Nat.le_trans (List.length_filter_le _ _) (by rw [List.length_range]; exact Nat.le_refl _)
  have h4 : (preOf L M k l).length ≤ 1 := by
    unfold preOf; split <;> simp
  omega
def lawLast (P : Params) : List Stmt := match lawBody P with
  | [_, _, _, _, _, _, _, _, _, .For _ _ b _ _, _] => b
  | _ => []
theorem law_E2 {P : Params} {C : Cx} {n : Nat} (W : Wd (hd02.heap_39 P) C n) (hn : n ≤ 20) (hs : C.env.scope = (lawD P).2.1) {cs : List Lab} {M : Nat} {X DX L E0 : Nat → Addr} {ml ll cl : Addr} {ad : Lab → Addr} {σ : St} {k : Nat} (hk : k < M) (E : EndS cs M X DX L E0 ml ll cl ad (k + 1) σ)
    (hmk : σ.m "k" = some (.int (k : Int))) (hmh : σ.m "held" = some (.con (.ref (L k)))) (hL : σ.H (L k) = some (.list [.con (.ref (E0 k)), .con (.ref (ad ((k, true), []))), .int (k : Int)])) {r : Addr} (hr : σ.H r = some (.rng M)) {Q : AFl → St → Prop}
    (q : ∀ σ', EndS cs M X DX L E0 ml ll cl ad (k + 1) σ' → σ'.H r = some (.rng M) → Q .next σ') : TS C ((lawLast P).drop 2) σ Q := by
  have hh := W.hand
  have hu := W.unit (by omega)
  have hK := W.K
  have hs' := hs
  unfold lawD at hs'; dsimp only at hs'
  unfold lawLast lawBody lawD; dsimp only [List.drop]
  have m1 := E.m1
  walk_at "ws"
  refine TCall.lenL hL (by simp) ?_
  walk_at "ws"
  refine TCmp.neSame hu (.int 0 _) (.int 0 _) (by omega) (by omega) rfl ?_
  walk_at "si"
  refine TSub.list (by intro _ _; exact ⟨_, rfl⟩) hL (by omega) (by omega) (a := .con (.ref (E0 k))) rfl ?_
  walk_at "ws"
  intro b hb
  refine TCmp.neDict0 hu (.inl (put_keep hb (E.S.e0 k hk))) (.inl AH.put_self) ?_
  walk_at "si"
  have hL2 : (σ.put b (.dict [])).H (L k) = _ := put_keep (o := .dict []) hb hL
  refine TSub.list (by intro _ _; exact ⟨_, rfl⟩) hL2 (by omega) (by omega) (a := .int (k : Int)) rfl ?_
  walk_at "ws"
  refine TCmp.neSame hu (.int 0 _) (.int 0 _) (by omega) (by omega) rfl ?_
  walk_at "w"
  simp only [Bool.false_eq_true, if_false]
  walk_at "w"
  simp only [Bool.false_eq_true, if_false]
  refine TS.nil ?_
  have Eb : EndS cs M X DX L E0 ml ll cl ad (k + 1) (σ.put b (.dict [])) := E.ext ((Ext.refl _).put hb) rfl rfl rfl
  have hrb : (σ.put b (.dict [])).H r = _ := put_keep (o := .dict []) hb hr
  have m1b : (σ.put b (.dict [])).m "machines" = _ := Eb.m1
  have mkb : (σ.put b (.dict [])).m "k" = _ := hmk
  have mhb : (σ.put b (.dict [])).m "held" = _ := hmh
  generalize (σ.put b (.dict [])) = σb at Eb hrb m1b mkb mhb hL2 ⊢
  walk_at "w"
  refine TX.for W.calm.loops ?_ (by intro _; rfl)
  walk_at "ws"
  refine TSub.list (by intro _ _; exact ⟨_, rfl⟩) Eb.S.hml (by omega) (by have := E.S.small; omega) (a := .con (.ref (X k))) (by rw [Int.toNat_natCast]; exact refsA_at hk) ?_
  refine TAttr.inst (Eb.S.x k hk) (Eb.S.dx k hk) (by rw [hK]; rfl) (by rw [hK]; rfl) (by rw [hK]; rfl) (a := .con (.ref (ad ((k, false), [])))) (by rfl) ⟨_, rfl⟩ ?_
  walk_at "ws"
  refine ⟨by simp, ?_⟩
  walk_at "ws"
  refine TSub.list (by intro _ _; exact ⟨_, rfl⟩) hL2 (by omega) (by omega) (a := .con (.ref (ad ((k, true), [])))) rfl ?_
  walk_at "ws"
  refine ⟨by simp, ?_⟩
  walk_at "ws"
  refine ⟨by simp, ?_⟩
  refine ⟨_, _, fun i σ' => EndS cs M X DX L E0 ml ll cl ad (k + 1) σ' ∧ σ'.H r = some (.rng M) ∧ σ'.m "k" = some (.int (k : Int)), IterAs.tuple hh, fun _ _ _ _ => trivial, ⟨Eb, hrb, mkb⟩, ?_, ?_⟩
  · rintro i x σ2 hx ⟨E2, hr2, hk2⟩
    obtain ⟨bb, rfl⟩ : ∃ bb : Bool, x = .tup [.con (.bool bb), .con (.ref (ad ((k, bb), [])))] := by
      match i, hx with
      | 0, hx => exact ⟨false, by simpa using hx.symm⟩
      | 1, hx => exact ⟨true, by simpa using hx.symm⟩
      | i + 2, hx => simp at hx
    walk_at "w"
    walk_at "w"
    walk_at "w"
    have E3 : EndS cs M X DX L E0 ml ll cl ad (k + 1) ((σ2.set "through" (.con (.bool bb))).set "root" (.con (.ref (ad ((k, bb), []))))) := E2.ext (Ext.refl _) ((set_ne (by decide)).trans (set_ne (by decide))) ((set_ne (by decide)).trans (set_ne (by decide))) ((set_ne (by decide)).trans (set_ne (by decide)))
    have hr3 : ((σ2.set "through" (.con (.bool bb))).set "root" (.con (.ref (ad ((k, bb), []))))).H r = _ := hr2
    have hk3 : ((σ2.set "through" (.con (.bool bb))).set "root" (.con (.ref (ad ((k, bb), []))))).m "k" = _ := (set_ne (by decide)).trans ((set_ne (by decide)).trans hk2)
    have ht3 : ((σ2.set "through" (.con (.bool bb))).set "root" (.con (.ref (ad ((k, bb), []))))).m "through" = some (.con (.bool bb)) := by walk_at "lk"
    have hro3 : ((σ2.set "through" (.con (.bool bb))).set "root" (.con (.ref (ad ((k, bb), []))))).m "root" = some (.con (.ref (ad ((k, bb), [])))) := by walk_at "lk"
    generalize ((σ2.set "through" (.con (.bool bb))).set "root" (.con (.ref (ad ((k, bb), []))))) = σ3 at E3 hr3 hk3 ht3 hro3 ⊢
    have hc3 := E3.m3
    walk_at "ws"
    refine ⟨_, rfl, Cl.ref (by rw [hK]; rfl), ?_⟩
    walk_at "ws"
    refine TE.compW (test := some _) W rfl ⟨rfl, by decide, by intro q hq hf; unfold Env.kindOf; rw [hs']; revert q; decide, by decide, by decide⟩ ?_ (by intro _; rfl)
    walk_at "ws"
    refine ⟨cs.zipIdx.map callA, _, fun i acc H' => H' = σ3.H ∧ acc = (((cs.zipIdx.take i).filter fun c => decide (c.1.1 = (k, bb))).map fun c => rowA (c.1.2, c.2)), IterAs.list hh, ?_, fun i acc H' _ hI => ?_, ⟨rfl, rfl⟩, ?_, ?_⟩
    · rw [List.length_map, List.length_zipIdx]; have := E3.hN; omega
    · rw [hI.1]; exact E3.hcl
    · intro C2 i x acc σ6 W2 hs2 hh2 hx hI hsame
      rw [List.getElem?_map] at hx
      obtain ⟨⟨⟨⟨a1, b1⟩, q1⟩, n1⟩, hc, rfl⟩ := Option.map_eq_some_iff.mp hx
      have hu2 := W2.unit (by omega)
      have c1 := (hsame "k" (by rfl)).trans hk3
      have c2 := (hsame "through" (by rfl)).trans ht3
      have hnx : cs.zipIdx.take (i + 1) = cs.zipIdx.take i ++ [(((a1, b1), q1), n1)] := by rw [List.take_succ, hc]; rfl
      rw [show callA (((a1, b1), q1), n1) = .tup [.int (a1 : Int), .con (.bool b1), .tup (q1.map .str), .int (n1 : Int)] from rfl]
      unfold CTurn
      walk_at "ws"
      refine TCmp.eqD hu2 (.int 0 _) (.int 0 _) (by omega) (by omega) ?_
      walk_at "w"
      by_cases ha : a1 = k
      · have hA := eq_true (show AV.int (a1 : Int) = AV.int (k : Int) by rw [ha])
        simp only [hA, decide_true, if_true]
        walk_at "ws"
        refine TCmp.eqB ?_
        walk_at "w"
        by_cases hb1 : b1 = bb
        · rw [show (b1 == bb) = true by simp [hb1]]
          walk_at "si"
          refine ⟨by simp, ((((hsame.upd rfl).upd rfl).upd rfl).upd rfl), hI.1, ?_⟩
          rw [hI.2, hnx, List.filter_append, List.map_append]
          simp [ha, hb1]; rfl
        · rw [show (b1 == bb) = false by simp [hb1]]
          walk_at "si"
          refine ⟨((((hsame.upd rfl).upd rfl).upd rfl).upd rfl), hI.1, ?_⟩
          rw [hI.2, hnx, List.filter_append, List.map_append]
          simp [hb1]
      · have hA := eq_false (show ¬ AV.int (a1 : Int) = AV.int (k : Int) by intro x; injection x with x; omega)
        simp only [hA, decide_false, Bool.false_eq_true, if_false]
        refine ⟨((((hsame.upd rfl).upd rfl).upd rfl).upd rfl), hI.1, ?_⟩
        rw [hI.2, hnx, List.filter_append, List.map_append]
        simp [ha]
    · rintro acc H' D ⟨rfl, rfl⟩ hD
      walk_at "ws"
      have hrows : (((cs.zipIdx.take (cs.zipIdx.map callA).length).filter fun c => decide (c.1.1 = (k, bb))).map fun c => rowA (c.1.2, c.2)) = (rowsOf cs (k, bb)).map rowA := by
        unfold rowsOf
        rw [List.length_map, List.take_of_length_le (Nat.le_refl _), List.map_map]; rfl
      rw [hrows]
      have T := tree_of (N := 64) (t := (k, bb)) (E3.lay.ext (put_ext (o := .list ((rowsOf cs (k, bb)).map rowA)) hD)) hk (fun p => by
        unfold preOf; rw [if_neg]; rintro ⟨_, _, h, _⟩; exact absurd h (Nat.not_succ_le_self k)) E3.h4 E3.hd E3.hN (by omega)
      refine holds_call (σ := ⟨σ3.m, σ3.H.put D (.list ((rowsOf cs (k, bb)).map rowA))⟩) W (by omega) T AH.put_self fun H' hH' => ?_
      walk_at "ws"
      walk_at "si"
      have hE : Ext σ3.H H' := (put_ext hD).trans hH'
      refine ⟨E3.ext (σ' := ⟨σ3.m, H'⟩) hE rfl rfl rfl, hE _ _ hr3, hk3⟩
  · rintro σ2 ⟨E2, hr2, _⟩
    walk_at "ws"
    exact q σ2 E2 hr2
theorem law_E {P : Params} {C : Cx} {n : Nat} (W : Wd (hd02.heap_39 P) C n) (hn : n ≤ 20) (hs : C.env.scope = (lawD P).2.1) {cs : List Lab} {M : Nat} {X DX L E0 : Nat → Addr} {ml ll cl : Addr} {ad : Lab → Addr} {σ : St} (E : EndS cs M X DX L E0 ml ll cl ad 0 σ) :
    TS C ((lawBody P).drop 9) σ fun fl _ => retOf fl = .con (.bool true) := by
  have hh := W.hand
  have hu := W.unit (by omega)
  have hs' := hs
  unfold lawD at hs'; dsimp only at hs'
  unfold lawBody lawD; dsimp only [List.drop]
  have hM := E.S.small
  walk_at "w"
  refine TX.for W.calm.loops ?_ (by intro _; rfl)
  have m1 := E.m1
  walk_at "ws"
  refine TCall.lenL E.S.hml (by unfold refsA; rw [List.length_map, List.length_range]; omega) ?_
  rw [show (refsA X M).length = M by unfold refsA; rw [List.length_map, List.length_range]]
  walk_at "ws"
  refine TCall.range fun r hr => ?_
  refine ⟨intsA M, _, fun i σ => σ.H r = some (.rng M) ∧ EndS cs M X DX L E0 ml ll cl ad i σ, IterAs.range hh (by omega), fun i σ _ J => J.1, ⟨putH_self, E.ext (put_ext hr) rfl rfl rfl⟩, ?_, ?_⟩
  · rintro k y σ2 hy ⟨hr2, J⟩
    have hk : k < M := by have := (List.getElem?_eq_some_iff.mp hy).1; simpa [intsA] using this
    obtain rfl : y = .int (k : Int) := by
      simp only [intsA, List.getElem?_map, List.getElem?_range hk, Option.map_some, Option.some.injEq] at hy
      exact hy.symm
    walk_at "w"
    walk_at "w"
    have j1 : (σ2.set "k" (.int (k : Int))).m "machines" = _ := (set_ne (by decide)).trans J.m1
    have j2 : (σ2.set "k" (.int (k : Int))).m "lists" = _ := (set_ne (by decide)).trans J.m2
    have j3 : (σ2.set "k" (.int (k : Int))).m "calls" = _ := (set_ne (by decide)).trans J.m3
    walk_at "ws"
    have hLk := J.S.l k hk (Nat.le_refl _)
    have hr : Has (ksOf M cs ((k, false), ([] : List Str)).1) ((k, false), ([] : List Str)).2 := has_root hk
    have hroot := J.lay.at_ _ hr
    obtain ⟨el1, el2⟩ := ents_list (L := L) (ad := ad) hk J.h4
    refine TSub.list (by intro _ _; exact ⟨_, rfl⟩) (σ := σ2.set "k" (.int (k : Int))) J.S.hll (by omega) (by omega) (a := .con (.ref (L k))) (by rw [Int.toNat_natCast]; exact refsA_at hk) ?_
    refine TMeth.list (σ := σ2.set "k" (.int (k : Int))) hLk PySem.F.slot_list_append rfl ?_
    walk_at "ws"
    refine TCall.append (σ := σ2.set "k" (.int (k : Int))) hLk (by simp) ?_
    walk_at "ws"
    refine TSub.list (by intro _ _; exact ⟨_, rfl⟩) ((AH.put_ne (J.S.apart.2.1 k hk).symm).trans J.S.hml) (by omega) (by omega) (a := .con (.ref (X k))) (by rw [Int.toNat_natCast]; exact refsA_at hk) ?_
    have hK := W.K
    refine TAttr.inst (put_other (H := σ2.H) hLk (J.S.x k hk) (by intro x; cases x)) (put_other (H := σ2.H) hLk (J.S.dx k hk) (by intro x; cases x)) (by rw [hK]; rfl) (by rw [hK]; rfl) (by rw [hK]; rfl) (a := .con (.ref (ad ((k, false), [])))) (by rfl) ⟨_, rfl⟩ ?_
    refine TMeth.dict (.inl (put_other (H := σ2.H) hLk hroot (by intro x; cases x))) PySem.F.slot_dict_pop rfl ?_
    walk_at "ws"
    refine TCall.dpop (put_other (H := σ2.H) hLk hroot (by intro x; cases x)) (Nat.le_trans (ents_len J.hN J.hN) (by omega)) el1 ?_
    rw [el2]
    walk_at "w"
    obtain ⟨E6, keep⟩ := J.pop hk (o := [.con (.ref (E0 k)), .con (.ref (ad ((k, true), []))), .int (k : Int)])
    have hr6 : ((σ2.put (L k) (.list [.con (.ref (E0 k)), .con (.ref (ad ((k, true), []))), .int (k : Int)])).put (ad ((k, false), [])) (.dict (ents ad (ksOf M cs) (preOf L M (k + 1)) (mkOf cs cs.length) ((k, false), [])))).H r = some (.rng M) :=
      keep _ _ hr2 (fun e => by rw [e, hLk] at hr2; cases hr2) (fun e => by rw [e, hroot] at hr2; cases hr2)
    have hL6 : ((σ2.put (L k) (.list [.con (.ref (E0 k)), .con (.ref (ad ((k, true), []))), .int (k : Int)])).put (ad ((k, false), [])) (.dict (ents ad (ksOf M cs) (preOf L M (k + 1)) (mkOf cs cs.length) ((k, false), [])))).H (L k) = some (.list [.con (.ref (E0 k)), .con (.ref (ad ((k, true), []))), .int (k : Int)]) :=
      (AH.put_ne fun e => by rw [e, hroot] at hLk; cases hLk).trans AH.put_self
    refine law_E2 (P := P) W hn hs hk (σ := (((σ2.set "k" (.int (k : Int))).put (L k) (.list [.con (.ref (E0 k)), .con (.ref (ad ((k, true), []))), .int (k : Int)])).put (ad ((k, false), [])) (.dict (ents ad (ksOf M cs) (preOf L M (k + 1)) (mkOf cs cs.length) ((k, false), [])))).set "held" (.con (.ref (L k))))
      (E6.ext (σ' := (((σ2.set "k" (.int (k : Int))).put (L k) (.list [.con (.ref (E0 k)), .con (.ref (ad ((k, true), []))), .int (k : Int)])).put (ad ((k, false), [])) (.dict (ents ad (ksOf M cs) (preOf L M (k + 1)) (mkOf cs cs.length) ((k, false), [])))).set "held" (.con (.ref (L k)))) (Ext.refl _) ?_ ?_ ?_) (by walk_at "lk") set_same hL6 hr6 fun σ' E7 hr7 => ⟨hr7, E7⟩
    · refine (set_ne (by decide)).trans ?_
      show (σ2.set "k" (.int (k : Int))).m "machines" = σ2.m "machines"
      exact set_ne (by decide)
    · refine (set_ne (by decide)).trans ?_
      show (σ2.set "k" (.int (k : Int))).m "lists" = σ2.m "lists"
      exact set_ne (by decide)
    · refine (set_ne (by decide)).trans ?_
      show (σ2.set "k" (.int (k : Int))).m "calls" = σ2.m "calls"
      exact set_ne (by decide)
  · rintro σ2 ⟨_, J⟩
    have : (intsA M).length = M := by simp [intsA]
    walk_at "ws"
    rfl

structure MidS (cs : List Lab) (M : Nat) (X DX L E0 : Nat → Addr) (ml ll cl gl : Addr) (ad : Lab → Addr) (j : Nat) (σ : St) : Prop where
  m1 : σ.m "machines" = some (.con (.ref ml))
  m2 : σ.m "lists" = some (.con (.ref ll))
  m3 : σ.m "calls" = some (.con (.ref cl))
  m4 : σ.m "given" = some (.con (.ref gl))
  S : LawS M X DX L E0 ml ll ad 0 σ.H
  hcl : σ.H cl = some (.list (cs.zipIdx.map callA))
  hgl : σ.H gl = some (.list (cs.map fun c => .con (.ref (ad c))))
  ap : cl ≠ gl ∧ ml ≠ cl ∧ ml ≠ gl ∧ ll ≠ cl ∧ ll ≠ gl ∧ ∀ j < M, L j ≠ cl ∧ L j ≠ gl
  lay : Lay ad (ksOf M cs) (preOf L M 0) (mkOf cs j) σ.H
  av : ∀ l : Lab, Has (ksOf M cs l.1) l.2 → ∀ j < M, ad l ≠ DX j ∧ ad l ≠ E0 j
  h4 : ∀ c ∈ cs, ∀ x ∈ c.2, x ∈ four
  hd : ∀ c ∈ cs, c.2.length ≤ 200
  hN : cs.length ≤ 64
  inM : ∀ c ∈ cs, c.1.1 < M
section
variable {cs : List Lab} {M : Nat} {X DX L E0 : Nat → Addr} {ml ll cl gl : Addr} {ad ad' : Lab → Addr} {j : Nat} {σ σ' : St}
theorem MidS.ext (E : MidS cs M X DX L E0 ml ll cl gl ad j σ) (e : Ext σ.H σ'.H) (h1 : σ'.m "machines" = σ.m "machines") (h2 : σ'.m "lists" = σ.m "lists") (h3 : σ'.m "calls" = σ.m "calls") (h4 : σ'.m "given" = σ.m "given") : MidS cs M X DX L E0 ml ll cl gl ad j σ' :=
  ⟨h1.trans E.m1, h2.trans E.m2, h3.trans E.m3, h4.trans E.m4, E.S.ext e, e _ _ E.hcl, e _ _ E.hgl, E.ap, E.lay.ext e, E.av, E.h4, E.hd, E.hN, E.inM⟩
theorem MidS.end (E : MidS cs M X DX L E0 ml ll cl gl ad cs.length σ) : EndS cs M X DX L E0 ml ll cl ad 0 σ :=
  ⟨E.m1, E.m2, E.m3, E.S, E.hcl, fun j h => (E.ap.2.2.2.2.2 j h).1, E.lay, E.av, E.h4, E.hd, E.hN⟩
theorem MidS.mark (E : MidS cs M X DX L E0 ml ll cl gl ad j σ) {c : Lab} (hc : cs[j]? = some c) :
    MidS cs M X DX L E0 ml ll cl gl ad (j + 1) (σ.put (ad c) (.dict (ents ad (ksOf M cs) (preOf L M 0) (mkOf cs j) c ++ [(atN j, .int (j : Int))]))) := by
  have hm := List.mem_of_getElem? hc
  have hh : Has (ksOf M cs c.1) c.2 := has_call hm (E.inM c hm)
  have hat := E.lay.at_ c hh
  have nl : ∀ {a l}, σ.H a = some (.list l) → (σ.H.put (ad c) (.dict (ents ad (ksOf M cs) (preOf L M 0) (mkOf cs j) c ++ [(atN j, .int (j : Int))]))) a = some (.list l) := fun h => put_other hat h (by intro x; cases x)
  refine ⟨E.m1, E.m2, E.m3, E.m4, ⟨nl E.S.hml, nl E.S.hll, fun i h => put_other hat (E.S.x i h) (by intro x; cases x), fun i h => (AH.put_ne (E.av c hh i h).1.symm).trans (E.S.dx i h), fun i h h2 => nl (E.S.l i h h2), fun i h => (AH.put_ne (E.av c hh i h).2.symm).trans (E.S.e0 i h), E.S.li, E.S.small, E.S.apart⟩,
    nl E.hcl, nl E.hgl, E.ap, E.lay.mark hh fun l' => mkOf_succ hc, E.av, E.h4, E.hd, E.hN, E.inM⟩
theorem ks_four (h4 : ∀ c ∈ cs, ∀ x ∈ c.2, x ∈ four) (t : Tid) : ∀ q ∈ ksOf M cs t, ∀ x ∈ q, x ∈ four := fun q hq x hx => by
  unfold ksOf at hq
  split at hq
  · rcases List.mem_cons.mp hq with rfl | hq
    · cases hx
    · obtain ⟨c, hc, rfl⟩ := List.mem_map.mp hq
      exact h4 c (List.mem_filter.mp hc).1 x hx
  · cases hq
theorem MidS.noMark (E : MidS cs M X DX L E0 ml ll cl gl ad j σ) {c : Lab} : valA (ents ad (ksOf M cs) (preOf L M 0) (mkOf cs j) c) (atN j) = none := by
  unfold ents
  rw [valA_append, valA_notin, valA_none]
  · rfl
  · intro e he x
    obtain ⟨i, hi, rfl⟩ := List.mem_map.mp he
    have := atN_inj x
    subst this
    unfold mkOf at hi
    exact absurd (List.mem_range.mp (List.mem_filter.mp hi).1) (Nat.lt_irrefl _)
  · intro e he
    rcases List.mem_append.mp he with he | he
    · unfold preOf at he
      split at he
      · rw [List.mem_singleton.mp he]; show ("list" : Str).cps.toList.take 3 ≠ _; decide +kernel
      · cases he
    · obtain ⟨x, hx, rfl⟩ := List.mem_map.mp he
      exact four_at x (Has.names (F := four) (ks_four E.h4 c.1) _ hx)
end

theorem law_D {P : Params} {C : Cx} {n : Nat} (W : Wd (hd02.heap_39 P) C n) (hn : n ≤ 20) (hs : C.env.scope = (lawD P).2.1) {cs : List Lab} {M : Nat} {X DX L E0 : Nat → Addr} {ml ll cl gl : Addr} {ad : Lab → Addr} {σ : St} (E : MidS cs M X DX L E0 ml ll cl gl ad 0 σ) :
    TS C ((lawBody P).drop 8) σ fun fl _ => retOf fl = .con (.bool true) := by
  have hh := W.hand
  have hu := W.unit (by omega)
  unfold lawBody lawD; dsimp only [List.drop]
  have hN := E.hN
  walk_at "w"
  refine TX.for W.calm.loops ?_ (by intro _; rfl)
  have m4 := E.m4
  walk_at "ws"
  refine TCall.lenL E.hgl (by rw [List.length_map]; omega) ?_
  rw [List.length_map]
  walk_at "ws"
  refine TCall.range fun r hr => ?_
  refine ⟨intsA cs.length, _, fun i σ => σ.H r = some (.rng cs.length) ∧ MidS cs M X DX L E0 ml ll cl gl ad i σ, IterAs.range hh (by omega), fun i σ _ J => J.1, ⟨putH_self, E.ext (put_ext hr) rfl rfl rfl rfl⟩, ?_, ?_⟩
  · rintro k y σ2 hy ⟨hr2, J⟩
    have hk : k < cs.length := by have := (List.getElem?_eq_some_iff.mp hy).1; simpa [intsA] using this
    obtain rfl : y = .int (k : Int) := by
      simp only [intsA, List.getElem?_map, List.getElem?_range hk, Option.map_some, Option.some.injEq] at hy
      exact hy.symm
    walk_at "w"
    walk_at "w"
    have J2 : MidS cs M X DX L E0 ml ll cl gl ad k (σ2.set "n" (.int (k : Int))) := J.ext (Ext.refl _) (set_ne (by decide)) (set_ne (by decide)) (set_ne (by decide)) (set_ne (by decide))
    have hr3 : (σ2.set "n" (.int (k : Int))).H r = _ := hr2
    have hn3 : (σ2.set "n" (.int (k : Int))).m "n" = some (.int (k : Int)) := set_same
    generalize (σ2.set "n" (.int (k : Int))) = σ3 at J2 hr3 hn3 ⊢
    have j4 := J2.m4
    walk_at "ws"
    have hck : cs[k]? = some cs[k] := List.getElem?_eq_getElem hk
    refine TSub.list (by intro _ _; exact ⟨_, rfl⟩) J2.hgl (by omega) (by omega) (a := .con (.ref (ad cs[k]))) (by rw [Int.toNat_natCast, List.getElem?_map, hck]; rfl) ?_
    walk_at "ws"
    refine TCall.str (Nat.lt_of_le_of_lt (Nat.log2_le_self _) (by simp; omega)) ?_
    refine TBin.addS ?_ ?_
    · have := short_num k (by omega)
      have h3 : ("at " : Str).length = 3 := by decide +kernel
      omega
    have hm := List.mem_of_getElem? hck
    have hat := J2.lay.at_ _ (has_call hm (J2.inM _ hm))
    refine TSet.dict hat (ents_len hN (by omega)) ?_
    rw [show ("at " : Str) ++ Str.ofString (toString (k : Int)) = atN k from rfl, storeA_new J2.noMark]
    walk_at "w"
    exact ⟨put_other hat hr3 (by intro x; cases x), J2.mark hck⟩
  · rintro σ2 ⟨_, J⟩
    rw [show (intsA cs.length).length = cs.length by simp [intsA]] at J
    exact law_E W hn hs J.end

section
variable {cs : List Lab} {M : Nat} {X DX L E0 : Nat → Addr} {ml ll cl gl : Addr} {ad ad' : Lab → Addr} {σ σ' : St} {c : Lab} {H1 : AH}
theorem MidS.trees (E : MidS cs M X DX L E0 ml ll cl gl ad 0 σ) : Trees ad (ksOf M cs) (preOf L M 0) σ.H := by
  refine ⟨E.lay, fun l h => ?_, fun l e he => ?_, fun l => ?_, fun t => ?_, ks_four E.h4⟩
  · unfold preOf; rw [if_neg]; exact fun x => h x.2.1
  · unfold preOf at he; split at he
    · rw [List.mem_singleton.mp he]
    · cases he
  · unfold preOf; split <;> simp
  · unfold ksOf; split
    · rw [List.length_cons, List.length_map]
      have := List.length_filter_le (fun c : Lab => decide (c.1 = t)) cs
      have := E.hN
      omega
    · simp
/-- a call's end: its nest put to given -/
theorem MidS.given (E : MidS cs M X DX L E0 ml ll cl gl ad 0 σ) (G : Grown ad ad' (ksOf M cs) (addK (ksOf M cs) c.1 c.2) (preOf L M 0) (fun _ => []) σ.H H1) : H1 gl = some (.list (cs.map fun c => .con (.ref (ad c)))) ∧ H1 cl = some (.list (cs.zipIdx.map callA)) :=
  ⟨G.rest _ _ E.hgl (fun l hl e => by have := E.lay.at_ l hl; rw [e, E.hgl] at this; cases this), G.rest _ _ E.hcl fun l hl e => by have := E.lay.at_ l hl; rw [e, E.hcl] at this; cases this⟩
theorem MidS.call (E : MidS cs M X DX L E0 ml ll cl gl ad 0 σ) (G : Grown ad ad' (ksOf M cs) (addK (ksOf M cs) c.1 c.2) (preOf L M 0) (fun _ => []) σ.H H1) (ht : c.1.1 < M) (hc4 : ∀ x ∈ c.2, x ∈ four) (hcd : c.2.length ≤ 200) (hlen : cs.length < 64)
    (h1 : σ'.m "machines" = σ.m "machines") (h2 : σ'.m "lists" = σ.m "lists") (h3 : σ'.m "calls" = σ.m "calls") (h4 : σ'.m "given" = σ.m "given")
    (hH : σ'.H = (H1.put gl (.list (cs.map (fun c => AV.con (.ref (ad c))) ++ [.con (.ref (ad' c))]))).put cl (.list (cs.zipIdx.map callA ++ [callA (c, cs.length)]))) : MidS (cs ++ [c]) M X DX L E0 ml ll cl gl ad' 0 σ' := by
  obtain ⟨t, q⟩ := c
  have G' := G
  dsimp only at G' ht hc4 hcd
  rw [ksOf_snoc ht] at G'
  obtain ⟨g1, g2⟩ := E.given G
  have rest : ∀ {a v}, σ.H a = some v → (∀ l : Lab, Has (ksOf M cs l.1) l.2 → ad l ≠ a) → a ≠ gl → a ≠ cl → σ'.H a = some v := fun h n1 n2 n3 => by rw [hH]; exact (AH.put_ne n3).trans ((AH.put_ne n2).trans (G.rest _ _ h n1))
  have ty : ∀ {a l}, σ.H a = some (.list l) → ∀ l : Lab, Has (ksOf M cs l.1) l.2 → ad l ≠ a := fun h l hl e => by have := E.lay.at_ l hl; rw [e, h] at this; cases this
  have ng : ∀ {a v}, σ.H a = some v → (∀ l, v ≠ .list l) → a ≠ gl := fun h n e => by rw [e, E.hgl] at h; exact n _ (Option.some.inj h.symm)
  have nc : ∀ {a v}, σ.H a = some v → (∀ l, v ≠ .list l) → a ≠ cl := fun h n e => by rw [e, E.hcl] at h; exact n _ (Option.some.inj h.symm)
  have root : ∀ j < M, ∀ b, ad' ((j, b), []) = ad ((j, b), []) := fun j h b => G.same _ (has_root h)
  refine ⟨h1.trans E.m1, h2.trans E.m2, h3.trans E.m3, h4.trans E.m4, ⟨rest E.S.hml (ty E.S.hml) E.ap.2.2.1 E.ap.2.1, rest E.S.hll (ty E.S.hll) E.ap.2.2.2.2.1 E.ap.2.2.2.1, fun j h => rest (E.S.x j h) (fun l hl e => by have := E.lay.at_ l hl; rw [e, E.S.x j h] at this; cases this) (ng (E.S.x j h) (by intro l x; cases x)) (nc (E.S.x j h) (by intro l x; cases x)),
    fun j h => ?_, fun j h h2 => ?_, fun j h => rest (E.S.e0 j h) (fun l hl => (E.av l hl j h).2) (ng (E.S.e0 j h) (by intro l x; cases x)) (nc (E.S.e0 j h) (by intro l x; cases x)), E.S.li, E.S.small, E.S.apart⟩, ?_, ?_, E.ap, ?_, fun l hl j hj => ?_, fun c hc => ?_, fun c hc => ?_, ?_, fun c hc => ?_⟩
  · rw [root j h]; exact rest (E.S.dx j h) (fun l hl => (E.av l hl j h).1) (ng (E.S.dx j h) (by intro l x; cases x)) (nc (E.S.dx j h) (by intro l x; cases x))
  · rw [root j h]; exact rest (E.S.l j h h2) (ty (E.S.l j h h2)) (E.ap.2.2.2.2.2 j h).2 (E.ap.2.2.2.2.2 j h).1
  · rw [hH, AH.put_self, List.zipIdx_append, List.map_append]; simp
  · rw [hH, AH.put_ne E.ap.1.symm, AH.put_self, List.map_append]
    congr 2
    refine congrArg (· ++ _) (List.map_congr_left fun c hc => ?_)
    rw [G.same c (has_call hc (E.inM c hc))]
  · rw [mkOf_zero, hH]
    refine G'.lay.keep fun l hl => ?_
    have := G'.lay.at_ l hl
    rw [AH.put_ne, AH.put_ne]
    · intro e; rw [e, g1] at this; cases this
    · intro e; rw [e, g2] at this; cases this
  · rcases G'.new l hl with h | h
    · rw [G.same l h]; exact E.av l h j hj
    · exact ⟨(fun e => by rw [e, E.S.dx j hj] at h; cases h), fun e => by rw [e, E.S.e0 j hj] at h; cases h⟩
  · rcases List.mem_append.mp hc with hc | hc
    · exact E.h4 c hc
    · rw [List.mem_singleton.mp hc]; exact hc4
  · rcases List.mem_append.mp hc with hc | hc
    · exact E.hd c hc
    · rw [List.mem_singleton.mp hc]; exact hcd
  · rw [List.length_append, List.length_singleton]; omega
  · rcases List.mem_append.mp hc with hc | hc
    · exact E.inM c hc
    · rw [List.mem_singleton.mp hc]; exact ht
end

def lawLoop (P : Params) : List Stmt := match lawBody P with
  | [_, _, _, _, _, _, _, .For _ _ b _ _, _, _, _] => b
  | _ => []
structure TurnS (cs : List Lab) (M : Nat) (X DX L E0 : Nat → Addr) (ml ll cl gl : Addr) (N : List Int) (nl r : Addr) (ad : Lab → Addr) (σ : St) : Prop where
  E : MidS cs M X DX L E0 ml ll cl gl ad 0 σ
  mn : σ.m "numbers" = some (.con (.ref nl))
  hn : σ.H nl = some (.list (N.map .int))
  hr : σ.H r = some (.rng N.length)
  ne : nl ≠ gl ∧ nl ≠ cl
section
variable {P : Params} {C : Cx} {n : Nat} {cs : List Lab} {M : Nat} {X DX L E0 : Nat → Addr} {ml ll cl gl : Addr} {N : List Int} {nl r : Addr} {ad ad' : Lab → Addr} {σ0 σ : St} {c : Lab} {H1 : AH} {Q : AFl → St → Prop}
theorem law_C2 (W : Wd (hd02.heap_39 P) C n) (hn : n ≤ 20) (hs : C.env.scope = (lawD P).2.1) (E : TurnS cs M X DX L E0 ml ll cl gl N nl r ad σ0) (G : Grown ad ad' (ksOf M cs) (addK (ksOf M cs) c.1 c.2) (preOf L M 0) (fun _ => []) σ0.H H1) (ht : c.1.1 < M) (hc4 : ∀ x ∈ c.2, x ∈ four) (hcd : c.2.length ≤ 200) (hlen : cs.length < 64)
    (h1 : σ.m "machines" = σ0.m "machines") (h2 : σ.m "lists" = σ0.m "lists") (h3 : σ.m "calls" = σ0.m "calls") (h4 : σ.m "given" = σ0.m "given") (h5 : σ.m "numbers" = σ0.m "numbers")
    (k1 : σ.m "at" = some (.int (c.1.1 : Int))) (k2 : σ.m "through" = some (.con (.bool c.1.2))) (k3 : σ.m "key" = some (.tup (c.2.map .str))) (k4 : σ.m "n" = some (.int (cs.length : Int)))
    (hH : σ.H = H1.put gl (.list (cs.map (fun c => AV.con (.ref (ad c))) ++ [.con (.ref (ad' c))])))
    (q : ∀ σ', TurnS (cs ++ [c]) M X DX L E0 ml ll cl gl N nl r ad' σ' → Q .next σ') : TS C ((lawLoop P).drop 3) σ Q := by
  have hh := W.hand
  have hu := W.unit (by omega)
  unfold lawLoop lawBody lawD; dsimp only [List.drop]
  obtain ⟨g1, g2⟩ := E.E.given G
  have m3 := h3.trans E.E.m3
  have m4 := h4.trans E.E.m4
  have hat := G.lay.at_ c (Has.last rfl (List.take_of_length_le (Nat.le_refl _)))
  have hgl : σ.H gl = some (.list (cs.map (fun c => AV.con (.ref (ad c))) ++ [.con (.ref (ad' c))])) := by rw [hH]; exact AH.put_self
  have hcl : σ.H cl = some (.list (cs.zipIdx.map callA)) := by rw [hH]; exact (AH.put_ne E.E.ap.1).trans g2
  have had : σ.H (ad' c) = some (.dict (ents ad' (addK (ksOf M cs) c.1 c.2) (preOf L M 0) (fun _ => []) c)) := by rw [hH]; exact put_other g1 hat (by intro x; cases x)
  walk_at "ws"
  refine TSub.list (by intro _ _; exact ⟨_, rfl⟩) hgl (by omega) (by omega) (a := .con (.ref (ad' c))) (by rw [Int.toNat_natCast, List.getElem?_append_right (by rw [List.length_map]; exact Nat.le_refl _), List.length_map, Nat.sub_self]; rfl) ?_
  walk_at "ws"
  refine TCall.type (.dict (.inl had)) ?_
  walk_at "ws"
  refine TCmp.isNotC (by rfl) ?_
  rw [show (!(Value.type "dict" == bootValue (Manifest.BuiltinName.type "dict") "dict")) = false from by rfl]
  walk_at "si"
  refine TMeth.list hcl PySem.F.slot_list_append rfl ?_
  walk_at "ws"
  refine ⟨by simp, ?_⟩
  walk_at "ws"
  refine TCall.append hcl (by rw [List.length_map, List.length_zipIdx]; omega) ?_
  walk_at "ws"
  refine q _ ⟨E.E.call (σ' := σ.put cl (.list (cs.zipIdx.map callA ++ [callA (c, cs.length)]))) G ht hc4 hcd hlen h1 h2 h3 h4 (by show σ.H.put _ _ = _; rw [hH]), h5.trans E.mn, ?_, ?_, E.ne⟩
  · have := G.rest _ _ E.hn fun l hl e => by have := E.E.lay.at_ l hl; rw [e, E.hn] at this; cases this
    refine (AH.put_ne E.ne.2).trans ?_
    rw [hH]
    exact (AH.put_ne E.ne.1).trans this
  · have h9 := G.rest _ _ E.hr fun l hl e => by have := E.E.lay.at_ l hl; rw [e, E.hr] at this; cases this
    refine put_other hcl ?_ (by intro x; cases x)
    rw [hH]
    exact put_other g1 h9 (by intro x; cases x)

theorem law_C (W : Wd (hd02.heap_39 P) C n) (hn : n ≤ 20) (hs : C.env.scope = (lawD P).2.1) (E : MidS [] M X DX L E0 ml ll cl gl ad 0 σ) (mn : σ.m "numbers" = some (.con (.ref nl))) (hnl : σ.H nl = some (.list (N.map .int))) (ne : nl ≠ gl ∧ nl ≠ cl) (hN : N.length ≤ 64) (hM : 0 < M) :
    TS C ((lawBody P).drop 7) σ fun fl _ => retOf fl = .con (.bool true) := by
  have hh := W.hand
  have hu := W.unit (by omega)
  have hs' := hs
  unfold lawD at hs'; dsimp only at hs'
  have hM65 := E.S.small
  unfold lawBody lawD; dsimp only [List.drop]
  walk_at "w"
  refine TX.for W.calm.loops ?_ (by intro _; rfl)
  walk_at "ws"
  refine TCall.lenL hnl (by rw [List.length_map]; omega) ?_
  rw [List.length_map]
  walk_at "ws"
  refine TCall.range fun r hr => ?_
  refine ⟨intsA N.length, _, fun i σ => ∃ cs ad, cs.length = i ∧ TurnS cs M X DX L E0 ml ll cl gl N nl r ad σ, IterAs.range hh (by omega), fun i σ _ ⟨_, _, _, J⟩ => J.hr, ⟨[], ad, rfl, ⟨E.ext (put_ext hr) rfl rfl rfl rfl, mn, put_keep hr hnl, AH.put_self, ne⟩⟩, ?_, ?_⟩
  · rintro i y σ2 hy ⟨cs, ad, rfl, J⟩
    have hi : cs.length < N.length := by have := (List.getElem?_eq_some_iff.mp hy).1; simpa [intsA] using this
    obtain rfl : y = .int (cs.length : Int) := by
      simp only [intsA, List.getElem?_map, List.getElem?_range hi, Option.map_some, Option.some.injEq] at hy
      exact hy.symm
    walk_at "w"
    walk_at "w"
    have J2 : TurnS cs M X DX L E0 ml ll cl gl N nl r ad (σ2.set "n" (.int (cs.length : Int))) := ⟨J.E.ext (Ext.refl _) (set_ne (by decide)) (set_ne (by decide)) (set_ne (by decide)) (set_ne (by decide)), (set_ne (by decide)).trans J.mn, J.hn, J.hr, J.ne⟩
    have hn3 : (σ2.set "n" (.int (cs.length : Int))).m "n" = some (.int (cs.length : Int)) := set_same
    generalize (σ2.set "n" (.int (cs.length : Int))) = σ3 at J2 hn3 ⊢
    have j1 := J2.E.m1
    have j5 := J2.mn
    walk_at "w"
    refine TX.assignTup ?_ (by rfl) (by unfold swappedStores Env.blockKind Env.kindOf; simp only [hs']; rfl)
    walk_at "ws"
    have hNi : (N.map AV.int)[(cs.length : Int).toNat]? = some (.int N[cs.length]) := by rw [Int.toNat_natCast, List.getElem?_map, List.getElem?_eq_getElem hi]; rfl
    refine TSub.list (by intro _ _; exact ⟨_, rfl⟩) J2.hn (by omega) (by omega) hNi ?_
    walk_at "ws"
    refine TCall.lenL J2.E.S.hml (by unfold refsA; rw [List.length_map, List.length_range]; omega) ?_
    rw [show (refsA X M).length = M by unfold refsA; rw [List.length_map, List.length_range]]
    refine TBin.modI (by omega) ?_
    walk_at "ws"
    refine TSub.list (by intro _ _; exact ⟨_, rfl⟩) J2.hn (by omega) (by omega) hNi ?_
    walk_at "ws"
    refine ⟨by simp, ?_⟩
    obtain ⟨a, ha, haM⟩ : ∃ a : Nat, (N[cs.length]).fmod (M : Int) = (a : Int) ∧ a < M := by
      have h0 := Int.fmod_nonneg_of_pos (N[cs.length]) (by omega : 0 < (M : Int))
      have h1 := Int.fmod_lt_of_pos (N[cs.length]) (by omega : 0 < (M : Int))
      exact ⟨((N[cs.length]).fmod (M : Int)).toNat, by omega, by omega⟩
    rw [ha]
    walk_at "w"
    walk_at "w"
    walk_at "w"
    have J3 : TurnS cs M X DX L E0 ml ll cl gl N nl r ad ((σ3.set "at" (.int (a : Int))).set "through" (.con (.bool (decide (N[cs.length] < 0))))) :=
      ⟨J2.E.ext (Ext.refl _) ((set_ne (by decide)).trans (set_ne (by decide))) ((set_ne (by decide)).trans (set_ne (by decide))) ((set_ne (by decide)).trans (set_ne (by decide))) ((set_ne (by decide)).trans (set_ne (by decide))), ((set_ne (by decide)).trans (set_ne (by decide))).trans J2.mn, J2.hn, J2.hr, J2.ne⟩
    have a3 : ((σ3.set "at" (.int (a : Int))).set "through" (.con (.bool (decide (N[cs.length] < 0))))).m "at" = some (.int (a : Int)) := by walk_at "lk"
    have t3 : ((σ3.set "at" (.int (a : Int))).set "through" (.con (.bool (decide (N[cs.length] < 0))))).m "through" = some (.con (.bool (decide (N[cs.length] < 0)))) := by walk_at "lk"
    have n3 : ((σ3.set "at" (.int (a : Int))).set "through" (.con (.bool (decide (N[cs.length] < 0))))).m "n" = some (.int (cs.length : Int)) := by walk_at "lk"
    generalize ((σ3.set "at" (.int (a : Int))).set "through" (.con (.bool (decide (N[cs.length] < 0))))) = σ4 at J3 a3 t3 n3 ⊢
    clear j1 j5 J2 hn3
    have j1 := J3.E.m1
    have j5 := J3.mn
    walk_at "ws"
    refine ⟨_, rfl, Cl.ref (by rw [W.K]; rfl), ?_⟩
    walk_at "ws"
    refine TSub.list (by intro _ _; exact ⟨_, rfl⟩) J3.hn (by omega) (by omega) hNi ?_
    walk_at "ws"
    refine TCall.abs ?_
    walk_at "ws"
    refine TCall.lenL J3.E.S.hml (by unfold refsA; rw [List.length_map, List.length_range]; omega) ?_
    rw [show (refsA X M).length = M by unfold refsA; rw [List.length_map, List.length_range]]
    refine TBin.divI (by omega) (by omega) ?_
    walk_at "ws"
    refine key_call W (by omega) fun q Hk hq200 hq4 hext => ?_
    walk_at "w"
    have J4 : TurnS cs M X DX L E0 ml ll cl gl N nl r ad ((⟨σ4.m, Hk⟩ : St).set "key" (.tup (q.map .str))) :=
      ⟨J3.E.ext hext (set_ne (by decide)) (set_ne (by decide)) (set_ne (by decide)) (set_ne (by decide)), (set_ne (by decide)).trans J3.mn, hext _ _ J3.hn, hext _ _ J3.hr, J3.ne⟩
    have a4 : ((⟨σ4.m, Hk⟩ : St).set "key" (.tup (q.map .str))).m "at" = some (.int (a : Int)) := by walk_at "lk"
    have t4 : ((⟨σ4.m, Hk⟩ : St).set "key" (.tup (q.map .str))).m "through" = some (.con (.bool (decide (N[cs.length] < 0)))) := by walk_at "lk"
    have n4 : ((⟨σ4.m, Hk⟩ : St).set "key" (.tup (q.map .str))).m "n" = some (.int (cs.length : Int)) := by walk_at "lk"
    have k4 : ((⟨σ4.m, Hk⟩ : St).set "key" (.tup (q.map .str))).m "key" = some (.tup (q.map .str)) := by walk_at "lk"
    generalize ((⟨σ4.m, Hk⟩ : St).set "key" (.tup (q.map .str))) = σ5 at J4 a4 t4 n4 k4 ⊢
    clear j1 j5 J3 a3 t3 n3
    have j1 := J4.E.m1
    have j4 := J4.E.m4
    have hxa := J4.E.S.x a haM
    have hda := J4.E.S.dx a haM
    have T := J4.E.trees
    generalize hb : decide (N[cs.length] < 0) = b at t4
    walk_at "ws"
    cases b
    · simp only [Bool.false_eq_true, if_false]
      walk_at "ws"
      refine TMeth.list J4.E.hgl PySem.F.slot_list_append rfl ?_
      walk_at "ws"
      refine' TE.methK ?m1 ?m2 ?m3 ?m4
      case m1 => exact rfl
      case m3 => rfl
      case m4 => intro _; rfl
      case m2 =>
      walk_at "ws"
      refine TSub.list (by intro _ _; exact ⟨_, rfl⟩) J4.E.S.hml (by omega) (by omega) (a := .con (.ref (X a))) (by rw [Int.toNat_natCast]; exact refsA_at haM) ?_
      refine nest_meth W hxa hda ?_
      refine ⟨_, rfl, Cl.ref (by rw [W.K]; rfl), ?_⟩
      walk_at "ws"
      refine nest_call_out W (by omega) (k := a) (q := q) hxa hda T (has_root haM) hq4 fun ad' H' G => ?_
      walk_at "w"
      have hgl1 := (J4.E.given (c := ((a, false), q)) G).1
      refine TCall.append (σ := ⟨σ5.m, H'⟩) hgl1 (by rw [List.length_map]; omega) ?_
      walk_at "w"
      refine law_C2 (P := P) W hn hs J4 (c := ((a, false), q)) G haM hq4 hq200 (by omega) (by rfl) (by rfl) (by rfl) (by rfl) (by rfl) a4 t4 k4 n4 (by rfl) fun σ' Jn => ⟨cs ++ [((a, false), q)], ad', by simp, Jn⟩
    · simp only [if_true]
      walk_at "ws"
      refine TMeth.list J4.E.hgl PySem.F.slot_list_append rfl ?_
      walk_at "ws"
      refine TSub.list (by intro _ _; exact ⟨_, rfl⟩) J4.E.S.hml (by omega) (by omega) (a := .con (.ref (X a))) (by rw [Int.toNat_natCast]; exact refsA_at haM) ?_
      refine nest_meth W hxa hda ?_
      refine ⟨_, rfl, Cl.ref (by rw [W.K]; rfl), ?_⟩
      walk_at "ws"
      refine ⟨by simp, ?_⟩
      walk_at "ws"
      refine TBin.addT (by simp; omega) ?_
      walk_at "ws"
      refine nest_call_in W (by omega) (k := a) (q := q) hxa hda T (has_root haM) (has_root haM) hq4 ⟨L a, [.con (.ref (E0 a))], ?_, J4.E.S.l a haM (Nat.zero_le _)⟩ fun ad' H' G => ?_
      · unfold preOf; rw [if_pos ⟨rfl, rfl, Nat.zero_le _, haM⟩]
      walk_at "w"
      have hgl1 := (J4.E.given (c := ((a, true), q)) G).1
      refine TCall.append (σ := ⟨σ5.m, H'⟩) hgl1 (by rw [List.length_map]; omega) ?_
      walk_at "w"
      refine law_C2 (P := P) W hn hs J4 (c := ((a, true), q)) G haM hq4 hq200 (by omega) (by rfl) (by rfl) (by rfl) (by rfl) (by rfl) a4 t4 k4 n4 (by rfl) fun σ' Jn => ⟨cs ++ [((a, true), q)], ad', by simp, Jn⟩
  · rintro σ2 ⟨cs, ad, hl, J⟩
    exact law_D W hn hs J.E
end

structure MachS (i : Nat) (X DX D : Nat → Addr) (H0 H : AH) : Prop where
  ext : Ext H0 H
  x : ∀ j < i, H (X j) = some (.inst 53 (DX j))
  dx : ∀ j < i, H (DX j) = some (.dict [("dict", .con (.ref (D j)))])
  d : ∀ j < i, H (D j) = some (.dict [])
  di : ∀ j < i, ∀ j' < i, D j = D j' → j = j'
structure ListS (i : Nat) (L E0 E1 : Nat → Addr) (H1 H : AH) : Prop where
  ext : Ext H1 H
  l : ∀ j < i, H (L j) = some (.list [.con (.ref (E0 j)), .con (.ref (E1 j))])
  e0 : ∀ j < i, H (E0 j) = some (.dict [])
  e1 : ∀ j < i, H (E1 j) = some (.dict [])
  li : ∀ j < i, ∀ j' < i, L j = L j' → j = j'
  e1i : ∀ j < i, ∀ j' < i, E1 j = E1 j' → j = j'
  e01 : ∀ j < i, ∀ j' < i, E0 j ≠ E1 j'
  n0 : ∀ j < i, H1 (E0 j) = none
  n1 : ∀ j < i, H1 (E1 j) = none
  nl : ∀ j < i, H1 (L j) = none
def at_ (f : Nat → Addr) (i : Nat) (a : Addr) : Nat → Addr := fun j => if j = i then a else f j
theorem at_self {f : Nat → Addr} {i : Nat} {a : Addr} : at_ f i a i = a := by simp [at_]
theorem at_lt {f : Nat → Addr} {i j : Nat} {a : Addr} (h : j < i) : at_ f i a j = f j := by unfold at_; rw [if_neg (by omega)]
theorem refsA_succ {f : Nat → Addr} {i : Nat} {a : Addr} : refsA (at_ f i a) (i + 1) = refsA f i ++ [.con (.ref a)] := by
  unfold refsA
  rw [List.range_succ, List.map_append]
  congr 1
  · apply List.map_congr_left
    intro j hj
    rw [at_lt (List.mem_range.mp hj)]
  · simp [at_]
theorem MachS.next {i : Nat} {X DX D : Nat → Addr} {H0 H : AH} (S : MachS i X DX D H0 H) {x dx d : Addr} (h1 : x ≠ dx) (h2 : x ≠ d) (h3 : dx ≠ d) (f1 : H x = none) (f2 : H dx = none) (f3 : H d = none) :
    MachS (i + 1) (at_ X i x) (at_ DX i dx) (at_ D i d) H0 (((H.put d (.dict [])).put dx (.dict [("dict", .con (.ref d))])).put x (.inst 53 dx)) := by
  have e : Ext H (((H.put d (.dict [])).put dx (.dict [("dict", .con (.ref d))])).put x (.inst 53 dx)) := (((Ext.refl H).put f3).put f2).put f1
  have cs : ∀ j, j < i + 1 → j < i ∨ j = i := fun j h => by omega
  refine ⟨S.ext.trans e, fun j hj => ?_, fun j hj => ?_, fun j hj => ?_, fun j hj j' hj' h => ?_⟩
  · rcases cs j hj with h | rfl
    · rw [at_lt h, at_lt h]; exact e _ _ (S.x j h)
    · rw [at_self, at_self]; exact AH.put_self
  · rcases cs j hj with h | rfl
    · rw [at_lt h, at_lt h]; exact e _ _ (S.dx j h)
    · rw [at_self, at_self]; exact (AH.put_ne h1.symm).trans AH.put_self
  · rcases cs j hj with h | rfl
    · rw [at_lt h]; exact e _ _ (S.d j h)
    · rw [at_self]; exact (AH.put_ne h2.symm).trans ((AH.put_ne h3.symm).trans AH.put_self)
  · have old : ∀ j < i, D j ≠ d := fun j hj e => by have := S.d j hj; rw [e, f3] at this; cases this
    rcases cs j hj with a | rfl <;> rcases cs j' hj' with b | rfl
    · rw [at_lt a, at_lt b] at h; exact S.di j a j' b h
    · rw [at_lt a, at_self] at h; exact absurd h (old j a)
    · rw [at_self, at_lt b] at h; exact absurd h.symm (old j' b)
    · rfl
theorem ListS.next {i : Nat} {L E0 E1 : Nat → Addr} {H1 H : AH} (S : ListS i L E0 E1 H1 H) {l a b : Addr} (fa : H a = none) (fb : (H.put a (.dict [])) b = none) (fl : ((H.put a (.dict [])).put b (.dict [])) l = none) :
    ListS (i + 1) (at_ L i l) (at_ E0 i a) (at_ E1 i b) H1 (((H.put a (.dict [])).put b (.dict [])).put l (.list [.con (.ref a), .con (.ref b)])) := by
  have hab : b ≠ a := fun e => by rw [e, AH.put_self] at fb; cases fb
  have hlb : l ≠ b := fun e => by rw [e, AH.put_self] at fl; cases fl
  have hla : l ≠ a := fun e => by rw [e, AH.put_ne hab.symm, AH.put_self] at fl; cases fl
  have fb' : H b = none := (AH.put_ne hab).symm.trans fb
  have fl' : H l = none := ((AH.put_ne hlb).trans (AH.put_ne hla)).symm.trans fl
  have e : Ext H (((H.put a (.dict [])).put b (.dict [])).put l (.list [.con (.ref a), .con (.ref b)])) := (((Ext.refl H).put fa).put fb').put fl'
  have up : ∀ {z}, H z = none → H1 z = none := fun {z} hz => by
    cases q : H1 z with
    | none => rfl
    | some o => have := S.ext z o q; rw [hz] at this; cases this
  have cs : ∀ j, j < i + 1 → j < i ∨ j = i := fun j h => by omega
  have o0 : ∀ j < i, ∀ z, H z = none → E0 j ≠ z := fun j hj z hz e => by have := S.e0 j hj; rw [e, hz] at this; cases this
  have o1 : ∀ j < i, ∀ z, H z = none → E1 j ≠ z := fun j hj z hz e => by have := S.e1 j hj; rw [e, hz] at this; cases this
  have ol : ∀ j < i, ∀ z, H z = none → L j ≠ z := fun j hj z hz e => by have := S.l j hj; rw [e, hz] at this; cases this
  refine ⟨S.ext.trans e, fun j hj => ?_, fun j hj => ?_, fun j hj => ?_, fun j hj j' hj' h => ?_, fun j hj j' hj' h => ?_, fun j hj j' hj' h => ?_, fun j hj => ?_, fun j hj => ?_, fun j hj => ?_⟩
  · rcases cs j hj with h | rfl
    · rw [at_lt h, at_lt h, at_lt h]; exact e _ _ (S.l j h)
    · rw [at_self, at_self, at_self]; exact AH.put_self
  · rcases cs j hj with h | rfl
    · rw [at_lt h]; exact e _ _ (S.e0 j h)
    · rw [at_self]; exact (AH.put_ne hla.symm).trans ((AH.put_ne hab.symm).trans AH.put_self)
  · rcases cs j hj with h | rfl
    · rw [at_lt h]; exact e _ _ (S.e1 j h)
    · rw [at_self]; exact (AH.put_ne hlb.symm).trans AH.put_self
  · rcases cs j hj with x | rfl <;> rcases cs j' hj' with y | rfl
    · rw [at_lt x, at_lt y] at h; exact S.li j x j' y h
    · rw [at_lt x, at_self] at h; exact absurd h (ol j x _ fl')
    · rw [at_self, at_lt y] at h; exact absurd h.symm (ol j' y _ fl')
    · rfl
  · rcases cs j hj with x | rfl <;> rcases cs j' hj' with y | rfl
    · rw [at_lt x, at_lt y] at h; exact S.e1i j x j' y h
    · rw [at_lt x, at_self] at h; exact absurd h (o1 j x _ fb')
    · rw [at_self, at_lt y] at h; exact absurd h.symm (o1 j' y _ fb')
    · rfl
  · rcases cs j hj with x | rfl <;> rcases cs j' hj' with y | rfl
    · rw [at_lt x, at_lt y] at h; exact S.e01 j x j' y h
    · rw [at_lt x, at_self] at h; exact absurd h (o0 j x _ fb')
    · rw [at_self, at_lt y] at h; exact absurd h.symm (o1 j' y _ fa)
    · rw [at_self, at_self] at h; exact absurd h.symm hab
  · rcases cs j hj with h | rfl
    · rw [at_lt h]; exact S.n0 j h
    · rw [at_self]; exact up fa
  · rcases cs j hj with h | rfl
    · rw [at_lt h]; exact S.n1 j h
    · rw [at_self]; exact up fb'
  · rcases cs j hj with h | rfl
    · rw [at_lt h]; exact S.nl j h
    · rw [at_self]; exact up fl'

theorem MachS.up {i : Nat} {X DX D : Nat → Addr} {H0 H H' : AH} (S : MachS i X DX D H0 H) (e : Ext H H') : MachS i X DX D H0 H' := ⟨S.ext.trans e, fun j h => e _ _ (S.x j h), fun j h => e _ _ (S.dx j h), fun j h => e _ _ (S.d j h), S.di⟩
theorem ListS.up {i : Nat} {L E0 E1 : Nat → Addr} {H0 H H' : AH} (S : ListS i L E0 E1 H0 H) (e : Ext H H') : ListS i L E0 E1 H0 H' := ⟨S.ext.trans e, fun j h => e _ _ (S.l j h), fun j h => e _ _ (S.e0 j h), fun j h => e _ _ (S.e1 j h), S.li, S.e1i, S.e01, S.n0, S.n1, S.nl⟩
theorem refsA_len {f : Nat → Addr} {i : Nat} : (refsA f i).length = i := by unfold refsA; rw [List.length_map, List.length_range]
theorem refsA_get {f : Nat → Addr} {n i : Nat} {x : AV} (h : (refsA f n)[i]? = some x) : i < n ∧ x = .con (.ref (f i)) := by
  have hi : i < n := by have := (List.getElem?_eq_some_iff.mp h).1; rwa [refsA_len] at this
  rw [refsA_at hi] at h
  exact ⟨hi, (Option.some.inj h).symm⟩
section
variable {P : Params} {C : Cx} {n : Nat} {σ : St}
/-- statements 2 to 4 -/
theorem law_B (W : Wd (hd02.heap_39 P) C n) (hn : n ≤ 20) (hs : C.env.scope = (lawD P).2.1) {N : List Int} {nl : Addr} (mn : σ.m "numbers" = some (.con (.ref nl))) (hnl : σ.H nl = some (.list (N.map .int))) (hN : N.length ≤ 64) {Q : AFl → St → Prop}
    (q : ∀ σ' X DX D L E0 E1 H1 ml ll, σ'.m "numbers" = some (.con (.ref nl)) → σ'.m "machines" = some (.con (.ref ml)) → σ'.m "lists" = some (.con (.ref ll)) → σ'.H nl = some (.list (N.map .int)) → H1 ml = some (.list (refsA X (N.length + 1))) →
      MachS (N.length + 1) X DX D σ.H H1 → ListS (N.length + 1) L E0 E1 H1 σ'.H → σ'.H ll = some (.list (refsA L (N.length + 1))) → ll ≠ ml → (∀ j < N.length + 1, L j ≠ ll) → TS C ((lawBody P).drop 5) σ' Q) : TS C ((lawBody P).drop 2) σ Q := by
  have hh := W.hand
  have hu := W.unit (by omega)
  have hs' := hs
  unfold lawD at hs'; dsimp only at hs'
  unfold lawBody lawD at q ⊢; dsimp only [List.drop] at q ⊢
  have swp : ∀ {e : PySem.Expr} {t : Option PySem.Expr} {l : Nat} {sc : Scope} {b : Bool}, True := trivial
  walk_at "w"
  refine TX.assignCompW (test := none) W rfl ⟨rfl, by decide, by intro q hq hf; unfold Env.kindOf; rw [hs']; revert q; decide, by decide, by decide⟩ ?_ (by unfold swapsWith Env.blockKind Env.kindOf; simp only [hs']; rfl) (by intro _; rfl)
  walk_at "ws"
  refine TCall.lenL hnl (by rw [List.length_map]; omega) ?_
  rw [List.length_map]
  walk_at "ws"
  rw [show ((N.length : Int) + 1) = ((N.length + 1 : Nat) : Int) from rfl]
  refine TCall.range fun r hr => ?_
  refine ⟨intsA (N.length + 1), _, fun i acc H' => H' r = some (.rng (N.length + 1)) ∧ ∃ X DX D, MachS i X DX D σ.H H' ∧ acc = refsA X i, IterAs.range hh (by omega), by simp [intsA]; omega, fun i acc H' _ hI => hI.1, ⟨AH.put_self, (fun _ => 0), (fun _ => 0), (fun _ => 0), ⟨put_ext hr, by omega, by omega, by omega, by omega⟩, rfl⟩, ?_, ?_⟩
  · rintro C2 i x acc σ6 W2 hs2 hh2 hx ⟨hr6, X, DX, D, S, rfl⟩ hsame
    unfold CTurn
    walk_at "ws"
    refine ⟨_, rfl, Cl.ref (by rw [W2.K]; rfl), ?_⟩
    refine new_call P W2 (by omega) fun x dx d h1 h2 h3 f1 f2 f3 => ⟨hsame.upd rfl, put_keep (put_fresh (put_fresh f1 h2) h1) (put_keep (put_fresh f2 h3) (put_keep f3 hr6)), _, _, _, S.next h1 h2 h3 f1 f2 f3, refsA_succ.symm⟩
  · rintro acc H1 ml ⟨hr1, X, DX, D, S, rfl⟩ hml
    rw [show (intsA (N.length + 1)).length = N.length + 1 by simp [intsA]] at S ⊢
    walk_at "w"
    have mn7 : ((⟨σ.m, H1.put ml (.list (refsA X (N.length + 1)))⟩ : St).set "machines" (.con (.ref ml))).m "numbers" = some (.con (.ref nl)) := by walk_at "lk"
    have mm7 : ((⟨σ.m, H1.put ml (.list (refsA X (N.length + 1)))⟩ : St).set "machines" (.con (.ref ml))).m "machines" = some (.con (.ref ml)) := set_same
    have hnl7 : ((⟨σ.m, H1.put ml (.list (refsA X (N.length + 1)))⟩ : St).set "machines" (.con (.ref ml))).H nl = some (.list (N.map .int)) := put_keep hml (S.ext _ _ hnl)
    have hml7 : ((⟨σ.m, H1.put ml (.list (refsA X (N.length + 1)))⟩ : St).set "machines" (.con (.ref ml))).H ml = some (.list (refsA X (N.length + 1))) := AH.put_self
    have S7 : MachS (N.length + 1) X DX D σ.H ((⟨σ.m, H1.put ml (.list (refsA X (N.length + 1)))⟩ : St).set "machines" (.con (.ref ml))).H := S.up (put_ext hml)
    change TS C _ ((⟨σ.m, H1.put ml (.list (refsA X (N.length + 1)))⟩ : St).set "machines" (.con (.ref ml))) _
    generalize ((⟨σ.m, H1.put ml (.list (refsA X (N.length + 1)))⟩ : St).set "machines" (.con (.ref ml))) = σ7 at mn7 mm7 hnl7 hml7 S7 ⊢
    walk_at "ws"
    refine TE.compW (test := some _) W rfl ⟨rfl, by decide, by intro q hq hf; unfold Env.kindOf; rw [hs']; revert q; decide, by decide, by decide⟩ ?_ (by intro _; rfl)
    walk_at "ws"
    refine ⟨refsA X (N.length + 1), _, fun i acc H' => acc = [] ∧ Ext σ7.H H', IterAs.list hh, by rw [refsA_len]; omega, fun i acc H' _ hI => hI.2 _ _ hml7, ⟨rfl, Ext.refl _⟩, ?_, ?_⟩
    · rintro C2 i x acc σ6 W2 hs2 hh2 hx ⟨rfl, hE⟩ hsame
      obtain ⟨hi, rfl⟩ := refsA_get hx
      have hu2 := W2.unit (by omega)
      have S6 := S7.up hE
      unfold CTurn
      walk_at "ws"
      refine TAttr.inst (σ := σ6.set "one" (.con (.ref (X i)))) (S6.x i hi) (S6.dx i hi) (by rw [W2.K]; rfl) (by rw [W2.K]; rfl) (by rw [W2.K]; rfl) (a := .con (.ref (D i))) (by rfl) ⟨_, rfl⟩ ?_
      walk_at "ws"
      intro b hb
      have hb' : σ6.H b = none := hb
      refine TCmp.neDict0 hu2 (.inl (put_keep hb' (S6.d i hi))) (.inl AH.put_self) ?_
      walk_at "si"
      exact ⟨hsame.upd rfl, (by first | rfl | trivial), hE.trans (put_ext hb')⟩
    · rintro acc H8 e1 ⟨rfl, hE⟩ he1
      walk_at "ws"
      refine ⟨by simp, fun e2 he2 => ?_⟩
      refine TCmp.neNil hu (put_keep he2 AH.put_self) AH.put_self ?_
      walk_at "w"
      rw [show (!([] : List AV).isEmpty) = false from rfl]
      simp only [Bool.false_eq_true, if_false]
      refine TS.nil ?_
      have E8 : Ext σ7.H ((⟨σ7.m, H8.put e1 (.list [])⟩ : St).put e2 (.list [])).H := (hE.trans (put_ext he1)).trans (put_ext he2)
      have mn8 : ((⟨σ7.m, H8.put e1 (.list [])⟩ : St).put e2 (.list [])).m "numbers" = some (.con (.ref nl)) := mn7
      have mm8 : ((⟨σ7.m, H8.put e1 (.list [])⟩ : St).put e2 (.list [])).m "machines" = some (.con (.ref ml)) := mm7
      change TS C _ ((⟨σ7.m, H8.put e1 (.list [])⟩ : St).put e2 (.list [])) _
      generalize ((⟨σ7.m, H8.put e1 (.list [])⟩ : St).put e2 (.list [])) = σ8 at E8 mn8 mm8 ⊢
      have hml8 := E8 _ _ hml7
      walk_at "w"
      refine TX.assignCompW (test := none) W rfl ⟨rfl, by decide, by intro q hq hf; unfold Env.kindOf; rw [hs']; revert q; decide, by decide, by decide⟩ ?_ (by unfold swapsWith Env.blockKind Env.kindOf; simp only [hs']; rfl) (by intro _; rfl)
      walk_at "ws"
      refine ⟨refsA X (N.length + 1), _, fun i acc H' => ∃ L E0 E1, ListS i L E0 E1 σ8.H H' ∧ acc = refsA L i, IterAs.list hh, by rw [refsA_len]; omega, fun i acc H' _ ⟨_, _, _, S, _⟩ => S.ext _ _ hml8, ⟨fun _ => 0, fun _ => 0, fun _ => 0, ⟨Ext.refl _, by omega, by omega, by omega, by omega, by omega, by omega, by omega, by omega, by omega⟩, rfl⟩, ?_, ?_⟩
      · rintro C2 i x acc σ6 W2 hs2 hh2 hx ⟨L, E0, E1, S, rfl⟩ hsame
        unfold CTurn
        walk_at "ws"
        intro a fa
        walk_at "ws"
        intro b fb
        walk_at "ws"
        refine ⟨by simp, fun l fl => ⟨hsame.upd rfl, _, _, _, S.next fa fb fl, refsA_succ.symm⟩⟩
      · rintro acc H9 ll ⟨L, E0, E1, S9, rfl⟩ hll
        rw [refsA_len] at S9 ⊢
        walk_at "w"
        refine q _ X DX D L E0 E1 σ8.H ml ll (by walk_at "lk") (by walk_at "lk") set_same (put_keep hll (S9.ext _ _ (E8 _ _ hnl7))) hml8 (S7.up E8) (S9.up (put_ext hll)) AH.put_self (fun e => ?_) (fun j hj e => ?_)
        · have := S9.ext _ _ hml8; rw [← e, hll] at this; cases this
        · have := S9.l j hj; rw [e, hll] at this; cases this
end

structure SetS (M : Nat) (X DX D L E0 E1 : Nat → Addr) (N : List Int) (nl ml ll r : Addr) (k : Nat) (σ : St) : Prop where
  mn : σ.m "numbers" = some (.con (.ref nl))
  mm : σ.m "machines" = some (.con (.ref ml))
  mll : σ.m "lists" = some (.con (.ref ll))
  hr : σ.H r = some (.rng M)
  hnl : σ.H nl = some (.list (N.map .int))
  hml : σ.H ml = some (.list (refsA X M))
  hll : σ.H ll = some (.list (refsA L M))
  x : ∀ j < M, σ.H (X j) = some (.inst 53 (DX j))
  dx : ∀ j < M, σ.H (DX j) = some (.dict [("dict", .con (.ref (D j)))])
  d : ∀ j < M, σ.H (D j) = some (.dict (if j < k then [("list", .con (.ref (L j)))] else []))
  l : ∀ j < M, σ.H (L j) = some (.list [.con (.ref (E0 j)), .con (.ref (E1 j))])
  e0 : ∀ j < M, σ.H (E0 j) = some (.dict [])
  e1 : ∀ j < M, σ.H (E1 j) = some (.dict [])
section
variable {P : Params} {C : Cx} {n : Nat} {σ : St} {M : Nat} {X DX D L E0 E1 : Nat → Addr} {N : List Int} {nl ml ll r : Addr} {k : Nat}
theorem SetS.step (S : SetS M X DX D L E0 E1 N nl ml ll r k σ) (hk : k < M) (di : ∀ j < M, ∀ j' < M, D j = D j' → j = j') (n0 : ∀ j < M, ∀ j' < M, E0 j ≠ D j') (n1 : ∀ j < M, ∀ j' < M, E1 j ≠ D j') :
    SetS M X DX D L E0 E1 N nl ml ll r (k + 1) (σ.put (D k) (.dict [("list", .con (.ref (L k)))])) := by
  have hd := S.d k hk
  rw [if_neg (Nat.lt_irrefl k)] at hd
  have o : ∀ {a v}, σ.H a = some v → v ≠ .dict [] → (σ.H.put (D k) (.dict [("list", .con (.ref (L k)))])) a = some v := fun h hn => put_other hd h hn
  refine ⟨S.mn, S.mm, S.mll, o S.hr (by intro x; cases x), o S.hnl (by intro x; cases x), o S.hml (by intro x; cases x), o S.hll (by intro x; cases x), fun j h => o (S.x j h) (by intro x; cases x), fun j h => o (S.dx j h) (by intro x; cases x), fun j h => ?_, fun j h => o (S.l j h) (by intro x; cases x),
    fun j h => (AH.put_ne (n0 j h k hk)).trans (S.e0 j h), fun j h => (AH.put_ne (n1 j h k hk)).trans (S.e1 j h)⟩
  by_cases e : j = k
  · subst e; rw [if_pos (Nat.lt_succ_self j)]; exact AH.put_self
  · refine (AH.put_ne fun x => e (di _ h _ hk x)).trans ((S.d j h).trans ?_)
    by_cases h2 : j < k
    · rw [if_pos h2, if_pos (by omega)]
    · rw [if_neg h2, if_neg (by omega)]

theorem law_B2 (W : Wd (hd02.heap_39 P) C n) (hn : n ≤ 20) (hs : C.env.scope = (lawD P).2.1) {H0 H1 : AH} (hN : N.length ≤ 64) (hM : M = N.length + 1) (mn : σ.m "numbers" = some (.con (.ref nl))) (mm : σ.m "machines" = some (.con (.ref ml))) (mll : σ.m "lists" = some (.con (.ref ll)))
    (hnl : σ.H nl = some (.list (N.map .int))) (hml : H1 ml = some (.list (refsA X M))) (S : MachS M X DX D H0 H1) (T : ListS M L E0 E1 H1 σ.H) (hll : σ.H ll = some (.list (refsA L M))) (ne1 : ll ≠ ml) (ne2 : ∀ j < M, L j ≠ ll) :
    TS C ((lawBody P).drop 5) σ fun fl _ => retOf fl = .con (.bool true) := by
  have hh := W.hand
  have hu := W.unit (by omega)
  have hs' := hs
  unfold lawD at hs'; dsimp only at hs'
  have n0 : ∀ j < M, ∀ j' < M, E0 j ≠ D j' := fun j hj j' hj' e => by have h1 := T.n0 j hj; rw [e, S.d j' hj'] at h1; cases h1
  have n1 : ∀ j < M, ∀ j' < M, E1 j ≠ D j' := fun j hj j' hj' e => by have h1 := T.n1 j hj; rw [e, S.d j' hj'] at h1; cases h1
  unfold lawBody lawD; dsimp only [List.drop]
  walk_at "w"
  refine TX.for W.calm.loops ?_ (by intro _; rfl)
  walk_at "ws"
  refine TCall.lenL (T.ext _ _ hml) (by rw [refsA_len]; omega) ?_
  rw [refsA_len]
  walk_at "ws"
  refine TCall.range fun r hr => ?_
  have up : Ext H1 (σ.put r (.rng M)).H := T.ext.trans (put_ext hr)
  refine ⟨intsA M, _, fun i σ' => SetS M X DX D L E0 E1 N nl ml ll r i σ', IterAs.range hh (by omega), fun i σ _ J => J.hr, ⟨mn, mm, mll, AH.put_self, put_keep hr hnl, up _ _ hml, put_keep hr hll, fun j h => up _ _ (S.x j h), fun j h => up _ _ (S.dx j h), fun j h => up _ _ (S.d j h), fun j h => put_keep hr (T.l j h), fun j h => put_keep hr (T.e0 j h), fun j h => put_keep hr (T.e1 j h)⟩, ?_, ?_⟩
  · rintro i y σ2 hy J
    have hi : i < M := by have := (List.getElem?_eq_some_iff.mp hy).1; simpa [intsA] using this
    obtain rfl : y = .int (i : Int) := by
      simp only [intsA, List.getElem?_map, List.getElem?_range hi, Option.map_some, Option.some.injEq] at hy
      exact hy.symm
    walk_at "w"
    walk_at "w"
    have J2 : SetS M X DX D L E0 E1 N nl ml ll r i (σ2.set "k" (.int (i : Int))) := ⟨(set_ne (by decide)).trans J.mn, (set_ne (by decide)).trans J.mm, (set_ne (by decide)).trans J.mll, J.hr, J.hnl, J.hml, J.hll, J.x, J.dx, J.d, J.l, J.e0, J.e1⟩
    have hk3 : (σ2.set "k" (.int (i : Int))).m "k" = some (.int (i : Int)) := set_same
    generalize (σ2.set "k" (.int (i : Int))) = σ3 at J2 hk3 ⊢
    have j1 := J2.mm
    have j2 := J2.mll
    walk_at "ws"
    refine TSub.list (by intro _ _; exact ⟨_, rfl⟩) J2.hll (by omega) (by omega) (a := .con (.ref (L i))) (by rw [Int.toNat_natCast]; exact refsA_at hi) ?_
    walk_at "ws"
    refine TSub.list (by intro _ _; exact ⟨_, rfl⟩) J2.hml (by omega) (by omega) (a := .con (.ref (X i))) (by rw [Int.toNat_natCast]; exact refsA_at hi) ?_
    refine TAttr.inst (J2.x i hi) (J2.dx i hi) (by rw [W.K]; rfl) (by rw [W.K]; rfl) (by rw [W.K]; rfl) (a := .con (.ref (D i))) (by rfl) ⟨_, rfl⟩ ?_
    walk_at "ws"
    have hdi := J2.d i hi
    rw [if_neg (Nat.lt_irrefl i)] at hdi
    refine TSet.dict hdi (by simp) ?_
    walk_at "w"
    exact J2.step hi S.di n0 n1
  · rintro σ2 J
    rw [show (intsA M).length = M by simp [intsA]] at J
    walk_at "w"
    refine TX.assignSwap (names := ["calls", "given"]) hh ?_ (by rfl) (by unfold swappedStores Env.blockKind Env.kindOf; simp only [hs']; rfl)
    walk_at "ws"
    refine ⟨by simp, fun cl hcl => ?_⟩
    walk_at "ws"
    refine ⟨by simp, fun gl hgl => ?_⟩
    walk_at "ws"
    refine ⟨by simp, ?_⟩
    refine ⟨_, rfl, rfl, ?_⟩
    show TOrd C [bindName C.env "given", bindName C.env "calls"] [.con (.ref gl), .con (.ref cl)] _ _
    refine TOrd.consB (TSt.local hs (by rfl) (TOrd.consB (TSt.local hs (by rfl) (TOrd.nil ?_))))
    have hgl' : σ2.H gl = none := by
      cases q : σ2.H gl with
      | none => rfl
      | some o => have := put_keep (o := .list []) hcl q; rw [show (σ2.H.put cl (.list [])) gl = none from hgl] at this; cases this
    have hne : cl ≠ gl := fun e => by
      have : (σ2.H.put cl (.list [])) gl = none := hgl
      rw [← e, AH.put_self] at this; cases this
    have up : Ext σ2.H ((((σ2.put cl (.list [])).put gl (.list [])).set "given" (.con (.ref gl))).set "calls" (.con (.ref cl))).H := ((Ext.refl _).put hcl).put hgl'
    have ncl : ∀ {a v}, σ2.H a = some v → a ≠ cl := fun h e => by rw [e, hcl] at h; cases h
    have ngl : ∀ {a v}, σ2.H a = some v → a ≠ gl := fun h e => by rw [e, hgl'] at h; cases h
    have hd : ∀ j < M, σ2.H (D j) = some (.dict [("list", .con (.ref (L j)))]) := fun j h => by have := J.d j h; rwa [if_pos h] at this
    have hasE : ∀ l : Lab, Has (ksOf M [] l.1) l.2 → l.1.1 < M ∧ l.2 = [] := fun l h => by
      refine ⟨has_lt h, ?_⟩
      obtain ⟨q, hq, e⟩ := h
      unfold ksOf at hq
      split at hq
      · have : q = [] := by simpa using hq
        rw [this] at e; simpa using e.symm
      · cases hq
    have hlist : (("list" : Str) = "dict") → False := by decide
    refine law_C W hn hs (M := M) (X := X) (DX := DX) (L := L) (E0 := E0) (ml := ml) (ll := ll) (cl := cl) (gl := gl) (N := N) (nl := nl) (ad := fun l => if l.1.2 then E1 l.1.1 else D l.1.1)
      ⟨(set_ne (by decide)).trans ((set_ne (by decide)).trans J.mm), (set_ne (by decide)).trans ((set_ne (by decide)).trans J.mll), set_same, (set_ne (by decide)).trans set_same,
        ⟨up _ _ J.hml, up _ _ J.hll, fun j h => up _ _ (J.x j h), fun j h => up _ _ (J.dx j h), fun j h _ => up _ _ (J.l j h), fun j h => up _ _ (J.e0 j h), T.li, by omega, ne1, fun j hj e => ?_, ne2⟩,
        (AH.put_ne hne).trans AH.put_self, AH.put_self, ⟨hne, ncl J.hml, ngl J.hml, ncl J.hll, ngl J.hll, fun j h => ⟨ncl (J.l j h), ngl (J.l j h)⟩⟩, ⟨fun l h => ?_, fun l l' h h' e => ?_⟩, fun l h j hj => ?_, by simp, by simp, by simp, by simp⟩
      ((set_ne (by decide)).trans ((set_ne (by decide)).trans J.mn)) (up _ _ J.hnl) ⟨ngl J.hnl, ncl J.hnl⟩ hN (by omega)
    · have h1 := T.nl j hj; rw [e, hml] at h1; cases h1
    · obtain ⟨h1, h2⟩ := hasE l h
      obtain ⟨⟨j, b⟩, p⟩ := l
      dsimp only at h1 h2
      subst h2
      have hz : nxt (ksOf M [] (j, b)) [] = [] := by unfold ksOf; rw [if_pos h1]; rfl
      unfold ents
      rw [hz]
      cases b
      · refine (up _ _ (hd j h1)).trans ?_
        unfold preOf; rw [if_pos ⟨rfl, rfl, Nat.zero_le _, h1⟩]; rfl
      · refine (up _ _ (J.e1 j h1)).trans ?_
        unfold preOf; rw [if_neg (by intro x; exact absurd x.1 (by simp))]; rfl
    · obtain ⟨h1, h2⟩ := hasE l h
      obtain ⟨h3, h4⟩ := hasE l' h'
      obtain ⟨⟨j, b⟩, p⟩ := l
      obtain ⟨⟨j', b'⟩, p'⟩ := l'
      dsimp only at h1 h2 h3 h4 e
      subst h2; subst h4
      cases b <;> cases b'
      · have := S.di j h1 j' h3 e; subst this; rfl
      · have e1 := hd j h1; rw [show D j = E1 j' from e, J.e1 j' h3] at e1; cases e1
      · have e1 := hd j' h3; rw [← show E1 j = D j' from e, J.e1 j h1] at e1; cases e1
      · have := T.e1i j h1 j' h3 e; subst this; rfl
    · obtain ⟨h1, h2⟩ := hasE l h
      obtain ⟨⟨i, b⟩, p⟩ := l
      dsimp only at h1 ⊢
      cases b
      · refine ⟨fun e => ?_, fun e => ?_⟩
        · have e1 := hd i h1
          rw [show D i = DX j from e, J.dx j hj] at e1
          injection e1 with e1; injection e1 with e1; injection e1 with e1 _; injection e1 with e1 _
          exact hlist e1.symm
        · have e1 := hd i h1
          rw [show D i = E0 j from e, J.e0 j hj] at e1; cases e1
      · refine ⟨fun e => ?_, fun e => ?_⟩
        · have e1 := J.e1 i h1
          rw [show E1 i = DX j from e, J.dx j hj] at e1; cases e1
        · exact T.e01 j hj i h1 (Eq.symm e)
end

theorem law_walk {P : Params} {C : Cx} {n : Nat} {σ : St} (W : Wd (hd02.heap_39 P) C n) (hn : n ≤ 20) (hs : C.env.scope = (lawD P).2.1) {l : Addr} {vs : List Value} {ns : List Int} (hl : C.h₀.IsList l vs.toArray) (hr : VRels C.h₀ vs (ns.map .int)) (hz : ns.length ≤ 63)
    (hsc : σ.m "script" = some (.con (.ref l))) : TS C (lawBody P) σ fun fl _ => retOf fl = .con (.bool true) := by
  have hh := W.hand
  have hu := W.unit (by omega)
  have hvl := hr.length
  rw [List.length_map] at hvl
  unfold lawBody lawD; dsimp only
  walk_at "w"
  walk_at "w"
  refine TE.front (k := 63) hl hr (by omega) ?_ (by intro _ _; exact rfl)
  walk_at "ws"
  refine ⟨rfl, fun nl hnl => ?_⟩
  rw [List.take_of_length_le (by rw [List.length_map]; exact hz)]
  walk_at "ws"
  refine TCall.lenL AH.put_self (by rw [List.length_map]; omega) ?_
  walk_at "ws"
  refine ⟨by simp, fun l2 hl2 => ?_⟩
  refine TBin.addL (put_keep hl2 AH.put_self) AH.put_self (by simp; omega) fun c hc => ?_
  walk_at "w"
  refine law_B (P := P) (N := ns ++ [(ns.length : Int)]) (nl := c) W hn hs set_same ?_ (by simp; omega) fun σ' X DX D L E0 E1 H1 ml ll a1 a2 a3 a4 a5 a6 a7 a8 a9 a10 => ?_
  · refine AH.put_self.trans ?_
    rw [List.map_append, List.length_map]; rfl
  · exact law_B2 W hn hs (by simp; omega) rfl a1 a2 a3 a4 a5 a6 a7 a8 a9 a10

theorem ints_rel {h : Heap} : ∀ {vs : List Value} {ns : List Int}, IntsAre vs ns → VRels h vs (ns.map .int)
  | _, _, .nil => .nil
  | _, _, .cons n t r => .cons (.int n t) (ints_rel r)
theorem cells_at {cm : Str → Option Value} {cs : List (Str × Addr)} {cells : List (Addr × Obj)} (X : CellsAre cm cs cells) : (∀ x c, (x, c) ∈ cs → ∃ o, (c, o) ∈ cells ∧ o.data = .cell (cm x)) ∧ cells.map (·.1) = cs.map (·.2) := by
  induction X with
  | nil => exact ⟨fun _ _ h => (nomatch h), rfl⟩
  | cons hd _ ih =>
    refine ⟨fun x c h => ?_, by rw [List.map_cons, List.map_cons, ih.2]⟩
    rcases List.mem_cons.mp h with e | h
    · cases e; exact ⟨_, List.mem_cons_self, hd⟩
    · obtain ⟨o, h1, h2⟩ := ih.1 x c h; exact ⟨o, List.mem_cons_of_mem _ h1, h2⟩

theorem rep_top {prog : Program} {w : World} {h₀ : Heap} {os : OsState} {env : Env} {s : Shared} {binds : List (Str × Value)} {ab : List (Str × AV)} {cells : List (Addr × Obj)} (F : Fr h₀ env.locals s.heap (bindL env.kindOf binds fun _ => none)) (N : News h₀ env.locals s.heap cells)
    (X : CellsAre (bindC env.kindOf binds fun _ => none) env.cells cells) (hb : DRel s.heap binds ab) (hnd : (env.cells.map (·.2)).Nodup) (hkeys : (env.cells.map (·.1)).Nodup) (hbig : ∀ c ∈ env.cells.map (·.2), h₀.objs.size ≤ c) (hcl : ∀ x, env.kindOf x = some .cell → (env.cells.lookup x).isSome = true)
    (hg : s.gens = #[]) (ho : s.os = os) : Rep prog w h₀ os env ⟨bindA ab fun _ => none, fun _ => none⟩ s := by
  obtain ⟨c1, c2⟩ := cells_at X
  have rel := fun y => bind_rel (h := s.heap) (kindOf := env.kindOf) (x := y) (m := fun _ => none) (cm := fun _ => none) (ma := fun _ => none) hb (fun _ => .none) fun _ => .none
  refine ⟨F.keep, ⟨_, F.ns, fun x hx => (rel x).1 hx⟩, fun x hx => ?_, fun a o e => (nomatch e), fun c hc => ?_, fun q => ?_, fun x y c _ _ e1 e2 => ?_, hg, ho⟩
  · obtain ⟨c, h1⟩ := Option.isSome_iff_exists.mp (hcl x hx)
    obtain ⟨o, h2, h3⟩ := c1 x c (mem_of_lookup h1)
    exact ⟨c, _, h1, ⟨o, (N _ h2).1, h3⟩, (rel x).2 (by rw [hx]; decide)⟩
  · rcases List.mem_cons.mp hc with rfl | q
    · obtain ⟨o, es, ep, e, hd', _⟩ := F.ns
      exact ⟨F.above, o, e, fun xs n e2 => by rw [e2] at hd'; cases hd'⟩
    · obtain ⟨⟨x, c'⟩, hp, rfl⟩ := List.mem_map.mp q
      obtain ⟨o, h2, h3⟩ := c1 x c' hp
      exact ⟨hbig _ q, o, (N _ h2).1, fun xs n e2 => by rw [e2] at h3; cases h3⟩
  · rw [← c2] at q
    obtain ⟨p, hp, e⟩ := List.mem_map.mp q
    exact (N p hp).2.1 e
  · have m1 := mem_of_lookup e1
    have m2 := mem_of_lookup e2
    have inj : ∀ {l : List (Str × Addr)} {p q : Str × Addr}, (l.map (·.2)).Nodup → p ∈ l → q ∈ l → p.2 = q.2 → p = q := by
      intro l
      induction l with
      | nil => intro p q _ h; cases h
      | cons z r ih =>
        intro p q hp h1 h2 e
        rw [List.map_cons, List.nodup_cons] at hp
        rcases List.mem_cons.mp h1 with a1 | a1 <;> rcases List.mem_cons.mp h2 with a2 | a2
        · rw [a1, a2]
        · exact absurd (List.mem_map.mpr ⟨q, a2, by rw [← e, a1]⟩) hp.1
        · exact absurd (List.mem_map.mpr ⟨p, a1, by rw [e, a2]⟩) hp.1
        · exact ih hp.2 a1 a2 e
    exact (Prod.mk.inj (inj hnd m1 m2 rfl)).1

theorem law_end {w : World} {prog : Program} {s₁ : Shared} {mg mb : Str → Option Value} {p : Program} {loose : List Str} {mean : ExcName → Option Value} (KX : (hd02.heap_39 w.params).In s₁.heap) (T : Top p loose mean mg mb s₁.heap) (hg : s₁.gens = #[]) {l : Addr} {vs : List Value} {ns : List Int}
    (hL : s₁.heap.IsList l vs.toArray) (hI : IntsAre vs ns) (hz : ¬ (63 : Int) < (ns.length : Int)) {h₁ : Heap} {tk : Nat} {name : Str} {fa : Addr} {cd : Value} {cells : List (Addr × Obj)}
    (F : Fr s₁.heap s₁.heap.objs.size h₁ (bindL (envOfC name (lawD w.params).2.1 s₁.heap.objs.size fa cd).kindOf [("script", .ref l)] fun _ => none)) (N : News s₁.heap s₁.heap.objs.size h₁ cells)
    (X : CellsAre (bindC (envOfC name (lawD w.params).2.1 s₁.heap.objs.size fa cd).kindOf [("script", .ref l)] fun _ => none) (cellsFrom (s₁.heap.objs.size + 1) (lawD w.params).2.1.names []) cells) {Q : Flow → Shared → Prop} {E : Value → Shared → Prop}
    (q : ∀ s' L m, Fr s₁.heap L s'.heap m → s'.gens = #[] → s'.os = s₁.os → Q (.ret (.bool true)) s') :
    wpAny (model prog w) (callerA.deeper (envOfC name (lawD w.params).2.1 s₁.heap.objs.size fa cd)) (execs (lawBody w.params) (envOfC name (lawD w.params).2.1 s₁.heap.objs.size fa cd)) Q E { s₁ with heap := h₁, toks := tk } := by
  have hsys : sysModules < s₁.heap.objs.size := by
    have h1 : ∃ o, (hd02.heap_39 w.params).lookup 53 = some o := ⟨_, rfl⟩
    obtain ⟨o, ho⟩ := h1
    have h2 := Heap.lt_size (KX 53 o ho)
    exact Nat.lt_trans (show (1 : Nat) < 53 by decide) h2
  let C : Cx := { prog := prog, w := w, A := callerA.deeper (envOfC name (lawD w.params).2.1 s₁.heap.objs.size fa cd), env := envOfC name (lawD w.params).2.1 s₁.heap.objs.size fa cd, h₀ := s₁.heap, os := s₁.os, K := hd02.heap_39 w.params, mg := mg, mb := mb, X := fun _ _ _ _ => False,
                  hK := KX, hg := T.g, hb := T.b, hlim := T.nolimit, hsys := hsys, hk := rfl, eg := rfl, eb := rfl, clo := fun _ _ _ _ _ _ _ _ h => h }
  have W : Wd (hd02.heap_39 w.params) C 0 := ⟨rfl, T.builtins, fun _ _ _ _ h => h, rfl, by show (1 + claimMargin + 1 : Nat) ≤ 310 + 0; decide, by show (4 + 3 : Nat) ≤ _; omega⟩
  have R0 : C.R ⟨bindA [("script", .con (.ref l))] fun _ => none, fun _ => none⟩ { s₁ with heap := h₁, toks := tk } := by
    refine rep_top (env := C.env) (binds := [("script", .ref l)]) F N X (.cons (.con rfl) .nil) ?_ ?_ ?_ ?_ hg rfl
    · show ([_, _] : List Addr).Nodup
      simp
    · show (["through", "k"] : List Str).Nodup
      decide
    · show ∀ c ∈ ([_, _] : List Addr), s₁.heap.objs.size ≤ c
      intro c hc
      rcases List.mem_cons.mp hc with rfl | hc
      · exact leN (by show s₁.heap.objs.size ≤ s₁.heap.objs.size + 1 + 1; omega)
      · rw [List.mem_singleton.mp hc]; exact leN (by show s₁.heap.objs.size ≤ s₁.heap.objs.size + 1; omega)
    · intro x hx
      exact cellsFrom_some _ _ _ (.inl hx)
  have key := law_walk (P := w.params) W (by omega) (rfl : C.env.scope = (lawD w.params).2.1) (l := l) (vs := vs) (ns := ns) hL (ints_rel hI) (by omega) (σ := ⟨bindA [("script", .con (.ref l))] fun _ => none, fun _ => none⟩) rfl
  refine wpAny_mono (key _ R0 .nil) (fun f s' h => ?_) fun _ _ x => x.elim
  obtain ⟨b, σ', rf, R1, g1, e⟩ := h
  obtain ⟨m', F'⟩ := R1.fr
  have fin := q s' _ m' F' R1.gens R1.os
  cases rf with
  | ret r => simp only [retOf] at e; subst e; rw [r.con_inv]; exact fin
  | next => simp [retOf] at e
  | brk => simp [retOf] at e
  | cont => simp [retOf] at e

end Mine

theorem PySem.Challenge.cw_kq0029_02_holds : PySem.Challenge.rw_kq0029_02.Holds := by
  refine Mine.hd02 ?_
  k_go0
  rename Top _ _ _ _ _ _ => T
  rename Frag.In _ _ => KX
  rename Fr _ _ _ _ => F
  rename News _ _ _ _ => N0
  rename CellsAre _ _ _ => X0
  rename Heap.IsList _ _ _ => hL
  rename IntsAre _ _ => hI
  rename Shared.gens _ = _ => hg
  rename ¬ _ < _ => hc
  refine Mine.law_end KX T hg hL hI hc F N0 X0 fun s' L m F' g' o' => ?_
  refine goodW_bool F' g' (raisesW_false ?_) ?_ o'
  · wrow_none_raised
  · wrow_post
