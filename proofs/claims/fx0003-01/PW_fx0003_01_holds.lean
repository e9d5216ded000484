import PyProof.Rows.All
import Wide.All
import OpenK.AllK
import Wide.FinOn
import Lean
import PySem.Challenge.RW_fx0003_01
open PySem PySem.W PyProof.Rows PySem.Calls
set_option Elab.async false
set_option maxRecDepth 100000
namespace Mine
section
set_option maxHeartbeats 8000000
open_top hd for PySem.Challenge.rw_fx0003_01
end
section

/-! ## Typed store -/
inductive Cell where
  | inst (C : Addr) (fs : List (Str × Value))
  | list (vs : List Value)
  | tup (vs : List Value)
  | dict (kvs : List (Int × Int))
  | var (v : Option Value)
  | pred (P : Obj → Prop)
  | obj (o : Obj)

abbrev Store := Addr → Option Cell
abbrev Loc := Str → Option Value
def Store.set (σ : Store) (a : Addr) (c : Cell) : Store := fun b => if b = a then some c else σ b
theorem Store.set_same (σ : Store) (a : Addr) (c : Cell) : σ.set a c a = some c := if_pos rfl
theorem Store.set_ne (σ : Store) {a b : Addr} (c : Cell) (h : b ≠ a) : σ.set a c b = σ b := if_neg h

abbrev Cell.raw (o : Obj) : Cell := .pred (· = o)
/-- what no step turns: the cells told by a word alone (iterators, slices, ranges) -/
def Keeps (σ σ' : Store) : Prop := ∀ a P, σ a = some (.pred P) → σ' a = some (.pred P)
theorem Keeps.refl (σ : Store) : Keeps σ σ := fun _ _ e => e
theorem Keeps.set {σ₀ σ : Store} (k : Keeps σ₀ σ) {a : Addr} {c : Cell} (c' : Cell) (e : σ a = some c) (hc : ∀ P, c ≠ .pred P) : Keeps σ₀ (σ.set a c') := fun b P q => by
  have := k b P q
  rw [Store.set_ne _ _ fun z => ?_]; exact this
  subst z; rw [e] at this; cases this; exact hc P rfl
theorem Keeps.new {σ₀ σ : Store} (k : Keeps σ₀ σ) {a : Addr} (c' : Cell) (e : σ a = none) : Keeps σ₀ (σ.set a c') := fun b P q => by
  have := k b P q
  rw [Store.set_ne _ _ fun z => ?_]; exact this
  subst z; rw [e] at this; cases this

structure Gl where
  w : World
  p : Program
  loose : List Str
  mean : ExcName → Option Value
  mg : Str → Option Value
  mb : Str → Option Value
abbrev PG : Program := PySem.Challenge.rw_fx0003_01.row.prog
abbrev Gl.M (g : Gl) : Model := model PG g.w
noncomputable abbrev Gl.K (g : Gl) : Frag := Mine.hd.heap_39 g.w.params

def Ent : List DictEntry → List (Str × Value) → Prop
  | [], [] => True
  | e :: es, f :: fs => (∃ t, e.key = .str f.1 t) ∧ e.val = f.2 ∧ Ent es fs
  | _, _ => False

def getF (name : Str) : List (Str × Value) → Option Value
  | [] => none
  | f :: fs => if f.1 == name then some f.2 else getF name fs
def putF (name : Str) (v : Value) : List (Str × Value) → List (Str × Value)
  | [] => [(name, v)]
  | f :: fs => if f.1 == name then (f.1, v) :: fs else f :: putF name v fs

theorem Ent.noRef : ∀ {es : List DictEntry} {fs : List (Str × Value)}, Ent es fs → es.any (·.refKey) = false
  | [], _, _ => rfl
  | e :: es, f :: fs, ⟨⟨t, hk⟩, _, h⟩ => by
    rw [List.any_cons, Ent.noRef h, Bool.or_false]
    unfold DictEntry.refKey; rw [hk]
theorem Ent.get (name : Str) : ∀ {es : List DictEntry} {fs : List (Str × Value)}, Ent es fs → getL name es = some (getF name fs)
  | [], [], _ => rfl
  | e :: es, f :: fs, h => by
    obtain ⟨⟨t, hk⟩, hv, h'⟩ := h
    have ih := Ent.get name h'
    have hr := Ent.noRef h'
    unfold getL at ih ⊢
    unfold getF
    rw [List.find?_cons, hk]
    show (match (match (f.1 == name) with | true => some e | false => _) with | some e => some (some e.val) | none => _) = _
    cases hq : (f.1 == name) with
    | true => simp only [if_true, hv]
    | false =>
      simp only [Bool.false_eq_true, if_false]
      rw [← ih]
      cases hf : List.find? (fun x => x.key.isStr name) es with
      | some e' => rfl
      | none =>
        simp only [hr, Bool.false_eq_true, if_false]
        rw [List.any_cons, hr, Bool.or_false]
        have : e.refKey = false := by unfold DictEntry.refKey; rw [hk]
        rw [this]; rfl
theorem Ent.put (name : Str) (hs : Int) (t : Tok) (v : Value) : ∀ {es : List DictEntry} {fs : List (Str × Value)}, Ent es fs → Ent (putL name hs (.str name t) v es) (putF name v fs)
  | [], [], _ => ⟨⟨t, rfl⟩, rfl, trivial⟩
  | e :: es, f :: fs, h => by
    obtain ⟨⟨t', hk⟩, hv, h'⟩ := h
    have ih := Ent.put name hs t v h'
    unfold putL putF
    have e1 : e.key.isStr name = (f.1 == name) := by rw [hk]; rfl
    rw [e1]
    cases hq : (f.1 == name) with
    | true => exact ⟨⟨t', hk⟩, rfl, h'⟩
    | false => exact ⟨⟨t', hk⟩, hv, ih⟩
theorem Ent.len : ∀ {es : List DictEntry} {fs : List (Str × Value)}, Ent es fs → es.length = fs.length
  | [], [], _ => rfl
  | _ :: es, _ :: fs, h => by rw [List.length_cons, List.length_cons, Ent.len h.2.2]

/-! ## The ledger as a map -/
theorem mem_fst {p : Addr × Obj} {l : List (Addr × Obj)} (h : p ∈ l) : p.1 ∈ l.map (·.1) := List.mem_map.mpr ⟨p, h, rfl⟩
def updN (d : Addr) (o : Obj) (news : List (Addr × Obj)) : List (Addr × Obj) := news.map fun p => if p.1 = d then (d, o) else p
theorem updN_keys (d : Addr) (o : Obj) (news : List (Addr × Obj)) : (updN d o news).map (·.1) = news.map (·.1) := by
  unfold updN
  rw [List.map_map]
  refine List.map_congr_left fun p _ => ?_
  show (if p.1 = d then (d, o) else p).1 = p.1
  split
  · rename_i h; exact h.symm
  · rfl
theorem mem_updN_self {d : Addr} {o o' : Obj} {news : List (Addr × Obj)} (h : (d, o) ∈ news) : (d, o') ∈ updN d o' news :=
  List.mem_map.mpr ⟨(d, o), h, if_pos rfl⟩
theorem mem_updN_ne {d : Addr} {o' : Obj} {p : Addr × Obj} {news : List (Addr × Obj)} (h : p ∈ news) (hne : p.1 ≠ d) : p ∈ updN d o' news :=
  List.mem_map.mpr ⟨p, h, if_neg hne⟩
theorem updN_off {d : Addr} {o' : Obj} : ∀ {news : List (Addr × Obj)}, (∀ p ∈ news, p.1 ≠ d) → updN d o' news = news
  | [], _ => rfl
  | p :: r, h => by
    unfold updN
    rw [List.map_cons, if_neg (h p (.head _))]
    exact congrArg (p :: ·) (updN_off fun q hq => h q (.tail _ hq))
theorem upd_of {d : Addr} {o : Obj} (o' : Obj) : ∀ {news : List (Addr × Obj)}, (news.map (·.1)).Nodup → (d, o) ∈ news → Upd d o o' news (updN d o' news)
  | (a, x) :: r, hn, hm => by
    rw [List.map_cons, List.nodup_cons] at hn
    rcases List.mem_cons.mp hm with e | hm
    · cases e
      have off : ∀ p ∈ r, p.1 ≠ d := fun p hp e => hn.1 (show d ∈ r.map (·.1) from List.mem_map.mpr ⟨p, hp, e⟩)
      have : updN d o' ((d, o) :: r) = (d, o') :: r := by
        show (if d = d then (d, o') else (d, o)) :: updN d o' r = _
        rw [if_pos rfl, updN_off off]
      rw [this]
      exact .head off
    · have hne : a ≠ d := fun e => hn.1 (show a ∈ r.map (·.1) from List.mem_map.mpr ⟨_, hm, e.symm⟩)
      have : updN d o' ((a, x) :: r) = (a, x) :: updN d o' r := by
        show (if a = d then (d, o') else (a, x)) :: updN d o' r = _
        rw [if_neg hne]
      rw [this]
      exact .tail hne (upd_of o' hn.2 hm)
theorem updF_of {d : Addr} {o : Obj} : ∀ {news : List (Addr × Obj)}, (news.map (·.1)).Nodup → (d, o) ∈ news → UpdF d o news (fun o' => updN d o' news)
  | (a, x) :: r, hn, hm => by
    rw [List.map_cons, List.nodup_cons] at hn
    rcases List.mem_cons.mp hm with e | hm
    · cases e
      have off : ∀ p ∈ r, p.1 ≠ d := fun p hp e => hn.1 (show d ∈ r.map (·.1) from List.mem_map.mpr ⟨p, hp, e⟩)
      have : (fun o' => updN d o' ((d, o) :: r)) = fun o' => (d, o') :: r := by
        funext o'
        show (if d = d then (d, o') else (d, o)) :: updN d o' r = _
        rw [if_pos rfl, updN_off off]
      rw [this]
      exact .head off
    · have hne : a ≠ d := fun e => hn.1 (show a ∈ r.map (·.1) from List.mem_map.mpr ⟨_, hm, e.symm⟩)
      have : (fun o' => updN d o' ((a, x) :: r)) = fun o' => (a, x) :: updN d o' r := by
        funext o'
        show (if a = d then (d, o') else (a, x)) :: updN d o' r = _
        rw [if_neg hne]
      rw [this]
      exact .tail hne (updF_of hn.2 hm)
theorem mem_unique {d : Addr} {o o' : Obj} : ∀ {news : List (Addr × Obj)}, (news.map (·.1)).Nodup → (d, o) ∈ news → (d, o') ∈ news → o = o'
  | p :: r, hn, h1, h2 => by
    rw [List.map_cons, List.nodup_cons] at hn
    rcases List.mem_cons.mp h1 with e1 | k1
    · rcases List.mem_cons.mp h2 with e2 | k2
      · rw [← e1] at e2; cases e2; rfl
      · exact absurd (by have := mem_fst k2; rwa [← e1]) hn.1
    · rcases List.mem_cons.mp h2 with e2 | k2
      · exact absurd (by have := mem_fst k1; rwa [← e2]) hn.1
      · exact mem_unique hn.2 k1 k2

/-! ## A typed store borne by a heap -/
def intPairs (D : List (Int × Int)) : List (PyData × PyData) := D.map fun p => (.int p.1, .int p.2)

def CellOk (w : World) (news : List (Addr × Obj)) (dx : Addr → Addr) (a : Addr) : Cell → Prop
  | .inst C fs => (a, instObj C (dx a)) ∈ news ∧ ∃ es n, (dx a, dictOf es n) ∈ news ∧ Ent es fs
  | .list vs => ∃ n, (a, listOf vs.toArray n) ∈ news
  | .tup vs => (a, ({ cls := .type "tuple", data := .seq vs.toArray } : Obj)) ∈ news
  | .dict D => ∃ o kvs, (a, o) ∈ news ∧ o.IsDictOf (intKind PG w) kvs ∧ PyProof.V.FlatPairs PyData.int kvs (intPairs D) ∧ (a == sysModules) = false
  | .var v => ∃ o, (a, o) ∈ news ∧ o.data = .cell v
  | .pred P => ∃ o, (a, o) ∈ news ∧ P o
  | .obj o => (a, o) ∈ news

structure RepN (w : World) (h₀ : Heap) (L : Addr) (h : Heap) (σ : Store) (news : List (Addr × Obj)) (dx : Addr → Addr) : Prop where
  N : News h₀ L h news
  nd : (news.map (·.1)).Nodup
  cells : ∀ a c, σ a = some c → CellOk w news dx a c
  inj : ∀ a b C fs C' fs', σ a = some (.inst C fs) → σ b = some (.inst C' fs') → dx a = dx b → a = b
  off : ∀ a C fs, σ a = some (.inst C fs) → σ (dx a) = none

def Rep (w : World) (h₀ : Heap) (L : Addr) (h : Heap) (σ : Store) : Prop := ∃ news dx, RepN w h₀ L h σ news dx

theorem CellOk.mem {w : World} {news : List (Addr × Obj)} {dx : Addr → Addr} {a : Addr} {c : Cell} (h : CellOk w news dx a c) : ∃ o, (a, o) ∈ news := by
  cases c with
  | inst C fs => exact ⟨_, h.1⟩
  | list vs => obtain ⟨n, h⟩ := h; exact ⟨_, h⟩
  | tup vs => exact ⟨_, h⟩
  | dict D => obtain ⟨o, kvs, h, _⟩ := h; exact ⟨o, h⟩
  | var v => obtain ⟨o, h, _⟩ := h; exact ⟨o, h⟩
  | pred P => obtain ⟨o, h, _⟩ := h; exact ⟨o, h⟩
  | obj o => exact ⟨o, h⟩

/-- what keeps a cell: the ledger's entries of its addresses -/
theorem CellOk.keep {w : World} {news news' : List (Addr × Obj)} {dx dx' : Addr → Addr} {a : Addr} {c : Cell} (h : CellOk w news dx a c)
    (h1 : ∀ o, (a, o) ∈ news → (a, o) ∈ news') (h2 : ∀ C fs, c = .inst C fs → dx' a = dx a ∧ ∀ o, (dx a, o) ∈ news → (dx a, o) ∈ news') : CellOk w news' dx' a c := by
  cases c with
  | inst C fs =>
    obtain ⟨k1, es, n, k2, k3⟩ := h
    obtain ⟨e, k4⟩ := h2 C fs rfl
    refine ⟨e ▸ h1 _ k1, es, n, ?_, k3⟩
    rw [e]; exact k4 _ k2
  | list vs => obtain ⟨n, h⟩ := h; exact ⟨n, h1 _ h⟩
  | tup vs => exact h1 _ h
  | dict D => obtain ⟨o, kvs, h, r⟩ := h; exact ⟨o, kvs, h1 _ h, r⟩
  | var v => obtain ⟨o, h, r⟩ := h; exact ⟨o, h1 _ h, r⟩
  | pred P => obtain ⟨o, h, r⟩ := h; exact ⟨o, h1 _ h, r⟩
  | obj o => exact h1 _ h

section
variable {w : World} {h₀ h h' : Heap} {L : Addr} {σ : Store} {news : List (Addr × Obj)} {dx : Addr → Addr}

theorem RepN.mem (R : RepN w h₀ L h σ news dx) {a : Addr} {c : Cell} (e : σ a = some c) : ∃ o, (a, o) ∈ news := (R.cells a c e).mem

theorem RepN.heap (R : RepN w h₀ L h σ news dx) (N' : News h₀ L h' news) : RepN w h₀ L h' σ news dx := ⟨N', R.nd, R.cells, R.inj, R.off⟩

/-- a cell that is of no class of ours is turned -/
theorem RepN.turn (R : RepN w h₀ L h σ news dx) {a : Addr} {c c' : Cell} {o' : Obj} (e : σ a = some c) (_hc : ∀ C fs, c ≠ .inst C fs) (hc' : ∀ C fs, c' ≠ .inst C fs)
    (N' : News h₀ L h' (updN a o' news)) (ok : ∀ news', (a, o') ∈ news' → CellOk w news' dx a c') : RepN w h₀ L h' (σ.set a c') (updN a o' news) dx := by
  obtain ⟨o, hm⟩ := R.mem e
  refine ⟨N', by rw [updN_keys]; exact R.nd, fun b cb hb => ?_, fun b b' C fs C' fs' h1 h2 q => ?_, fun b C fs h1 => ?_⟩
  · by_cases hba : b = a
    · subst hba
      rw [Store.set_same] at hb; cases hb
      exact ok _ (mem_updN_self hm)
    · rw [Store.set_ne _ _ hba] at hb
      refine (R.cells b cb hb).keep (fun o h => mem_updN_ne h hba) fun C fs q => ⟨rfl, fun o h => mem_updN_ne h fun q2 => ?_⟩
      subst q
      have := R.off b C fs hb
      rw [show dx b = a from q2, e] at this; cases this
  · have n1 : b ≠ a := fun q => by subst q; rw [Store.set_same] at h1; cases h1; exact hc' _ _ rfl
    have n2 : b' ≠ a := fun q => by subst q; rw [Store.set_same] at h2; cases h2; exact hc' _ _ rfl
    rw [Store.set_ne _ _ n1] at h1; rw [Store.set_ne _ _ n2] at h2
    exact R.inj _ _ _ _ _ _ h1 h2 q
  · have n1 : b ≠ a := fun q => by subst q; rw [Store.set_same] at h1; cases h1; exact hc' _ _ rfl
    rw [Store.set_ne _ _ n1] at h1
    have n2 : dx b ≠ a := fun q => by have := R.off b C fs h1; rw [q, e] at this; cases this
    rw [Store.set_ne _ _ n2]
    exact R.off b C fs h1

/-- the dict of an object of a class is turned -/
theorem RepN.turnI (R : RepN w h₀ L h σ news dx) {a C : Addr} {fs fs' : List (Str × Value)} {es : List DictEntry} {n : Nat} (e : σ a = some (.inst C fs))
    (N' : News h₀ L h' (updN (dx a) (dictOf es n) news)) (he : Ent es fs') : RepN w h₀ L h' (σ.set a (.inst C fs')) (updN (dx a) (dictOf es n) news) dx := by
  obtain ⟨m1, es0, n0, m2, m3⟩ := R.cells a _ e
  have off := R.off a C fs e
  have hne : a ≠ dx a := fun q => by rw [← q, e] at off; cases off
  refine ⟨N', by rw [updN_keys]; exact R.nd, fun b cb hb => ?_, fun b b' C1 fs1 C' fs1' h1 h2 q => ?_, fun b C1 fs1 h1 => ?_⟩
  · by_cases hba : b = a
    · subst hba
      rw [Store.set_same] at hb; cases hb
      exact ⟨mem_updN_ne m1 hne, es, n, mem_updN_self m2, he⟩
    · rw [Store.set_ne _ _ hba] at hb
      refine (R.cells b cb hb).keep (fun o h => mem_updN_ne h fun q => ?_) fun C1 fs1 q => ⟨rfl, fun o h => mem_updN_ne h fun q2 => ?_⟩
      · have q : b = dx a := q
        rw [q, off] at hb; cases hb
      · subst q
        exact hba (R.inj _ _ _ _ _ _ hb e q2)
  · by_cases n1 : b = a
    · by_cases n2 : b' = a
      · rw [n1, n2]
      · rw [Store.set_ne _ _ n2] at h2
        rw [n1] at q ⊢
        exact R.inj _ _ _ _ _ _ e h2 q
    · rw [Store.set_ne _ _ n1] at h1
      by_cases n2 : b' = a
      · rw [n2] at q ⊢
        exact R.inj _ _ _ _ _ _ h1 e q
      · rw [Store.set_ne _ _ n2] at h2
        exact R.inj _ _ _ _ _ _ h1 h2 q
  · have k : ∃ C2 fs2, σ b = some (.inst C2 fs2) := by
      by_cases n1 : b = a
      · exact ⟨C, fs, n1 ▸ e⟩
      · rw [Store.set_ne _ _ n1] at h1; exact ⟨_, _, h1⟩
    obtain ⟨C2, fs2, h1⟩ := k
    have n2 : dx b ≠ a := fun q => by have := R.off b C2 fs2 h1; rw [q, e] at this; cases this
    rw [Store.set_ne _ _ n2]
    exact R.off b C2 fs2 h1

theorem RepN.fresh (R : RepN w h₀ L h σ news dx) {l : Addr} (hl : ∀ p ∈ news, p.1 < l) : σ l = none := by
  cases q : σ l with
  | none => rfl
  | some c => obtain ⟨o, hm⟩ := R.mem q; exact absurd (hl _ hm) (Nat.lt_irrefl _)

/-- a new cell that is of no class of ours -/
theorem RepN.new (R : RepN w h₀ L h σ news dx) {l : Addr} {o : Obj} {c : Cell} (hl : ∀ p ∈ news, p.1 < l) (hc : ∀ C fs, c ≠ .inst C fs)
    (N' : News h₀ L h' ((l, o) :: news)) (ok : ∀ news', (l, o) ∈ news' → CellOk w news' dx l c) : RepN w h₀ L h' (σ.set l c) ((l, o) :: news) dx := by
  have hf := R.fresh hl
  refine ⟨N', ?_, fun b cb hb => ?_, fun b b' C fs C' fs' h1 h2 q => ?_, fun b C fs h1 => ?_⟩
  · rw [List.map_cons, List.nodup_cons]
    refine ⟨fun q => ?_, R.nd⟩
    obtain ⟨p, hp, e⟩ := List.mem_map.mp q
    exact Nat.ne_of_lt (hl p hp) e
  · by_cases hbl : b = l
    · subst hbl
      rw [Store.set_same] at hb; cases hb
      exact ok _ (.head _)
    · rw [Store.set_ne _ _ hbl] at hb
      exact (R.cells b cb hb).keep (fun o h => .tail _ h) fun C fs q => ⟨rfl, fun o h => .tail _ h⟩
  · have n1 : b ≠ l := fun q => by subst q; rw [Store.set_same] at h1; cases h1; exact hc _ _ rfl
    have n2 : b' ≠ l := fun q => by subst q; rw [Store.set_same] at h2; cases h2; exact hc _ _ rfl
    rw [Store.set_ne _ _ n1] at h1; rw [Store.set_ne _ _ n2] at h2
    exact R.inj _ _ _ _ _ _ h1 h2 q
  · have n1 : b ≠ l := fun q => by subst q; rw [Store.set_same] at h1; cases h1; exact hc _ _ rfl
    rw [Store.set_ne _ _ n1] at h1
    obtain ⟨_, es, n, m, _⟩ := R.cells b _ h1
    have n2 : dx b ≠ l := Nat.ne_of_lt (hl _ m)
    rw [Store.set_ne _ _ n2]
    exact R.off b C fs h1

/-- a new object of a class -/
theorem RepN.newI (R : RepN w h₀ L h σ news dx) {x d C : Addr} (hd : ∀ p ∈ news, p.1 < d) (hx : d < x)
    (N' : News h₀ L h' ((x, instObj C d) :: (d, dictOf [] 0) :: news)) : RepN w h₀ L h' (σ.set x (.inst C [])) ((x, instObj C d) :: (d, dictOf [] 0) :: news) (fun b => if b = x then d else dx b) := by
  have hx' : ∀ p ∈ news, p.1 < x := fun p hp => Nat.lt_trans (hd p hp) hx
  have fx := R.fresh hx'
  have fd := R.fresh hd
  have low : ∀ b c, σ b = some c → b < d := fun b c e => by obtain ⟨o, hm⟩ := R.mem e; exact hd _ hm
  refine ⟨N', ?_, fun b cb hb => ?_, fun b b' C1 fs C' fs' h1 h2 q => ?_, fun b C1 fs h1 => ?_⟩
  · rw [List.map_cons, List.nodup_cons, List.map_cons, List.nodup_cons]
    refine ⟨fun q => ?_, fun q => ?_, R.nd⟩
    · rcases List.mem_cons.mp q with e | q
      · exact Nat.ne_of_gt hx e
      · obtain ⟨p, hp, e⟩ := List.mem_map.mp q; exact Nat.ne_of_lt (hx' p hp) e
    · obtain ⟨p, hp, e⟩ := List.mem_map.mp q; exact Nat.ne_of_lt (hd p hp) e
  · by_cases hbl : b = x
    · subst hbl
      rw [Store.set_same] at hb; cases hb
      refine ⟨?_, [], 0, ?_, trivial⟩
      · show (b, instObj C (if b = b then d else dx b)) ∈ _
        rw [if_pos rfl]; exact .head _
      · show ((if b = b then d else dx b), dictOf [] 0) ∈ _
        rw [if_pos rfl]; exact .tail _ (.head _)
    · rw [Store.set_ne _ _ hbl] at hb
      exact (R.cells b cb hb).keep (fun o h => .tail _ (.tail _ h)) fun C fs q => ⟨if_neg hbl, fun o h => .tail _ (.tail _ h)⟩
  · have dlow : ∀ b C2 fs2, σ b = some (.inst C2 fs2) → dx b < d := fun b C2 fs2 e => by obtain ⟨_, es, n, m, _⟩ := R.cells b _ e; exact hd _ m
    by_cases n1 : b = x
    · by_cases n2 : b' = x
      · rw [n1, n2]
      · rw [Store.set_ne _ _ n2] at h2
        simp only [if_pos n1, if_neg n2] at q
        exact absurd q (Nat.ne_of_gt (dlow _ _ _ h2))
    · rw [Store.set_ne _ _ n1] at h1
      by_cases n2 : b' = x
      · simp only [if_neg n1, if_pos n2] at q
        exact absurd q (Nat.ne_of_lt (dlow _ _ _ h1))
      · rw [Store.set_ne _ _ n2] at h2
        simp only [if_neg n1, if_neg n2] at q
        exact R.inj _ _ _ _ _ _ h1 h2 q
  · by_cases n1 : b = x
    · simp only [if_pos n1]
      rw [Store.set_ne _ _ (Nat.ne_of_lt hx)]
      exact fd
    · rw [Store.set_ne _ _ n1] at h1
      simp only [if_neg n1]
      obtain ⟨_, es, n, m, _⟩ := R.cells b _ h1
      rw [Store.set_ne _ _ (Nat.ne_of_lt (hx' _ m))]
      exact R.off b C1 fs h1
end

theorem RepN.forget {w : World} {h₀ h : Heap} {L : Addr} {σ σ' : Store} {news : List (Addr × Obj)} {dx : Addr → Addr} (R : RepN w h₀ L h σ news dx) (hs : ∀ a c, σ' a = some c → σ a = some c) : RepN w h₀ L h σ' news dx :=
  ⟨R.N, R.nd, fun a c e => R.cells a c (hs a c e), fun a b C fs C' fs' h1 h2 => R.inj _ _ _ _ _ _ (hs _ _ h1) (hs _ _ h2), fun a C fs h1 => by
    cases q : σ' (dx a) with
    | none => rfl
    | some c => have := R.off a C fs (hs _ _ h1); rw [hs _ _ q] at this; cases this⟩
end
section

/-! ## A frame's context -/
structure Fx where
  hd : Option Value
  dp : Nat
  un : Nat
  gd : Option (List Code)
  outer : List Env
  A₀ : Around
  base : Heap
  h₀ : Heap
  L : Addr
  cn : Str
  cs : Scope
  a : Addr
  ccd : Value
  cl : List (Str × Addr)
abbrev Fx.env (x : Fx) : Env := envX x.cn x.cs x.L x.a x.ccd x.cl
abbrev Fx.A (x : Fx) : Around := { handled := x.hd, depth := x.dp, frames := some (x.env :: x.outer), guards := x.gd, units := x.un }

structure Fx.Ok (g : Gl) (x : Fx) : Prop where
  B : Below x.A₀ x.base x.outer x.h₀
  X : g.K.In x.h₀
  T : Top g.p g.loose g.mean g.mg g.mb x.h₀
  k : x.cs.kind = .function
  rd : x.dp < recursionLimit
  ru : x.un < cLine
abbrev Room (x : Fx) (n : Nat) : Prop := x.dp + 2 * n < recursionLimit ∧ x.un + 12 * n < cLine
theorem Room.le {x : Fx} {n k : Nat} (h : Room x n) (hk : k ≤ n) : Room x k := ⟨by have := h.1; omega, by have := h.2; omega⟩

def At (g : Gl) (x : Fx) (σ : Store) (m : Loc) (h : Heap) : Prop := Fr x.h₀ x.L h m ∧ Rep g.w x.h₀ x.L h σ

def Same (s₀ s : Shared) : Prop := ∃ h t, s = { s₀ with heap := h, toks := t }
theorem Same.refl (s : Shared) : Same s s := ⟨_, _, rfl⟩
theorem Same.mk {s₀ s : Shared} (h : Same s₀ s) (h' : Heap) (t : Nat) : Same s₀ { s with heap := h', toks := t } := by
  obtain ⟨a, b, rfl⟩ := h; exact ⟨_, _, rfl⟩
theorem Same.heap {s₀ s : Shared} (h : Same s₀ s) (h' : Heap) : Same s₀ { s with heap := h' } := h.mk h' s.toks
theorem Same.toks {s₀ s : Shared} (h : Same s₀ s) (t : Nat) : Same s₀ { s with toks := t } := h.mk s.heap t

/-- the state is of the same run, the store keeps what is told by a word -/
structure Was (s₀ : Shared) (σ₀ : Store) (s : Shared) (σ : Store) : Prop where
  same : Same s₀ s
  keep : Keeps σ₀ σ
theorem Was.mk' {s₀ s : Shared} {σ₀ σ : Store} (h : Was s₀ σ₀ s σ) (h' : Heap) (t : Nat) : Was s₀ σ₀ { s with heap := h', toks := t } σ := ⟨h.same.mk h' t, h.keep⟩
theorem Was.heap {s₀ s : Shared} {σ₀ σ : Store} (h : Was s₀ σ₀ s σ) (h' : Heap) : Was s₀ σ₀ { s with heap := h' } σ := ⟨h.same.heap h', h.keep⟩
theorem Was.toks {s₀ s : Shared} {σ₀ σ : Store} (h : Was s₀ σ₀ s σ) (t : Nat) : Was s₀ σ₀ { s with toks := t } σ := ⟨h.same.toks t, h.keep⟩
theorem Was.set {s₀ s : Shared} {σ₀ σ : Store} (h : Was s₀ σ₀ s σ) {a : Addr} {c : Cell} (c' : Cell) (e : σ a = some c) (hc : ∀ P, c ≠ .pred P) : Was s₀ σ₀ s (σ.set a c') := ⟨h.same, h.keep.set c' e hc⟩
theorem Was.new {s₀ s : Shared} {σ₀ σ : Store} (h : Was s₀ σ₀ s σ) {a : Addr} (c' : Cell) (e : σ a = none) : Was s₀ σ₀ s (σ.set a c') := ⟨h.same, h.keep.new c' e⟩
def Post {α : Type} (g : Gl) (x : Fx) (s₀ : Shared) (σ₀ : Store) (Q : α → Store → Loc → Prop) (v : α) (s : Shared) : Prop :=
  ∃ σ m, Was s₀ σ₀ s σ ∧ At g x σ m s.heap ∧ Q v σ m
def EE (s₀ : Shared) (E : Value → Heap → Prop) (e : Value) (s : Shared) : Prop := Same s₀ s ∧ E e s.heap

/-- the judgement: from any state that bears σ and m, the tree ends in one that bears σ' and m' with Q -/
def W {α : Type} (g : Gl) (x : Fx) (t : Sem α) (σ : Store) (m : Loc) (Q : α → Store → Loc → Prop) (E : Value → Heap → Prop) : Prop :=
  x.Ok g → ∀ s₀ σ₀ s, Was s₀ σ₀ s σ → At g x σ m s.heap → wpAny g.M x.A t (Post g x s₀ σ₀ Q) (EE s₀ E) s

section
variable {α β : Type} {g : Gl} {x : Fx} {σ : Store} {m : Loc} {E : Value → Heap → Prop}

theorem W.use {t : Sem α} {P : α → Store → Loc → Prop} {R : α → Shared → Prop} {s₀ s : Shared} {σ₀ : Store} (h : W g x t σ m P E) (ok : x.Ok g) (hs : Was s₀ σ₀ s σ) (H : At g x σ m s.heap)
    (k : ∀ v s' σ' m', Was s₀ σ₀ s' σ' → At g x σ' m' s'.heap → P v σ' m' → R v s') : wpAny g.M x.A t R (EE s₀ E) s :=
  wpAny_mono (h ok s₀ σ₀ s hs H) (fun v s' ⟨σ', m', h1, h2, h3⟩ => k v s' σ' m' h1 h2 h3) fun _ _ e => e
theorem W.mono {t : Sem α} {P Q : α → Store → Loc → Prop} (h : W g x t σ m P E) (k : ∀ v σ' m', P v σ' m' → Q v σ' m') : W g x t σ m Q E :=
  fun ok s₀ σ₀ s hs H => h.use ok hs H fun v s' σ' m' h1 h2 h3 => ⟨σ', m', h1, h2, k _ _ _ h3⟩
theorem w_pure {v : α} {Q : α → Store → Loc → Prop} (h : Q v σ m) : W g x (pure v) σ m Q E := fun _ _ _ _ hs H => wpAny_pure ⟨σ, m, hs, H, h⟩
theorem w_bind {t : Sem α} {f : α → Sem β} {Q : β → Store → Loc → Prop} (h : W g x t σ m (fun v σ' m' => W g x (f v) σ' m' Q E) E) : W g x (t >>= f) σ m Q E :=
  fun ok s₀ σ₀ s hs H => wpAny_bind (h.use ok hs H fun v s' _ _ hs' H' h' => h' ok s₀ σ₀ s' hs' H')
/-- a tree that asks nothing of the state -/
theorem w_skip {t : Sem α} {v : α} {Q : α → Store → Loc → Prop} (hk : ∀ (s : Shared) (Q : α → Shared → Prop) (E : Value → Shared → Prop), Q v s → wpAny g.M x.A t Q E s) (h : Q v σ m) : W g x t σ m Q E :=
  fun _ _ _ s hs H => hk s _ _ ⟨σ, m, hs, H, h⟩
/-- a tree that draws tokens alone -/
theorem w_skipT {t : Sem α} {Q : α → Store → Loc → Prop} {f : Nat → α} {k : Nat} (hk : ∀ (s : Shared) (Q : α → Shared → Prop) (E : Value → Shared → Prop), Q (f s.toks) { s with toks := s.toks + k } → wpAny g.M x.A t Q E s) (h : ∀ n, Q (f n) σ m) : W g x t σ m Q E :=
  fun _ _ _ s hs H => hk s _ _ ⟨σ, m, hs.toks _, H, h _⟩
theorem w_standAt {p : Pos} {Q : Unit → Store → Loc → Prop} (h : Q () σ m) : W g x (standAt p) σ m Q E := w_skip (fun _ _ _ h => wpAny_standAt h) h
theorem w_holding {vs : List Value} {t : Sem α} {Q : α → Store → Loc → Prop} (h : W g x t σ m Q E) : W g x (holding vs t) σ m Q E := fun ok s₀ σ₀ s hs H => wpAny_holding (h ok s₀ σ₀ s hs H)
theorem w_bindName {n : Str} {v : Value} {Q : Unit → Store → Loc → Prop} (h : W g x (storeName x.env n v) σ m Q E) : W g x (bindName x.env n v) σ m Q E := fun ok s₀ σ₀ s hs H => wpAny_bindName (h ok s₀ σ₀ s hs H)

/-! ### names and constants -/
theorem w_local {n : Str} {pos : Pos} {v : Value} {Q : Value → Store → Loc → Prop} (hv : m n = some v) (hl : x.cs.names.lookup n = some .local) (hd : (n == ("__debug__" : Str)) = false) (h : Q v σ m) :
    W g x (eval (.Name n pos) x.env) σ m Q E := fun ok _ _ s hs H => nameX_L (cn := x.cn) (cs := x.cs) (L := x.L) (a := x.a) (ccd := x.ccd) (cl := x.cl) H.1 hv ⟨σ, m, hs, H, h⟩ ok.k hl hd
theorem w_global {n : Str} {pos : Pos} {v : Value} {Q : Value → Store → Loc → Prop} (hv : nsIn g.K mainGlobals n = some (some v)) (hl : x.cs.names.lookup n = some .globalImplicit) (hd : (n == ("__debug__" : Str)) = false) (h : Q v σ m) :
    W g x (eval (.Name n pos) x.env) σ m Q E := fun ok _ _ s hs H => nameX_K (cn := x.cn) (cs := x.cs) (L := x.L) (a := x.a) (ccd := x.ccd) (cl := x.cl) H.1 ok.X (topRead_of ok.T) hv ⟨σ, m, hs, H, h⟩ ok.k hl hd
theorem w_builtin {n : Str} {pos : Pos} {v : Value} {Q : Value → Store → Loc → Prop} (hv : nsIn g.K mainGlobals n = some none) (hb : bootBuiltins n = some v) (hn : n ≠ "__name__") (hl : x.cs.names.lookup n = some .globalImplicit) (hd : (n == ("__debug__" : Str)) = false) (h : Q v σ m) :
    W g x (eval (.Name n pos) x.env) σ m Q E := fun ok _ _ s hs H => nameX_B (cn := x.cn) (cs := x.cs) (L := x.L) (a := x.a) (ccd := x.ccd) (cl := x.cl) H.1 ok.X (topRead_of ok.T) hv hb hn ⟨σ, m, hs, H, h⟩ ok.k hl hd
theorem w_int {i : Int} {k : Nat} {pos : Pos} {Q : Value → Store → Loc → Prop} (h : ∀ t, Q (.int i t) σ m) : W g x (eval (.Constant (.int i) k pos) x.env) σ m Q E :=
  w_skipT (f := fun t => .int i t) (k := 1) (fun _ _ _ h => wpAny_Constant_int h) h
theorem w_none {k : Nat} {pos : Pos} {Q : Value → Store → Loc → Prop} (h : Q .none σ m) : W g x (eval (.Constant .none k pos) x.env) σ m Q E := w_skip (fun _ _ _ h => wpAny_Constant_none h) h
theorem w_bool {b : Bool} {k : Nat} {pos : Pos} {Q : Value → Store → Loc → Prop} (h : Q (.bool b) σ m) : W g x (eval (.Constant (.bool b) k pos) x.env) σ m Q E := w_skip (fun _ _ _ h => wpAny_Constant_bool h) h
theorem w_str {b : Str} {k : Nat} {pos : Pos} {Q : Value → Store → Loc → Prop} (h : ∀ t, Q (.str b t) σ m) : W g x (eval (.Constant (.str b) k pos) x.env) σ m Q E :=
  w_skipT (f := fun t => .str b t) (k := 1) (fun _ _ _ h => wpAny_Constant_str h) h

/-! ### expressions -/
theorem w_BinOp {l r : Expr} {op : Operator} {pos : Pos} {Q : Value → Store → Loc → Prop}
    (h : W g x (eval l x.env) σ m (fun a σ m => W g x (eval r x.env) σ m (fun b σ m => W g x (binaryOp op a b) σ m Q E) E) E) : W g x (eval (.BinOp l op r pos) x.env) σ m Q E :=
  fun ok _ _ _ hs H => wpAny_BinOp (h.use ok hs H fun _ _ _ _ hs H h => h.use ok hs H fun _ _ _ _ hs H h => h ok _ _ _ hs H)
theorem w_Compare {l r : Expr} {op : CmpOp} {pos : Pos} {Q : Value → Store → Loc → Prop}
    (h : W g x (eval l x.env) σ m (fun a σ m => W g x (eval r x.env) σ m (fun b σ m => W g x (compareOp op a b) σ m Q E) E) E) (hm : behindInMarks op r = false) : W g x (eval (.Compare l [op] [r] pos) x.env) σ m Q E :=
  fun ok _ _ _ hs H => wpAny_Compare1 (h.use ok hs H fun _ _ _ _ hs H h => h.use ok hs H fun _ _ _ _ hs H h => h ok _ _ _ hs H) hm
theorem w_IfExp {t b e : Expr} {pos : Pos} {Q : Value → Store → Loc → Prop}
    (h : W g x (isTrue t x.env (eval t x.env)) σ m (fun c σ m => if c then W g x (eval b x.env) σ m Q E else W g x (eval e x.env) σ m Q E) E) : W g x (eval (.IfExp t b e pos) x.env) σ m Q E :=
  fun ok _ _ _ hs H => wpAny_IfExp (h.use ok hs H fun c _ _ _ hs H h => by cases c <;> exact h ok _ _ _ hs H)
theorem w_Attribute {e : Expr} {n : Str} {pos : Pos} {Q : Value → Store → Loc → Prop}
    (h : W g x (eval e x.env) σ m (fun o σ m => W g x (getAttr o n true) σ m Q E) E)
    (he : eval (.Attribute e n pos) x.env = (do
      let o ← eval e x.env
      standAt pos.atName
      let r ← holding [o] (getAttr o n true)
      letTemporaryGo e o r
      pure r)) : W g x (eval (.Attribute e n pos) x.env) σ m Q E :=
  fun ok _ _ _ hs H => Attribute_any_ (h.use ok hs H fun _ _ _ _ hs H h => h ok _ _ _ hs H) he
theorem w_items_nil {pos : Pos} {Q : List Value → Store → Loc → Prop} (h : Q [] σ m) : W g x (spliced (backTo pos (starEach [] x.env))) σ m Q E := w_skip (fun _ _ _ h => wpAny_items_nil h) h
theorem w_items_cons {pos : Pos} {e : Expr} {rest : List Expr} {Q : List Value → Store → Loc → Prop}
    (h : W g x (eval e x.env) σ m (fun v σ m => W g x (spliced (backTo pos (starEach rest x.env))) σ m (fun vs σ m => Q (v :: vs) σ m) E) E)
    (he : starEach (e :: rest) x.env = (false, eval e x.env) :: starEach rest x.env) : W g x (spliced (backTo pos (starEach (e :: rest) x.env))) σ m Q E :=
  fun ok _ _ _ hs H => wpAny_items_cons (h.use ok hs H fun _ _ _ _ hs H h => h.use ok hs H fun _ _ σ m hs H h => ⟨σ, m, hs, H, h⟩) he
theorem w_Subscript {e i : Expr} {pos : Pos} {Q : Value → Store → Loc → Prop}
    (h : W g x (eval e x.env) σ m (fun o σ m => W g x (eval i x.env) σ m (fun k σ m => W g x (subscriptTail e i o k) σ m Q E) E) E) : W g x (eval (.Subscript e i pos) x.env) σ m Q E :=
  fun ok _ _ _ hs H => Subscript_ (h.use ok hs H fun _ _ _ _ hs H h => h.use ok hs H fun _ _ _ _ hs H h => h ok _ _ _ hs H)

/-! ### tests -/
theorem w_test_Compare {l r : Expr} {op : CmpOp} {pos : Pos} {whole : Sem Value} {Q : Bool → Store → Loc → Prop}
    (h : W g x (eval l x.env) σ m (fun a σ m => W g x (eval r x.env) σ m (fun b σ m => W g x (compareOp op a b) σ m (fun c σ m => W g x (truthy c) σ m Q E) E) E) E) (hm : behindInMarks op r = false) :
    W g x (isTrue (.Compare l [op] [r] pos) x.env whole) σ m Q E :=
  fun ok _ _ _ hs H => wpAny_isTrue_Compare1 (h.use ok hs H fun _ _ _ _ hs H h => h.use ok hs H fun _ _ _ _ hs H h => h.use ok hs H fun _ _ _ _ hs H h => h ok _ _ _ hs H) hm
theorem w_test_Not {e : Expr} {pos : Pos} {whole : Sem Value} {Q : Bool → Store → Loc → Prop}
    (h : W g x (isTrue e x.env (eval e x.env)) σ m (fun b σ m => Q (!b) σ m) E) : W g x (isTrue (.UnaryOp .Not e pos) x.env whole) σ m Q E :=
  fun ok _ _ _ hs H => wpAny_isTrue_Not (h.use ok hs H fun _ _ σ m hs H h => ⟨σ, m, hs, H, h⟩)
theorem w_test_BoolOp {op : BoolOp} {vs : List Expr} {pos : Pos} {whole : Sem Value} {Q : Bool → Store → Loc → Prop} (h : W g x (allTrue op vs x.env) σ m Q E) : W g x (isTrue (.BoolOp op vs pos) x.env whole) σ m Q E :=
  fun ok _ _ _ hs H => wpAny_isTrue_BoolOp (h ok _ _ _ hs H)
theorem w_and_nil {Q : Bool → Store → Loc → Prop} (h : Q true σ m) : W g x (allTrue .And [] x.env) σ m Q E := w_skip (fun _ _ _ h => wpAny_allTrue_And_nil h) h
theorem w_or_nil {Q : Bool → Store → Loc → Prop} (h : Q false σ m) : W g x (allTrue .Or [] x.env) σ m Q E := w_skip (fun _ _ _ h => wpAny_allTrue_Or_nil h) h
theorem w_and_cons {e : Expr} {r : List Expr} {Q : Bool → Store → Loc → Prop} (h : W g x (isTrue e x.env (eval e x.env)) σ m (fun b σ m => if b then W g x (allTrue .And r x.env) σ m Q E else Q false σ m) E) : W g x (allTrue .And (e :: r) x.env) σ m Q E :=
  fun ok _ _ _ hs H => wpAny_allTrue_And_cons (h.use ok hs H fun b _ σ m hs H h => by
    cases b
    · exact ⟨σ, m, hs, H, h⟩
    · exact h ok _ _ _ hs H)
theorem w_or_cons {e : Expr} {r : List Expr} {Q : Bool → Store → Loc → Prop} (h : W g x (isTrue e x.env (eval e x.env)) σ m (fun b σ m => if b then Q true σ m else W g x (allTrue .Or r x.env) σ m Q E) E) : W g x (allTrue .Or (e :: r) x.env) σ m Q E :=
  fun ok _ _ _ hs H => wpAny_allTrue_Or_cons (h.use ok hs H fun b _ σ m hs H h => by
    cases b
    · exact h ok _ _ _ hs H
    · exact ⟨σ, m, hs, H, h⟩)
theorem w_test_value {e : Expr} {whole : Sem Value} {Q : Bool → Store → Loc → Prop} (h : W g x whole σ m (fun v σ m => W g x (truthy v) σ m Q E) E)
    (he : isTrue e x.env whole = (do let v ← whole; standAt e.pos; holding [v] (truthy v))) : W g x (isTrue e x.env whole) σ m Q E :=
  fun ok _ _ _ hs H => wpAny_isTrue_value (h.use ok hs H fun _ _ _ _ hs H h => h ok _ _ _ hs H) he

/-! ### statements -/
theorem w_nil {Q : Flow → Store → Loc → Prop} (h : Q .next σ m) : W g x (execs [] x.env) σ m Q E := w_skip (fun _ _ _ h => wpAny_execs_nil h) h
/-- the rest behind a statement's flow -/
def Next (g : Gl) (x : Fx) (rest : List Stmt) (Q : Flow → Store → Loc → Prop) (E : Value → Heap → Prop) (f : Flow) (σ : Store) (m : Loc) : Prop := match f with
  | .next => W g x (execs rest x.env) σ m Q E
  | f => Q f σ m
theorem w_cons {st : Stmt} {rest : List Stmt} {Q : Flow → Store → Loc → Prop} (h : W g x (exec st x.env) σ m (Next g x rest Q E) E) : W g x (execs (st :: rest) x.env) σ m Q E :=
  fun ok _ _ _ hs H => wpAny_execs_cons (h.use ok hs H fun f _ σ m hs H h => by
    cases f
    · exact h ok _ _ _ hs H
    · exact ⟨σ, m, hs, H, h⟩
    · exact ⟨σ, m, hs, H, h⟩
    · exact ⟨σ, m, hs, H, h⟩)
theorem w_Pass {pos : Pos} {Q : Flow → Store → Loc → Prop} (h : Q .next σ m) : W g x (exec (.Pass pos) x.env) σ m Q E := w_skip (fun _ _ _ h => wpAny_Pass h) h
theorem w_Break {pos : Pos} {Q : Flow → Store → Loc → Prop} (h : Q .brk σ m) : W g x (exec (.Break pos) x.env) σ m Q E := w_skip (fun _ _ _ h => wpAny_Break h) h
theorem w_Continue {pos : Pos} {Q : Flow → Store → Loc → Prop} (h : Q .cont σ m) : W g x (exec (.Continue pos) x.env) σ m Q E := w_skip (fun _ _ _ h => wpAny_Continue h) h
theorem w_Return {e : Expr} {pos : Pos} {Q : Flow → Store → Loc → Prop} (h : W g x (eval e x.env) σ m (fun v σ m => Q (.ret v) σ m) E) : W g x (exec (.Return (some e) pos) x.env) σ m Q E :=
  fun ok _ _ _ hs H => wpAny_Return_some (h.use ok hs H fun _ _ σ m hs H h => ⟨σ, m, hs, H, h⟩)
theorem w_ReturnNone {pos : Pos} {Q : Flow → Store → Loc → Prop} (h : Q (.ret .none) σ m) : W g x (exec (.Return none pos) x.env) σ m Q E := w_skip (fun _ _ _ h => wpAny_Return_none h) h
theorem w_Assert {t : Expr} {msg : Option Expr} {pos : Pos} {Q : Flow → Store → Loc → Prop} (h : W g x (isTrue t x.env (eval t x.env)) σ m (fun b σ m => b = true ∧ Q .next σ m) E) : W g x (exec (.Assert t msg pos) x.env) σ m Q E :=
  fun ok _ _ _ hs H => wpAny_Assert_holds (h.use ok hs H fun _ _ σ m hs H h => ⟨h.1, σ, m, hs, H, h.2⟩)
theorem w_If {t : Expr} {b e : List Stmt} {pos : Pos} {Q : Flow → Store → Loc → Prop}
    (h : W g x (isTrue t x.env (eval t x.env)) σ m (fun c σ m => if c then W g x (execs b x.env) σ m Q E else W g x (execs e x.env) σ m Q E) E) : W g x (exec (.If t b e pos) x.env) σ m Q E :=
  fun ok _ _ _ hs H => wpAny_If (h.use ok hs H fun c _ _ _ hs H h => by cases c <;> exact h ok _ _ _ hs H)
theorem w_Expr {e : Expr} {pos : Pos} {Q : Flow → Store → Loc → Prop} (h : W g x (eval e x.env) σ m (fun _ σ m => Q .next σ m) E)
    (hi : interactive x.env = false) (hs' : swapsWith e none pos.line x.env = pure false) : W g x (exec (.Expr e pos) x.env) σ m Q E :=
  fun ok _ _ _ hs H => wpAny_Expr_any (h.use ok hs H fun _ _ σ m hs H h => ⟨σ, m, hs, H, h⟩) hi hs'
end
end
section

section
variable {α β : Type} {g : Gl} {x : Fx} {σ : Store} {m : Loc} {E : Value → Heap → Prop}

theorem At.inst {h : Heap} {a C : Addr} {fs : List (Str × Value)} (H : At g x σ m h) (e : σ a = some (.inst C fs)) :
    ∃ dx es n, InstAt h a (instObj C dx) C (some (dictOf es n)) ∧ Ent es fs := by
  obtain ⟨F, news, dx, R⟩ := H
  obtain ⟨k1, es, n, k2, k3⟩ := R.cells a _ e
  exact ⟨dx a, es, n, InstAt.of_news R.N k1 k2, k3⟩

/-! ### attributes -/
theorem w_getAttr {a C : Addr} {fs : List (Str × Value)} {n : Str} {b : Bool} {v : Value} {attr : Option Value} {Q : Value → Store → Loc → Prop} (e : σ a = some (.inst C fs)) (hf : getF n fs = some v)
    (hg : plainGet g.K C n = true) (hh : hasDictIn g.K C = true) (ha : findIn g.K (.ref C) n = some attr) (hn : noGet g.K attr = true) (hv : handedIn v = true) (h : Q v σ m) : W g x (getAttr (.ref a) n b) σ m Q E := by
  intro ok s₀ σ₀ s hs H
  obtain ⟨dx, es, k, I, en⟩ := H.inst e
  exact get_own H.1 ok.X I hg hh ha hn (by rw [en.get, hf]) hv ⟨σ, m, hs.toks _, H, h⟩

theorem w_setAttr {a C : Addr} {fs : List (Str × Value)} {n : Str} {v : Value} {Q : Unit → Store → Loc → Prop} (e : σ a = some (.inst C fs))
    (hs' : findIn g.K (.ref C) "__setattr__" = some (some (.builtin "object.__setattr__"))) (hp : plainOver g.K C = true) (ht : takerIn g.K C n = some none) (hh : hasDictIn g.K C = true) (hl : fs.length < 1000)
    (h : Q () (σ.set a (.inst C (putF n v fs))) m) : W g x (setAttr (.ref a) n v) σ m Q E := by
  intro ok s₀ σ₀ s hs H
  obtain ⟨F, news, dx, R⟩ := H
  obtain ⟨k1, es, k, k2, k3⟩ := R.cells a _ e
  have hz : (putF n v fs).length ≤ fs.length + 1 := by
    clear h e k1 k2 k3 hl
    induction fs with
    | nil => exact Nat.le_refl _
    | cons f fs ih => unfold putF; split <;> simp only [List.length_cons] <;> omega
  have en := k3.put n (PyData.keyHash g.w.params n) (s.toks + 1) v
  refine set_dict F ok.X R.N (InstAt.of_news R.N k1 k2) rfl hs' hp ht hh (by rw [k3.get]; rfl) rfl (upd_of _ R.nd k2) (by rw [en.len]; omega) (fun h' F' N' => ?_)
  exact ⟨_, _, (hs.mk' _ _).set _ e (fun _ q => by cases q), ⟨F', _, _, R.turnI e N' en⟩, h⟩

/-! ### methods -/
theorem w_getMethod {a C f : Addr} {fs : List (Str × Value)} {n : Str} {pl : Sem Bool} {Q : Value × List Value → Store → Loc → Prop} (e : σ a = some (.inst C fs)) (hno : getF n fs = none)
    (hg : plainGet g.K C n = true) (hf : findIn g.K (.ref C) n = some (some (.ref f))) (ht : isFn g.K (.ref f) = true) (h : Q (.ref f, [.ref a]) σ m) : W g x (getMethod (.ref a) n pl) σ m Q E := by
  intro ok s₀ σ₀ s hs H
  obtain ⟨dx, es, k, I, en⟩ := H.inst e
  exact method_inst H.1 ok.X I hg hf ht (by rw [en.get, hno]) ⟨σ, m, hs, H, h⟩

theorem w_Method {o : Expr} {n : Str} {apos pos : Pos} {args : List Expr} {kws : List Keyword} {pl : Sem Bool} {Q : Value → Store → Loc → Prop}
    (h : W g x (eval o x.env) σ m (fun ov σ m => W g x (getMethod ov n pl) σ m (fun fx σ m => W g x (callWith pos fx.1 fx.2 (backTo pos (starEach args x.env)) (backToKw pos (keywordEach kws x.env))) σ m Q E) E) E)
    (he : eval (.Call (.Attribute o n apos) args kws pos) x.env = (do
      let ov ← eval o x.env
      standAt apos.atName
      let (f, first) ← holding [ov] (getMethod ov n pl)
      callWith pos f first (backTo pos (starEach args x.env)) (backToKw pos (keywordEach kws x.env)))) : W g x (eval (.Call (.Attribute o n apos) args kws pos) x.env) σ m Q E :=
  fun ok _ _ _ hs H => methodCall_KW (h.use ok hs H fun _ _ _ _ hs H h => h.use ok hs H fun _ _ _ _ hs H h => h ok _ _ _ hs H) he

/-- what a method's look-up asks of the object's name -/
def plOf (o : Expr) (env : Env) : Sem Bool := do return (← importBound o env).getD true
theorem w_MethodI {o : Expr} {n : Str} {apos pos : Pos} {args : List Expr} {kws : List Keyword} {Q : Value → Store → Loc → Prop}
    (h : W g x (eval o x.env) σ m (fun ov σ m => W g x (getMethod ov n (plOf o x.env)) σ m (fun fx σ m => W g x (callWith pos fx.1 fx.2 (backTo pos (starEach args x.env)) (backToKw pos (keywordEach kws x.env))) σ m Q E) E) E)
    (he : eval (.Call (.Attribute o n apos) args kws pos) x.env = (do
      let ov ← eval o x.env
      standAt apos.atName
      let (f, first) ← holding [ov] (getMethod ov n (plOf o x.env))
      callWith pos f first (backTo pos (starEach args x.env)) (backToKw pos (keywordEach kws x.env)))) : W g x (eval (.Call (.Attribute o n apos) args kws pos) x.env) σ m Q E := w_Method h he
theorem w_Call {fe : Expr} {args : List Expr} {kws : List Keyword} {pos : Pos} {Q : Value → Store → Loc → Prop}
    (h : W g x (eval fe x.env) σ m (fun f σ m => W g x (callWith pos f [] (backTo pos (starEach args x.env)) (backToKw pos (keywordEach kws x.env))) σ m Q E) E)
    (he : eval (.Call fe args kws pos) x.env = (do callWith pos (← eval fe x.env) [] (backTo pos (starEach args x.env)) (backToKw pos (keywordEach kws x.env)))) : W g x (eval (.Call fe args kws pos) x.env) σ m Q E := by
  rw [he]; exact w_bind h

/-- what may be called: a def or class of the top, or a builtin -/
def Callee (g : Gl) (f : Value) : Prop := ∀ h : Heap, g.K.In h → ∃ k, (k = Keeper.frame ∨ k = Keeper.machine ∨ k = Keeper.boundFrame) ∧ Looks g.M h (keeperOf f) k
theorem Callee.ofK {f : Value} (hk : keepIn g.K f = true) : Callee g f := fun h X => keeps_K hk h X
theorem Callee.builtin (i : String) : Callee g (.builtin i) := fun h _ => ⟨.machine, .inr (.inl rfl), Looks.now⟩
theorem Callee.type (i : String) : Callee g (.type i) := fun h _ => ⟨.machine, .inr (.inl rfl), Looks.now⟩

theorem w_callWith {f : Value} {first : List Value} {pos : Pos} {args : List (Bool × Sem Value)} {kws : List (Option Str × Sem Value)} {Q : Value → Store → Loc → Prop} (hk : Callee g f)
    (h : W g x (evalArgs f true args kws) σ m (fun a σ m => W g x (call f (first ++ a.pos) a.kw) σ m Q E) E) (hplain : (args.any (·.1) || kws.any (·.1.isNone)) = false) : W g x (callWith pos f first args kws) σ m Q E :=
  fun ok _ _ _ hs H => callWith_of (P := fun h => g.K.In h) hplain hk (h.use ok hs H fun _ _ _ _ hs H h => ⟨ok.X.keeps H.1.keep, h ok _ _ _ hs H⟩)
theorem w_args0 {f : Value} {pos : Pos} {Q : Args → Store → Loc → Prop} (h : Q ⟨[], []⟩ σ m) : W g x (evalArgs f true (backTo pos (starEach [] x.env)) (backToKw pos (keywordEach [] x.env))) σ m Q E :=
  w_skip (fun _ _ _ h => evalArgs_nil3 h) h
theorem w_args {f : Value} {pos : Pos} {e : Expr} {rest : List Expr} {Q : Args → Store → Loc → Prop} (he : starEach (e :: rest) x.env = (false, eval e x.env) :: starEach rest x.env)
    (h : W g x (spliced (backTo pos (starEach (e :: rest) x.env))) σ m (fun vs σ m => Q ⟨vs, []⟩ σ m) E) : W g x (evalArgs f true (backTo pos (starEach (e :: rest) x.env)) (backToKw pos (keywordEach [] x.env))) σ m Q E := by
  intro ok s₀ σ₀ s hs H
  rw [he] at h ⊢
  exact evalArgs_plain (h.use ok hs H fun _ _ σ m hs H h => ⟨σ, m, hs, H, h⟩)
theorem w_argsKw {f : Value} {pos : Pos} {e : Expr} {rest : List Expr} {kws : List Keyword} {Q : Args → Store → Loc → Prop} (hall : (backToKw pos (keywordEach kws x.env)).all (·.1.isSome) = true) (he : starEach (e :: rest) x.env = (false, eval e x.env) :: starEach rest x.env)
    (h : W g x (spliced (backTo pos (starEach (e :: rest) x.env))) σ m (fun vs σ m => W g x (evalAll ((backToKw pos (keywordEach kws x.env)).map (·.2))) σ m
      (fun ks σ m => Q ⟨vs, ((backToKw pos (keywordEach kws x.env)).filterMap (·.1)).zip ks⟩ σ m) E) E) : W g x (evalArgs f true (backTo pos (starEach (e :: rest) x.env)) (backToKw pos (keywordEach kws x.env))) σ m Q E :=
  fun ok _ _ _ hs H => evalArgs_kw2 hall (h.use ok hs H fun _ _ _ _ hs H h => h.use ok hs H fun _ _ σ m hs H h => ⟨σ, m, hs, H, h⟩) he
theorem w_argsKw0 {f : Value} {pos : Pos} {kws : List Keyword} {Q : Args → Store → Loc → Prop} (hall : (backToKw pos (keywordEach kws x.env)).all (·.1.isSome) = true)
    (h : W g x (evalAll ((backToKw pos (keywordEach kws x.env)).map (·.2))) σ m (fun ks σ m => Q ⟨[], ((backToKw pos (keywordEach kws x.env)).filterMap (·.1)).zip ks⟩ σ m) E) :
    W g x (evalArgs f true (backTo pos (starEach [] x.env)) (backToKw pos (keywordEach kws x.env))) σ m Q E :=
  fun ok _ _ _ hs H => evalArgs_kw2_nil hall (h.use ok hs H fun _ _ σ m hs H h => ⟨σ, m, hs, H, h⟩)
theorem w_kw_nil {pos : Pos} {Q : List Value → Store → Loc → Prop} (h : Q [] σ m) : W g x (evalAll ((backToKw pos (keywordEach [] x.env)).map (·.2))) σ m Q E := w_skip (fun _ _ _ h => kwAll_nil h) h
theorem w_kw_cons {pos p : Pos} {n : Str} {e : Expr} {rest : List Keyword} {Q : List Value → Store → Loc → Prop}
    (h : W g x (eval e x.env) σ m (fun v σ m => W g x (evalAll ((backToKw pos (keywordEach rest x.env)).map (·.2))) σ m (fun vs σ m => Q (v :: vs) σ m) E) E) :
    W g x (evalAll ((backToKw pos (keywordEach (⟨some n, e, p⟩ :: rest) x.env)).map (·.2))) σ m Q E :=
  fun ok _ _ _ hs H => kwAll_cons (h.use ok hs H fun _ _ _ _ hs H h => h.use ok hs H fun _ _ σ m hs H h => ⟨σ, m, hs, H, h⟩)

/-! ### stores into names -/
def upL (m : Loc) (n : Str) (v : Value) : Loc := fun y => if y = n then some v else m y
theorem w_storeName {n : Str} {v : Value} {Q : Unit → Store → Loc → Prop} (hl : x.cs.names.lookup n = some .local) (h : Q () σ (upL m n v)) : W g x (storeName x.env n v) σ m Q E := by
  intro ok s₀ σ₀ s hs H
  obtain ⟨F, news, dx, R⟩ := H
  exact storeX_L (cn := x.cn) (cs := x.cs) (L := x.L) (a := x.a) (ccd := x.ccd) (cl := x.cl) F R.N (fun h' F' N' => ⟨_, _, hs.mk' _ _, ⟨F', _, _, R.heap N'⟩, h⟩) ok.k hl
theorem w_AssignName {n : Str} {p pos : Pos} {e : Expr} {Q : Flow → Store → Loc → Prop} (hl : x.cs.names.lookup n = some .local)
    (h : W g x (eval e x.env) σ m (fun v σ m => Q .next σ (upL m n v)) E) (hs' : swapsWith e (some (.Name n p)) pos.line x.env = pure false) : W g x (exec (.Assign [.Name n p] e pos) x.env) σ m Q E := by
  intro ok s₀ σ₀ s hs H
  exact wpAny_Assign_Name (h.use ok hs H fun v s' σ m hs H h => w_storeName (Q := fun _ => Q .next) hl h ok s₀ σ₀ s' hs H) hs'
theorem w_AssignAttr {o : Expr} {n : Str} {p pos : Pos} {e : Expr} {Q : Flow → Store → Loc → Prop}
    (h : W g x (eval e x.env) σ m (fun v σ m => W g x (eval o x.env) σ m (fun ov σ m => W g x (setAttr ov n v) σ m (fun _ => Q .next) E) E) E)
    (hs' : swapsWith e (some (.Attribute o n p)) pos.line x.env = pure false) : W g x (exec (.Assign [.Attribute o n p] e pos) x.env) σ m Q E :=
  fun ok _ _ _ hs H => plainObj_wpAny_Assign_Attribute (h.use ok hs H fun _ _ _ _ hs H h => h.use ok hs H fun _ _ _ _ hs H h => h ok _ _ _ hs H) hs'
theorem w_AssignSub {o i : Expr} {p pos : Pos} {e : Expr} {Q : Flow → Store → Loc → Prop}
    (h : W g x (eval e x.env) σ m (fun v σ m => W g x (eval o x.env) σ m (fun ov σ m => W g x (eval i x.env) σ m (fun iv σ m => W g x (setItem ov iv v) σ m (fun _ => Q .next) E) E) E) E)
    (hs' : swapsWith e (some (.Subscript o i p)) pos.line x.env = pure false) (he : ∀ v, assign (.Subscript o i p) x.env v = (do
      let ov ← holding [v] (eval o x.env)
      let iv ← holding [v, ov] (eval i x.env)
      standAt p
      holding [v, ov, iv] (setItem ov iv v)
      release [v, ov, iv] [])) : W g x (exec (.Assign [.Subscript o i p] e pos) x.env) σ m Q E := by
  intro ok s₀ σ₀ s hs H
  rw [exec_Assign_Subscript o i p e pos hs']
  refine wpAny_bind (wpAny_standAt (wpAny_bind (h.use ok hs H fun v s1 σ1 m1 hs1 H1 h1 => ?_)))
  rw [he]
  refine wpAny_bind (wpAny_bind (wpAny_holding (h1.use ok hs1 H1 fun ov s2 σ2 m2 hs2 H2 h2 => wpAny_bind (wpAny_holding (h2.use ok hs2 H2 fun iv s3 σ3 m3 hs3 H3 h3 => wpAny_bind (wpAny_standAt ?_))))))
  exact wpAny_bind (wpAny_holding (h3.use ok hs3 H3 fun _ s4 σ4 m4 hs4 H4 h4 => wpAny_release (wpAny_pure ⟨σ4, m4, hs4, H4, h4⟩)))
theorem w_AugAttr {o e : Expr} {n : Str} {tp pos : Pos} {op : Operator} {Q : Flow → Store → Loc → Prop}
    (h : W g x (eval o x.env) σ m (fun ov σ m => W g x (getAttr ov n true) σ m (fun old σ m => W g x (eval e x.env) σ m (fun v σ m => W g x (inplaceOp op old v) σ m (fun new σ m => W g x (setAttr ov n new) σ m (fun _ => Q .next) E) E) E) E) E) :
    W g x (exec (.AugAssign (.Attribute o n tp) op e pos) x.env) σ m Q E :=
  fun ok _ _ _ hs H => wpAny_AugAssign_AttributeAny (h.use ok hs H fun _ _ _ _ hs H h => h.use ok hs H fun _ _ _ _ hs H h => h.use ok hs H fun _ _ _ _ hs H h => h.use ok hs H fun _ _ _ _ hs H h => h ok _ _ _ hs H)

/-! ### calls -/
def CPost (g : Gl) (x : Fx) (m : Loc) (s₀ : Shared) (σ₀ : Store) (Q : Value → Store → Prop) (E : Value → Heap → Prop) (r : Result) (s' : Shared) : Prop := match r with
  | .ok (.ret v) => ∃ σ', Was s₀ σ₀ s' σ' ∧ At g x σ' m s'.heap ∧ Q v σ'
  | .ok _ => False
  | .error e => EE s₀ E e s'
/-- a call that comes back: from any frame with room -/
def Calls (g : Gl) (hp : Option Value → Prop) (n : Nat) (f : Value) (args : List Value) (kw : List (Str × Value)) (σ : Store) (Q : Value → Store → Prop) : Prop :=
  ∀ (x : Fx) (m : Loc) (E : Value → Heap → Prop), hp x.hd → Room x n → x.Ok g → ∀ s₀ σ₀ s, Was s₀ σ₀ s σ → At g x σ m s.heap → codeAny g.M x.A (.call f ⟨args, kw⟩) (CPost g x m s₀ σ₀ Q E) s
theorem CPost.mono {s₀ : Shared} {σ₀ : Store} {P Q : Value → Store → Prop} {r : Result} {s' : Shared} (h : CPost g x m s₀ σ₀ P E r s') (k : ∀ v σ', P v σ' → Q v σ') : CPost g x m s₀ σ₀ Q E r s' := by
  rcases r with e | (v | _ | _ | _)
  · exact h
  · exact h.elim
  · exact h.elim
  · exact h.elim
  · obtain ⟨σ', a, b, c⟩ := h; exact ⟨σ', a, b, k _ _ c⟩
theorem Calls.le {hp : Option Value → Prop} {n k : Nat} {f : Value} {args : List Value} {kw : List (Str × Value)} {Q : Value → Store → Prop} (h : Calls g hp n f args kw σ Q) (hk : n ≤ k) : Calls g hp k f args kw σ Q :=
  fun x m E hh hr => h x m E hh (hr.le hk)
theorem Calls.mono {hp : Option Value → Prop} {n : Nat} {f : Value} {args : List Value} {kw : List (Str × Value)} {P Q : Value → Store → Prop} (h : Calls g hp n f args kw σ P) (k : ∀ v σ', P v σ' → Q v σ') : Calls g hp n f args kw σ Q :=
  fun x m E hh hr ok s₀ σ₀ s hs H => codeAny_mono (h x m E hh hr ok s₀ σ₀ s hs H) fun r s' z => z.mono k
theorem w_call {hp : Option Value → Prop} {n : Nat} {f : Value} {args : List Value} {kw : List (Str × Value)} {Q : Value → Store → Loc → Prop} (hh : hp x.hd) (hr : Room x n) (h : Calls g hp n f args kw σ (fun v σ' => Q v σ' m)) : W g x (call f args kw) σ m Q E :=
  fun ok s₀ σ₀ s hs H => wpAny_call (codeAny_mono (h x m E hh hr ok s₀ σ₀ s hs H) fun r s' z => by
    rcases r with e | (v | _ | _ | _)
    · exact z
    · exact z.elim
    · exact z.elim
    · exact z.elim
    · obtain ⟨σ', a, b, c⟩ := z; exact ⟨σ', m, a, b, c⟩)
/-- the same, with the number of steps of room apart -/
theorem w_callN {hp : Option Value → Prop} (k : Nat) {n : Nat} {f : Value} {args : List Value} {kw : List (Str × Value)} {Q : Value → Store → Loc → Prop} (hr : Room x n) (hk : k ≤ n) (hh : hp x.hd) (h : Calls g hp k f args kw σ (fun v σ' => Q v σ' m)) : W g x (call f args kw) σ m Q E :=
  w_call hh (hr.le hk) h
end

/-- the parts of a def of the top -/
theorem calls_def {g : Gl} {hp : Option Value → Prop} {n : Nat} {σ : Store} {name qual : Str} {params : Arguments} {body : List Stmt} {scope : Scope} {dV kV doc pm cdv ct oc : Value} {an od : Option Addr} {osl : Array (Option Value)} {f : Addr} {args : List Value} {kw : List (Str × Value)} {Q : Value → Store → Prop} (binds : List (Str × Value))
    (ho : g.K.lookup f = some ⟨oc, od, .func (fnOf name qual params body scope dV kV doc pm an cdv ct), osl⟩) (hcd : codeIn g.K cdv qual = true)
    (hbind : ∀ s, g.K.In s.heap → BindsTo s (fnOf name qual params body scope dV kV doc pm an cdv ct) ⟨args, kw⟩ binds) (hloc : ∀ y ∈ binds, scope.names.lookup y.1 = some .local) (hcell : ∀ x ∈ scope.names, x.2 ≠ .cell)
    (hco : scope.isCoroutine = false) (hgen : scope.isGenerator = false) (hk : scope.kind = .function)
    (h : ∀ y : Fx, hp y.hd → Room y n → y.cs = scope → y.cn = qual → y.a = f → y.ccd = cdv → y.cl = [] →
      W g y (execs body y.env) σ (fun z => binds.reverse.lookup z) (fun fl σ' _ => Q (match fl with | .ret v => v | _ => .none) σ') (fun _ _ => False)) :
    Calls g hp (n + 1) (.ref f) args kw σ Q := by
  intro x m E hh hr ok s₀ σ₀ s hs H
  obtain ⟨F, news, dx, R⟩ := H
  refine code_def ok.B F ok.X R.N ok.T (A := x.A) rfl (env := x.env) rfl ok.k ho hcd ok.rd (hbind s (ok.X.keeps F.keep)) hloc (fun G L' h₁ FG F' N' B' X' T' => ?_) hco hgen hk hcell
  have ok' : Fx.Ok g ⟨x.hd, x.dp + 1, x.un + 3, x.gd, x.env :: x.outer, x.A, x.base, G, L', qual, scope, f, cdv, []⟩ := by
    refine ⟨B', X', T', hk, ?_, ?_⟩
    · have := hr.1; show x.dp + 1 < recursionLimit; omega
    · have := hr.2; show x.un + 3 < cLine; omega
  have hb := h ⟨x.hd, x.dp + 1, x.un + 3, x.gd, x.env :: x.outer, x.A, x.base, G, L', qual, scope, f, cdv, []⟩ hh ⟨by have := hr.1; show x.dp + 1 + 2 * n < _; omega, by have := hr.2; show x.un + 3 + 12 * n < _; omega⟩ rfl rfl rfl rfl rfl
  refine wpAny_mono (hb ok' s₀ σ₀ _ (hs.mk' h₁ _) ⟨F', news, dx, ⟨N', R.nd, R.cells, R.inj, R.off⟩⟩) (fun fl s' hp => ?_) fun e s' he => he.2.elim
  obtain ⟨σ', m', hs', ⟨F2, news2, dx2, R2⟩, hq⟩ := hp
  exact leaveK_ F2 R2.N fun F3 N3 => ⟨σ', hs', ⟨F3, news2, dx2, ⟨N3, R2.nd, R2.cells, R2.inj, R2.off⟩⟩, hq⟩
end
section

section
variable {α β : Type} {g : Gl} {x : Fx} {σ : Store} {m : Loc} {E : Value → Heap → Prop} {Q : Value → Store → Loc → Prop}

/-! ### ints -/
theorem w_add {a b : Int} {t u : Tok} (h : ∀ k, Q (.int (a + b) k) σ m) : W g x (binaryOp .Add (.int a t) (.int b u)) σ m Q E := w_skipT (f := fun k => .int (a + b) k) (k := 1) (fun _ _ _ h => add_int h) h
theorem w_sub {a b : Int} {t u : Tok} (h : ∀ k, Q (.int (a - b) k) σ m) : W g x (binaryOp .Sub (.int a t) (.int b u)) σ m Q E := w_skipT (f := fun k => .int (a - b) k) (k := 1) (fun _ _ _ h => sub_int h) h
theorem w_iadd {a b : Int} {t u : Tok} (h : ∀ k, Q (.int (a + b) k) σ m) : W g x (inplaceOp .Add (.int a t) (.int b u)) σ m Q E := w_skipT (f := fun k => .int (a + b) k) (k := 1) (fun _ _ _ h => iadd_int h) h
theorem w_isub {a b : Int} {t u : Tok} (h : ∀ k, Q (.int (a - b) k) σ m) : W g x (inplaceOp .Sub (.int a t) (.int b u)) σ m Q E := w_skipT (f := fun k => .int (a - b) k) (k := 1) (fun _ _ _ h => isub_int h) h
theorem w_mul {a b : Int} {t u : Tok} (hm : IntMulOk a b) (h : ∀ k, Q (.int (a * b) k) σ m) : W g x (binaryOp .Mult (.int a t) (.int b u)) σ m Q E := w_skipT (f := fun k => .int (a * b) k) (k := 1) (fun _ _ _ h => PySem.P.mul_int h hm) h
theorem w_fdiv {a b : Int} {t u : Tok} (hb : b ≠ 0) (hp : Builtin.divisionGoesByPylong a b = false) (h : ∀ k, Q (.int (a.fdiv b) k) σ m) : W g x (binaryOp .FloorDiv (.int a t) (.int b u)) σ m Q E := w_skipT (f := fun k => .int (a.fdiv b) k) (k := 1) (fun _ _ _ h => floordiv_int hb h (.inl hp)) h
theorem w_fmod {a b : Int} {t u : Tok} (hb : b ≠ 0) (h : ∀ k, Q (.int (a.fmod b) k) σ m) : W g x (binaryOp .Mod (.int a t) (.int b u)) σ m Q E := w_skipT (f := fun k => .int (a.fmod b) k) (k := 1) (fun _ _ _ h => mod_int' hb h) h
theorem w_neg {a : Int} {t : Tok} (h : ∀ k, Q (.int (-a) k) σ m) : W g x (unaryOp .USub (.int a t)) σ m Q E := w_skipT (f := fun k => .int (-a) k) (k := 1) (fun _ _ _ h => neg_int h) h
theorem w_eq {a b : Int} {t u : Tok} (h : Q (.bool (a == b)) σ m) : W g x (compareOp .Eq (.int a t) (.int b u)) σ m Q E := w_skip (fun _ _ _ h => eq_int h) h
theorem w_ne {a b : Int} {t u : Tok} (h : Q (.bool (a != b)) σ m) : W g x (compareOp .NotEq (.int a t) (.int b u)) σ m Q E := w_skip (fun _ _ _ h => ne_int h) h
theorem w_lt {a b : Int} {t u : Tok} (h : Q (.bool (decide (a < b))) σ m) : W g x (compareOp .Lt (.int a t) (.int b u)) σ m Q E := w_skip (fun _ _ _ h => lt_int h) h
theorem w_le {a b : Int} {t u : Tok} (h : Q (.bool (decide (a ≤ b))) σ m) : W g x (compareOp .LtE (.int a t) (.int b u)) σ m Q E := w_skip (fun _ _ _ h => le_int h) h
theorem w_gt {a b : Int} {t u : Tok} (h : Q (.bool (decide (a > b))) σ m) : W g x (compareOp .Gt (.int a t) (.int b u)) σ m Q E := w_skip (fun _ _ _ h => gt_int h) h
theorem w_ge {a b : Int} {t u : Tok} (h : Q (.bool (decide (a ≥ b))) σ m) : W g x (compareOp .GtE (.int a t) (.int b u)) σ m Q E := w_skip (fun _ _ _ h => ge_int h) h
theorem w_isNone {v : Value} (h : Q (.bool (v == .none)) σ m) : W g x (compareOp .Is v .none) σ m Q E := w_skip (fun _ _ _ h => is_none_gen h) h
theorem w_isNotNone {v : Value} (h : Q (.bool (!(v == .none))) σ m) : W g x (compareOp .IsNot v .none) σ m Q E := w_skip (fun _ _ _ h => isnot_none_gen h) h
theorem w_truth_bool {b : Bool} {Q : Bool → Store → Loc → Prop} (h : Q b σ m) : W g x (truthy (.bool b)) σ m Q E := w_skip (fun _ _ _ h => wpAny_truthy_bool h) h
theorem w_truth_none {Q : Bool → Store → Loc → Prop} (h : Q false σ m) : W g x (truthy .none) σ m Q E := w_skip (fun _ _ _ h => wpAny_pure h) h
theorem w_UnaryOp {e : Expr} {op : UnaryOp} {pos : Pos} (h : W g x (eval e x.env) σ m (fun v σ m => W g x (unaryOp op v) σ m Q E) E) : W g x (eval (.UnaryOp op e pos) x.env) σ m Q E :=
  fun ok _ _ _ hs H => wpAny_UnaryOp (h.use ok hs H fun _ _ _ _ hs H h => h ok _ _ _ hs H)

/-! ### identity of instances -/
theorem w_is_ref {a b C D : Addr} {fs fs' : List (Str × Value)} (ea : σ a = some (.inst C fs)) (eb : σ b = some (.inst D fs')) (h : Q (.bool (a == b)) σ m) : W g x (compareOp .Is (.ref a) (.ref b)) σ m Q E := by
  intro ok s₀ σ₀ s hs H
  by_cases q : a = b
  · subst q
    exact wpAny_is_ref_self ⟨σ, m, hs, H, by simpa using h⟩
  · obtain ⟨dx, es, k, I, en⟩ := H.inst ea
    obtain ⟨dx', es', k', I', en'⟩ := H.inst eb
    exact wpAny_is_ref_other q I.at_ I'.at_ (by rw [I.cls]; simp) ⟨σ, m, hs, H, by rw [← beq_eq_false_iff_ne.mpr q]; exact h⟩
theorem w_isNot_ref {a b C D : Addr} {fs fs' : List (Str × Value)} (ea : σ a = some (.inst C fs)) (eb : σ b = some (.inst D fs')) (h : Q (.bool (a != b)) σ m) : W g x (compareOp .IsNot (.ref a) (.ref b)) σ m Q E := by
  intro ok s₀ σ₀ s hs H
  by_cases q : a = b
  · subst q
    exact wpAny_isNot_ref_self ⟨σ, m, hs, H, by simpa using h⟩
  · obtain ⟨dx, es, k, I, en⟩ := H.inst ea
    obtain ⟨dx', es', k', I', en'⟩ := H.inst eb
    exact wpAny_isNot_ref_other q I.at_ I'.at_ (by rw [I.cls]; simp) ⟨σ, m, hs, H, by have : (a != b) = true := bne_iff_ne.mpr q; rw [← this]; exact h⟩
theorem w_truth_inst {a C : Addr} {fs : List (Str × Value)} {Q : Bool → Store → Loc → Prop} (e : σ a = some (.inst C fs)) (hb : findIn g.K (.ref C) "__bool__" = some none) (hl : findIn g.K (.ref C) "__len__" = some none) (h : Q true σ m) : W g x (truthy (.ref a)) σ m Q E := by
  intro ok s₀ σ₀ s hs H
  obtain ⟨dx, es, k, I, en⟩ := H.inst e
  exact truthy_K0 H.1 ok.X I hb hl ⟨σ, m, hs, H, h⟩

/-! ### lists -/
theorem At.list {h : Heap} {a : Addr} {vs : List Value} (H : At g x σ m h) (e : σ a = some (.list vs)) : h.IsList a vs.toArray := by
  obtain ⟨F, news, dx, R⟩ := H
  obtain ⟨n, k⟩ := R.cells a _ e
  exact ⟨_, (R.N _ k).1, rfl, n, rfl⟩
theorem At.tup {h : Heap} {a : Addr} {vs : List Value} (H : At g x σ m h) (e : σ a = some (.tup vs)) : IsTup h a vs.toArray := by
  obtain ⟨F, news, dx, R⟩ := H
  exact ⟨_, (R.N _ (R.cells a _ e)).1, rfl, 0, rfl⟩

theorem w_len {a : Addr} {vs : List Value} (e : σ a = some (.list vs)) (hz : vs.length < 2 ^ 60) (h : ∀ t, Q (.int vs.length t) σ m) : W g x (call (.builtin "len") [.ref a]) σ m Q E := by
  intro ok s₀ σ₀ s hs H
  refine call_len_list (H.list e) (by rw [List.size_toArray]; omega) ⟨σ, m, hs.mk' _ _, H, ?_⟩
  rw [List.size_toArray]; exact h _
theorem w_len_tup {a : Addr} {vs : List Value} (e : σ a = some (.list vs)) (hz : vs.length < 2 ^ 60) (h : ∀ t, Q (.int vs.length t) σ m) : W g x (call (.builtin "len") [.ref a]) σ m Q E := w_len e hz h

theorem w_item {a : Addr} {vs : List Value} {value slice : Expr} {k : Int} {t : Tok} {v : Value} (e : σ a = some (.list vs)) (h0 : 0 ≤ k) (h1 : k < 2 ^ 63) (hv : vs[k.toNat]? = some v) (h : Q v σ m)
    (hs' : subscripted slice false (.ref a) (.int k t) = operate [.ref a, .int k t] (getItem (.ref a) (.int k t))) : W g x (subscriptTail value slice (.ref a) (.int k t)) σ m Q E := by
  intro ok s₀ σ₀ s hs H
  exact tail_any (H.list e).typeIs slot_list_getitem.lookup (wpAny_getItem_list (H.list e) h0 h1 (by simpa using hv) ⟨σ, m, hs, H, h⟩) hs'
theorem w_item_neg {a : Addr} {vs : List Value} {value slice : Expr} {k : Int} {t : Tok} {v : Value} (e : σ a = some (.list vs)) (h0 : k < 0) (h1 : -(2 ^ 63) ≤ k) (h2 : -(vs.length : Int) ≤ k) (hv : vs[(k + vs.length).toNat]? = some v) (h : Q v σ m)
    (hs' : subscripted slice false (.ref a) (.int k t) = operate [.ref a, .int k t] (getItem (.ref a) (.int k t))) : W g x (subscriptTail value slice (.ref a) (.int k t)) σ m Q E := by
  intro ok s₀ σ₀ s hs H
  exact tail_any (H.list e).typeIs slot_list_getitem.lookup (wpAny_getItem_list_neg (H.list e) h0 (by rw [List.size_toArray]; exact h2) h1 (by rw [List.size_toArray]; simpa using hv) ⟨σ, m, hs, H, h⟩) hs'
theorem w_item_tup {a : Addr} {vs : List Value} {value slice : Expr} {k : Int} {t : Tok} {j : Nat} {v : Value} (e : σ a = some (.tup vs)) (hlo : -(2 ^ 63) ≤ k) (hhi : k < 2 ^ 63) (hj : seqIndex? k vs.length = some j) (hx : vs[j]? = some v) (h : Q v σ m)
    (hs' : subscripted slice false (.ref a) (.int k t) = operate [.ref a, .int k t] (getItem (.ref a) (.int k t))) : W g x (subscriptTail value slice (.ref a) (.int k t)) σ m Q E := by
  intro ok s₀ σ₀ s hs H
  exact item_tupleT (H.tup e) hlo hhi (by simpa using hj) (by simpa using hx) ⟨σ, m, hs, H, h⟩ hs'

theorem At.turnList {h h' : Heap} {a : Addr} {vs vs' : List Value} {news : List (Addr × Obj)} {dx : Addr → Addr} {n : Nat} (e : σ a = some (.list vs)) (R : RepN g.w x.h₀ x.L h σ news dx) (F' : Fr x.h₀ x.L h' m)
    (N' : News x.h₀ x.L h' (updN a (listOf vs'.toArray n) news)) : At g x (σ.set a (.list vs')) m h' :=
  ⟨F', _, _, R.turn e (fun _ _ q => by cases q) (fun _ _ q => by cases q) N' fun _ hm => ⟨n, hm⟩⟩

theorem w_setItem {a : Addr} {vs : List Value} {k : Int} {t : Tok} {v : Value} {Q : Unit → Store → Loc → Prop} (e : σ a = some (.list vs)) (h0 : 0 ≤ k) (h1 : k < vs.length) (hz : vs.length < 2 ^ 60)
    (h : Q () (σ.set a (.list (vs.set k.toNat v))) m) : W g x (setItem (.ref a) (.int k t) v) σ m Q E := by
  intro ok s₀ σ₀ s hs H
  obtain ⟨F, news, dx, R⟩ := id H
  obtain ⟨n, hm⟩ := R.cells a _ e
  have z := R.N _ hm
  have U := upd_of (listOf (vs.set k.toNat v).toArray n) R.nd hm
  have fin : ∀ h', Fr x.h₀ x.L h' m → News x.h₀ x.L h' (updN a (listOf (vs.set k.toNat v).toArray n) news) → Post g x s₀ σ₀ Q () { s with heap := h' } := fun h' F' N' => ⟨_, _, (hs.heap _).set _ e (fun _ q => by cases q), At.turnList e R F' N', h⟩
  revert fin
  generalize updN a (listOf (vs.set k.toNat v).toArray n) news = news' at U
  intro fin
  have N := R.N
  clear R
  obtain ⟨pre, post, rfl, rfl, a1, b1⟩ := U.split
  refine ki_setAt z.1 h0 (by omega) (by rw [List.size_toArray]; omega) (fin _ (F.change (Heap.SameBut.update ..) z.2.1 z.2.2) (ki_turn _ N a1 b1 ?_ ?_))
  · show vs.toArray.setIfInBounds k.toNat v = (vs.set k.toNat v).toArray
    simp
  · simp

theorem w_append {a : Addr} {vs : List Value} {v : Value} (e : σ a = some (.list vs)) (hz : vs.length ≤ sizeLine) (h : Q .none (σ.set a (.list (vs ++ [v]))) m) : W g x (call (.builtin "list.append") [.ref a, v]) σ m Q E := by
  intro ok s₀ σ₀ s hs H
  obtain ⟨F, news, dx, R⟩ := id H
  obtain ⟨n, hm⟩ := R.cells a _ e
  refine append_K F R.N (upd_of _ R.nd hm) (fun h' F' N' => ⟨_, _, (hs.heap _).set _ e (fun _ q => by cases q), At.turnList (n := n + 1) e R F' ?_, h⟩) (by rw [List.size_toArray]; exact hz)
  have : vs.toArray.push v = (vs ++ [v]).toArray := by simp
  rw [← this]; exact N'
theorem w_insert {a : Addr} {vs : List Value} {k : Int} {t : Tok} {v : Value} (e : σ a = some (.list vs)) (h0 : 0 ≤ k) (h1 : k ≤ vs.length) (hz : vs.length ≤ sizeLine) (h : Q .none (σ.set a (.list (vs.take k.toNat ++ v :: vs.drop k.toNat))) m) :
    W g x (call (.builtin "list.insert") [.ref a, .int k t, v]) σ m Q E := by
  intro ok s₀ σ₀ s hs H
  obtain ⟨F, news, dx, R⟩ := id H
  obtain ⟨n, hm⟩ := R.cells a _ e
  have hz' : vs.length < 2 ^ 60 := by have := sizeLine_eq; omega
  refine kl_insert F R.N ?_ ?_ (upd_of _ R.nd hm) hz fun h' F' N' => ⟨_, _, (hs.heap _).set _ e (fun _ q => by cases q), At.turnList (n := n + 1) e R F' N', h⟩
  · unfold Builtin.List.listFitsIndex
    simp only [Bool.and_eq_true, decide_eq_true_eq]; omega
  · unfold kl_ins
    rw [if_neg (by omega)]
    have : min k.toNat vs.length = k.toNat := by omega
    simp [this]
theorem kl_last_append (p : List Value) (y : Value) : kl_last (p ++ [y]) = some (p, y) := by
  induction p with
  | nil => rfl
  | cons x r ih => show (match kl_last (r ++ [y]) with | some (p, y) => some (x :: p, y) | none => some ([], x)) = _; rw [ih]
theorem kl_cut_append (p q : List Value) (y : Value) : kl_cut (p ++ y :: q) p.length = some (p, y, q) := by
  induction p with
  | nil => rfl
  | cons x r ih => show (match kl_cut (r ++ y :: q) r.length with | some (p, y, q) => some (x :: p, y, q) | none => none) = _; rw [ih]
theorem w_pop {a : Addr} {vs : List Value} {v : Value} (e : σ a = some (.list (vs ++ [v]))) (hz : vs.length < sizeLine) (h : Q v (σ.set a (.list vs)) m) : W g x (call (.builtin "list.pop") [.ref a]) σ m Q E := by
  intro ok s₀ σ₀ s hs H
  obtain ⟨F, news, dx, R⟩ := id H
  obtain ⟨n, hm⟩ := R.cells a _ e
  exact kl_pop F R.N (kl_last_append vs v) (upd_of _ R.nd hm) (by rw [List.length_append]; exact hz) fun h' F' N' => ⟨_, _, (hs.heap _).set _ e (fun _ q => by cases q), At.turnList (n := n + 1) e R F' N', h⟩
theorem w_popAt {a : Addr} {p q : List Value} {v : Value} {k : Int} {t : Tok} (e : σ a = some (.list (p ++ v :: q))) (hk : k = p.length) (hz : (p ++ v :: q).length ≤ sizeLine) (h : Q v (σ.set a (.list (p ++ q))) m) : W g x (call (.builtin "list.pop") [.ref a, .int k t]) σ m Q E := by
  intro ok s₀ σ₀ s hs H
  obtain ⟨F, news, dx, R⟩ := id H
  obtain ⟨n, hm⟩ := R.cells a _ e
  have hz' : (p ++ v :: q).length < 2 ^ 60 := by have := sizeLine_eq; omega
  have hl : p.length < (p ++ v :: q).length := by rw [List.length_append, List.length_cons]; omega
  refine kl_popAt (k := p.length) F R.N ?_ ?_ (kl_cut_append p q v) (upd_of _ R.nd hm) hz fun h' F' N' => ⟨_, _, (hs.heap _).set _ e (fun _ q => by cases q), At.turnList (n := n + 1) e R F' N', h⟩
  · unfold Builtin.List.listFitsIndex
    simp only [Bool.and_eq_true, decide_eq_true_eq]; omega
  · subst hk
    unfold seqIndex?
    simp only [List.size_toArray]
    have h1 : ¬ ((p.length : Int) < 0) := by omega
    have h2 : ((p.length : Int) < ((p ++ v :: q).length : Int)) := by exact_mod_cast hl
    have h3 : (0 : Int) ≤ (p.length : Int) := by omega
    simp only [if_neg h1, h2, h3, decide_true, Bool.and_self, if_true, Int.toNat_natCast]
theorem w_extend {a b : Addr} {vs us : List Value} (e : σ a = some (.list vs)) (eb : σ b = some (.list us)) (hz : vs.length + us.length ≤ sizeLine) (h : Q .none (σ.set a (.list (vs ++ us))) m) : W g x (call (.builtin "list.extend") [.ref a, .ref b]) σ m Q E := by
  intro ok s₀ σ₀ s hs H
  obtain ⟨F, news, dx, R⟩ := id H
  obtain ⟨n, hm⟩ := R.cells a _ e
  obtain ⟨n2, hm2⟩ := R.cells b _ eb
  by_cases hu : us = []
  · subst hu
    have hv : vs ++ [] = vs := List.append_nil _
    rw [hv] at h
    refine kxn_extend F R.N hm2 rfl (upd_of _ R.nd hm) ?_ (by simp at hz ⊢; omega) (by simp at hz ⊢; omega) fun h' F' N' => ⟨_, _, (hs.heap _).set _ e (fun _ q => by cases q), At.turnList (n := n) e R F' N', h⟩
    unfold Builtin.List.listTooLong
    simp only [List.size_toArray, gt_iff_lt, Bool.and_eq_true, decide_eq_true_eq, not_and]
    intro _; simp at hz ⊢; omega
  · refine kl_extend F R.N hm2 rfl (by simpa using hu) (upd_of _ R.nd hm) ?_ (by simp; omega) (by simp; omega) fun h' F' N' => ⟨_, _, (hs.heap _).set _ e (fun _ q => by cases q), At.turnList (n := n + 1) e R F' N', h⟩
    unfold Builtin.List.listTooLong
    simp only [List.size_toArray, gt_iff_lt, Bool.and_eq_true, decide_eq_true_eq, not_and]
    intro _; omega
theorem w_listCopy {a : Addr} {vs : List Value} (e : σ a = some (.list vs)) (hz : vs.length ≤ sizeLine) (h : ∀ l, σ l = none → Q (.ref l) (σ.set l (.list vs)) m) : W g x (call (.type "list") [.ref a]) σ m Q E := by
  intro ok s₀ σ₀ s hs H
  obtain ⟨F, news, dx, R⟩ := id H
  exact list_copyK F R.N (H.list e) (fun D c h' F' N' l1 => ⟨_, _, (hs.heap _).new _ (R.fresh l1), ⟨F', _, _, R.new l1 (c := .list vs) (fun _ _ q => by cases q) N' fun _ hm => ⟨c, hm⟩⟩, h D (R.fresh l1)⟩) (by rw [List.size_toArray]; exact hz)
theorem w_newList {vs : List Value} (hz : vs.length ≤ sizeLine) (h : ∀ l, σ l = none → Q (.ref l) (σ.set l (.list vs)) m) : W g x (newList vs) σ m Q E := by
  intro ok s₀ σ₀ s hs H
  obtain ⟨F, news, dx, R⟩ := id H
  exact newList_K F R.N (fun l h' F' N' l1 => ⟨_, _, (hs.heap _).new _ (R.fresh l1), ⟨F', _, _, R.new l1 (c := .list vs) (fun _ _ q => by cases q) N' fun _ hm => ⟨0, hm⟩⟩, h l (R.fresh l1)⟩) hz
theorem w_newTuple {vs : List Value} (hz : vs.length ≤ sizeLine) (h : ∀ l, σ l = none → Q (.ref l) (σ.set l (.tup vs)) m) : W g x (newTuple vs) σ m Q E := by
  intro ok s₀ σ₀ s hs H
  obtain ⟨F, news, dx, R⟩ := id H
  have l1 : ∀ p ∈ news, p.1 < s.heap.objs.size := fun p hp => Heap.lt_size (R.N p hp).1
  exact newTuple_N F R.N (fun h' F' N' => ⟨_, _, (hs.heap _).new _ (R.fresh l1), ⟨F', _, _, R.new l1 (c := .tup vs) (fun _ _ q => by cases q) N' fun _ hm => hm⟩, h _ (R.fresh l1)⟩) hz
theorem w_List {elts : List Expr} {pos : Pos} (h : W g x (spliced (backTo pos (starEach elts x.env))) σ m (fun vs σ m => W g x (newList vs) σ m Q E) E) : W g x (eval (.List elts pos) x.env) σ m Q E :=
  fun ok _ _ _ hs H => List_ (h.use ok hs H fun _ _ _ _ hs H h => h ok _ _ _ hs H)
theorem w_Tuple {elts : List Expr} {k : Nat} {pos : Pos} (h : W g x (spliced (backTo pos (starEach elts x.env))) σ m (fun vs σ m => W g x (newTuple vs) σ m Q E) E) : W g x (eval (.Tuple elts k pos) x.env) σ m Q E :=
  fun ok _ _ _ hs H => Tuple_ (h.use ok hs H fun _ _ _ _ hs H h => h ok _ _ _ hs H)

/-! ### a list's methods -/
theorem w_listMeth {a : Addr} {vs : List Value} {n : Str} {fid : String} {pl : Sem Bool} {Q : Value × List Value → Store → Loc → Prop} (e : σ a = some (.list vs)) (slot : Slot "list" n fid) (hty : typeOf (.builtin fid) = pure (.type "method_descriptor"))
    (h : Q (.builtin fid, [.ref a]) σ m) : W g x (getMethod (.ref a) n pl) σ m Q E := by
  intro ok s₀ σ₀ s hs H
  obtain ⟨F, news, dx, R⟩ := id H
  obtain ⟨k, hm⟩ := R.cells a _ e
  exact kl_method R.N hm slot hty ⟨σ, m, hs, H, h⟩

/-! ### slices -/
theorem w_Slice {lo up : Option Expr} {p : Pos} (h : W g x (valueOrNone (evalOpt lo x.env)) σ m (fun l σ m => W g x (valueOrNone (evalOpt up x.env)) σ m (fun u σ m => ∀ sl, σ sl = none → Q (.ref sl) (σ.set sl (.raw { cls := .type "slice", data := .fields #[l, u, .none] })) m) E) E) :
    W g x (eval (.Slice lo up none p) x.env) σ m Q E := by
  intro ok s₀ σ₀ s hs H
  show wpAny _ _ (do
    let l ← valueOrNone (evalOpt lo x.env)
    let u ← holding [l] (valueOrNone (evalOpt up x.env))
    let s ← holding [l, u] (valueOrNone (evalOpt none x.env))
    newFields "slice" [l, u, s]) _ _ _
  refine wpAny_bind (h.use ok hs H fun l s1 σ1 m1 hs1 H1 h1 => wpAny_bind (wpAny_holding (h1.use ok hs1 H1 fun u s2 σ2 m2 hs2 H2 h2 => wpAny_bind (wpAny_holding (wpAny_pure ?_)))))
  obtain ⟨F, news, dx, R⟩ := id H2
  have l1 : ∀ p ∈ news, p.1 < s2.heap.objs.size := fun p hp => Heap.lt_size (R.N p hp).1
  refine wpAny_newObj_type ⟨_, _, (hs2.heap _).new _ (R.fresh l1), ⟨F.push _, _, _, R.new l1 (c := .raw { cls := .type "slice", data := .fields #[l, u, .none] }) (fun _ _ q => by cases q) (R.N.push F { cls := .type "slice", data := .fields #[l, u, .none] }) fun _ hm => ⟨_, hm, rfl⟩⟩, h2 _ (R.fresh l1)⟩
theorem w_part_none {Q : Value → Store → Loc → Prop} (h : Q .none σ m) : W g x (valueOrNone (evalOpt none x.env)) σ m Q E := w_pure h
theorem w_part_some {e : Expr} {Q : Value → Store → Loc → Prop} (h : W g x (eval e x.env) σ m Q E) : W g x (valueOrNone (evalOpt (some e) x.env)) σ m Q E := h
theorem w_sliced {a sl : Addr} {vs : List Value} {value slice : Expr} {l u : Value} {lo hi : Option Int} (e : σ a = some (.list vs)) (es : σ sl = some (.raw { cls := .type "slice", data := .fields #[l, u, .none] })) (pl : IsPart l lo) (pu : IsPart u hi) (hz : vs.length ≤ sizeLine)
    (hs' : subscripted slice false (.ref a) (.ref sl) = operate [.ref sl, .ref a] (getItem (.ref a) (.ref sl))) (h : ∀ d, σ d = none → Q (.ref d) (σ.set d (.list (slicePick vs.toArray lo hi none).toList)) m) : W g x (subscriptTail value slice (.ref a) (.ref sl)) σ m Q E := by
  intro ok s₀ σ₀ s hs H
  obtain ⟨F, news, dx, R⟩ := id H
  have l1 : ∀ p ∈ news, p.1 < s.heap.objs.size := fun p hp => Heap.lt_size (R.N p hp).1
  have hsl : s.heap.IsSliceOf sl l u .none := by
    obtain ⟨o, ho, rfl⟩ := R.cells sl _ es
    exact ⟨_, (R.N _ ho).1, rfl, rfl⟩
  refine tail_any (H.list e).typeIs list_getitem_lookup (wpAny_getItem_list_slice (H.list e) hsl pl pu .none (by simp) ⟨_, _, (hs.heap _).new _ (R.fresh l1), ⟨F.push _, _, _, R.new l1 (c := .list (slicePick vs.toArray lo hi none).toList) (fun _ _ q => by cases q) (R.N.push F { cls := .type "list", data := .seq (slicePick vs.toArray lo hi none) }) fun _ hm => ⟨0, ?_⟩⟩, h _ (R.fresh l1)⟩ (by rw [List.size_toArray]; exact hz)) hs'
  rw [Array.toArray_toList]; exact hm
theorem slice_from (vs : List Value) (k : Int) (h0 : 0 ≤ k) : (slicePick vs.toArray (some k) none none).toList = vs.drop k.toNat := by
  have e : sliceBounds (some k) none none vs.toArray.size = (((min k.toNat vs.toArray.size : Nat) : Int), ((vs.toArray.size : Nat) : Int), 1) := by
    simp only [sliceBounds, Option.getD_none, show (1 : Int) > 0 by decide, if_true, if_neg (show ¬ (k < 0) by omega)]
    congr 1
    omega
  rw [kmk_pick_nat _ e]
  show (vs.drop (min k.toNat vs.toArray.size)).take (vs.toArray.size - min k.toNat vs.toArray.size) = _
  rw [List.size_toArray, kmk_drop_min, List.take_of_length_le (by rw [List.length_drop]; omega)]
theorem slice_upto (vs : List Value) (k : Int) (h0 : 0 ≤ k) : (slicePick vs.toArray none (some k) none).toList = vs.take k.toNat := by
  have e : sliceBounds none (some k) none vs.toArray.size = (((0 : Nat) : Int), ((min k.toNat vs.toArray.size : Nat) : Int), 1) := by
    simp only [sliceBounds, Option.getD_none, show (1 : Int) > 0 by decide, if_true, if_neg (show ¬ (k < 0) by omega)]
    congr 1
    congr 1
    omega
  rw [kmk_pick_nat _ e]
  show ((vs.drop 0).take (min k.toNat vs.toArray.size - 0)) = _
  rw [List.drop_zero, Nat.sub_zero, List.size_toArray, kmk_take_min]
end
end
section

section
variable {α β : Type} {g : Gl} {x : Fx} {σ : Store} {m : Loc} {E : Value → Heap → Prop}

/-! ### small steps for the walk -/
theorem nm_of {S : Scope} {n : Str} {k : NameKind} (h : x.cs = S) (e : S.names.lookup n = some k) : x.cs.names.lookup n = some k := h ▸ e
theorem upL_same (m : Loc) (n : Str) (v : Value) : upL m n v n = some v := if_pos rfl
theorem upL_ne {m : Loc} {n n' : Str} {v : Value} {r : Option Value} (hne : (n == n') = false) (h : m n = r) : upL m n' v n = r := by
  unfold upL; rw [if_neg (fun e => by subst e; simp at hne)]; exact h
theorem next_next {rest : List Stmt} {Q : Flow → Store → Loc → Prop} (h : W g x (execs rest x.env) σ m Q E) : Next g x rest Q E .next σ m := h
theorem next_ret {rest : List Stmt} {Q : Flow → Store → Loc → Prop} {v : Value} (h : Q (.ret v) σ m) : Next g x rest Q E (.ret v) σ m := h
theorem next_brk {rest : List Stmt} {Q : Flow → Store → Loc → Prop} (h : Q .brk σ m) : Next g x rest Q E .brk σ m := h
theorem next_cont {rest : List Stmt} {Q : Flow → Store → Loc → Prop} (h : Q .cont σ m) : Next g x rest Q E .cont σ m := h
theorem ite_both {c : Bool} {A B : Prop} (ha : c = true → A) (hb : c = false → B) : if c then A else B := by cases c; exact hb rfl; exact ha rfl
theorem ite_dec {p : Prop} [Decidable p] {A B : Prop} (ha : p → A) (hb : ¬ p → B) : if decide p then A else B := by
  by_cases h : p
  · rw [if_pos (decide_eq_true h)]; exact ha h
  · rw [if_neg (by simpa using h)]; exact hb h
theorem ite_decT {p : Prop} [Decidable p] {A B : Prop} (h : p) (ha : A) : if decide p then A else B := by rw [if_pos (decide_eq_true h)]; exact ha
theorem ite_decF {p : Prop} [Decidable p] {A B : Prop} (h : ¬ p) (hb : B) : if decide p then A else B := by rw [if_neg (by simpa using h)]; exact hb
theorem ite_beq {a b : Int} {A B : Prop} (ha : a = b → A) (hb : a ≠ b → B) : if (a == b) then A else B := by
  by_cases h : a = b
  · rw [if_pos (by simpa using h)]; exact ha h
  · rw [if_neg (by simpa using h)]; exact hb h
theorem ite_beqA {a b : Addr} {A B : Prop} (ha : a = b → A) (hb : a ≠ b → B) : if (a == b) then A else B := by
  by_cases h : a = b
  · rw [if_pos (by simpa using h)]; exact ha h
  · rw [if_neg (by simpa using h)]; exact hb h
theorem ite_bneA {a b : Addr} {A B : Prop} (ha : a ≠ b → A) (hb : a = b → B) : if (a != b) then A else B := by
  by_cases h : a = b
  · rw [if_neg (by simp [h])]; exact hb h
  · rw [if_pos (by simp [h])]; exact ha h
theorem ite_t {A B : Prop} (h : A) : if true then A else B := h
theorem ite_f {A B : Prop} (h : B) : if false then A else B := h

/-! ### a class of the top is called -/
theorem under_type (x : Fx) (C : Addr) (args : List Value) (kw : List (Str × Value)) : ∃ u, u ≤ 3 ∧ x.A.under (.builtin "type.__call__" ⟨.ref C :: args, kw⟩) = ({ x with dp := x.dp + 1, un := x.un + u } : Fx).A := by
  refine ⟨(Code.builtin "type.__call__" ⟨.ref C :: args, kw⟩).cUnits, ?_, ?_⟩
  · exact Nat.le_of_ble_eq_true rfl
  · obtain ⟨hd, dp, un, gd, outer, A₀, base, h₀, L, cn, cs, a, ccd, cl⟩ := x
    unfold Around.under Fx.A
    congr 1

theorem calls_new {hp : Option Value → Prop} {n : Nat} {C fI : Addr} {args : List Value} {kw : List (Str × Value)} {Q : Value → Store → Prop} (hm : makesIn g.K C = true) (hi : findIn g.K (.ref C) "__init__" = some (some (.ref fI))) (hf : isFn g.K (.ref fI) = true)
    (h : ∀ a, σ a = none → Calls g hp n (.ref fI) (.ref a :: args) kw (σ.set a (.inst C [])) (fun v σ' => v = .none ∧ Q (.ref a) σ')) : Calls g hp (n + 1) (.ref C) args kw σ Q := by
  intro x m E hh hr ok s₀ σ₀ s hs H
  obtain ⟨F, news, dx, R⟩ := id H
  refine make_K F R.N (ok.X.keeps F.keep) hm hi (beq_iff_eq.mp hf) fun a d h' F' N' l1 l2 => ?_
  have R' := R.newI l1 l2 N'
  have fr := R.fresh (l := a) (fun p hp => Nat.lt_trans (l1 p hp) l2)
  obtain ⟨u, hu, hA⟩ := under_type x C args kw
  rw [hA]
  have ok' : Fx.Ok g ({ x with dp := x.dp + 1, un := x.un + u } : Fx) := ⟨ok.B, ok.X, ok.T, ok.k, by have := hr.1; show x.dp + 1 < _; omega, by have := hr.2; show x.un + u < _; omega⟩
  refine codeAny_mono (h a fr ({ x with dp := x.dp + 1, un := x.un + u } : Fx) m E hh ⟨by have := hr.1; show x.dp + 1 + 2 * n < _; omega, by have := hr.2; show x.un + u + 12 * n < _; omega⟩ ok' s₀ σ₀ { s with heap := h' } ((hs.heap h').new _ fr) ⟨F', _, _, R'⟩) fun r s' z => ?_
  rcases r with e | (v | _ | _ | _)
  · exact z
  · exact z.elim
  · exact z.elim
  · exact z.elim
  · obtain ⟨σ', z1, z2, z3, z4⟩ := z; exact ⟨z3, σ', z1, z2, z4⟩
/-- a class without an __init__ of its own -/
theorem calls_new0 {hp : Option Value → Prop} {C : Addr} {Q : Value → Store → Prop} (hm : makesIn g.K C = true) (hi : findIn g.K (.ref C) "__init__" = some (some (.builtin "object.__init__")))
    (h : ∀ a, σ a = none → Q (.ref a) (σ.set a (.inst C []))) : Calls g hp 1 (.ref C) [] [] σ Q := by
  intro x m E hh hr ok s₀ σ₀ s hs H
  obtain ⟨F, news, dx, R⟩ := id H
  exact make_K0 F R.N (ok.X.keeps F.keep) hm hi fun a d h' F' N' l1 l2 => ⟨_, (hs.heap h').new _ (R.fresh (l := a) (fun p hp => Nat.lt_trans (l1 p hp) l2)), ⟨F', _, _, R.newI l1 l2 N'⟩, h a (R.fresh (l := a) (fun p hp => Nat.lt_trans (l1 p hp) l2))⟩
end
end
section

abbrev NoE : Value → Heap → Prop := fun _ _ => False

section
variable {α β : Type} {g : Gl} {x : Fx} {σ : Store} {m : Loc} {E : Value → Heap → Prop}

/-- what a loop's body hands on: J at the next turn, or the flow -/
def Turn (J : Store → Loc → Prop) (Q : Flow → Store → Loc → Prop) (f : Flow) (σ : Store) (m : Loc) : Prop := match f with
  | .next | .cont => J σ m
  | .brk => Q .next σ m
  | .ret v => Q (.ret v) σ m
theorem turn_next {J : Store → Loc → Prop} {Q : Flow → Store → Loc → Prop} (h : J σ m) : Turn J Q .next σ m := h
theorem turn_cont {J : Store → Loc → Prop} {Q : Flow → Store → Loc → Prop} (h : J σ m) : Turn J Q .cont σ m := h
theorem turn_brk {J : Store → Loc → Prop} {Q : Flow → Store → Loc → Prop} (h : Q .next σ m) : Turn J Q .brk σ m := h
theorem turn_ret {J : Store → Loc → Prop} {Q : Flow → Store → Loc → Prop} {v : Value} (h : Q (.ret v) σ m) : Turn J Q (.ret v) σ m := h

theorem w_While {test : Expr} {body orelse : List Stmt} {pos : Pos} {Q : Flow → Store → Loc → Prop} (I : Nat → Store → Loc → Prop) (n : Nat) (h0 : I n σ m)
    (turn : ∀ n σ m, I n σ m → W g x (isTrue test x.env (eval test x.env)) σ m (fun b σ m => if b then W g x (execs body x.env) σ m (Turn (fun σ m => ∃ k, k < n ∧ I k σ m) Q) NoE else W g x (execs orelse x.env) σ m Q NoE) NoE) :
    W g x (exec (.While test body orelse pos) x.env) σ m Q E := by
  intro ok s₀ σ₀ s hs H
  refine wpAny_While (codeAny_whileLoop (fun k s => ∃ σ m, Was s₀ σ₀ s σ ∧ At g x σ m s.heap ∧ I k σ m) (fun k s ⟨σ, m, hs, H, hI⟩ => ?_) n ⟨σ, m, hs, H, h0⟩)
  refine wpAny_mono (turn k σ m hI ok s₀ σ₀ s hs H) (fun b s2 ⟨σ2, m2, hs2, H2, h2⟩ => ?_) fun e s' he => he.2.elim
  cases b with
  | false => exact wpAny_mono (h2 ok s₀ σ₀ s2 hs2 H2) (fun f s3 h3 => h3) fun e s' he => he.2.elim
  | true =>
    refine wpAny_mono (h2 ok s₀ σ₀ s2 hs2 H2) (fun f s3 ⟨σ3, m3, hs3, H3, h3⟩ => ?_) fun e s' he => he.2.elim
    cases f with
    | next => obtain ⟨j, hj, hI'⟩ := h3; exact ⟨j, hj, σ3, m3, hs3, H3, hI'⟩
    | cont => obtain ⟨j, hj, hI'⟩ := h3; exact ⟨j, hj, σ3, m3, hs3, H3, hI'⟩
    | brk => exact ⟨σ3, m3, hs3, H3, h3⟩
    | ret v => exact ⟨σ3, m3, hs3, H3, h3⟩

/-- σ' bears all that σ bears, but for what is told by a word -/
def SubS (σ σ' : Store) : Prop := ∀ a c, (∀ P, c ≠ .pred P) → σ a = some c → σ' a = some c
theorem SubS.refl (σ : Store) : SubS σ σ := fun _ _ _ e => e
theorem SubS.trans {σ₁ σ₂ σ₃ : Store} (h : SubS σ₁ σ₂) (k : SubS σ₂ σ₃) : SubS σ₁ σ₃ := fun a c hc e => k a c hc (h a c hc e)
theorem SubS.new {σ : Store} {a : Addr} (c : Cell) (e : σ a = none) : SubS σ (σ.set a c) := fun b c' _ q => by
  rw [Store.set_ne _ _ fun z => ?_]; exact q
  subst z; rw [e] at q; cases q
theorem SubS.pred {σ : Store} {a : Addr} {P : Obj → Prop} (c : Cell) (e : σ a = some (.pred P)) : SubS σ (σ.set a c) := fun b c' hc q => by
  rw [Store.set_ne _ _ fun z => ?_]; exact q
  subst z; rw [e] at q; cases q; exact hc P rfl
def Mono (I : Store → Prop) : Prop := ∀ σ σ', SubS σ σ' → I σ → I σ'

/-- an iterator's object is turned: the ledger follows -/
theorem At.turnPred {h h' : Heap} {I : Addr} {P : Obj → Prop} {o' : Obj} (H : At g x σ m h) (e : σ I = some (.pred P)) (ho' : h'.get? I = some o') (hk : ∀ b o, b ≠ I → h.get? b = some o → h'.get? b = some o) :
    At g x (σ.set I (.raw o')) m h' := by
  obtain ⟨F, news, dx, R⟩ := H
  obtain ⟨o, hm, _⟩ := R.cells I _ e
  have z := R.N _ hm
  have N' : News x.h₀ x.L h' (updN I o' news) := fun p hp => by
    obtain ⟨q, hq, rfl⟩ := List.mem_map.mp hp
    by_cases hqI : q.1 = I
    · rw [if_pos hqI]; exact ⟨ho', z.2⟩
    · rw [if_neg hqI]; exact ⟨hk _ _ hqI (R.N q hq).1, (R.N q hq).2⟩
  refine ⟨⟨?_, fun b ob q => hk b ob (fun z' => ?_) (F.keep b ob q), F.above⟩, _, _, R.turn e (fun _ _ q => by cases q) (fun _ _ q => by cases q) N' fun _ hm => ⟨_, hm, rfl⟩⟩
  · obtain ⟨oL, es, ep, hL, r⟩ := F.ns
    exact ⟨oL, es, ep, hk _ _ (Ne.symm z.2.1) hL, r⟩
  · subst z'; rw [z.2.2] at q; cases q

def Store.drop (σ : Store) (a : Addr) : Store := fun b => if b = a then none else σ b
theorem Store.drop_ne (σ : Store) {a b : Addr} (h : b ≠ a) : σ.drop a b = σ b := if_neg h
theorem Store.drop_some {σ : Store} {a b : Addr} {c : Cell} (h : σ.drop a b = some c) : σ b = some c := by
  unfold Store.drop at h; split at h
  · cases h
  · exact h
theorem SubS.drop {σ : Store} {a : Addr} {P : Obj → Prop} (e : σ a = some (.pred P)) : SubS σ (σ.drop a) := fun b c' hc q => by
  rw [Store.drop_ne _ fun z => ?_]; exact q
  subst z; rw [e] at q; cases q; exact hc P rfl
theorem At.erase {h h' : Heap} {I : Addr} {P : Obj → Prop} (H : At g x σ m h) (e : σ I = some (.pred P)) (hk : ∀ b o, b ≠ I → h.get? b = some o → h'.get? b = some o) : At g x (σ.drop I) m h' := by
  obtain ⟨F, news, dx, R⟩ := H
  obtain ⟨o, hm, _⟩ := R.cells I _ e
  have z := R.N _ hm
  refine ⟨⟨?_, fun b ob q => hk b ob (fun z' => ?_) (F.keep b ob q), F.above⟩, news.filter (fun p => p.1 != I), dx, fun p hp => ?_, ?_, fun b cb hb => ?_, fun a b C fs C' fs' h1 h2 => R.inj _ _ _ _ _ _ (Store.drop_some h1) (Store.drop_some h2), fun a C fs h1 => ?_⟩
  · obtain ⟨oL, es, ep, hL, r⟩ := F.ns
    exact ⟨oL, es, ep, hk _ _ (Ne.symm z.2.1) hL, r⟩
  · subst z'; rw [z.2.2] at q; cases q
  · obtain ⟨hp, hpI⟩ := List.mem_filter.mp hp
    exact ⟨hk _ _ (bne_iff_ne.mp hpI) (R.N p hp).1, (R.N p hp).2⟩
  · exact R.nd.sublist (List.filter_sublist.map _)
  · have hbI : b ≠ I := fun q => by unfold Store.drop at hb; rw [if_pos q] at hb; cases hb
    have hb' := Store.drop_some hb
    refine (R.cells b cb hb').keep (fun o h => List.mem_filter.mpr ⟨h, bne_iff_ne.mpr hbI⟩) fun C fs q => ⟨rfl, fun o h => List.mem_filter.mpr ⟨h, bne_iff_ne.mpr fun q2 => ?_⟩⟩
    subst q
    have := R.off b C fs hb'
    rw [show dx b = I from q2, e] at this; cases this
  · unfold Store.drop; split
    · rfl
    · exact R.off a C fs (Store.drop_some h1)

theorem At.getPred {h : Heap} {I : Addr} {o : Obj} (H : At g x σ m h) (e : σ I = some (.raw o)) : h.get? I = some o := by
  obtain ⟨F, news, dx, R⟩ := H
  obtain ⟨o', hm, rfl⟩ := R.cells I _ e
  exact (R.N _ hm).1

theorem code_for {I : Addr} {fp : List Addr} {n : Nat} {P : Nat → Value → Prop} {St : Nat → Heap → Prop} {StI : Nat → Obj → Prop} {Sup : Store → Prop} {target : Expr} {body orelse : List Stmt} {Q : Flow → Store → Loc → Prop}
    (Wk : Walks PG g.w x.A I fp [I] n P St) (st : ∀ i (h : Heap) σ m o, At g x σ m h → Sup σ → h.get? I = some o → StI i o → St i h) (ts : ∀ i (h : Heap), St i h → ∃ o, h.get? I = some o ∧ StI i o)
    (J : Nat → Store → Loc → Prop) (mono : ∀ i m, Mono fun σ => J i σ m) (sup : ∀ i σ m, J i σ m → Sup σ) (ht : ∀ v, letOwnedTupleGo target (.ref I) v = pure ())
    (turn : ∀ i v σ m, i < n → P i v → J i σ m → W g x (assign target x.env v) σ m (fun _ σ m => W g x (execs body x.env) σ m (Turn (J (i + 1)) Q) NoE) NoE)
    (done : ∀ σ m, J n σ m → W g x (execs orelse x.env) σ m Q NoE)
    (ok : x.Ok g) (s₀ : Shared) (σ₀ : Store) (hI : ∀ P, σ₀ I ≠ some (.pred P)) {s : Shared} (hs : Was s₀ σ₀ s σ) (H : At g x σ m s.heap) {o : Obj} (eI : σ I = some (.raw o)) (hSt : StI 0 o) (hJ : J 0 σ m) :
    codeAny g.M x.A (.forLoop target (.ref I) body orelse x.env) (fun r s' => match r with | .ok f => Post g x s₀ σ₀ Q f s' | .error e => cameBackBy g.M x.A x.env (EE s₀ E) e s') s := by
  refine codeAny_forLoop (fun k s => ∃ i σ m o, k = n - i ∧ i ≤ n ∧ Was s₀ σ₀ s σ ∧ At g x σ m s.heap ∧ σ I = some (.raw o) ∧ StI i o ∧ J i σ m) (fun k s ⟨i, σ, m, o, hk, hi, hs, H, eI, hSt, hJ⟩ => ?_) n ⟨0, σ, m, o, rfl, Nat.zero_le _, hs, H, eI, hSt, hJ⟩ ht
  have hSt' : St i s.heap := st i s.heap σ m o H (sup i σ m hJ) (H.getPred eI) hSt
  have kp : ∀ o', Keeps σ₀ (σ.set I (.raw o')) := fun o' b P q => by
    rw [Store.set_ne _ _ fun z => by subst z; exact hI P q]
    exact hs.keep b P q
  by_cases hlt : i < n
  · refine Wk.item i _ _ _ hlt hSt' fun v h' tk hP hSt2 hk' => ?_
    obtain ⟨o', ho', hSt3⟩ := ts _ _ hSt2
    have H' := H.turnPred eI ho' fun b ob hb q => hk' b ob (by simpa using hb) q
    have hJ' := mono i m σ _ (SubS.pred (.raw o') eI) hJ
    have hs' : Was s₀ σ₀ { s with heap := h', toks := tk } (σ.set I (.raw o')) := ⟨hs.same.mk h' tk, kp o'⟩
    refine wpAny_mono (turn i v _ m hlt hP hJ' ok s₀ (σ.set I (.raw o')) _ ⟨hs'.same, Keeps.refl _⟩ H') (fun _ s2 ⟨σ2, m2, hs2, H2, h2⟩ => ?_) fun e s' he => he.2.elim
    refine wpAny_mono (h2 ok s₀ (σ.set I (.raw o')) s2 hs2 H2) (fun f s3 ⟨σ3, m3, hs3, H3, h3⟩ => ?_) fun e s' he => he.2.elim
    have e3 : σ3 I = some (.raw o') := hs3.keep I _ (Store.set_same _ _ _)
    have hs4 : Was s₀ σ₀ s3 σ3 := ⟨hs3.same, fun b P q => hs3.keep b P (kp o' b P q)⟩
    cases f with
    | next => exact ⟨n - (i + 1), by omega, i + 1, σ3, m3, o', rfl, hlt, hs4, H3, e3, hSt3, h3⟩
    | cont => exact ⟨n - (i + 1), by omega, i + 1, σ3, m3, o', rfl, hlt, hs4, H3, e3, hSt3, h3⟩
    | brk => exact ⟨σ3, m3, hs4, H3, h3⟩
    | ret v => exact ⟨σ3, m3, hs4, H3, h3⟩
  · obtain rfl : i = n := by omega
    refine Wk.done _ _ _ hSt' fun h' tk hk' => ?_
    have H' := H.erase eI fun b ob hb q => hk' b ob (by simpa using hb) q
    have hJ' := mono i m σ _ (SubS.drop eI) hJ
    have hs' : Was s₀ σ₀ { s with heap := h', toks := tk } (σ.drop I) := ⟨hs.same.mk h' tk, fun b P q => by
      rw [Store.drop_ne _ fun z => by subst z; exact hI P q]
      exact hs.keep b P q⟩
    exact wpAny_mono (done _ m hJ' ok s₀ σ₀ _ hs' H') (fun f s3 h3 => h3) fun e s' he => he.2.elim

theorem At.pushPred {h : Heap} (H : At g x σ m h) (o : Obj) (hf : o.isFreed = false) : At g x (σ.set h.objs.size (.raw o)) m (h.push o) ∧ σ h.objs.size = none := by
  obtain ⟨F, news, dx, R⟩ := H
  have l1 : ∀ p ∈ news, p.1 < h.objs.size := fun p hp => Heap.lt_size (R.N p hp).1
  exact ⟨⟨F.push _, _, _, R.new l1 (c := .raw o) (fun _ _ q => by cases q) (R.N.push F o hf) fun _ hm => ⟨_, hm, rfl⟩⟩, R.fresh l1⟩

/-- for over a list of the store -/
theorem w_For_list {target iter : Expr} {body orelse : List Stmt} {pos : Pos} {Q : Flow → Store → Loc → Prop} (hh : x.hd = none)
    (h : W g x (eval iter x.env) σ m (fun v σ m => ∃ l vs, v = .ref l ∧ σ l = some (.list vs) ∧ ∃ J : Nat → Store → Loc → Prop, J 0 σ m ∧ (∀ i m, Mono fun σ => J i σ m) ∧ (∀ i σ m, J i σ m → σ l = some (.list vs)) ∧
      (∀ i v σ m, i < vs.length → vs[i]? = some v → J i σ m → W g x (assign target x.env v) σ m (fun _ σ m => W g x (execs body x.env) σ m (Turn (J (i + 1)) Q) NoE) NoE) ∧ (∀ σ m, J vs.length σ m → W g x (execs orelse x.env) σ m Q NoE)) E)
    (ht : ∀ I v, letOwnedTupleGo target (.ref I) v = pure ()) (hf : ∀ v, foldedSetIterable iter x.env v = pure v) : W g x (exec (.For target iter body orelse pos) x.env) σ m Q E := by
  intro ok s₀ σ₀ s hs H
  refine wpAny_For (h.use ok hs H fun v s1 σ1 m1 hs1 H1 h1 => ?_) hf
  obtain ⟨l, vs, rfl, e, J, hJ, mono, sup, turn, done⟩ := h1
  refine wpAny_pyIter_list (H1.list e) ?_
  obtain ⟨H2, fr⟩ := H1.pushPred { cls := .type "list_iterator", data := .fields #[.ref l, .int 0 0] } rfl
  have hne : l ≠ s1.heap.objs.size := fun q => by rw [← q, e] at fr; cases fr
  have hz : vs.toArray.size = vs.length := List.size_toArray
  have Wk := Walks.list (prog := PG) (w := g.w) (A := x.A) hh s1.heap.objs.size l hne vs.toArray
  rw [hz] at Wk
  refine code_for (s := { s1 with heap := s1.heap.push { cls := .type "list_iterator", data := .fields #[.ref l, .int 0 0] } }) (StI := fun i o => o.cls = .type "list_iterator" ∧ o.data = .fields #[.ref l, .int i 0]) (Sup := fun σ => σ l = some (.list vs)) Wk
    (fun i h σ m o H hs ho hI => ⟨⟨o, ho, hI.1, hI.2⟩, H.list hs⟩) (fun i h hI => by obtain ⟨⟨o, ho, a, b⟩, _⟩ := hI; exact ⟨o, ho, a, b⟩) J mono sup (ht _) (fun i v σ m hi hP => turn i v σ m hi (by simpa using hP)) done ok s₀ σ₀ ?_ ((hs1.heap _).new _ fr) H2 (Store.set_same _ _ _) ⟨rfl, rfl⟩ (mono 0 m1 _ _ (SubS.new _ fr) hJ)
  intro P q
  have := hs1.keep _ P q
  rw [fr] at this; cases this

/-- for over a tuple of the store -/
theorem w_For_tup {target iter : Expr} {body orelse : List Stmt} {pos : Pos} {Q : Flow → Store → Loc → Prop} (hh : x.hd = none)
    (h : W g x (eval iter x.env) σ m (fun v σ m => ∃ l vs, v = .ref l ∧ σ l = some (.tup vs) ∧ ∃ J : Nat → Store → Loc → Prop, J 0 σ m ∧ (∀ i m, Mono fun σ => J i σ m) ∧ (∀ i σ m, J i σ m → σ l = some (.tup vs)) ∧
      (∀ i v σ m, i < vs.length → vs[i]? = some v → J i σ m → W g x (assign target x.env v) σ m (fun _ σ m => W g x (execs body x.env) σ m (Turn (J (i + 1)) Q) NoE) NoE) ∧ (∀ σ m, J vs.length σ m → W g x (execs orelse x.env) σ m Q NoE)) E)
    (ht : ∀ I v, letOwnedTupleGo target (.ref I) v = pure ()) (hf : ∀ v, foldedSetIterable iter x.env v = pure v) : W g x (exec (.For target iter body orelse pos) x.env) σ m Q E := by
  intro ok s₀ σ₀ s hs H
  refine wpAny_For (h.use ok hs H fun v s1 σ1 m1 hs1 H1 h1 => ?_) hf
  obtain ⟨l, vs, rfl, e, J, hJ, mono, sup, turn, done⟩ := h1
  have tt : ∀ {σ m h}, At g x σ m h → σ l = some (.tup vs) → h.IsTuple l vs.toArray := fun {σ m h} H e => by
    obtain ⟨F, news, dx, R⟩ := H
    exact ⟨_, (R.N _ (R.cells l _ e)).1, rfl, 0, rfl⟩
  refine wpAny_pyIter_tuple (tt H1 e) ?_
  obtain ⟨H2, fr⟩ := H1.pushPred { cls := .type "tuple_iterator", data := .fields #[.ref l, .int 0 0] } rfl
  have hne : l ≠ s1.heap.objs.size := fun q => by rw [← q, e] at fr; cases fr
  have hz : vs.toArray.size = vs.length := List.size_toArray
  have Wk := Walks.tuple (prog := PG) (w := g.w) (A := x.A) hh s1.heap.objs.size l hne vs.toArray
  rw [hz] at Wk
  refine code_for (s := { s1 with heap := s1.heap.push { cls := .type "tuple_iterator", data := .fields #[.ref l, .int 0 0] } }) (StI := fun i o => o.cls = .type "tuple_iterator" ∧ o.data = .fields #[.ref l, .int i 0]) (Sup := fun σ => σ l = some (.tup vs)) Wk
    (fun i h σ m o H hs ho hI => ⟨⟨o, ho, hI.1, hI.2⟩, tt H hs⟩) (fun i h hI => by obtain ⟨⟨o, ho, a, b⟩, _⟩ := hI; exact ⟨o, ho, a, b⟩) J mono sup (ht _) (fun i v σ m hi hP => turn i v σ m hi (by simpa using hP)) done ok s₀ σ₀ ?_ ((hs1.heap _).new _ fr) H2 (Store.set_same _ _ _) ⟨rfl, rfl⟩ (mono 0 m1 _ _ (SubS.new _ fr) hJ)
  intro P q
  have := hs1.keep _ P q
  rw [fr] at this; cases this

/-- a range of the store -/
def rangeC (a b : Int) : Cell := .pred fun o => ∃ t u v, o = { cls := .type "range", data := .fields #[.int a t, .int b u, .int 1 v] }
theorem w_range1 {n : Int} {t : Tok} {Q : Value → Store → Loc → Prop} (h : ∀ r, σ r = none → Q (.ref r) (σ.set r (rangeC 0 n)) m) : W g x (call (.type "range") [.int n t]) σ m Q E := by
  intro ok s₀ σ₀ s hs H
  obtain ⟨F, news, dx, R⟩ := H
  have l1 : ∀ p ∈ news, p.1 < s.heap.objs.size := fun p hp => Heap.lt_size (R.N p hp).1
  exact call_range_1 ⟨_, _, (hs.mk' _ _).new _ (R.fresh l1), ⟨F.push _, _, _, R.new l1 (c := rangeC 0 n) (fun _ _ q => by cases q) (R.N.push F _) fun _ hm => ⟨_, hm, _, _, _, rfl⟩⟩, h _ (R.fresh l1)⟩
/-- for over a range by ones -/
theorem w_For_range {target iter : Expr} {body orelse : List Stmt} {pos : Pos} {Q : Flow → Store → Loc → Prop} (hh : x.hd = none)
    (h : W g x (eval iter x.env) σ m (fun v σ m => ∃ r a n, v = .ref r ∧ σ r = some (rangeC a (a + (n : Nat))) ∧ -(2 ^ 60) ≤ a ∧ a + n < 2 ^ 60 ∧ ∃ J : Nat → Store → Loc → Prop, J 0 σ m ∧ (∀ i m, Mono fun σ => J i σ m) ∧
      (∀ i t σ m, i < n → J i σ m → W g x (assign target x.env (.int (a + i) t)) σ m (fun _ σ m => W g x (execs body x.env) σ m (Turn (J (i + 1)) Q) NoE) NoE) ∧ (∀ σ m, J n σ m → W g x (execs orelse x.env) σ m Q NoE)) E)
    (ht : ∀ I v, letOwnedTupleGo target (.ref I) v = pure ()) (hf : ∀ v, foldedSetIterable iter x.env v = pure v) : W g x (exec (.For target iter body orelse pos) x.env) σ m Q E := by
  intro ok s₀ σ₀ s hs H
  refine wpAny_For (h.use ok hs H fun v s1 σ1 m1 hs1 H1 h1 => ?_) hf
  obtain ⟨r, a, n, rfl, e, ha, hb, J, hJ, mono, turn, done⟩ := h1
  have hr : ∃ t u v, IsRange s1.heap r a (a + n) 1 t u v := by
    obtain ⟨F, news, dx, R⟩ := H1
    obtain ⟨o, hm, t, u, v, rfl⟩ := R.cells r _ e
    exact ⟨t, u, v, (R.N _ hm).1⟩
  obtain ⟨t, u, v, hr⟩ := hr
  refine wpAny_pyIter_range hr (small_one (by omega) (by omega) (by omega) (by omega)) ?_
  have hn : Builtin.Range.rangeSize a (a + n) 1 = n := by rw [rangeSize_one]; split <;> omega
  rw [hn]
  obtain ⟨H2, fr⟩ := H1.pushPred { cls := .type "range_iterator", data := .fields #[rawInt a, rawInt (n : Nat), rawInt 1] } rfl
  have Wk := Walks.range (prog := PG) (w := g.w) (A := x.A) hh s1.heap.objs.size a 1 n
  refine code_for (s := { s1 with heap := s1.heap.push { cls := .type "range_iterator", data := .fields #[rawInt a, rawInt (n : Nat), rawInt 1] } }) (StI := fun i o => o = { cls := .type "range_iterator", dict := none, data := .fields #[rawInt (a + (i : Nat) * 1), rawInt ((n : Int) - (i : Nat)), rawInt 1], slots := #[] }) (Sup := fun σ => True) Wk
    (fun i h σ m o H hs ho hI => by subst hI; exact ho) (fun i h hI => ⟨_, hI, rfl⟩) J mono (fun _ _ _ _ => trivial) (ht _) (fun i v σ m hi hP => ?_) done ok s₀ σ₀ ?_ ((hs1.heap _).new _ fr) H2 (Store.set_same _ _ _) (by simp) (mono 0 m1 _ _ (SubS.new _ fr) hJ)
  · obtain ⟨t, rfl⟩ := hP
    have := turn i t σ m hi
    rw [Int.mul_one]; exact this
  · intro P q
    have := hs1.keep _ P q
    rw [fr] at this; cases this
theorem w_assignName {n : Str} {p : Pos} {v : Value} {Q : Unit → Store → Loc → Prop} (hl : x.cs.names.lookup n = some .local) (h : Q () σ (upL m n v)) : W g x (assign (.Name n p) x.env v) σ m Q E := by
  intro ok s₀ σ₀ s hs H
  exact wpAny_assign_Name (w_storeName hl h ok s₀ σ₀ s hs H)
end
end
section

abbrev cNode : Addr := 234
abbrev cCre : Addr := 66
abbrev cTree : Addr := 545
abbrev cBase : Addr := 453
abbrev cKV : Addr := 502
abbrev nodeC (t cr lf : Value) (es ch : Addr) : Cell := .inst cNode [("t", t), ("creator", cr), ("is_leaf", lf), ("elts", .ref es), ("children", .ref ch)]
abbrev kvC (k v : Value) : Cell := .inst cKV [("_key", k), ("_value", v)]
abbrev creC : Cell := .inst cCre []
abbrev treeC (cr imm cur t root size io : Value) : Cell := .inst cTree [("creator", cr), ("_immutable", imm), ("cursors", cur), ("t", t), ("root", root), ("size", size), ("in_order", io)]

section
variable {g : Gl} {x : Fx} {σ : Store} {m : Loc} {E : Value → Heap → Prop} {a : Addr}

theorem pg_Node (n : Str) : plainGet g.K cNode n = true := by show plainGet g.K cNode "t" = true; kernel_rfl
theorem hd_Node : hasDictIn g.K cNode = true := by kernel_rfl
theorem sa_Node : findIn g.K (.ref cNode) "__setattr__" = some (some (.builtin "object.__setattr__")) := by kernel_rfl
theorem po_Node : plainOver g.K cNode = true := by kernel_rfl
theorem fi_Node_t : findIn g.K (.ref cNode) (Str.ofString "t") = some none := by kernel_rfl
theorem fi_Node_creator : findIn g.K (.ref cNode) (Str.ofString "creator") = some none := by kernel_rfl
theorem fi_Node_is_leaf : findIn g.K (.ref cNode) (Str.ofString "is_leaf") = some none := by kernel_rfl
theorem fi_Node_elts : findIn g.K (.ref cNode) (Str.ofString "elts") = some none := by kernel_rfl
theorem fi_Node_children : findIn g.K (.ref cNode) (Str.ofString "children") = some none := by kernel_rfl
theorem g_Node_t {t cr lf : Value} {es ch : Addr} {b : Bool} {Q : Value → Store → Loc → Prop} (e : σ a = some (nodeC t cr lf es ch)) (hv : handedIn t = true) (h : Q (t) σ m) : W g x (getAttr (.ref a) (Str.ofString "t") b) σ m Q E :=
  w_getAttr (attr := none) e (by rfl) (pg_Node _) hd_Node fi_Node_t rfl hv h
theorem g_Node_creator {t cr lf : Value} {es ch : Addr} {b : Bool} {Q : Value → Store → Loc → Prop} (e : σ a = some (nodeC t cr lf es ch)) (hv : handedIn cr = true) (h : Q (cr) σ m) : W g x (getAttr (.ref a) (Str.ofString "creator") b) σ m Q E :=
  w_getAttr (attr := none) e (by rfl) (pg_Node _) hd_Node fi_Node_creator rfl hv h
theorem g_Node_is_leaf {t cr lf : Value} {es ch : Addr} {b : Bool} {Q : Value → Store → Loc → Prop} (e : σ a = some (nodeC t cr lf es ch)) (hv : handedIn lf = true) (h : Q (lf) σ m) : W g x (getAttr (.ref a) (Str.ofString "is_leaf") b) σ m Q E :=
  w_getAttr (attr := none) e (by rfl) (pg_Node _) hd_Node fi_Node_is_leaf rfl hv h
theorem g_Node_elts {t cr lf : Value} {es ch : Addr} {b : Bool} {Q : Value → Store → Loc → Prop} (e : σ a = some (nodeC t cr lf es ch)) (h : Q (.ref es) σ m) : W g x (getAttr (.ref a) (Str.ofString "elts") b) σ m Q E :=
  w_getAttr (attr := none) e (by rfl) (pg_Node _) hd_Node fi_Node_elts rfl (by rfl) h
theorem g_Node_children {t cr lf : Value} {es ch : Addr} {b : Bool} {Q : Value → Store → Loc → Prop} (e : σ a = some (nodeC t cr lf es ch)) (h : Q (.ref ch) σ m) : W g x (getAttr (.ref a) (Str.ofString "children") b) σ m Q E :=
  w_getAttr (attr := none) e (by rfl) (pg_Node _) hd_Node fi_Node_children rfl (by rfl) h
theorem pg_KV (n : Str) : plainGet g.K cKV n = true := by show plainGet g.K cKV "t" = true; kernel_rfl
theorem hd_KV : hasDictIn g.K cKV = true := by kernel_rfl
theorem sa_KV : findIn g.K (.ref cKV) "__setattr__" = some (some (.builtin "object.__setattr__")) := by kernel_rfl
theorem po_KV : plainOver g.K cKV = true := by kernel_rfl
theorem fi_KV_key : findIn g.K (.ref cKV) (Str.ofString "_key") = some none := by kernel_rfl
theorem fi_KV_value : findIn g.K (.ref cKV) (Str.ofString "_value") = some none := by kernel_rfl
theorem g_KV_key {k v : Value} {b : Bool} {Q : Value → Store → Loc → Prop} (e : σ a = some (kvC k v)) (hv : handedIn k = true) (h : Q (k) σ m) : W g x (getAttr (.ref a) (Str.ofString "_key") b) σ m Q E :=
  w_getAttr (attr := none) e (by rfl) (pg_KV _) hd_KV fi_KV_key rfl hv h
theorem g_KV_value {k v : Value} {b : Bool} {Q : Value → Store → Loc → Prop} (e : σ a = some (kvC k v)) (hv : handedIn v = true) (h : Q (v) σ m) : W g x (getAttr (.ref a) (Str.ofString "_value") b) σ m Q E :=
  w_getAttr (attr := none) e (by rfl) (pg_KV _) hd_KV fi_KV_value rfl hv h
theorem pg_Tree (n : Str) : plainGet g.K cTree n = true := by show plainGet g.K cTree "t" = true; kernel_rfl
theorem hd_Tree : hasDictIn g.K cTree = true := by kernel_rfl
theorem sa_Tree : findIn g.K (.ref cTree) "__setattr__" = some (some (.builtin "object.__setattr__")) := by kernel_rfl
theorem po_Tree : plainOver g.K cTree = true := by kernel_rfl
theorem fi_Tree_creator : findIn g.K (.ref cTree) (Str.ofString "creator") = some none := by kernel_rfl
theorem fi_Tree_immutable : findIn g.K (.ref cTree) (Str.ofString "_immutable") = some none := by kernel_rfl
theorem fi_Tree_cursors : findIn g.K (.ref cTree) (Str.ofString "cursors") = some none := by kernel_rfl
theorem fi_Tree_t : findIn g.K (.ref cTree) (Str.ofString "t") = some none := by kernel_rfl
theorem fi_Tree_root : findIn g.K (.ref cTree) (Str.ofString "root") = some none := by kernel_rfl
theorem fi_Tree_size : findIn g.K (.ref cTree) (Str.ofString "size") = some none := by kernel_rfl
theorem fi_Tree_in_order : findIn g.K (.ref cTree) (Str.ofString "in_order") = some none := by kernel_rfl
theorem g_Tree_creator {cr imm cur t root size io : Value} {b : Bool} {Q : Value → Store → Loc → Prop} (e : σ a = some (treeC cr imm cur t root size io)) (hv : handedIn cr = true) (h : Q (cr) σ m) : W g x (getAttr (.ref a) (Str.ofString "creator") b) σ m Q E :=
  w_getAttr (attr := none) e (by rfl) (pg_Tree _) hd_Tree fi_Tree_creator rfl hv h
theorem g_Tree_immutable {cr imm cur t root size io : Value} {b : Bool} {Q : Value → Store → Loc → Prop} (e : σ a = some (treeC cr imm cur t root size io)) (hv : handedIn imm = true) (h : Q (imm) σ m) : W g x (getAttr (.ref a) (Str.ofString "_immutable") b) σ m Q E :=
  w_getAttr (attr := none) e (by rfl) (pg_Tree _) hd_Tree fi_Tree_immutable rfl hv h
theorem g_Tree_cursors {cr imm cur t root size io : Value} {b : Bool} {Q : Value → Store → Loc → Prop} (e : σ a = some (treeC cr imm cur t root size io)) (hv : handedIn cur = true) (h : Q (cur) σ m) : W g x (getAttr (.ref a) (Str.ofString "cursors") b) σ m Q E :=
  w_getAttr (attr := none) e (by rfl) (pg_Tree _) hd_Tree fi_Tree_cursors rfl hv h
theorem g_Tree_t {cr imm cur t root size io : Value} {b : Bool} {Q : Value → Store → Loc → Prop} (e : σ a = some (treeC cr imm cur t root size io)) (hv : handedIn t = true) (h : Q (t) σ m) : W g x (getAttr (.ref a) (Str.ofString "t") b) σ m Q E :=
  w_getAttr (attr := none) e (by rfl) (pg_Tree _) hd_Tree fi_Tree_t rfl hv h
theorem g_Tree_root {cr imm cur t root size io : Value} {b : Bool} {Q : Value → Store → Loc → Prop} (e : σ a = some (treeC cr imm cur t root size io)) (hv : handedIn root = true) (h : Q (root) σ m) : W g x (getAttr (.ref a) (Str.ofString "root") b) σ m Q E :=
  w_getAttr (attr := none) e (by rfl) (pg_Tree _) hd_Tree fi_Tree_root rfl hv h
theorem g_Tree_size {cr imm cur t root size io : Value} {b : Bool} {Q : Value → Store → Loc → Prop} (e : σ a = some (treeC cr imm cur t root size io)) (hv : handedIn size = true) (h : Q (size) σ m) : W g x (getAttr (.ref a) (Str.ofString "size") b) σ m Q E :=
  w_getAttr (attr := none) e (by rfl) (pg_Tree _) hd_Tree fi_Tree_size rfl hv h
theorem g_Tree_in_order {cr imm cur t root size io : Value} {b : Bool} {Q : Value → Store → Loc → Prop} (e : σ a = some (treeC cr imm cur t root size io)) (hv : handedIn io = true) (h : Q (io) σ m) : W g x (getAttr (.ref a) (Str.ofString "in_order") b) σ m Q E :=
  w_getAttr (attr := none) e (by rfl) (pg_Tree _) hd_Tree fi_Tree_in_order rfl hv h
theorem s_Node_elts {t cr lf : Value} {es ch : Addr} {es2 : Addr} {Q : Unit → Store → Loc → Prop} (e : σ a = some (nodeC t cr lf es ch)) (h : Q () (σ.set a (nodeC t cr lf es2 ch)) m) : W g x (setAttr (.ref a) (Str.ofString "elts") (.ref es2)) σ m Q E :=
  w_setAttr e sa_Node po_Node (by kernel_rfl) hd_Node (Nat.le_of_ble_eq_true rfl) h
theorem s_Node_children {t cr lf : Value} {es ch : Addr} {ch2 : Addr} {Q : Unit → Store → Loc → Prop} (e : σ a = some (nodeC t cr lf es ch)) (h : Q () (σ.set a (nodeC t cr lf es ch2)) m) : W g x (setAttr (.ref a) (Str.ofString "children") (.ref ch2)) σ m Q E :=
  w_setAttr e sa_Node po_Node (by kernel_rfl) hd_Node (Nat.le_of_ble_eq_true rfl) h
theorem s_Tree_immutable {cr imm cur t root size io : Value} {v2 : Value} {Q : Unit → Store → Loc → Prop} (e : σ a = some (treeC cr imm cur t root size io)) (h : Q () (σ.set a (treeC cr v2 cur t root size io)) m) : W g x (setAttr (.ref a) (Str.ofString "_immutable") (v2)) σ m Q E :=
  w_setAttr e sa_Tree po_Tree (by kernel_rfl) hd_Tree (Nat.le_of_ble_eq_true rfl) h
theorem s_Tree_root {cr imm cur t root size io : Value} {v2 : Value} {Q : Unit → Store → Loc → Prop} (e : σ a = some (treeC cr imm cur t root size io)) (h : Q () (σ.set a (treeC cr imm cur t v2 size io)) m) : W g x (setAttr (.ref a) (Str.ofString "root") (v2)) σ m Q E :=
  w_setAttr e sa_Tree po_Tree (by kernel_rfl) hd_Tree (Nat.le_of_ble_eq_true rfl) h
theorem s_Tree_size {cr imm cur t root size io : Value} {v2 : Value} {Q : Unit → Store → Loc → Prop} (e : σ a = some (treeC cr imm cur t root size io)) (h : Q () (σ.set a (treeC cr imm cur t root v2 io)) m) : W g x (setAttr (.ref a) (Str.ofString "size") (v2)) σ m Q E :=
  w_setAttr e sa_Tree po_Tree (by kernel_rfl) hd_Tree (Nat.le_of_ble_eq_true rfl) h
theorem m_Node_is_maximal {t cr lf : Value} {es ch : Addr} {pl : Sem Bool} {Q : Value × List Value → Store → Loc → Prop} (e : σ a = some (nodeC t cr lf es ch)) (h : Q (.ref 91, [.ref a]) σ m) : W g x (getMethod (.ref a) (Str.ofString "is_maximal") pl) σ m Q E :=
  w_getMethod e (by rfl) (pg_Node _) (by kernel_rfl) (by kernel_rfl) h
theorem m_Node_is_minimal {t cr lf : Value} {es ch : Addr} {pl : Sem Bool} {Q : Value × List Value → Store → Loc → Prop} (e : σ a = some (nodeC t cr lf es ch)) (h : Q (.ref 98, [.ref a]) σ m) : W g x (getMethod (.ref a) (Str.ofString "is_minimal") pl) σ m Q E :=
  w_getMethod e (by rfl) (pg_Node _) (by kernel_rfl) (by kernel_rfl) h
theorem m_Node_search_in_node {t cr lf : Value} {es ch : Addr} {pl : Sem Bool} {Q : Value × List Value → Store → Loc → Prop} (e : σ a = some (nodeC t cr lf es ch)) (h : Q (.ref 105, [.ref a]) σ m) : W g x (getMethod (.ref a) (Str.ofString "search_in_node") pl) σ m Q E :=
  w_getMethod e (by rfl) (pg_Node _) (by kernel_rfl) (by kernel_rfl) h
theorem m_Node_maybe_cow_child {t cr lf : Value} {es ch : Addr} {pl : Sem Bool} {Q : Value × List Value → Store → Loc → Prop} (e : σ a = some (nodeC t cr lf es ch)) (h : Q (.ref 112, [.ref a]) σ m) : W g x (getMethod (.ref a) (Str.ofString "maybe_cow_child") pl) σ m Q E :=
  w_getMethod e (by rfl) (pg_Node _) (by kernel_rfl) (by kernel_rfl) h
theorem m_Node_get_node {t cr lf : Value} {es ch : Addr} {pl : Sem Bool} {Q : Value × List Value → Store → Loc → Prop} (e : σ a = some (nodeC t cr lf es ch)) (h : Q (.ref 119, [.ref a]) σ m) : W g x (getMethod (.ref a) (Str.ofString "_get_node") pl) σ m Q E :=
  w_getMethod e (by rfl) (pg_Node _) (by kernel_rfl) (by kernel_rfl) h
theorem m_Node_get {t cr lf : Value} {es ch : Addr} {pl : Sem Bool} {Q : Value × List Value → Store → Loc → Prop} (e : σ a = some (nodeC t cr lf es ch)) (h : Q (.ref 126, [.ref a]) σ m) : W g x (getMethod (.ref a) (Str.ofString "get") pl) σ m Q E :=
  w_getMethod e (by rfl) (pg_Node _) (by kernel_rfl) (by kernel_rfl) h
theorem m_Node_optimize_in_order_insertion {t cr lf : Value} {es ch : Addr} {pl : Sem Bool} {Q : Value × List Value → Store → Loc → Prop} (e : σ a = some (nodeC t cr lf es ch)) (h : Q (.ref 133, [.ref a]) σ m) : W g x (getMethod (.ref a) (Str.ofString "optimize_in_order_insertion") pl) σ m Q E :=
  w_getMethod e (by rfl) (pg_Node _) (by kernel_rfl) (by kernel_rfl) h
theorem m_Node_insert_nonfull {t cr lf : Value} {es ch : Addr} {pl : Sem Bool} {Q : Value × List Value → Store → Loc → Prop} (e : σ a = some (nodeC t cr lf es ch)) (h : Q (.ref 140, [.ref a]) σ m) : W g x (getMethod (.ref a) (Str.ofString "insert_nonfull") pl) σ m Q E :=
  w_getMethod e (by rfl) (pg_Node _) (by kernel_rfl) (by kernel_rfl) h
theorem m_Node_split {t cr lf : Value} {es ch : Addr} {pl : Sem Bool} {Q : Value × List Value → Store → Loc → Prop} (e : σ a = some (nodeC t cr lf es ch)) (h : Q (.ref 147, [.ref a]) σ m) : W g x (getMethod (.ref a) (Str.ofString "split") pl) σ m Q E :=
  w_getMethod e (by rfl) (pg_Node _) (by kernel_rfl) (by kernel_rfl) h
theorem m_Node_try_left_steal {t cr lf : Value} {es ch : Addr} {pl : Sem Bool} {Q : Value × List Value → Store → Loc → Prop} (e : σ a = some (nodeC t cr lf es ch)) (h : Q (.ref 154, [.ref a]) σ m) : W g x (getMethod (.ref a) (Str.ofString "try_left_steal") pl) σ m Q E :=
  w_getMethod e (by rfl) (pg_Node _) (by kernel_rfl) (by kernel_rfl) h
theorem m_Node_try_right_steal {t cr lf : Value} {es ch : Addr} {pl : Sem Bool} {Q : Value × List Value → Store → Loc → Prop} (e : σ a = some (nodeC t cr lf es ch)) (h : Q (.ref 161, [.ref a]) σ m) : W g x (getMethod (.ref a) (Str.ofString "try_right_steal") pl) σ m Q E :=
  w_getMethod e (by rfl) (pg_Node _) (by kernel_rfl) (by kernel_rfl) h
theorem m_Node_adopt {t cr lf : Value} {es ch : Addr} {pl : Sem Bool} {Q : Value × List Value → Store → Loc → Prop} (e : σ a = some (nodeC t cr lf es ch)) (h : Q (.ref 168, [.ref a]) σ m) : W g x (getMethod (.ref a) (Str.ofString "adopt") pl) σ m Q E :=
  w_getMethod e (by rfl) (pg_Node _) (by kernel_rfl) (by kernel_rfl) h
theorem m_Node_merge {t cr lf : Value} {es ch : Addr} {pl : Sem Bool} {Q : Value × List Value → Store → Loc → Prop} (e : σ a = some (nodeC t cr lf es ch)) (h : Q (.ref 175, [.ref a]) σ m) : W g x (getMethod (.ref a) (Str.ofString "merge") pl) σ m Q E :=
  w_getMethod e (by rfl) (pg_Node _) (by kernel_rfl) (by kernel_rfl) h
theorem m_Node_minimum {t cr lf : Value} {es ch : Addr} {pl : Sem Bool} {Q : Value × List Value → Store → Loc → Prop} (e : σ a = some (nodeC t cr lf es ch)) (h : Q (.ref 182, [.ref a]) σ m) : W g x (getMethod (.ref a) (Str.ofString "minimum") pl) σ m Q E :=
  w_getMethod e (by rfl) (pg_Node _) (by kernel_rfl) (by kernel_rfl) h
theorem m_Node_balance {t cr lf : Value} {es ch : Addr} {pl : Sem Bool} {Q : Value × List Value → Store → Loc → Prop} (e : σ a = some (nodeC t cr lf es ch)) (h : Q (.ref 196, [.ref a]) σ m) : W g x (getMethod (.ref a) (Str.ofString "balance") pl) σ m Q E :=
  w_getMethod e (by rfl) (pg_Node _) (by kernel_rfl) (by kernel_rfl) h
theorem m_Node_delete {t cr lf : Value} {es ch : Addr} {pl : Sem Bool} {Q : Value × List Value → Store → Loc → Prop} (e : σ a = some (nodeC t cr lf es ch)) (h : Q (.ref 203, [.ref a]) σ m) : W g x (getMethod (.ref a) (Str.ofString "delete") pl) σ m Q E :=
  w_getMethod e (by rfl) (pg_Node _) (by kernel_rfl) (by kernel_rfl) h
theorem m_Node_visit_in_order {t cr lf : Value} {es ch : Addr} {pl : Sem Bool} {Q : Value × List Value → Store → Loc → Prop} (e : σ a = some (nodeC t cr lf es ch)) (h : Q (.ref 210, [.ref a]) σ m) : W g x (getMethod (.ref a) (Str.ofString "visit_in_order") pl) σ m Q E :=
  w_getMethod e (by rfl) (pg_Node _) (by kernel_rfl) (by kernel_rfl) h
theorem m_Node_maybe_cow {t cr lf : Value} {es ch : Addr} {pl : Sem Bool} {Q : Value × List Value → Store → Loc → Prop} (e : σ a = some (nodeC t cr lf es ch)) (h : Q (.ref 224, [.ref a]) σ m) : W g x (getMethod (.ref a) (Str.ofString "maybe_cow") pl) σ m Q E :=
  w_getMethod e (by rfl) (pg_Node _) (by kernel_rfl) (by kernel_rfl) h
theorem m_Node_clone {t cr lf : Value} {es ch : Addr} {pl : Sem Bool} {Q : Value × List Value → Store → Loc → Prop} (e : σ a = some (nodeC t cr lf es ch)) (h : Q (.ref 231, [.ref a]) σ m) : W g x (getMethod (.ref a) (Str.ofString "clone") pl) σ m Q E :=
  w_getMethod e (by rfl) (pg_Node _) (by kernel_rfl) (by kernel_rfl) h
theorem m_KV_key {k v : Value} {pl : Sem Bool} {Q : Value × List Value → Store → Loc → Prop} (e : σ a = some (kvC k v)) (h : Q (.ref 478, [.ref a]) σ m) : W g x (getMethod (.ref a) (Str.ofString "key") pl) σ m Q E :=
  w_getMethod e (by rfl) (pg_KV _) (by kernel_rfl) (by kernel_rfl) h
theorem m_KV_value {k v : Value} {pl : Sem Bool} {Q : Value × List Value → Store → Loc → Prop} (e : σ a = some (kvC k v)) (h : Q (.ref 485, [.ref a]) σ m) : W g x (getMethod (.ref a) (Str.ofString "value") pl) σ m Q E :=
  w_getMethod e (by rfl) (pg_KV _) (by kernel_rfl) (by kernel_rfl) h
theorem m_Tree_make_immutable {cr imm cur t root size io : Value} {pl : Sem Bool} {Q : Value × List Value → Store → Loc → Prop} (e : σ a = some (treeC cr imm cur t root size io)) (h : Q (.ref 365, [.ref a]) σ m) : W g x (getMethod (.ref a) (Str.ofString "make_immutable") pl) σ m Q E :=
  w_getMethod e (by rfl) (pg_Tree _) (by kernel_rfl) (by kernel_rfl) h
theorem m_Tree_check_mutable_and_park {cr imm cur t root size io : Value} {pl : Sem Bool} {Q : Value × List Value → Store → Loc → Prop} (e : σ a = some (treeC cr imm cur t root size io)) (h : Q (.ref 372, [.ref a]) σ m) : W g x (getMethod (.ref a) (Str.ofString "_check_mutable_and_park") pl) σ m Q E :=
  w_getMethod e (by rfl) (pg_Tree _) (by kernel_rfl) (by kernel_rfl) h
theorem m_Tree_insert_element {cr imm cur t root size io : Value} {pl : Sem Bool} {Q : Value × List Value → Store → Loc → Prop} (e : σ a = some (treeC cr imm cur t root size io)) (h : Q (.ref 380, [.ref a]) σ m) : W g x (getMethod (.ref a) (Str.ofString "insert_element") pl) σ m Q E :=
  w_getMethod e (by rfl) (pg_Tree _) (by kernel_rfl) (by kernel_rfl) h
theorem m_Tree_get_element {cr imm cur t root size io : Value} {pl : Sem Bool} {Q : Value × List Value → Store → Loc → Prop} (e : σ a = some (treeC cr imm cur t root size io)) (h : Q (.ref 387, [.ref a]) σ m) : W g x (getMethod (.ref a) (Str.ofString "get_element") pl) σ m Q E :=
  w_getMethod e (by rfl) (pg_Tree _) (by kernel_rfl) (by kernel_rfl) h
theorem m_Tree_delete {cr imm cur t root size io : Value} {pl : Sem Bool} {Q : Value × List Value → Store → Loc → Prop} (e : σ a = some (treeC cr imm cur t root size io)) (h : Q (.ref 394, [.ref a]) σ m) : W g x (getMethod (.ref a) (Str.ofString "_delete") pl) σ m Q E :=
  w_getMethod e (by rfl) (pg_Tree _) (by kernel_rfl) (by kernel_rfl) h
theorem m_Tree_delete_key {cr imm cur t root size io : Value} {pl : Sem Bool} {Q : Value × List Value → Store → Loc → Prop} (e : σ a = some (treeC cr imm cur t root size io)) (h : Q (.ref 401, [.ref a]) σ m) : W g x (getMethod (.ref a) (Str.ofString "delete_key") pl) σ m Q E :=
  w_getMethod e (by rfl) (pg_Tree _) (by kernel_rfl) (by kernel_rfl) h
theorem m_Tree_delete_exact {cr imm cur t root size io : Value} {pl : Sem Bool} {Q : Value × List Value → Store → Loc → Prop} (e : σ a = some (treeC cr imm cur t root size io)) (h : Q (.ref 408, [.ref a]) σ m) : W g x (getMethod (.ref a) (Str.ofString "delete_exact") pl) σ m Q E :=
  w_getMethod e (by rfl) (pg_Tree _) (by kernel_rfl) (by kernel_rfl) h
theorem m_Tree_visit_in_order {cr imm cur t root size io : Value} {pl : Sem Bool} {Q : Value × List Value → Store → Loc → Prop} (e : σ a = some (treeC cr imm cur t root size io)) (h : Q (.ref 422, [.ref a]) σ m) : W g x (getMethod (.ref a) (Str.ofString "visit_in_order") pl) σ m Q E :=
  w_getMethod e (by rfl) (pg_Tree _) (by kernel_rfl) (by kernel_rfl) h
theorem k_49 : Callee g (.ref 49) := Callee.ofK (by kernel_rfl)
theorem k_56 : Callee g (.ref 56) := Callee.ofK (by kernel_rfl)
theorem k_91 : Callee g (.ref 91) := Callee.ofK (by kernel_rfl)
theorem k_98 : Callee g (.ref 98) := Callee.ofK (by kernel_rfl)
theorem k_105 : Callee g (.ref 105) := Callee.ofK (by kernel_rfl)
theorem k_112 : Callee g (.ref 112) := Callee.ofK (by kernel_rfl)
theorem k_119 : Callee g (.ref 119) := Callee.ofK (by kernel_rfl)
theorem k_126 : Callee g (.ref 126) := Callee.ofK (by kernel_rfl)
theorem k_133 : Callee g (.ref 133) := Callee.ofK (by kernel_rfl)
theorem k_140 : Callee g (.ref 140) := Callee.ofK (by kernel_rfl)
theorem k_147 : Callee g (.ref 147) := Callee.ofK (by kernel_rfl)
theorem k_154 : Callee g (.ref 154) := Callee.ofK (by kernel_rfl)
theorem k_161 : Callee g (.ref 161) := Callee.ofK (by kernel_rfl)
theorem k_168 : Callee g (.ref 168) := Callee.ofK (by kernel_rfl)
theorem k_175 : Callee g (.ref 175) := Callee.ofK (by kernel_rfl)
theorem k_182 : Callee g (.ref 182) := Callee.ofK (by kernel_rfl)
theorem k_196 : Callee g (.ref 196) := Callee.ofK (by kernel_rfl)
theorem k_203 : Callee g (.ref 203) := Callee.ofK (by kernel_rfl)
theorem k_210 : Callee g (.ref 210) := Callee.ofK (by kernel_rfl)
theorem k_224 : Callee g (.ref 224) := Callee.ofK (by kernel_rfl)
theorem k_231 : Callee g (.ref 231) := Callee.ofK (by kernel_rfl)
theorem k_365 : Callee g (.ref 365) := Callee.ofK (by kernel_rfl)
theorem k_372 : Callee g (.ref 372) := Callee.ofK (by kernel_rfl)
theorem k_380 : Callee g (.ref 380) := Callee.ofK (by kernel_rfl)
theorem k_387 : Callee g (.ref 387) := Callee.ofK (by kernel_rfl)
theorem k_394 : Callee g (.ref 394) := Callee.ofK (by kernel_rfl)
theorem k_401 : Callee g (.ref 401) := Callee.ofK (by kernel_rfl)
theorem k_408 : Callee g (.ref 408) := Callee.ofK (by kernel_rfl)
theorem k_422 : Callee g (.ref 422) := Callee.ofK (by kernel_rfl)
theorem k_478 : Callee g (.ref 478) := Callee.ofK (by kernel_rfl)
theorem k_485 : Callee g (.ref 485) := Callee.ofK (by kernel_rfl)
theorem k_552 : Callee g (.ref 552) := Callee.ofK (by kernel_rfl)
theorem k_557 : Callee g (.ref 557) := Callee.ofK (by kernel_rfl)
theorem k_562 : Callee g (.ref 562) := Callee.ofK (by kernel_rfl)
theorem k_569 : Callee g (.ref 569) := Callee.ofK (by kernel_rfl)
theorem k_576 : Callee g (.ref 576) := Callee.ofK (by kernel_rfl)
theorem k_583 : Callee g (.ref 583) := Callee.ofK (by kernel_rfl)
theorem k_cNode : Callee g (.ref 234) := Callee.ofK (by kernel_rfl)
theorem k_cCre : Callee g (.ref 66) := Callee.ofK (by kernel_rfl)
theorem k_cTree : Callee g (.ref 545) := Callee.ofK (by kernel_rfl)
theorem k_cBase : Callee g (.ref 453) := Callee.ofK (by kernel_rfl)
theorem k_cKV : Callee g (.ref 502) := Callee.ofK (by kernel_rfl)
theorem n_MIN {pos : Pos} {Q : Value → Store → Loc → Prop} (hl : x.cs.names.lookup (Str.ofString "_MIN") = some .globalImplicit) (h : Q (.ref 49) σ m) : W g x (eval (.Name (Str.ofString "_MIN") pos) x.env) σ m Q E :=
  w_global (by kernel_rfl) hl (by decide) h
theorem n_MAX {pos : Pos} {Q : Value → Store → Loc → Prop} (hl : x.cs.names.lookup (Str.ofString "_MAX") = some .globalImplicit) (h : Q (.ref 56) σ m) : W g x (eval (.Name (Str.ofString "_MAX") pos) x.env) σ m Q E :=
  w_global (by kernel_rfl) hl (by decide) h
theorem n_Node {pos : Pos} {Q : Value → Store → Loc → Prop} (hl : x.cs.names.lookup (Str.ofString "_Node") = some .globalImplicit) (h : Q (.ref 234) σ m) : W g x (eval (.Name (Str.ofString "_Node") pos) x.env) σ m Q E :=
  w_global (by kernel_rfl) hl (by decide) h
theorem n_Creator {pos : Pos} {Q : Value → Store → Loc → Prop} (hl : x.cs.names.lookup (Str.ofString "_Creator") = some .globalImplicit) (h : Q (.ref 66) σ m) : W g x (eval (.Name (Str.ofString "_Creator") pos) x.env) σ m Q E :=
  w_global (by kernel_rfl) hl (by decide) h
theorem n_KV {pos : Pos} {Q : Value → Store → Loc → Prop} (hl : x.cs.names.lookup (Str.ofString "KV") = some .globalImplicit) (h : Q (.ref 502) σ m) : W g x (eval (.Name (Str.ofString "KV") pos) x.env) σ m Q E :=
  w_global (by kernel_rfl) hl (by decide) h
theorem n_BTree {pos : Pos} {Q : Value → Store → Loc → Prop} (hl : x.cs.names.lookup (Str.ofString "BTree") = some .globalImplicit) (h : Q (.ref 453) σ m) : W g x (eval (.Name (Str.ofString "BTree") pos) x.env) σ m Q E :=
  w_global (by kernel_rfl) hl (by decide) h
theorem n_BTreeDict {pos : Pos} {Q : Value → Store → Loc → Prop} (hl : x.cs.names.lookup (Str.ofString "BTreeDict") = some .globalImplicit) (h : Q (.ref 545) σ m) : W g x (eval (.Name (Str.ofString "BTreeDict") pos) x.env) σ m Q E :=
  w_global (by kernel_rfl) hl (by decide) h
theorem n_Immutable {pos : Pos} {Q : Value → Store → Loc → Prop} (hl : x.cs.names.lookup (Str.ofString "Immutable") = some .globalImplicit) (h : Q (.ref 340) σ m) : W g x (eval (.Name (Str.ofString "Immutable") pos) x.env) σ m Q E :=
  w_global (by kernel_rfl) hl (by decide) h
theorem n_law_walk {pos : Pos} {Q : Value → Store → Loc → Prop} (hl : x.cs.names.lookup (Str.ofString "_law_walk") = some .globalImplicit) (h : Q (.ref 552) σ m) : W g x (eval (.Name (Str.ofString "_law_walk") pos) x.env) σ m Q E :=
  w_global (by kernel_rfl) hl (by decide) h
theorem n_law_right {pos : Pos} {Q : Value → Store → Loc → Prop} (hl : x.cs.names.lookup (Str.ofString "_law_right") = some .globalImplicit) (h : Q (.ref 557) σ m) : W g x (eval (.Name (Str.ofString "_law_right") pos) x.env) σ m Q E :=
  w_global (by kernel_rfl) hl (by decide) h
theorem n_law_row {pos : Pos} {Q : Value → Store → Loc → Prop} (hl : x.cs.names.lookup (Str.ofString "_law_row") = some .globalImplicit) (h : Q (.ref 562) σ m) : W g x (eval (.Name (Str.ofString "_law_row") pos) x.env) σ m Q E :=
  w_global (by kernel_rfl) hl (by decide) h
theorem n_law_closed {pos : Pos} {Q : Value → Store → Loc → Prop} (hl : x.cs.names.lookup (Str.ofString "_law_closed") = some .globalImplicit) (h : Q (.ref 569) σ m) : W g x (eval (.Name (Str.ofString "_law_closed") pos) x.env) σ m Q E :=
  w_global (by kernel_rfl) hl (by decide) h
theorem n_law_unlike {pos : Pos} {Q : Value → Store → Loc → Prop} (hl : x.cs.names.lookup (Str.ofString "_law_unlike") = some .globalImplicit) (h : Q (.ref 576) σ m) : W g x (eval (.Name (Str.ofString "_law_unlike") pos) x.env) σ m Q E :=
  w_global (by kernel_rfl) hl (by decide) h
theorem n_law_refused {pos : Pos} {Q : Value → Store → Loc → Prop} (hl : x.cs.names.lookup (Str.ofString "_law_refused") = some .globalImplicit) (h : Q (.ref 583) σ m) : W g x (eval (.Name (Str.ofString "_law_refused") pos) x.env) σ m Q E :=
  w_global (by kernel_rfl) hl (by decide) h
theorem b_len {pos : Pos} {Q : Value → Store → Loc → Prop} (hl : x.cs.names.lookup (Str.ofString "len") = some .globalImplicit) (h : Q (.builtin "len") σ m) : W g x (eval (.Name (Str.ofString "len") pos) x.env) σ m Q E :=
  w_builtin (by kernel_rfl) (by kernel_rfl) (by decide) hl (by decide) h
theorem b_range {pos : Pos} {Q : Value → Store → Loc → Prop} (hl : x.cs.names.lookup (Str.ofString "range") = some .globalImplicit) (h : Q (.type "range") σ m) : W g x (eval (.Name (Str.ofString "range") pos) x.env) σ m Q E :=
  w_builtin (by kernel_rfl) (by kernel_rfl) (by decide) hl (by decide) h
theorem b_list {pos : Pos} {Q : Value → Store → Loc → Prop} (hl : x.cs.names.lookup (Str.ofString "list") = some .globalImplicit) (h : Q (.type "list") σ m) : W g x (eval (.Name (Str.ofString "list") pos) x.env) σ m Q E :=
  w_builtin (by kernel_rfl) (by kernel_rfl) (by decide) hl (by decide) h
theorem b_sorted {pos : Pos} {Q : Value → Store → Loc → Prop} (hl : x.cs.names.lookup (Str.ofString "sorted") = some .globalImplicit) (h : Q (.builtin "sorted") σ m) : W g x (eval (.Name (Str.ofString "sorted") pos) x.env) σ m Q E :=
  w_builtin (by kernel_rfl) (by kernel_rfl) (by decide) hl (by decide) h
theorem b_enumerate {pos : Pos} {Q : Value → Store → Loc → Prop} (hl : x.cs.names.lookup (Str.ofString "enumerate") = some .globalImplicit) (h : Q (.type "enumerate") σ m) : W g x (eval (.Name (Str.ofString "enumerate") pos) x.env) σ m Q E :=
  w_builtin (by kernel_rfl) (by kernel_rfl) (by decide) hl (by decide) h
theorem b_ValueError {pos : Pos} {Q : Value → Store → Loc → Prop} (hl : x.cs.names.lookup (Str.ofString "ValueError") = some .globalImplicit) (h : Q (.type "ValueError") σ m) : W g x (eval (.Name (Str.ofString "ValueError") pos) x.env) σ m Q E :=
  w_builtin (by kernel_rfl) (by kernel_rfl) (by decide) hl (by decide) h
theorem b_KeyError {pos : Pos} {Q : Value → Store → Loc → Prop} (hl : x.cs.names.lookup (Str.ofString "KeyError") = some .globalImplicit) (h : Q (.type "KeyError") σ m) : W g x (eval (.Name (Str.ofString "KeyError") pos) x.env) σ m Q E :=
  w_builtin (by kernel_rfl) (by kernel_rfl) (by decide) hl (by decide) h
theorem lm_append {vs : List Value} {pl : Sem Bool} {Q : Value × List Value → Store → Loc → Prop} (e : σ a = some (.list vs)) (h : Q (.builtin "list.append", [.ref a]) σ m) : W g x (getMethod (.ref a) (Str.ofString "append") pl) σ m Q E :=
  w_listMeth e PySem.F.slot_list_append PySem.F.type_list_append h
theorem lm_insert {vs : List Value} {pl : Sem Bool} {Q : Value × List Value → Store → Loc → Prop} (e : σ a = some (.list vs)) (h : Q (.builtin "list.insert", [.ref a]) σ m) : W g x (getMethod (.ref a) (Str.ofString "insert") pl) σ m Q E :=
  w_listMeth e PySem.F.slot_list_insert PySem.F.type_list_insert h
theorem lm_pop {vs : List Value} {pl : Sem Bool} {Q : Value × List Value → Store → Loc → Prop} (e : σ a = some (.list vs)) (h : Q (.builtin "list.pop", [.ref a]) σ m) : W g x (getMethod (.ref a) (Str.ofString "pop") pl) σ m Q E :=
  w_listMeth e PySem.F.slot_list_pop PySem.F.type_list_pop h
theorem lm_extend {vs : List Value} {pl : Sem Bool} {Q : Value × List Value → Store → Loc → Prop} (e : σ a = some (.list vs)) (h : Q (.builtin "list.extend", [.ref a]) σ m) : W g x (getMethod (.ref a) (Str.ofString "extend") pl) σ m Q E :=
  w_listMeth e PySem.F.slot_list_extend PySem.F.type_list_extend h
end
end
section
abbrev hpN : Option Value → Prop := fun h => h = none
section
variable {g : Gl} {x : Fx} {σ : Store} {m : Loc} {E : Value → Heap → Prop}
theorem inter_of {S : Scope} (h : x.cs = S) (e : (S.kind == .module) = false) : interactive x.env = false := by
  show (x.cs.kind == .module && _) = false
  rw [h, e]; rfl
theorem w_spec {hp : Option Value → Prop} {k n : Nat} {f : Value} {args : List Value} {kw : List (Str × Value)} {Q : Value → Store → Loc → Prop} (hr : Room x n) (hh : hp x.hd) (h : Calls g hp k f args kw σ (fun v σ' => Q v σ' m)) (hk : k ≤ n) : W g x (call f args kw) σ m Q E :=
  w_call hh (hr.le hk) h
theorem w_tidy0 {f : Value} {vs : List Value} {kw : List (Str × Value)} {Q : Value → Store → Loc → Prop} (h : W g x (call f vs kw) σ m Q E) : W g x (call f ([] ++ (⟨vs, kw⟩ : Args).pos) (⟨vs, kw⟩ : Args).kw) σ m Q E := h
theorem w_tidy1 {f a : Value} {vs : List Value} {kw : List (Str × Value)} {Q : Value → Store → Loc → Prop} (h : W g x (call f (a :: vs) kw) σ m Q E) : W g x (call f ([a] ++ (⟨vs, kw⟩ : Args).pos) (⟨vs, kw⟩ : Args).kw) σ m Q E := h
theorem At.ext {h h' : Heap} {c : Addr} (H : At g x σ m h) (hc : h.get? c = none) (he : Heap.ExtBut c h h') : At g x σ m h' := by
  obtain ⟨F, news, dx, R⟩ := H
  have k : ∀ b o, h.get? b = some o → h'.get? b = some o := fun b o e => he b o (fun q => by subst q; rw [hc] at e; cases e) e
  exact ⟨F.keeps k, news, dx, R.heap fun p hp => ⟨k _ _ (R.N p hp).1, (R.N p hp).2⟩⟩
theorem get_size (h : Heap) : h.get? h.objs.size = none := by
  cases q : h.get? h.objs.size with
  | none => rfl
  | some o => exact absurd (Heap.lt_size q) (Nat.lt_irrefl _)
theorem w_unpack {t : Addr} {vs : List Value} {elts : List Expr} {k : Nat} {pos : Pos} {Q : Unit → Store → Loc → Prop} (hh : x.hd = none) (e : σ t = some (.tup vs)) (hn : (assignEach elts x.env).length = vs.length) (hstar : (assignEach elts x.env).findIdx? (·.1) = none)
    (h : W g x (assignInOrder ((assignEach elts x.env).map (·.2)) vs) σ m Q E) (he : ∀ v, assign (.Tuple elts k pos) x.env v = (do standAt pos; unpack v (assignEach elts x.env))) : W g x (assign (.Tuple elts k pos) x.env (.ref t)) σ m Q E := by
  intro ok s₀ σ₀ s hs H
  rw [he]
  refine wpAny_bind (wpAny_standAt (unpack_tuple hh (H.tup e) (by rw [hn, List.size_toArray]) hstar fun h' he' => ?_))
  exact h ok s₀ σ₀ _ (hs.heap h') (H.ext (get_size _) he')
theorem w_inOrder_cons {f : Value → Sem Unit} {fs : List (Value → Sem Unit)} {v : Value} {vs : List Value} {Q : Unit → Store → Loc → Prop} (h : W g x (f v) σ m (fun _ σ m => W g x (assignInOrder fs vs) σ m Q E) E) : W g x (assignInOrder (f :: fs) (v :: vs)) σ m Q E := by
  show W g x (do holding vs (f v); assignInOrder fs vs) σ m Q E
  exact w_bind (w_holding h)
theorem w_inOrder_nil {Q : Unit → Store → Loc → Prop} (h : Q () σ m) : W g x (assignInOrder [] []) σ m Q E := w_pure h
theorem w_AssignTup {elts : List Expr} {k : Nat} {tp pos : Pos} {e : Expr} {Q : Flow → Store → Loc → Prop} (h : W g x (eval e x.env) σ m (fun v σ m => W g x (assign (.Tuple elts k tp) x.env v) σ m (fun _ => Q .next) E) E)
    (hs' : swapsWithSole [.Tuple elts k tp] e pos.line x.env = pure false) (hw : swappedStores [.Tuple elts k tp] e x.env = pure none) : W g x (exec (.Assign [.Tuple elts k tp] e pos) x.env) σ m Q E :=
  fun ok s₀ σ₀ s hs H => Assign_Tuple (h.use ok hs H fun _ s' _ _ hs H h => h ok s₀ σ₀ s' hs H) hs' hw
/-- two names at once -/
theorem w_unpack2 {t : Addr} {v1 v2 : Value} {n1 n2 : Str} {p1 p2 : Pos} {k : Nat} {pos : Pos} {Q : Unit → Store → Loc → Prop} (hh : x.hd = none) (e : σ t = some (.tup [v1, v2])) (l1 : x.cs.names.lookup n1 = some .local) (l2 : x.cs.names.lookup n2 = some .local)
    (h : Q () σ (upL (upL m n1 v1) n2 v2)) : W g x (assign (.Tuple [.Name n1 p1, .Name n2 p2] k pos) x.env (.ref t)) σ m Q E :=
  w_unpack hh e rfl rfl (w_inOrder_cons (w_assignName l1 (w_inOrder_cons (w_assignName l2 (w_inOrder_nil h))))) fun _ => rfl
theorem ite_decE {p : Prop} [Decidable p] {A B : Prop} (hb : B) (ha : p → B → A) : if decide p then A else B := ite_dec (fun h => ha h hb) fun _ => hb
end
end
section
-- the walk's own words: one step of the judgement W
-- "nm": a name's kind in the scope; "lk": a local's value; "rf": a closed equation; "rm": room
local macro_rules | `(tactic| walk_at "rf") => `(tactic| first | kernel_rfl! | exact rfl)
local macro_rules | `(tactic| walk_at "nm") => `(tactic| (refine' nm_of ?h ?e; (case h => assumption); (case e => kernel_rfl)))
local macro_rules | `(tactic| walk_at "lk") => `(tactic| first | exact upL_same _ _ _ | (refine upL_ne (by kernel_rfl) ?_; walk_at "lk") | assumption | exact rfl)
local macro_rules | `(tactic| walk_at "asm") => `(tactic| first | assumption | exact rfl)
local macro_rules | `(tactic| walk_at "sz") => `(tactic| first | omega | exact Nat.le_of_ble_eq_true rfl | (simp only [List.length_map, List.length_append, List.length_cons, List.length_nil, List.length_take, List.length_drop, sizeLine_eq]; omega))
local macro_rules | `(tactic| walk_at "ne") => `(tactic| first | with_reducible assumption | (refine Ne.symm ?_; with_reducible assumption))
local macro_rules | `(tactic| walk_at "sg") => `(tactic| first
  | with_reducible assumption
  | exact Store.set_same _ _ _
  | ((with_reducible refine' Store.set_new ?h ?e); (case' h => with_reducible assumption); walk_at "sg")
  | ((with_reducible refine' Store.set_off ?h ?e); (case' h => walk_at "ne"); walk_at "sg")
  | ((with_reducible refine' Sup.get ?h ?e); (case' h => with_reducible assumption); walk_at "sg"))
local macro_rules | `(tactic| walk_at "name") => `(tactic| first
  | ((with_reducible refine' n_MIN ?l ?_); (case' l => walk_at "nm"))
  | ((with_reducible refine' n_MAX ?l ?_); (case' l => walk_at "nm"))
  | ((with_reducible refine' n_Node ?l ?_); (case' l => walk_at "nm"))
  | ((with_reducible refine' n_Creator ?l ?_); (case' l => walk_at "nm"))
  | ((with_reducible refine' n_KV ?l ?_); (case' l => walk_at "nm"))
  | ((with_reducible refine' n_BTree ?l ?_); (case' l => walk_at "nm"))
  | ((with_reducible refine' n_BTreeDict ?l ?_); (case' l => walk_at "nm"))
  | ((with_reducible refine' n_law_walk ?l ?_); (case' l => walk_at "nm"))
  | ((with_reducible refine' n_law_right ?l ?_); (case' l => walk_at "nm"))
  | ((with_reducible refine' n_law_row ?l ?_); (case' l => walk_at "nm"))
  | ((with_reducible refine' n_law_closed ?l ?_); (case' l => walk_at "nm"))
  | ((with_reducible refine' n_law_unlike ?l ?_); (case' l => walk_at "nm"))
  | ((with_reducible refine' n_law_refused ?l ?_); (case' l => walk_at "nm"))
  | ((with_reducible refine' b_len ?l ?_); (case' l => walk_at "nm"))
  | ((with_reducible refine' b_range ?l ?_); (case' l => walk_at "nm"))
  | ((with_reducible refine' b_list ?l ?_); (case' l => walk_at "nm"))
  | ((with_reducible refine' b_sorted ?l ?_); (case' l => walk_at "nm"))
  | ((with_reducible refine' b_enumerate ?l ?_); (case' l => walk_at "nm"))
  | ((with_reducible refine' b_ValueError ?l ?_); (case' l => walk_at "nm"))
  | ((with_reducible refine' b_KeyError ?l ?_); (case' l => walk_at "nm"))
  | ((with_reducible refine' w_local ?v ?l ?d ?_); (case' l => walk_at "nm"); (case' d => kernel_rfl); (case' v => walk_at "lk")))
-- statements
local macro_rules | `(tactic| walk_at "stmt") => `(tactic| first
  | with_reducible refine w_cons ?_
  | with_reducible refine w_nil ?_
  | with_reducible refine w_Return ?_
  | with_reducible refine w_ReturnNone ?_
  | ((with_reducible refine' w_AssignName ?l ?_ ?s); (case' l => walk_at "nm"); (case' s => walk_at "rf"))
  | ((with_reducible refine' w_AssignAttr ?_ ?s); (case' s => walk_at "rf"))
  | ((with_reducible refine' w_AssignSub ?_ ?s ?e); (case' s => walk_at "rf"); (case' e => exact fun _ => rfl))
  | ((with_reducible refine' w_AssignTup ?_ ?s ?w); (case' s => walk_at "rf"); (case' w => walk_at "rf"))
  | with_reducible refine w_If ?_
  | with_reducible refine w_Assert ?_
  | ((with_reducible refine' w_Expr ?_ ?i ?s); (case' i => walk_at "inter"); (case' s => walk_at "rf"))
  | with_reducible refine w_AugAttr ?_
  | with_reducible refine w_Pass ?_
  | with_reducible refine w_Break ?_
  | with_reducible refine w_Continue ?_)
local macro_rules | `(tactic| walk_at "inter") => `(tactic| (refine' inter_of ?h ?e; (case h => assumption); (case e => walk_at "rf")))
local macro_rules | `(tactic| walk_at "unp") => `(tactic| ((with_reducible refine' w_unpack2 ?h ?e ?a ?b ?_); (case' h => assumption); (case' a => walk_at "nm"); (case' b => walk_at "nm"); (case' e => walk_at "sg")))
-- expressions
local macro_rules | `(tactic| walk_at "expr") => `(tactic| first
  | ((with_reducible show W _ _ (eval (Expr.Name _ _) _) _ _ _ _); walk_at "name")
  | ((with_reducible refine w_int ?_); intro _)
  | with_reducible refine w_none ?_
  | with_reducible refine w_bool ?_
  | with_reducible refine w_BinOp ?_
  | ((with_reducible refine' w_Attribute ?_ ?e); (case' e => walk_at "rf"))
  | ((with_reducible refine' w_MethodI ?_ ?e); (case' e => walk_at "rf"))
  | ((with_reducible refine' w_Call ?_ ?e); (case' e => walk_at "rf"))
  | with_reducible refine w_Subscript ?_
  | ((with_reducible refine' w_Compare ?_ ?e); (case' e => walk_at "rf"))
  | with_reducible refine w_IfExp ?_
  | with_reducible refine w_Tuple ?_
  | with_reducible refine w_List ?_
  | with_reducible refine w_UnaryOp ?_
  | ((with_reducible refine w_str ?_); intro _)
  | with_reducible refine w_Slice ?_)
local macro_rules | `(tactic| walk_at "test") => `(tactic| first
  | ((with_reducible refine' w_test_Compare ?_ ?e); (case' e => walk_at "rf"))
  | with_reducible refine w_test_Not ?_
  | with_reducible refine w_test_BoolOp ?_
  | ((with_reducible refine' w_test_value ?_ ?e); (case' e => walk_at "rf")))
local macro_rules | `(tactic| walk_at "args") => `(tactic| first
  | ((with_reducible refine' w_args ?e ?_); (case' e => walk_at "rf"))
  | with_reducible refine w_args0 ?_
  | ((with_reducible refine' w_items_cons ?_ ?e); (case' e => walk_at "rf"))
  | with_reducible refine w_items_nil ?_
  | with_reducible refine w_and_cons ?_
  | with_reducible refine w_or_cons ?_
  | with_reducible refine w_and_nil ?_
  | with_reducible refine w_or_nil ?_
  | ((with_reducible refine' w_argsKw ?a ?e ?_); (case' a => walk_at "rf"); (case' e => walk_at "rf"))
  | ((with_reducible refine' w_argsKw0 ?a ?_); (case' a => walk_at "rf"))
  | with_reducible refine w_kw_cons ?_
  | with_reducible refine w_kw_nil ?_
  | with_reducible refine w_part_none ?_
  | with_reducible refine w_part_some ?_)
local macro_rules | `(tactic| walk_at "ints") => `(tactic| first
  | ((with_reducible refine w_add ?_); intro _)
  | ((with_reducible refine w_sub ?_); intro _)
  | ((with_reducible refine w_iadd ?_); intro _)
  | ((with_reducible refine w_isub ?_); intro _)
  | with_reducible refine w_eq ?_
  | with_reducible refine w_ne ?_
  | with_reducible refine w_lt ?_
  | with_reducible refine w_le ?_
  | with_reducible refine w_gt ?_
  | with_reducible refine w_ge ?_
  | with_reducible refine w_truth_bool ?_
  | with_reducible refine w_truth_none ?_
  | with_reducible refine w_isNone ?_
  | with_reducible refine w_isNotNone ?_
  | ((with_reducible refine w_neg ?_); intro _))
local macro_rules | `(tactic| walk_at "flow") => `(tactic| first
  | with_reducible refine next_next ?_
  | with_reducible refine next_ret ?_
  | with_reducible refine next_brk ?_
  | with_reducible refine next_cont ?_
  | with_reducible refine turn_next ?_
  | with_reducible refine turn_cont ?_
  | with_reducible refine turn_brk ?_
  | with_reducible refine turn_ret ?_
  | with_reducible refine ite_t ?_
  | with_reducible refine ite_f ?_
  | with_reducible refine ite_nt ?_
  | with_reducible refine ite_nz ?_
  | with_reducible refine ite_nz0 ?_
  | with_reducible refine ite_z ?_
  | with_reducible refine ite_z0 ?_
  | with_reducible refine ite_nf ?_)
local macro_rules | `(tactic| walk_at "attr") => `(tactic| first
  | ((with_reducible refine' g_Node_t ?e ?v ?_); (case' e => walk_at "sg"); (case' v => exact rfl))
  | ((with_reducible refine' g_Node_creator ?e ?v ?_); (case' e => walk_at "sg"); (case' v => exact rfl))
  | ((with_reducible refine' g_Node_is_leaf ?e ?v ?_); (case' e => walk_at "sg"); (case' v => exact rfl))
  | ((with_reducible refine' g_Node_elts ?e ?_); (case' e => walk_at "sg"))
  | ((with_reducible refine' g_Node_children ?e ?_); (case' e => walk_at "sg"))
  | ((with_reducible refine' g_KV_key ?e ?v ?_); (case' e => walk_at "sg"); (case' v => exact rfl))
  | ((with_reducible refine' g_KV_value ?e ?v ?_); (case' e => walk_at "sg"); (case' v => exact rfl))
  | ((with_reducible refine' g_Tree_creator ?e ?v ?_); (case' e => walk_at "sg"); (case' v => exact rfl))
  | ((with_reducible refine' g_Tree_immutable ?e ?v ?_); (case' e => walk_at "sg"); (case' v => exact rfl))
  | ((with_reducible refine' g_Tree_cursors ?e ?v ?_); (case' e => walk_at "sg"); (case' v => exact rfl))
  | ((with_reducible refine' g_Tree_t ?e ?v ?_); (case' e => walk_at "sg"); (case' v => exact rfl))
  | ((with_reducible refine' g_Tree_root ?e ?v ?_); (case' e => walk_at "sg"); (case' v => exact rfl))
  | ((with_reducible refine' g_Tree_size ?e ?v ?_); (case' e => walk_at "sg"); (case' v => exact rfl))
  | ((with_reducible refine' g_Tree_in_order ?e ?v ?_); (case' e => walk_at "sg"); (case' v => exact rfl)))
local macro_rules | `(tactic| walk_at "meth") => `(tactic| first
  | ((with_reducible refine' m_Node_is_maximal ?e ?_); (case' e => walk_at "sg"))
  | ((with_reducible refine' m_Node_is_minimal ?e ?_); (case' e => walk_at "sg"))
  | ((with_reducible refine' m_Node_search_in_node ?e ?_); (case' e => walk_at "sg"))
  | ((with_reducible refine' m_Node_maybe_cow_child ?e ?_); (case' e => walk_at "sg"))
  | ((with_reducible refine' m_Node_get_node ?e ?_); (case' e => walk_at "sg"))
  | ((with_reducible refine' m_Node_get ?e ?_); (case' e => walk_at "sg"))
  | ((with_reducible refine' m_Node_optimize_in_order_insertion ?e ?_); (case' e => walk_at "sg"))
  | ((with_reducible refine' m_Node_insert_nonfull ?e ?_); (case' e => walk_at "sg"))
  | ((with_reducible refine' m_Node_split ?e ?_); (case' e => walk_at "sg"))
  | ((with_reducible refine' m_Node_try_left_steal ?e ?_); (case' e => walk_at "sg"))
  | ((with_reducible refine' m_Node_try_right_steal ?e ?_); (case' e => walk_at "sg"))
  | ((with_reducible refine' m_Node_adopt ?e ?_); (case' e => walk_at "sg"))
  | ((with_reducible refine' m_Node_merge ?e ?_); (case' e => walk_at "sg"))
  | ((with_reducible refine' m_Node_minimum ?e ?_); (case' e => walk_at "sg"))
  | ((with_reducible refine' m_Node_balance ?e ?_); (case' e => walk_at "sg"))
  | ((with_reducible refine' m_Node_delete ?e ?_); (case' e => walk_at "sg"))
  | ((with_reducible refine' m_Node_visit_in_order ?e ?_); (case' e => walk_at "sg"))
  | ((with_reducible refine' m_Node_maybe_cow ?e ?_); (case' e => walk_at "sg"))
  | ((with_reducible refine' m_Node_clone ?e ?_); (case' e => walk_at "sg"))
  | ((with_reducible refine' m_KV_key ?e ?_); (case' e => walk_at "sg"))
  | ((with_reducible refine' m_KV_value ?e ?_); (case' e => walk_at "sg"))
  | ((with_reducible refine' m_Tree_make_immutable ?e ?_); (case' e => walk_at "sg"))
  | ((with_reducible refine' m_Tree_check_mutable_and_park ?e ?_); (case' e => walk_at "sg"))
  | ((with_reducible refine' m_Tree_insert_element ?e ?_); (case' e => walk_at "sg"))
  | ((with_reducible refine' m_Tree_get_element ?e ?_); (case' e => walk_at "sg"))
  | ((with_reducible refine' m_Tree_delete ?e ?_); (case' e => walk_at "sg"))
  | ((with_reducible refine' m_Tree_delete_key ?e ?_); (case' e => walk_at "sg"))
  | ((with_reducible refine' m_Tree_delete_exact ?e ?_); (case' e => walk_at "sg"))
  | ((with_reducible refine' m_Tree_visit_in_order ?e ?_); (case' e => walk_at "sg"))
  | ((with_reducible refine' lm_append ?e ?_); (case' e => walk_at "sg"))
  | ((with_reducible refine' lm_insert ?e ?_); (case' e => walk_at "sg"))
  | ((with_reducible refine' lm_pop ?e ?_); (case' e => walk_at "sg"))
  | ((with_reducible refine' lm_extend ?e ?_); (case' e => walk_at "sg")))
local macro_rules | `(tactic| walk_at "callee") => `(tactic| with_reducible first
  | exact k_49
  | exact k_56
  | exact k_91
  | exact k_98
  | exact k_105
  | exact k_112
  | exact k_119
  | exact k_126
  | exact k_133
  | exact k_140
  | exact k_147
  | exact k_154
  | exact k_161
  | exact k_168
  | exact k_175
  | exact k_182
  | exact k_196
  | exact k_203
  | exact k_210
  | exact k_224
  | exact k_231
  | exact k_478
  | exact k_485
  | exact k_365
  | exact k_372
  | exact k_380
  | exact k_387
  | exact k_394
  | exact k_401
  | exact k_408
  | exact k_422
  | exact k_552
  | exact k_557
  | exact k_562
  | exact k_569
  | exact k_576
  | exact k_583
  | exact k_cNode
  | exact k_cCre
  | exact k_cTree
  | exact k_cBase
  | exact k_cKV
  | exact Callee.builtin _
  | exact Callee.type _)
local macro_rules | `(tactic| walk_at "call") => `(tactic| ((with_reducible refine' w_callWith ?k ?_ ?p); (case' k => walk_at "callee"); (case' p => walk_at "rf")))
local macro_rules | `(tactic| walk_at "calls") => `(tactic| first
  | (with_reducible first | refine w_tidy0 ?_ | refine w_tidy1 ?_)
  | ((with_reducible refine' w_len ?e ?z ?_); (case' e => walk_at "sg"); (case' z => walk_at "sz"); intro _))
local macro_rules | `(tactic| walk_at "newl") => `(tactic| ((with_reducible refine' w_newList ?z ?_); (case' z => walk_at "sz")))
local macro_rules | `(tactic| walk_at "newt") => `(tactic| ((with_reducible refine' w_newTuple ?z ?_); (case' z => walk_at "sz")))
local macro_rules | `(tactic| walk_at "seta") => `(tactic| first
  | ((with_reducible refine' i_Node_0 ?e ?_); (case' e => walk_at "sg"))
  | ((with_reducible refine' i_Node_1 ?e ?_); (case' e => walk_at "sg"))
  | ((with_reducible refine' i_Node_2 ?e ?_); (case' e => walk_at "sg"))
  | ((with_reducible refine' i_Node_3 ?e ?_); (case' e => walk_at "sg"))
  | ((with_reducible refine' i_Node_4 ?e ?_); (case' e => walk_at "sg"))
  | ((with_reducible refine' i_KV_0 ?e ?_); (case' e => walk_at "sg"))
  | ((with_reducible refine' i_KV_1 ?e ?_); (case' e => walk_at "sg"))
  | ((with_reducible refine' i_Tree_0 ?e ?_); (case' e => walk_at "sg"))
  | ((with_reducible refine' i_Tree_1 ?e ?_); (case' e => walk_at "sg"))
  | ((with_reducible refine' i_Tree_2 ?e ?_); (case' e => walk_at "sg"))
  | ((with_reducible refine' i_Tree_3 ?e ?_); (case' e => walk_at "sg"))
  | ((with_reducible refine' i_Tree_4 ?e ?_); (case' e => walk_at "sg"))
  | ((with_reducible refine' i_Tree_5 ?e ?_); (case' e => walk_at "sg"))
  | ((with_reducible refine' i_Tree_6 ?e ?_); (case' e => walk_at "sg"))
  | ((with_reducible refine' i_Base_0 ?e ?_); (case' e => walk_at "sg"))
  | ((with_reducible refine' i_Base_1 ?e ?_); (case' e => walk_at "sg"))
  | ((with_reducible refine' i_Base_2 ?e ?_); (case' e => walk_at "sg"))
  | ((with_reducible refine' s_Node_elts ?e ?_); (case' e => walk_at "sg"))
  | ((with_reducible refine' s_Node_children ?e ?_); (case' e => walk_at "sg"))
  | ((with_reducible refine' s_Tree_immutable ?e ?_); (case' e => walk_at "sg"))
  | ((with_reducible refine' s_Tree_root ?e ?_); (case' e => walk_at "sg"))
  | ((with_reducible refine' s_Tree_size ?e ?_); (case' e => walk_at "sg")))
local macro_rules | `(tactic| walk_at "wr") => `(tactic| first
  | ((with_reducible show W _ _ (eval _ _) _ _ _ _); walk_at "expr")
  | ((with_reducible show W _ _ (exec _ _) _ _ _ _); walk_at "stmt")
  | ((with_reducible show W _ _ (execs _ _) _ _ _ _); walk_at "stmt")
  | ((with_reducible show W _ _ (getAttr _ _ _) _ _ _ _); walk_at "attr")
  | ((with_reducible show W _ _ (setAttr _ _ _) _ _ _ _); walk_at "seta")
  | ((with_reducible show W _ _ (newList _) _ _ _ _); walk_at "newl")
  | ((with_reducible show W _ _ (callWith _ _ _ _ _) _ _ _ _); walk_at "call")
  | ((with_reducible show W _ _ (evalArgs _ _ _ _) _ _ _ _); walk_at "args")
  | ((with_reducible show W _ _ (spliced _) _ _ _ _); walk_at "args")
  | ((with_reducible show W _ _ (call _ _ _) _ _ _ _); walk_at "calls")
  | ((with_reducible show W _ _ (PySem.isTrue _ _ _) _ _ _ _); walk_at "test")
  | ((with_reducible show W _ _ (getMethod _ _ _) _ _ _ _); walk_at "meth")
  | ((with_reducible show W _ _ (binaryOp _ _ _) _ _ _ _); walk_at "ints")
  | ((with_reducible show W _ _ (compareOp _ _ _) _ _ _ _); walk_at "ints")
  | ((with_reducible show W _ _ (truthy _) _ _ _ _); walk_at "ints")
  | ((with_reducible show W _ _ (allTrue _ _ _) _ _ _ _); walk_at "args")
  | ((with_reducible show W _ _ (evalAll _) _ _ _ _); walk_at "args")
  | ((with_reducible show W _ _ (valueOrNone _) _ _ _ _); walk_at "args")
  | ((with_reducible show W _ _ (inplaceOp _ _ _) _ _ _ _); walk_at "ints")
  | ((with_reducible show W _ _ (unaryOp _ _) _ _ _ _); walk_at "ints"))
local macro_rules | `(tactic| walk_at "w") => `(tactic| first
  | ((with_reducible show W _ _ _ _ _ _ _); walk_at "wr")
  | walk_at "flow")
local macro_rules | `(tactic| walk_at "go") => `(tactic| repeat (walk_at "w"))
local macro_rules | `(tactic| walk_at "enter") => `(tactic| (intro y hh hr hcs hcn ha hcd hcl; clear hcn ha hcd hcl))
section
variable {g : Gl} {σ : Store} {hp : Option Value → Prop}
theorem spec_MIN {t : Int} {k : Tok} {Q : Value → Store → Prop} (h : ∀ k', Q (.int (t - 1) k') σ) : Calls g hp 1 (.ref 49) [.int t k] [] σ Q := by
  refine calls_def [("t", .int t k)] rfl (by rfl) (fun s _ => BindsTo.of_eq rfl) (locs rfl) (by decide) rfl rfl rfl ?_
  walk_at "enter"
  walk_at "go"
  exact h _
theorem spec_MAX {t : Int} {k : Tok} {Q : Value → Store → Prop} (h0 : 0 ≤ t) (h1 : t < 100) (h : ∀ k', Q (.int (2 * t - 1) k') σ) : Calls g hp 1 (.ref 56) [.int t k] [] σ Q := by
  refine calls_def [("t", .int t k)] rfl (by rfl) (fun s _ => BindsTo.of_eq rfl) (locs rfl) (by decide) rfl rfl rfl ?_
  walk_at "enter"
  walk_at "go"
  refine w_mul ?_ ?_
  · exact .of_left (by decide)
  intro _
  walk_at "go"
  exact h _
theorem spec_isMax {a : Addr} {t : Int} {k : Tok} {cr lf : Value} {es ch : Addr} {vs : List Value} {Q : Value → Store → Prop} (e : σ a = some (nodeC (.int t k) cr lf es ch)) (el : σ es = some (.list vs)) (hle : (vs.length : Int) ≤ 2 * t - 1) (h0 : 0 ≤ t) (hz : t < 100) (h : Q (.bool ((vs.length : Int) == 2 * t - 1)) σ) : Calls g hp 2 (.ref 91) [.ref a] [] σ Q := by
  refine calls_def [("self", .ref a)] rfl (by rfl) (fun s _ => BindsTo.of_eq rfl) (locs rfl) (by decide) rfl rfl rfl ?_
  walk_at "enter"
  walk_at "go"
  refine w_spec (by assumption) (by assumption) (spec_MAX h0 hz ?_) (by decide); intro _
  walk_at "go"
  refine ⟨decide_eq_true hle, ?_⟩
  walk_at "go"
  refine w_spec (by assumption) (by assumption) (spec_MAX h0 hz ?_) (by decide); intro _
  walk_at "go"
  exact h
end
/-! ## search_in_node -/
/-- the elements of a node: what they are, with their keys -/
def Elts (σ : Store) : List Value → List Int → Prop
  | [], [] => True
  | v :: vs, k :: ks => (∃ e tk val, v = .ref e ∧ σ e = some (kvC (.int k tk) val)) ∧ Elts σ vs ks
  | _, _ => False
theorem Elts.len {σ : Store} : ∀ {vs : List Value} {ks : List Int}, Elts σ vs ks → vs.length = ks.length
  | [], [], _ => rfl
  | _ :: vs, _ :: ks, h => by rw [List.length_cons, List.length_cons, Elts.len h.2]
theorem Elts.at {σ : Store} : ∀ {vs : List Value} {ks : List Int} {i : Nat}, Elts σ vs ks → i < ks.length → ∃ e tk val, vs[i]? = some (.ref e) ∧ σ e = some (kvC (.int (ks.getD i 0) tk) val)
  | [], [], i, _, hi => absurd hi (Nat.not_lt_zero _)
  | v :: vs, k :: ks, 0, h, _ => by obtain ⟨⟨e, tk, val, rfl, he⟩, _⟩ := h; exact ⟨e, tk, val, rfl, he⟩
  | v :: vs, k :: ks, i + 1, h, hi => by
    obtain ⟨e, tk, val, h1, h2⟩ := Elts.at (i := i) h.2 (by simpa using hi)
    exact ⟨e, tk, val, by simpa using h1, by simpa using h2⟩
/-- the place of a key among rising keys -/
def posOf (key : Int) : List Int → Nat
  | [] => 0
  | k :: r => if k < key then posOf key r + 1 else 0
def isAt (key : Int) (ks : List Int) : Bool := ks[posOf key ks]? == some key
def Rising (ks : List Int) : Prop := ks.Pairwise (· < ·)
theorem posOf_eq {key : Int} : ∀ {ks : List Int} {i : Nat}, i ≤ ks.length → (∀ j, j < i → ks.getD j 0 < key) → (∀ j, i ≤ j → j < ks.length → key ≤ ks.getD j 0) → posOf key ks = i
  | [], i, h, _, _ => by simp at h; simp [posOf, h]
  | k :: r, 0, _, _, h => by
    have := h 0 (Nat.le_refl _) (by simp)
    unfold posOf; rw [if_neg (by simpa using this)]
  | k :: r, i + 1, hi, h1, h2 => by
    have := h1 0 (by omega)
    unfold posOf; rw [if_pos (by simpa using this)]
    rw [posOf_eq (i := i) (by simpa using hi) (fun j hj => by simpa using h1 (j + 1) (by omega)) fun j hj hj' => by simpa using h2 (j + 1) (by omega) (by simpa using hj')]
theorem rising_get {ks : List Int} (h : Rising ks) {i j : Nat} (hij : i < j) (hj : j < ks.length) : ks.getD i 0 < ks.getD j 0 := by
  have := List.pairwise_iff_getElem.mp h i j (by omega) hj hij
  simpa [List.getD_eq_getElem?_getD, List.getElem?_eq_getElem hj, List.getElem?_eq_getElem (show i < ks.length by omega)] using this

section
variable {g : Gl} {σ : Store} {hp : Option Value → Prop}
theorem spec_key {a : Addr} {kk vv : Value} {Q : Value → Store → Prop} (e : σ a = some (kvC kk vv)) (hh : handedIn kk = true) (h : Q kk σ) : Calls g hp 1 (.ref 478) [.ref a] [] σ Q := by
  refine calls_def [("self", .ref a)] rfl (by rfl) (fun s _ => BindsTo.of_eq rfl) (locs rfl) (by decide) rfl rfl rfl ?_
  walk_at "enter"
  walk_at "go"
  refine g_KV_key e hh ?_
  exact h
theorem spec_value {a : Addr} {kk vv : Value} {Q : Value → Store → Prop} (e : σ a = some (kvC kk vv)) (hh : handedIn vv = true) (h : Q vv σ) : Calls g hp 1 (.ref 485) [.ref a] [] σ Q := by
  refine calls_def [("self", .ref a)] rfl (by rfl) (fun s _ => BindsTo.of_eq rfl) (locs rfl) (by decide) rfl rfl rfl ?_
  walk_at "enter"
  walk_at "go"
  refine g_KV_value e hh ?_
  exact h

theorem spec_search {a : Addr} {t cr lf : Value} {es ch : Addr} {vs : List Value} {ks : List Int} {key : Int} {kt : Tok} {Q : Value → Store → Prop} (e : σ a = some (nodeC t cr lf es ch)) (el : σ es = some (.list vs)) (ek : Elts σ vs ks) (rs : Rising ks) (hz : vs.length < 1000)
    (h : ∀ tp it, σ tp = none → Q (.ref tp) (σ.set tp (.tup [.int (posOf key ks) it, .bool (isAt key ks)]))) : Calls g hp 2 (.ref 105) [.ref a, .int key kt] [] σ Q := by
  have hl := ek.len
  refine calls_def [("self", .ref a), ("key", .int key kt)] rfl (by rfl) (fun s _ => BindsTo.of_eq rfl) (locs rfl) (by decide) rfl rfl rfl ?_
  walk_at "enter"
  walk_at "go"
  refine ite_decE ?_ fun hp hB => ?_
  · -- the search by halves
    walk_at "go"
    refine w_While (fun k σ' m => σ' = σ ∧ ∃ (l i : Int) (tl ti tr : Tok), m "self" = some (.ref a) ∧ m "key" = some (.int key kt) ∧ m "l" = some (.int l tl) ∧ m "i" = some (.int i ti) ∧ m "r" = some (.int (i - 1) tr) ∧ m "equal" = some (.bool false) ∧
      0 ≤ l ∧ l ≤ i ∧ i ≤ ks.length ∧ (∀ j : Nat, (j : Int) < l → ks.getD j 0 < key) ∧ (∀ j : Nat, i ≤ j → j < ks.length → key < ks.getD j 0) ∧ k = (i - l).toNat) vs.length
      ⟨rfl, 0, vs.length, _, _, _, by walk_at "lk", by walk_at "lk", by walk_at "lk", by walk_at "lk", by walk_at "lk", by walk_at "lk", by omega, by omega, by omega, fun j hj => by omega, fun j hj hj' => by omega, by omega⟩ ?_
    rintro n σ' m ⟨rfl, l, i, tl, ti, tr, hm1, hm2, hm3, hm4, hm5, hm6, h0, h1, h2, hlo, hhi, hn⟩
    walk_at "go"
    refine ite_dec (fun hlr => ?_) fun hlr => ?_
    · walk_at "go"
      refine w_fdiv (by decide) (PyProof.noPylong_small (by decide)) fun _ => ?_
      have hfd : (l + (i - 1)).fdiv 2 = (l + (i - 1)) / 2 := Int.fdiv_eq_ediv_of_nonneg _ (by decide)
      rw [hfd]
      generalize hmm : (l + (i - 1)) / 2 = mm
      have b1 : l ≤ mm := by omega
      have b2 : mm < i := by omega
      obtain ⟨e0, tk, val, h3, h4⟩ := ek.at (i := mm.toNat) (by omega)
      walk_at "go"
      refine w_item el (k := mm) (by omega) (by omega) (v := .ref e0) h3 ?_ rfl
      walk_at "go"
      refine w_spec (by assumption) (by assumption) (spec_key h4 rfl ?_) (by decide)
      walk_at "go"
      refine ite_beq (fun hk => ?_) fun hk => ?_
      · walk_at "go"
        refine w_newTuple (Nat.le_of_ble_eq_true rfl) fun tp ht => ?_
        walk_at "go"
        have hp1 : posOf key ks = mm.toNat := posOf_eq (by omega) (fun j hj => by rw [hk]; exact rising_get rs hj (by omega)) fun j hj hj' => by
          rcases Nat.lt_or_eq_of_le hj with hj | hj
          · rw [hk]; exact Int.le_of_lt (rising_get rs hj hj')
          · rw [← hj, hk]; exact Int.le_refl _
        have hb : isAt key ks = true := by
          unfold isAt
          rw [hp1, List.getElem?_eq_getElem (show mm.toNat < ks.length by omega)]
          rw [List.getD_eq_getElem?_getD, List.getElem?_eq_getElem (show mm.toNat < ks.length by omega)] at hk
          simpa using hk.symm
        have h' := fun it => h tp it ht
        rw [hp1, hb, show ((mm.toNat : Nat) : Int) = mm by omega] at h'
        exact h' _
      · walk_at "go"
        refine ite_dec (fun hk2 => ?_) fun hk2 => ?_
        · walk_at "go"
          refine ⟨(mm - l).toNat, by omega, rfl, l, mm, _, _, _, by walk_at "lk", by walk_at "lk", by walk_at "lk", by walk_at "lk", by walk_at "lk", by walk_at "lk", h0, b1, by omega, hlo, fun j hj hj' => ?_, rfl⟩
          rcases Nat.lt_or_eq_of_le (show mm.toNat ≤ j by omega) with hj2 | hj2
          · exact Int.lt_trans hk2 (rising_get rs hj2 hj')
          · rw [← hj2]; exact hk2
        · walk_at "go"
          refine ⟨(i - (mm + 1)).toNat, by omega, rfl, mm + 1, i, _, _, _, by walk_at "lk", by walk_at "lk", by walk_at "lk", by walk_at "lk", by walk_at "lk", by walk_at "lk", by omega, by omega, h2, fun j hj => ?_, hhi, rfl⟩
          rcases Nat.lt_or_eq_of_le (show j ≤ mm.toNat by omega) with hj2 | hj2
          · exact Int.lt_of_lt_of_le (rising_get rs hj2 (by omega)) (by omega)
          · rw [hj2]; omega
    · walk_at "go"
      refine w_newTuple (Nat.le_of_ble_eq_true rfl) fun tp ht => ?_
      walk_at "go"
      have hp1 : posOf key ks = i.toNat := posOf_eq (by omega) (fun j hj => hlo j (by omega)) fun j hj hj' => Int.le_of_lt (hhi j (by omega) hj')
      have hb : isAt key ks = false := by
        unfold isAt
        rw [hp1]
        by_cases hi : i.toNat < ks.length
        · have := hhi i.toNat (by omega) hi
          rw [List.getD_eq_getElem?_getD, List.getElem?_eq_getElem hi] at this
          rw [List.getElem?_eq_getElem hi]
          have h3 : ks[i.toNat] ≠ key := by simp at this; omega
          simpa using h3
        · rw [List.getElem?_eq_none (by omega)]; rfl
      have h' := fun it => h tp it ht
      rw [hp1, hb, show ((i.toNat : Nat) : Int) = i by omega] at h'
      exact h' _
  · -- the key behind the last
    obtain ⟨e0, tk, val, h1, h2⟩ := ek.at (i := vs.length - 1) (by omega)
    walk_at "go"
    refine w_item el (k := vs.length - 1) (by omega) (by omega) (v := .ref e0) (by rw [← h1]; congr 1; omega) ?_ rfl
    walk_at "go"
    refine w_spec (by assumption) (by assumption) (spec_key h2 rfl ?_) (by decide)
    walk_at "go"
    refine ite_dec (fun hk => ?_) fun _ => hB
    walk_at "go"
    refine w_newTuple (Nat.le_of_ble_eq_true rfl) fun tp ht => ?_
    walk_at "go"
    have hp1 : posOf key ks = vs.length := posOf_eq (by omega) (fun j hj => ?_) fun j hj hj' => by omega
    · have h' := fun it => h tp it ht
      have hb : isAt key ks = false := by unfold isAt; rw [hp1, hl]; simp
      rw [hp1, hb] at h'; exact h' _
    · by_cases hj2 : j = vs.length - 1
      · subst hj2; exact hk
      · exact Int.lt_trans (rising_get rs (j := vs.length - 1) (by omega) (by omega)) hk
end

end
section
/-! ## Trees in a store -/
theorem Store.set_new {σ : Store} {a b : Addr} {c c' : Cell} (h : σ b = none) (e : σ a = some c') : σ.set b c a = some c' := by
  rw [Store.set_ne _ _ fun z => ?_]; exact e
  subst z; rw [h] at e; cases e
theorem Store.set_off {σ : Store} {a b : Addr} {c c' : Cell} (h : a ≠ b) (e : σ a = some c') : σ.set b c a = some c' := by
  rw [Store.set_ne _ _ h]; exact e
theorem Store.set_none {σ : Store} {a l : Addr} {c : Cell} (h : σ.set a c l = none) : l ≠ a ∧ σ l = none := by
  by_cases q : l = a
  · subst q; rw [Store.set_same] at h; cases h
  · rw [Store.set_ne _ _ q] at h; exact ⟨q, h⟩
theorem Store.set_apply (σ : Store) (a b : Addr) (c : Cell) : σ.set a c b = if b = a then some c else σ b := rfl
theorem ne_cell {σ : Store} {a b : Addr} {c c' : Cell} (h1 : σ a = some c) (h2 : σ b = some c') (h : c ≠ c') : a ≠ b := fun q => by subst q; rw [h1] at h2; cases h2; exact h rfl
theorem ne_fresh {σ : Store} {a b : Addr} {c : Cell} (h1 : σ a = some c) (h2 : σ b = none) : a ≠ b := fun q => by subst q; rw [h1] at h2; cases h2
theorem ite_nz {h : Nat} {A B : Prop} (k : A) : if (!(h + 1 == 0)) then A else B := k
theorem ite_nz0 {A B : Prop} (k : B) : if (!((0 : Nat) == 0)) then A else B := k
theorem ite_z {h : Nat} {A B : Prop} (k : B) : if (h + 1 == 0) then A else B := k
theorem ite_z0 {A B : Prop} (k : A) : if ((0 : Nat) == 0) then A else B := k
theorem ite_nf {A B : Prop} (h : A) : if (!false) then A else B := h
theorem ite_nt {A B : Prop} (h : B) : if (!true) then A else B := h
structure El where
  a : Addr
  k : Int
  v : Int
abbrev El.r (e : El) : Value := .ref e.a
def ElOk (S : Store) (e : El) : Prop := ∃ kt vt, S e.a = some (kvC (.int e.k kt) (.int e.v vt))
abbrev ksOf (es : List El) : List Int := es.map El.k
def Sup (σ σ' : Store) : Prop := ∀ a c, σ a = some c → σ' a = some c
theorem Sup.refl (σ : Store) : Sup σ σ := fun _ _ e => e
theorem Sup.trans {σ₁ σ₂ σ₃ : Store} (h : Sup σ₁ σ₂) (k : Sup σ₂ σ₃) : Sup σ₁ σ₃ := fun a c e => k a c (h a c e)
theorem Sup.new {σ : Store} {a : Addr} (c : Cell) (e : σ a = none) : Sup σ (σ.set a c) := fun b c' q => by
  rw [Store.set_ne _ _ fun z => ?_]; exact q
  subst z; rw [e] at q; cases q
theorem Sup.get {σ σ' : Store} {a : Addr} {c : Cell} (h : Sup σ σ') (e : σ a = some c) : σ' a = some c := h a c e
theorem ElOk.sup {S S' : Store} {e : El} (h : ElOk S e) (hs : Sup S S') : ElOk S' e := by obtain ⟨a, b, c⟩ := h; exact ⟨a, b, hs _ _ c⟩
structure Kd where
  a : Addr
  es : List El
  fp : List Addr
  n : Nat
abbrev Kd.r (k : Kd) : Value := .ref k.a
def weave : List Kd → List El → List El
  | [], xs => xs
  | k :: ks, [] => k.es ++ weave ks []
  | k :: ks, x :: xs => k.es ++ x :: weave ks xs
theorem weave_app {pre rest : List Kd} {xl xr : List El} (h : pre.length = xl.length) : weave (pre ++ rest) (xl ++ xr) = weave pre xl ++ weave rest xr := by
  induction pre generalizing xl with
  | nil => cases xl with
    | nil => rfl
    | cons => simp at h
  | cons k pre ih => cases xl with
    | nil => simp at h
    | cons x xl =>
      have := ih (xl := xl) (by simpa using h)
      simp only [List.cons_append, weave, this, List.append_assoc]
structure Nd (S : Store) (t : Nat) (lf : Bool) (P : Kd → Prop) (cr a l c : Addr) (xs : List El) (kids : List Kd) : Prop where
  node : ∃ tk, S a = some (nodeC (.int t tk) (.ref cr) (.bool lf) l c)
  el : S l = some (.list (xs.map El.r))
  ch : S c = some (.list (kids.map Kd.r))
  hi : xs.length ≤ 2 * t - 1
  num : kids.length = if lf then 0 else xs.length + 1
  kid : ∀ k ∈ kids, P k
def Tr (S : Store) (t : Nat) : Nat → Nat → Addr → List El → Prop
  | 0, n, a, es => ∃ cr l c xs kids, Nd S t true (fun _ => False) cr a l c xs kids ∧ S cr = some creC ∧ es = weave kids xs ∧ n = xs.length
  | h + 1, n, a, es => ∃ cr l c xs kids, Nd S t false (fun k => t - 1 ≤ k.n ∧ Tr S t h k.n k.a k.es) cr a l c xs kids ∧ S cr = some creC ∧ es = weave kids xs ∧ n = xs.length
def KidT (S : Store) (t : Nat) : Nat → Kd → Prop
  | 0 => fun _ => False
  | h + 1 => fun k => t - 1 ≤ k.n ∧ Tr S t h k.n k.a k.es
theorem Tr_iff {S : Store} {t h n : Nat} {a : Addr} {es : List El} : Tr S t h n a es ↔ ∃ cr l c xs kids, Nd S t (h == 0) (KidT S t h) cr a l c xs kids ∧ S cr = some creC ∧ es = weave kids xs ∧ n = xs.length := by cases h <;> rfl
abbrev fpOf (a l c : Addr) (kids : List Kd) : List Addr := a :: l :: c :: kids.flatMap Kd.fp
def Own (Z S : Store) (cr : Addr) (t : Nat) : Nat → Nat → Addr → List El → List Addr → Prop
  | 0, n, a, es, fp => ∃ l c xs kids, Nd S t true (fun _ => False) cr a l c xs kids ∧ es = weave kids xs ∧ n = xs.length ∧ fp = fpOf a l c kids
  | h + 1, n, a, es, fp => ∃ l c xs kids, Nd S t false (fun k => t - 1 ≤ k.n ∧ ((Tr Z t h k.n k.a k.es ∧ k.fp = []) ∨ Own Z S cr t h k.n k.a k.es k.fp)) cr a l c xs kids ∧ es = weave kids xs ∧ n = xs.length ∧ fp = fpOf a l c kids
def KidP (Z S : Store) (cr : Addr) (t : Nat) : Nat → Kd → Prop
  | 0 => fun _ => False
  | h + 1 => fun k => t - 1 ≤ k.n ∧ ((Tr Z t h k.n k.a k.es ∧ k.fp = []) ∨ Own Z S cr t h k.n k.a k.es k.fp)
theorem Own_iff {Z S : Store} {cr : Addr} {t h n : Nat} {a : Addr} {es : List El} {fp : List Addr} : Own Z S cr t h n a es fp ↔ ∃ l c xs kids, Nd S t (h == 0) (KidP Z S cr t h) cr a l c xs kids ∧ es = weave kids xs ∧ n = xs.length ∧ fp = fpOf a l c kids := by cases h <;> rfl
theorem Nd.mono {S : Store} {t : Nat} {lf : Bool} {P P' : Kd → Prop} {cr a l c : Addr} {xs : List El} {kids : List Kd} (h : Nd S t lf P cr a l c xs kids) {S' : Store} (h1 : S' a = S a) (h2 : S' l = S l) (h3 : S' c = S c) (hk : ∀ k ∈ kids, P k → P' k) : Nd S' t lf P' cr a l c xs kids :=
  ⟨by rw [h1]; exact h.node, by rw [h2]; exact h.el, by rw [h3]; exact h.ch, h.hi, h.num, fun k m => hk k m (h.kid k m)⟩
theorem Nd.sup {S : Store} {t : Nat} {lf : Bool} {P P' : Kd → Prop} {cr a l c : Addr} {xs : List El} {kids : List Kd} (h : Nd S t lf P cr a l c xs kids) {S' : Store} (hs : Sup S S') (hk : ∀ k ∈ kids, P k → P' k) : Nd S' t lf P' cr a l c xs kids :=
  ⟨by obtain ⟨tk, e⟩ := h.node; exact ⟨tk, hs _ _ e⟩, hs _ _ h.el, hs _ _ h.ch, h.hi, h.num, fun k m => hk k m (h.kid k m)⟩
theorem Tr.sup {S S' : Store} (hs : Sup S S') {t : Nat} : ∀ {h n : Nat} {a : Addr} {es : List El}, Tr S t h n a es → Tr S' t h n a es
  | 0, _, _, _, ⟨cr, l, c, xs, kids, h1, h2, h3, h4⟩ => ⟨cr, l, c, xs, kids, h1.sup hs fun _ _ q => q, hs _ _ h2, h3, h4⟩
  | h + 1, _, _, _, ⟨cr, l, c, xs, kids, h1, h2, h3, h4⟩ => ⟨cr, l, c, xs, kids, h1.sup hs fun _ _ q => ⟨q.1, Tr.sup hs q.2⟩, hs _ _ h2, h3, h4⟩
theorem Own.frame {Z S S' : Store} {cr : Addr} {t : Nat} : ∀ {h n : Nat} {a : Addr} {es : List El} {fp : List Addr}, Own Z S cr t h n a es fp → (∀ b ∈ fp, S' b = S b) → Own Z S' cr t h n a es fp
  | 0, _, _, _, _, ⟨l, c, xs, kids, h1, h2, h3, h4⟩, hs => ⟨l, c, xs, kids, h1.mono (hs _ (by simp [h4])) (hs _ (by simp [h4])) (hs _ (by simp [h4])) fun _ _ q => q, h2, h3, h4⟩
  | h + 1, _, _, _, _, ⟨l, c, xs, kids, h1, h2, h3, h4⟩, hs => ⟨l, c, xs, kids, h1.mono (hs _ (by simp [h4])) (hs _ (by simp [h4])) (hs _ (by simp [h4])) fun k m q => ⟨q.1, q.2.imp id fun q => Own.frame q fun b hb => hs b (by simp only [h4, List.mem_cons, List.mem_flatMap]; exact .inr (.inr (.inr ⟨k, m, hb⟩)))⟩, h2, h3, h4⟩
theorem Own.monoZ {Z Z' S : Store} (hz : Sup Z Z') {cr : Addr} {t : Nat} : ∀ {h n : Nat} {a : Addr} {es : List El} {fp : List Addr}, Own Z S cr t h n a es fp → Own Z' S cr t h n a es fp
  | 0, _, _, _, _, h => h
  | h + 1, _, _, _, _, ⟨l, c, xs, kids, h1, h2, h3, h4⟩ => ⟨l, c, xs, kids, h1.mono rfl rfl rfl fun k m q => ⟨q.1, q.2.imp (fun q => ⟨q.1.sup hz, q.2⟩) fun q => Own.monoZ hz q⟩, h2, h3, h4⟩
theorem Own.live {Z S : Store} {cr : Addr} {t : Nat} : ∀ {h n : Nat} {a : Addr} {es : List El} {fp : List Addr}, Own Z S cr t h n a es fp → ∀ b ∈ fp, ∃ c, S b = some c
  | 0, _, _, _, _, ⟨l, c, xs, kids, h1, h2, h3, h4⟩, b, hb => by
    have hk : kids = [] := List.length_eq_zero_iff.mp h1.num
    subst hk
    simp [h4] at hb
    rcases hb with rfl | rfl | rfl
    · exact ⟨_, h1.node.choose_spec⟩
    · exact ⟨_, h1.el⟩
    · exact ⟨_, h1.ch⟩
  | h + 1, _, _, _, _, ⟨l, c, xs, kids, h1, h2, h3, h4⟩, b, hb => by
    simp only [h4, List.mem_cons, List.mem_flatMap] at hb
    rcases hb with rfl | rfl | rfl | ⟨k, m, hb⟩
    · exact ⟨_, h1.node.choose_spec⟩
    · exact ⟨_, h1.el⟩
    · exact ⟨_, h1.ch⟩
    · rcases (h1.kid k m).2 with q | q
      · rw [q.2] at hb; cases hb
      · exact Own.live q b hb
theorem Own.sup {Z S S' : Store} (hs : Sup S S') {cr : Addr} {t h n : Nat} {a : Addr} {es : List El} {fp : List Addr} (o : Own Z S cr t h n a es fp) : Own Z S' cr t h n a es fp :=
  o.frame fun b hb => by obtain ⟨c, e⟩ := o.live b hb; rw [e]; exact hs _ _ e
theorem Own.tr {Z S : Store} {cr : Addr} {t : Nat} (hz : Sup Z S) (hc : S cr = some creC) : ∀ {h n : Nat} {a : Addr} {es : List El} {fp : List Addr}, Own Z S cr t h n a es fp → Tr S t h n a es
  | 0, _, _, _, _, ⟨l, c, xs, kids, h1, h2, h3, h4⟩ => ⟨cr, l, c, xs, kids, h1, hc, h2, h3⟩
  | h + 1, _, _, _, _, ⟨l, c, xs, kids, h1, h2, h3, h4⟩ => ⟨cr, l, c, xs, kids, h1.mono rfl rfl rfl fun k m q => ⟨q.1, q.2.elim (fun q => q.1.sup hz) fun q => Own.tr hz hc q⟩, hc, h2, h3⟩
theorem KidP.frame {Z S S' : Store} {cr : Addr} {t h : Nat} {k : Kd} (q : KidP Z S cr t h k) (hs : ∀ b ∈ k.fp, S' b = S b) : KidP Z S' cr t h k := by
  cases h with
  | zero => exact q
  | succ h => exact ⟨q.1, q.2.imp id fun q => q.frame hs⟩
theorem KidP.sup {Z S S' : Store} {cr : Addr} {t h : Nat} {k : Kd} (q : KidP Z S cr t h k) (hs : Sup S S') : KidP Z S' cr t h k := by
  cases h with
  | zero => exact q
  | succ h => exact ⟨q.1, q.2.imp id fun q => q.sup hs⟩
theorem KidP.live {Z S : Store} {cr : Addr} {t h : Nat} {k : Kd} (q : KidP Z S cr t h k) : ∀ b ∈ k.fp, ∃ c, S b = some c := fun b hb => by
  cases h with
  | zero => exact q.elim
  | succ h => rcases q.2 with q | q
              · rw [q.2] at hb; cases hb
              · exact q.live b hb
theorem KidP.tr {Z S : Store} {cr : Addr} {t h : Nat} {k : Kd} (q : KidP Z S cr t h k) (hz : Sup Z S) (hc : S cr = some creC) : KidT S t h k := by
  cases h with
  | zero => exact q
  | succ h => exact ⟨q.1, q.2.elim (fun q => q.1.sup hz) fun q => q.tr hz hc⟩

/-! ## What surrounds a tree that may be turned -/
structure Ctx (Z σ : Store) (cr : Addr) (t : Nat) (fp : List Addr) (es : List El) : Prop where
  t3 : 3 ≤ t
  t4 : t ≤ 4
  sup : Sup Z σ
  crc : σ cr = some creC
  zcr : Z cr = none
  crf : cr ∉ fp
  nd : fp.Nodup
  out : ∀ b ∈ fp, Z b = none
  els : ∀ e ∈ es, ElOk Z e
  ris : Rising (ksOf es)
structure OT (Z σ : Store) (cr : Addr) (t h n : Nat) (a : Addr) (es : List El) (fp : List Addr) : Prop where
  own : Own Z σ cr t h n a es fp
  cx : Ctx Z σ cr t fp es
structure Nod (Z σ : Store) (cr : Addr) (t h : Nat) (a l c : Addr) (xs : List El) (kids : List Kd) : Prop where
  nd : Nd σ t (h == 0) (KidP Z σ cr t h) cr a l c xs kids
  cx : Ctx Z σ cr t (fpOf a l c kids) (weave kids xs)
theorem OT.open {Z σ : Store} {cr : Addr} {t h n : Nat} {a : Addr} {es : List El} {fp : List Addr} (o : OT Z σ cr t h n a es fp) : ∃ l c xs kids, Nod Z σ cr t h a l c xs kids ∧ es = weave kids xs ∧ n = xs.length ∧ fp = fpOf a l c kids := by
  obtain ⟨l, c, xs, kids, h1, rfl, rfl, rfl⟩ := Own_iff.mp o.own
  exact ⟨l, c, xs, kids, ⟨h1, o.cx⟩, rfl, rfl, rfl⟩
theorem Nod.shut {Z σ : Store} {cr : Addr} {t h : Nat} {a l c : Addr} {xs : List El} {kids : List Kd} (o : Nod Z σ cr t h a l c xs kids) : OT Z σ cr t h xs.length a (weave kids xs) (fpOf a l c kids) :=
  ⟨Own_iff.mpr ⟨l, c, xs, kids, o.nd, rfl, rfl, rfl⟩, o.cx⟩
theorem Ctx.sup' {Z σ σ' : Store} {cr : Addr} {t : Nat} {fp : List Addr} {es : List El} (o : Ctx Z σ cr t fp es) (hs : Sup σ σ') : Ctx Z σ' cr t fp es :=
  ⟨o.t3, o.t4, o.sup.trans hs, hs _ _ o.crc, o.zcr, o.crf, o.nd, o.out, o.els, o.ris⟩
theorem OT.sup {Z σ σ' : Store} {cr : Addr} {t h n : Nat} {a : Addr} {es : List El} {fp : List Addr} (o : OT Z σ cr t h n a es fp) (hs : Sup σ σ') : OT Z σ' cr t h n a es fp := ⟨o.own.sup hs, o.cx.sup' hs⟩
theorem Nod.sup {Z σ σ' : Store} {cr : Addr} {t h : Nat} {a l c : Addr} {xs : List El} {kids : List Kd} (o : Nod Z σ cr t h a l c xs kids) (hs : Sup σ σ') : Nod Z σ' cr t h a l c xs kids :=
  ⟨o.nd.sup hs fun k _ q => q.sup hs, o.cx.sup' hs⟩
/-- what a step does to the store: it turns the footprint alone, and the new footprint is of the old one and of new cells -/
structure Step (fp fp' : List Addr) (σ σ' : Store) : Prop where
  keep : ∀ b c, b ∉ fp → σ b = some c → σ' b = some c
  new : ∀ b ∈ fp', b ∈ fp ∨ σ b = none
theorem Step.trans {fp fp' fp'' : List Addr} {σ σ' σ'' : Store} (h : Step fp fp' σ σ') (k : Step fp' fp'' σ' σ'') : Step fp fp'' σ σ'' :=
  ⟨fun b c hb e => k.keep b c (fun q => (h.new b q).elim hb fun z => by rw [e] at z; cases z) (h.keep b c hb e), fun b hb => (k.new b hb).elim (h.new b) fun z => by
    by_cases q : b ∈ fp
    · exact .inl q
    · cases e : σ b with
      | none => exact .inr rfl
      | some c => rw [h.keep b c q e] at z; cases z⟩
theorem Step.sup {fp : List Addr} {σ σ' : Store} (h : Sup σ σ') : Step fp fp σ σ' := ⟨fun b c _ e => h b c e, fun b hb => .inl hb⟩
theorem Step.refl {fp : List Addr} {σ : Store} : Step fp fp σ σ := .sup (.refl _)
/-- a step of a part is a step of the whole -/
theorem Step.part {A B K K' : List Addr} {σ σ' : Store} (h : Step K K' σ σ') : Step (A ++ (K ++ B)) (A ++ (K' ++ B)) σ σ' :=
  ⟨fun b c hb e => h.keep b c (fun q => hb (by simp [q])) e, fun b hb => by
    simp only [List.mem_append] at hb ⊢
    rcases hb with q | q | q
    · exact .inl (.inl q)
    · exact (h.new b q).imp (fun q => .inr (.inl q)) id
    · exact .inl (.inr (.inr q))⟩
theorem nodup_part {A B K K' : List Addr} {σ σ' : Store} (h : Step K K' σ σ') (hn : (A ++ (K ++ B)).Nodup) (hk : K'.Nodup) (hl : ∀ b ∈ A ++ B, ∃ c, σ b = some c) : (A ++ (K' ++ B)).Nodup := by
  have key : ∀ b ∈ K', b ∈ A ++ B → False := fun b hb hab => by
    rcases h.new b hb with q | q
    · simp only [List.nodup_append, List.mem_append] at hn hab
      rcases hab with r | r
      · exact hn.2.2 b r b (.inl q) rfl
      · exact hn.2.1.2.2 b q b r rfl
    · obtain ⟨c, e⟩ := hl b hab; rw [q] at e; cases e
  simp only [List.nodup_append, List.mem_append] at hn key ⊢
  refine ⟨hn.1, ⟨hk, hn.2.1.2.1, fun x hx y hy e => key x hx (.inr (e ▸ hy))⟩, fun x hx y hy e => ?_⟩
  rcases hy with hy | hy
  · exact key y hy (.inl (e ▸ hx))
  · exact hn.2.2 x hx y (.inr hy) e
/-- what a whole keeps when a part of it is turned -/
theorem Step.off {A B K K' : List Addr} {σ σ' : Store} (h : Step K K' σ σ') (hn : (A ++ (K ++ B)).Nodup) (hl : ∀ b ∈ A ++ B, ∃ c, σ b = some c) : ∀ b ∈ A ++ B, σ' b = σ b := fun b hb => by
  obtain ⟨c, e⟩ := hl b hb
  rw [e]
  refine h.keep b c (fun q => ?_) e
  simp only [List.nodup_append, List.mem_append] at hn hb
  rcases hb with r | r
  · exact hn.2.2 b r b (.inl q) rfl
  · exact hn.2.1.2.2 b q b r rfl
end
section
theorem mem_weave {e : El} : ∀ {kids : List Kd} {xs : List El}, e ∈ weave kids xs ↔ (∃ k ∈ kids, e ∈ k.es) ∨ e ∈ xs
  | [], xs => by simp [weave]
  | k :: ks, [] => by simp [weave, mem_weave (kids := ks)]
  | k :: ks, x :: xs => by simp [weave, mem_weave (kids := ks)]; grind
theorem sub_weave {k : Kd} : ∀ {kids : List Kd} {xs : List El}, k ∈ kids → k.es.Sublist (weave kids xs)
  | k' :: ks, [], h => by
    rcases List.mem_cons.mp h with rfl | h
    · exact List.sublist_append_left _ _
    · exact (sub_weave h).trans (List.sublist_append_right _ _)
  | k' :: ks, x :: xs, h => by
    rcases List.mem_cons.mp h with rfl | h
    · exact List.sublist_append_left _ _
    · exact ((sub_weave h).trans (List.sublist_cons_self _ _)).trans (List.sublist_append_right _ _)
theorem xs_weave : ∀ {kids : List Kd} {xs : List El}, xs.Sublist (weave kids xs)
  | [], xs => List.Sublist.refl _
  | k :: ks, [] => List.nil_sublist _
  | k :: ks, x :: xs => ((xs_weave (kids := ks)).cons_cons x).trans (List.sublist_append_right _ _)
theorem Rising.sub {es es' : List El} (h : Rising (ksOf es)) (s : es'.Sublist es) : Rising (ksOf es') := List.Pairwise.sublist (s.map El.k) h
theorem fpOf_split {a l c : Addr} {pre post : List Kd} {K : Kd} : fpOf a l c (pre ++ K :: post) = (a :: l :: c :: pre.flatMap Kd.fp) ++ (K.fp ++ post.flatMap Kd.fp) := by
  simp [fpOf]
section
variable {Z σ σ' σ'' : Store} {cr : Addr} {t h n : Nat} {a l c : Addr} {xs : List El} {kids pre post : List Kd} {K K' : Kd}
theorem Nod.live (o : Nod Z σ cr t h a l c xs kids) : ∀ b ∈ fpOf a l c kids, ∃ cb, σ b = some cb := o.shut.own.live
theorem Nod.xsOk (o : Nod Z σ cr t h a l c xs kids) : ∀ e ∈ xs, ElOk Z e := fun e he => o.cx.els e (mem_weave.mpr (.inr he))
theorem Nod.xsRis (o : Nod Z σ cr t h a l c xs kids) : Rising (ksOf xs) := o.cx.ris.sub xs_weave
theorem Nod.ne (o : Nod Z σ cr t h a l c xs kids) : a ≠ l ∧ a ≠ c ∧ l ≠ c := by
  have := o.cx.nd
  simp only [fpOf, List.nodup_cons, List.mem_cons, not_or] at this
  exact ⟨this.1.1, this.1.2.1, this.2.1.1⟩
theorem Nod.kidOT (o : Nod Z σ cr t (h + 1) a l c xs kids) (hk : K ∈ kids) (q : Own Z σ cr t h K.n K.a K.es K.fp) : OT Z σ cr t h K.n K.a K.es K.fp := by
  have hf : K.fp.Sublist (fpOf a l c kids) := by
    refine .cons _ (.cons _ (.cons _ ?_))
    obtain ⟨p, r, rfl⟩ := List.append_of_mem hk
    rw [List.flatMap_append, List.flatMap_cons]
    exact (List.sublist_append_left _ _).trans (List.sublist_append_right _ _)
  refine ⟨q, o.cx.t3, o.cx.t4, o.cx.sup, o.cx.crc, o.cx.zcr, fun q => o.cx.crf (hf.subset q), o.cx.nd.sublist hf, fun b hb => o.cx.out b (hf.subset hb), fun e he => o.cx.els e (mem_weave.mpr (.inl ⟨K, hk, he⟩)), o.cx.ris.sub (sub_weave hk)⟩
theorem Nod.kidN (o : Nod Z σ cr t (h + 1) a l c xs kids) (hk : K ∈ kids) : t - 1 ≤ K.n := (o.nd.kid K hk).1
/-- a node is turned: its lists, and some of its children -/
theorem Nod.turn {mid mid' : List Kd} {xs' : List El} (o : Nod Z σ cr t h a l c xs (pre ++ (mid ++ post))) (hk : ∀ k ∈ mid', KidP Z σ'' cr t h k) (hn : (mid'.flatMap Kd.fp).Nodup)
    (keep : ∀ b cb, b ∉ mid.flatMap Kd.fp → b ≠ l → b ≠ c → σ b = some cb → σ'' b = some cb) (new : ∀ b ∈ mid'.flatMap Kd.fp, b ∈ mid.flatMap Kd.fp ∨ σ b = none)
    (hl : σ'' l = some (.list (xs'.map El.r))) (hc : σ'' c = some (.list ((pre ++ (mid' ++ post)).map Kd.r))) (hi : xs'.length ≤ 2 * t - 1) (num : (pre ++ (mid' ++ post)).length = if (h == 0) then 0 else xs'.length + 1)
    (els : ∀ e ∈ weave (pre ++ (mid' ++ post)) xs', ElOk Z e) (ris : Rising (ksOf (weave (pre ++ (mid' ++ post)) xs'))) :
    Nod Z σ'' cr t h a l c xs' (pre ++ (mid' ++ post)) ∧ Step (fpOf a l c (pre ++ (mid ++ post))) (fpOf a l c (pre ++ (mid' ++ post))) σ σ'' := by
  have fpE : ∀ M : List Kd, fpOf a l c (pre ++ (M ++ post)) = (a :: l :: c :: pre.flatMap Kd.fp) ++ (M.flatMap Kd.fp ++ post.flatMap Kd.fp) := fun M => by simp [fpOf]
  have nd := o.cx.nd
  have lv := o.live
  have out := o.cx.out
  have crf := o.cx.crf
  rw [fpE] at nd lv out crf
  obtain ⟨n1, n2, n3⟩ := o.ne
  have hlv : ∀ b ∈ (a :: l :: c :: pre.flatMap Kd.fp) ++ post.flatMap Kd.fp, ∃ cb, σ b = some cb := fun b hb => lv b (by simp only [List.mem_append] at hb ⊢; exact hb.imp id .inr)
  have nd' := nodup_part (A := a :: l :: c :: pre.flatMap Kd.fp) (B := post.flatMap Kd.fp) (⟨fun b cb hb e => e, new⟩ : Step (mid.flatMap Kd.fp) (mid'.flatMap Kd.fp) σ σ) nd hn hlv
  have zl : Z l = none := out l (by simp)
  have zc : Z c = none := out c (by simp)
  have hmid : ∀ b, (b = a ∨ b = l ∨ b = c ∨ b ∈ pre.flatMap Kd.fp ∨ b ∈ post.flatMap Kd.fp) → b ∉ mid.flatMap Kd.fp := fun b hb q => by
    simp only [List.nodup_append, List.mem_append, List.mem_cons] at nd
    rcases hb with r | r | r | r | r
    · exact nd.2.2 b (.inl r) b (.inl q) rfl
    · exact nd.2.2 b (.inr (.inl r)) b (.inl q) rfl
    · exact nd.2.2 b (.inr (.inr (.inl r))) b (.inl q) rfl
    · exact nd.2.2 b (.inr (.inr (.inr r))) b (.inl q) rfl
    · exact nd.2.1.2.2 b q b r rfl
  have same : ∀ b, b ≠ l → b ≠ c → (b = a ∨ b = l ∨ b = c ∨ b ∈ pre.flatMap Kd.fp ∨ b ∈ post.flatMap Kd.fp) → σ'' b = σ b := fun b h1 h2 hb => by
    obtain ⟨cb, e⟩ := hlv b (by simp only [List.mem_append, List.mem_cons]; rcases hb with r | r | r | r | r <;> simp [r])
    rw [e]; exact keep b cb (hmid b hb) h1 h2 e
  have step : Step (fpOf a l c (pre ++ (mid ++ post))) (fpOf a l c (pre ++ (mid' ++ post))) σ σ'' := by
    rw [fpE, fpE]
    refine ⟨fun b cb hb e => keep b cb (fun q => hb (by simp [q])) (fun q => hb (by simp [q])) (fun q => hb (by simp [q])) e, fun b hb => ?_⟩
    simp only [List.mem_append] at hb ⊢
    rcases hb with q | q | q
    · exact .inl (.inl q)
    · exact (new b q).imp (fun q => .inr (.inl q)) id
    · exact .inl (.inr (.inr q))
  have notlc : ∀ b, b ∈ pre.flatMap Kd.fp ∨ b ∈ post.flatMap Kd.fp → b ≠ l ∧ b ≠ c := fun b hb => by
    simp only [List.cons_append, List.nodup_cons, List.mem_append, List.mem_cons, not_or] at nd
    refine ⟨fun q => ?_, fun q => ?_⟩ <;> subst q
    · exact hb.elim nd.2.1.2.1 nd.2.1.2.2.2
    · exact hb.elim nd.2.2.1.1 nd.2.2.1.2.2
  refine ⟨⟨⟨?_, hl, hc, hi, num, fun k hk' => ?_⟩, o.cx.t3, o.cx.t4, ?_, ?_, o.cx.zcr, ?_, ?_, ?_, els, ris⟩, step⟩
  · rw [same a n1 n2 (.inl rfl)]; exact o.nd.node
  · rcases List.mem_append.mp hk' with m | m
    · exact (o.nd.kid k (List.mem_append.mpr (.inl m))).frame fun b hb' => by
        have q := List.mem_flatMap.mpr ⟨k, m, hb'⟩
        exact same b (notlc b (.inl q)).1 (notlc b (.inl q)).2 (.inr (.inr (.inr (.inl q))))
    · rcases List.mem_append.mp m with m | m
      · exact hk k m
      · exact (o.nd.kid k (List.mem_append.mpr (.inr (List.mem_append.mpr (.inr m))))).frame fun b hb' => by
          have q := List.mem_flatMap.mpr ⟨k, m, hb'⟩
          exact same b (notlc b (.inr q)).1 (notlc b (.inr q)).2 (.inr (.inr (.inr (.inr q))))
  · intro b cb e
    have hb : b ∉ mid.flatMap Kd.fp := fun q => by have := out b (by simp [q]); rw [e] at this; cases this
    exact keep b cb hb (fun q => by subst q; rw [zl] at e; cases e) (fun q => by subst q; rw [zc] at e; cases e) (o.cx.sup b cb e)
  · exact keep cr creC (fun q => crf (by simp [q])) (fun q => crf (by simp [q])) (fun q => crf (by simp [q])) o.cx.crc
  · intro q
    rcases step.new cr q with r | r
    · rw [fpE] at r; exact crf r
    · rw [o.cx.crc] at r; cases r
  · rw [fpE]; exact nd'
  · intro b hb'
    rcases step.new b hb' with r | r
    · exact o.cx.out b r
    · cases q : Z b with
      | none => rfl
      | some cb => rw [o.cx.sup b cb q] at r; cases r
/-- a child is turned, or another put in its place -/
theorem Nod.swap (o : Nod Z σ cr t (h + 1) a l c xs (pre ++ K :: post)) (q : OT Z σ' cr t h K'.n K'.a K'.es K'.fp) (hn : t - 1 ≤ K'.n) (hs : Step K.fp K'.fp σ σ')
    (hc : σ'' c = some (.list ((pre ++ K' :: post).map Kd.r))) (hb : ∀ b, b ≠ c → σ'' b = σ' b) (ris : Rising (ksOf (weave (pre ++ K' :: post) xs))) :
    Nod Z σ'' cr t (h + 1) a l c xs (pre ++ K' :: post) ∧ Step (fpOf a l c (pre ++ K :: post)) (fpOf a l c (pre ++ K' :: post)) σ σ'' := by
  obtain ⟨n1, n2, n3⟩ := o.ne
  have nd := o.cx.nd
  rw [fpOf_split] at nd
  simp only [List.cons_append, List.nodup_cons, List.mem_append, List.mem_cons, not_or] at nd
  have hl : σ'' l = some (.list (xs.map El.r)) := by rw [hb l n3]; exact hs.keep l _ nd.2.1.2.2.1 o.nd.el
  have hcn : c ∉ K'.fp := fun z => (hs.new c z).elim nd.2.2.1.2.1 fun e => by rw [o.nd.ch] at e; cases e
  have := Nod.turn (σ'' := σ'') (pre := pre) (post := post) (mid := [K]) (mid' := [K']) (xs' := xs) o (fun k hk => by
      rw [List.mem_singleton] at hk; subst hk
      exact ⟨hn, .inr (q.own.frame fun b hb' => hb b fun z => hcn (z ▸ hb'))⟩) (by simpa using q.cx.nd) (fun b cb h1 h2 h3 e => by rw [hb b h3]; exact hs.keep b cb (by simpa using h1) e) (by simpa using hs.new)
    hl hc o.nd.hi (by have := o.nd.num; simpa using this) (fun e he => by
      rcases mem_weave.mp he with ⟨k, hk, he2⟩ | he2
      · rcases List.mem_append.mp hk with m | m
        · exact o.cx.els e (mem_weave.mpr (.inl ⟨k, List.mem_append.mpr (.inl m), he2⟩))
        · rcases List.mem_cons.mp m with rfl | m
          · exact q.cx.els e he2
          · exact o.cx.els e (mem_weave.mpr (.inl ⟨k, List.mem_append.mpr (.inr (.tail _ m)), he2⟩))
      · exact o.xsOk e he2) ris
  exact this
theorem weave_es {pre post : List Kd} {K K' : Kd} (h : K'.es = K.es) : ∀ xs, weave (pre ++ K' :: post) xs = weave (pre ++ K :: post) xs := by
  induction pre with
  | nil => intro xs; cases xs <;> simp [weave, h]
  | cons p pre ih => intro xs; cases xs <;> simp [weave, ih]
end
end
section
theorem elts_of {S : Store} : ∀ {xs : List El}, (∀ e ∈ xs, ElOk S e) → Elts S (xs.map El.r) (ksOf xs)
  | [], _ => trivial
  | x :: xs, h => by
    obtain ⟨kt, vt, e⟩ := h x (.head _)
    exact ⟨⟨x.a, kt, _, rfl, e⟩, elts_of fun e he => h e (.tail _ he)⟩
def look (key : Int) (es : List El) : Option El := es.find? fun e => e.k == key
def insE (e : El) : List El → List El
  | [] => [e]
  | x :: r => if x.k < e.k then x :: insE e r else if x.k = e.k then e :: r else e :: x :: r
def delE (key : Int) (es : List El) : List El := es.filter fun e => e.k != key
def tlW (post : List Kd) : List El → List El
  | [] => weave post []
  | x :: xr => x :: weave post xr
theorem weave_cons (K : Kd) (post : List Kd) (xr : List El) : weave (K :: post) xr = K.es ++ tlW post xr := by cases xr <;> rfl
theorem weave_mid {pre post : List Kd} {K : Kd} {xl xr : List El} (h : pre.length = xl.length) : weave (pre ++ K :: post) (xl ++ xr) = weave pre xl ++ (K.es ++ tlW post xr) := by rw [weave_app h, weave_cons]
theorem weave_snoc {pre : List Kd} {K : Kd} {xl : List El} {x : El} (h : pre.length = xl.length) : weave (pre ++ [K]) (xl ++ [x]) = weave pre xl ++ (K.es ++ [x]) := by rw [weave_app h]; rfl
theorem posOf_le (key : Int) (ks : List Int) : posOf key ks ≤ ks.length := by
  induction ks with
  | nil => exact Nat.le_refl _
  | cons k r ih => unfold posOf; split <;> simp <;> omega
/-- the place splits the elements -/
theorem pos_split (key : Int) (xs : List El) : ∃ xl xr, xs = xl ++ xr ∧ xl.length = posOf key (ksOf xs) ∧ (∀ x ∈ xl, x.k < key) ∧ (∀ x r, xr = x :: r → key ≤ x.k) ∧ (isAt key (ksOf xs) = true ↔ ∃ x r, xr = x :: r ∧ x.k = key) := by
  induction xs with
  | nil => exact ⟨[], [], rfl, rfl, by simp, by simp, by simp [isAt, posOf]⟩
  | cons x xs ih =>
    by_cases q : x.k < key
    · obtain ⟨xl, xr, h1, h2, h3, h4, h5⟩ := ih
      refine ⟨x :: xl, xr, by rw [h1]; rfl, ?_, ?_, h4, ?_⟩
      · simp [ksOf, posOf, q, h2]
      · intro y hy; rcases List.mem_cons.mp hy with rfl | hy
        · exact q
        · exact h3 y hy
      · rw [← h5]; simp [isAt, ksOf, posOf, q]
    · refine ⟨[], x :: xs, rfl, by simp [ksOf, posOf, q], by simp, ?_, ?_⟩
      · intro y r e; cases e; omega
      · simp [isAt, ksOf, posOf, q]
theorem place (key : Int) (xs : List El) : ∃ xl xr, xs = xl ++ xr ∧ posOf key (ksOf xs) = xl.length ∧ (∀ x ∈ xl, x.k < key) ∧ ((isAt key (ksOf xs) = true ∧ ∃ x r, xr = x :: r ∧ x.k = key) ∨ (isAt key (ksOf xs) = false ∧ ∀ x r, xr = x :: r → key < x.k)) := by
  obtain ⟨xl, xr, h1, h2, h3, h4, h5⟩ := pos_split key xs
  refine ⟨xl, xr, h1, h2.symm, h3, ?_⟩
  cases hb : isAt key (ksOf xs) with
  | true => exact .inl ⟨rfl, h5.mp hb⟩
  | false => exact .inr ⟨rfl, fun x r e => by
      have := h4 x r e
      rcases Int.lt_or_eq_of_le this with q | q
      · exact q
      · have := h5.mpr ⟨x, r, e, q.symm⟩; rw [hb] at this; cases this⟩
theorem gt_xs {xr : List El} {key : Int} (r : Rising (ksOf xr)) (hx : ∀ x r, xr = x :: r → key < x.k) : ∀ e ∈ xr, key < e.k := by
  intro e he
  cases xr with
  | nil => cases he
  | cons x xr =>
    have hxk := hx x xr rfl
    rcases List.mem_cons.mp he with rfl | he
    · exact hxk
    · have := (List.pairwise_cons.mp r).1 e.k (List.mem_map.mpr ⟨e, he, rfl⟩)
      omega
theorem kid_split {kids : List Kd} {xl xr : List El} (h : kids.length = (xl ++ xr).length + 1) : ∃ pre K post, kids = pre ++ K :: post ∧ pre.length = xl.length ∧ post.length = xr.length := by
  have hl : xl.length < kids.length := by rw [h, List.length_append]; omega
  refine ⟨kids.take xl.length, kids[xl.length], kids.drop (xl.length + 1), ?_, by simp; omega, by simp [h]⟩
  rw [← List.drop_eq_getElem_cons hl, List.take_append_drop]
theorem lt_left {pre : List Kd} : ∀ {xl : List El} {key : Int}, pre.length = xl.length → Rising (ksOf (weave pre xl)) → (∀ x ∈ xl, x.k < key) → ∀ e ∈ weave pre xl, e.k < key := by
  intro xl key h r hx e he
  rcases List.eq_nil_or_concat xl with rfl | ⟨xl, x, rfl⟩
  · rw [List.length_nil, List.length_eq_zero_iff] at h; subst h; cases he
  · rcases List.eq_nil_or_concat pre with rfl | ⟨pre, K, rfl⟩
    · simp at h
    · simp only [List.concat_eq_append] at *
      have h' : pre.length = xl.length := by simpa using h
      rw [weave_snoc h', ← List.append_assoc] at r he
      have hxk := hx x (by simp)
      rcases List.mem_append.mp he with m | m
      · simp only [Rising, ksOf, List.map_append, List.map_cons, List.map_nil] at r
        have := (List.pairwise_append.mp r).2.2 e.k (List.mem_append.mpr ((List.mem_append.mp m).imp (fun z => List.mem_map.mpr ⟨e, z, rfl⟩) (fun z => List.mem_map.mpr ⟨e, z, rfl⟩))) x.k (by simp)
        omega
      · rw [List.mem_singleton] at m; subst m; exact hxk
theorem gt_right {post : List Kd} : ∀ {xr : List El} {key : Int}, post.length = xr.length → Rising (ksOf (tlW post xr)) → (∀ x r, xr = x :: r → key < x.k) → ∀ e ∈ tlW post xr, key < e.k := by
  intro xr key h r hx e he
  cases xr with
  | nil => rw [List.length_nil, List.length_eq_zero_iff] at h; subst h; cases he
  | cons x xr =>
    have hxk := hx x xr rfl
    rcases List.mem_cons.mp he with rfl | he
    · exact hxk
    · have := (List.pairwise_cons.mp r).1 e.k (List.mem_map.mpr ⟨e, he, rfl⟩)
      omega
theorem Rising.left {A B : List El} (h : Rising (ksOf (A ++ B))) : Rising (ksOf A) := h.sub (List.sublist_append_left _ _)
theorem Rising.right {A B : List El} (h : Rising (ksOf (A ++ B))) : Rising (ksOf B) := h.sub (List.sublist_append_right _ _)
theorem Rising.cross {A B : List El} (h : Rising (ksOf (A ++ B))) {x y : El} (hx : x ∈ A) (hy : y ∈ B) : x.k < y.k := by
  simp only [Rising, ksOf, List.map_append] at h
  exact (List.pairwise_append.mp h).2.2 x.k (List.mem_map.mpr ⟨x, hx, rfl⟩) y.k (List.mem_map.mpr ⟨y, hy, rfl⟩)
/-- the key lies in the child at its place -/
theorem cut {pre post : List Kd} {K : Kd} {xl xr : List El} {key : Int} (h1 : pre.length = xl.length) (h2 : post.length = xr.length) (r : Rising (ksOf (weave (pre ++ K :: post) (xl ++ xr)))) (hl : ∀ x ∈ xl, x.k < key) (hr : ∀ x r, xr = x :: r → key < x.k) :
    (∀ e ∈ weave pre xl, e.k < key) ∧ (∀ e ∈ tlW post xr, key < e.k) := by
  rw [weave_mid h1] at r
  exact ⟨lt_left h1 r.left hl, gt_right h2 r.right.right hr⟩
theorem look_app {key : Int} {A M B : List El} (ha : ∀ e ∈ A, e.k < key) (hb : ∀ e ∈ B, key < e.k) : look key (A ++ (M ++ B)) = look key M := by
  unfold look
  have h1 : A.find? (fun e => e.k == key) = none := List.find?_eq_none.mpr fun e he => by have := ha e he; simp; omega
  have h2 : B.find? (fun e => e.k == key) = none := List.find?_eq_none.mpr fun e he => by have := hb e he; simp; omega
  rw [List.find?_append, List.find?_append, h1, h2]
  simp
theorem look_none {key : Int} {A B : List El} (ha : ∀ e ∈ A, e.k < key) (hb : ∀ e ∈ B, key < e.k) : look key (A ++ B) = none := by
  unfold look
  refine List.find?_eq_none.mpr fun e he => ?_
  rcases List.mem_append.mp he with m | m
  · have := ha e m; simp; omega
  · have := hb e m; simp; omega
theorem look_hit {key : Int} {es : List El} (r : Rising (ksOf es)) {x : El} (hx : x ∈ es) (hk : x.k = key) : look key es = some x := by
  obtain ⟨A, B, rfl⟩ := List.append_of_mem hx
  unfold look
  have h1 : A.find? (fun e => e.k == key) = none := List.find?_eq_none.mpr fun e he => by have := r.cross he (.head _ : x ∈ x :: B); simp; omega
  rw [List.find?_append, h1]
  simp [hk]
theorem insE_left {e : El} {A B : List El} (h : ∀ x ∈ A, x.k < e.k) : insE e (A ++ B) = A ++ insE e B := by
  induction A with
  | nil => rfl
  | cons x A ih =>
    show (if x.k < e.k then x :: insE e (A ++ B) else if x.k = e.k then e :: (A ++ B) else e :: x :: (A ++ B)) = _
    rw [if_pos (h x (.head _)), ih fun y hy => h y (.tail _ hy)]; rfl
theorem insE_right {e : El} {A B : List El} (h : ∀ x ∈ B, e.k < x.k) : insE e (A ++ B) = insE e A ++ B := by
  induction A with
  | nil =>
    cases B with
    | nil => rfl
    | cons x B => have := h x (.head _); show insE e (x :: B) = e :: x :: B; unfold insE; rw [if_neg (by omega), if_neg (by omega)]
  | cons x A ih =>
    show insE e (x :: (A ++ B)) = _
    unfold insE; split
    · rw [ih]; rfl
    · split <;> rfl
theorem insE_mid {e : El} {A M B : List El} (ha : ∀ x ∈ A, x.k < e.k) (hb : ∀ x ∈ B, e.k < x.k) : insE e (A ++ (M ++ B)) = A ++ (insE e M ++ B) := by rw [insE_left ha, insE_right hb]
theorem insE_hit {e x : El} {A B : List El} (ha : ∀ x ∈ A, x.k < e.k) (hx : x.k = e.k) : insE e (A ++ x :: B) = A ++ e :: B := by
  rw [insE_left ha]; unfold insE; rw [if_neg (by omega), if_pos hx]
theorem insE_new {e : El} {A B : List El} (ha : ∀ x ∈ A, x.k < e.k) (hb : ∀ x ∈ B, e.k < x.k) : insE e (A ++ B) = A ++ e :: B := by
  rw [insE_left ha]; have := insE_right (A := []) hb; rw [List.nil_append] at this; rw [this]; rfl
theorem mem_insE {e y : El} {es : List El} (h : y ∈ insE e es) : y = e ∨ y ∈ es := by
  induction es with
  | nil => simp [insE] at h; exact .inl h
  | cons x es ih =>
    unfold insE at h; split at h
    · rcases List.mem_cons.mp h with rfl | h
      · exact .inr (.head _)
      · exact (ih h).imp id (.tail _)
    · split at h
      · rcases List.mem_cons.mp h with rfl | h
        · exact .inl rfl
        · exact .inr (.tail _ h)
      · rcases List.mem_cons.mp h with rfl | h
        · exact .inl rfl
        · exact .inr h
theorem insE_ris {e : El} {es : List El} (r : Rising (ksOf es)) : Rising (ksOf (insE e es)) := by
  induction es with
  | nil => exact List.pairwise_singleton ..
  | cons x es ih =>
    have h1 := List.pairwise_cons.mp r
    have h1' : ∀ y ∈ es, x.k < y.k := fun y hy => h1.1 y.k (List.mem_map.mpr ⟨y, hy, rfl⟩)
    unfold insE; split
    · refine List.pairwise_cons.mpr ⟨fun k hk => ?_, ih h1.2⟩
      obtain ⟨y, hy, rfl⟩ := List.mem_map.mp hk
      rcases mem_insE hy with rfl | hy
      · assumption
      · exact h1' y hy
    · split
      · rename_i q1 q2
        exact List.pairwise_cons.mpr ⟨fun k hk => by rw [← q2]; exact h1.1 k hk, h1.2⟩
      · refine List.pairwise_cons.mpr ⟨fun k hk => ?_, r⟩
        rcases List.mem_cons.mp hk with rfl | hk
        · omega
        · have := h1.1 k hk; omega
end
section
theorem weave_pair {pre post : List Kd} {K R : Kd} {xl xr : List El} {x : El} (h : pre.length = xl.length) : weave (pre ++ ([K, R] ++ post)) (xl ++ x :: xr) = weave pre xl ++ (K.es ++ x :: (R.es ++ tlW post xr)) := by
  rw [weave_app h]
  show weave pre xl ++ (K.es ++ x :: weave (R :: post) xr) = _
  rw [weave_cons]
theorem weave_one {pre post : List Kd} {K : Kd} {xl xr : List El} (h : pre.length = xl.length) : weave (pre ++ ([K] ++ post)) (xl ++ xr) = weave pre xl ++ (K.es ++ tlW post xr) := weave_mid h
theorem nodup_join {A B A' B' P Q : List Addr} (h : (P ++ (A ++ B)).Nodup) (hp : (A' ++ B').Perm (A ++ B)) : (P ++ (A' ++ B')).Nodup := (List.Perm.append_left P hp).nodup_iff.mpr h
section
variable {Z σ T : Store} {cr : Addr} {t h : Nat} {a l c ka kl kc ra rl rc : Addr} {xl xr kxs rxs kxs' rxs' : List El} {x y : El} {kks rks kks' rks' pre post : List Kd} {K R : Kd}
/-- two neighbours are turned, and what stands between them -/
theorem pair_fin (o : Nod Z σ cr t (h + 1) a l c (xl ++ x :: xr) (pre ++ ([K, R] ++ post))) (hpre : pre.length = xl.length)
    (oK : Nod Z σ cr t h ka kl kc kxs kks) (eK : K.es = weave kks kxs) (hK : K.fp = fpOf ka kl kc kks) (aK : K.a = ka) (oR : Nod Z σ cr t h ra rl rc rxs rks) (eR : R.es = weave rks rxs) (hR : R.fp = fpOf ra rl rc rks) (aR : R.a = ra)
    (agree : ∀ b, b ≠ l → b ≠ kl → b ≠ kc → b ≠ rl → b ≠ rc → T b = σ b)
    (tl : T l = some (.list ((xl ++ y :: xr).map El.r))) (t1 : T kl = some (.list (kxs'.map El.r))) (t2 : T kc = some (.list (kks'.map Kd.r))) (t3 : T rl = some (.list (rxs'.map El.r))) (t4 : T rc = some (.list (rks'.map Kd.r)))
    (perm : (kks' ++ rks').Perm (kks ++ rks)) (u1 : kxs'.length ≤ 2 * t - 1) (u2 : rxs'.length ≤ 2 * t - 1) (v1 : t - 1 ≤ kxs'.length) (v2 : t - 1 ≤ rxs'.length)
    (n1 : kks'.length = if (h == 0) then 0 else kxs'.length + 1) (n2 : rks'.length = if (h == 0) then 0 else rxs'.length + 1) (hes : weave kks' kxs' ++ y :: weave rks' rxs' = weave kks kxs ++ x :: weave rks rxs) :
    Nod Z T cr t (h + 1) a l c (xl ++ y :: xr) (pre ++ ([⟨ka, weave kks' kxs', fpOf ka kl kc kks', kxs'.length⟩, ⟨ra, weave rks' rxs', fpOf ra rl rc rks', rxs'.length⟩] ++ post)) ∧
      Step (fpOf a l c (pre ++ ([K, R] ++ post))) (fpOf a l c (pre ++ ([⟨ka, weave kks' kxs', fpOf ka kl kc kks', kxs'.length⟩, ⟨ra, weave rks' rxs', fpOf ra rl rc rks', rxs'.length⟩] ++ post))) σ T ∧
      Own Z T cr t h kxs'.length ka (weave kks' kxs') (fpOf ka kl kc kks') ∧ Own Z T cr t h rxs'.length ra (weave rks' rxs') (fpOf ra rl rc rks') := by
  have nd := o.cx.nd
  have hfp : [K, R].flatMap Kd.fp = fpOf ka kl kc kks ++ fpOf ra rl rc rks := by simp [hK, hR]
  have nd2 : (fpOf ka kl kc kks ++ fpOf ra rl rc rks).Nodup := by
    rw [← hfp]
    refine nd.sublist (.cons _ (.cons _ (.cons _ ?_)))
    rw [List.flatMap_append, List.flatMap_append]
    exact (List.sublist_append_left _ _).trans (List.sublist_append_right _ _)
  have pf : (kks'.flatMap Kd.fp ++ rks'.flatMap Kd.fp).Perm (kks.flatMap Kd.fp ++ rks.flatMap Kd.fp) := by
    rw [← List.flatMap_append, ← List.flatMap_append]; exact perm.flatMap_right _
  have nd3 : (fpOf ka kl kc kks' ++ fpOf ra rl rc rks').Nodup := by
    have p1 : (fpOf ka kl kc kks ++ fpOf ra rl rc rks).Perm ([ka, kl, kc, ra, rl, rc] ++ (kks.flatMap Kd.fp ++ rks.flatMap Kd.fp)) := by
      have q := List.perm_append_comm_assoc (kks.flatMap Kd.fp) [ra, rl, rc] (rks.flatMap Kd.fp)
      exact ((q.cons kc).cons kl).cons ka
    have p2 : (fpOf ka kl kc kks' ++ fpOf ra rl rc rks').Perm ([ka, kl, kc, ra, rl, rc] ++ (kks'.flatMap Kd.fp ++ rks'.flatMap Kd.fp)) := by
      have q := List.perm_append_comm_assoc (kks'.flatMap Kd.fp) [ra, rl, rc] (rks'.flatMap Kd.fp)
      exact ((q.cons kc).cons kl).cons ka
    exact (p2.trans ((List.Perm.append_left _ pf).trans p1.symm)).nodup_iff.mpr nd2
  have hll : l ∉ fpOf ka kl kc kks ++ fpOf ra rl rc rks ∧ c ∉ fpOf ka kl kc kks ++ fpOf ra rl rc rks := by
    rw [← hfp]
    simp only [fpOf, List.flatMap_append, List.nodup_cons, List.mem_cons, List.mem_append, not_or] at nd
    exact ⟨nd.2.1.2.2.1, nd.2.2.1.2.1⟩
  obtain ⟨q1, q2, q3⟩ := oK.ne
  obtain ⟨q4, q5, q6⟩ := oR.ne
  -- what the children keep
  have off : ∀ b, b ∈ kks.flatMap Kd.fp ∨ b ∈ rks.flatMap Kd.fp ∨ b = ka ∨ b = ra → T b = σ b := fun b hb => by
    have nd4 := nd2
    have hl1 := hll.1
    have hl2 := hll.2
    simp only [fpOf, List.nodup_cons, List.mem_cons, List.mem_append, List.nodup_append, List.cons_append, not_or] at nd4 hl1 hl2
    refine agree b ?_ ?_ ?_ ?_ ?_ <;> rintro rfl <;> clear agree perm pf nd3 <;> grind
  have kid : ∀ k, k ∈ kks' ∨ k ∈ rks' → KidP Z T cr t h k := fun k hk => by
    have : k ∈ kks ++ rks := perm.mem_iff.mp (List.mem_append.mpr hk)
    rcases List.mem_append.mp this with m | m
    · exact (oK.nd.kid k m).frame fun b hb => off b (.inl (List.mem_flatMap.mpr ⟨k, m, hb⟩))
    · exact (oR.nd.kid k m).frame fun b hb => off b (.inr (.inl (List.mem_flatMap.mpr ⟨k, m, hb⟩)))
  have ownK : Own Z T cr t h kxs'.length ka (weave kks' kxs') (fpOf ka kl kc kks') :=
    Own_iff.mpr ⟨kl, kc, kxs', kks', ⟨by rw [off ka (.inr (.inr (.inl rfl)))]; exact oK.nd.node, t1, t2, u1, n1, fun k hk => kid k (.inl hk)⟩, rfl, rfl, rfl⟩
  have ownR : Own Z T cr t h rxs'.length ra (weave rks' rxs') (fpOf ra rl rc rks') :=
    Own_iff.mpr ⟨rl, rc, rxs', rks', ⟨by rw [off ra (.inr (.inr (.inr rfl)))]; exact oR.nd.node, t3, t4, u2, n2, fun k hk => kid k (.inr hk)⟩, rfl, rfl, rfl⟩
  have hw : weave (pre ++ ([⟨ka, weave kks' kxs', fpOf ka kl kc kks', kxs'.length⟩, ⟨ra, weave rks' rxs', fpOf ra rl rc rks', rxs'.length⟩] ++ post)) (xl ++ y :: xr) = weave (pre ++ ([K, R] ++ post)) (xl ++ x :: xr) := by
    rw [weave_pair hpre, weave_pair hpre, eK, eR]
    have : ∀ A B C : List El, A ++ y :: (B ++ C) = (A ++ y :: B) ++ C := fun A B C => by simp
    have this2 : ∀ A B C : List El, A ++ x :: (B ++ C) = (A ++ x :: B) ++ C := fun A B C => by simp
    rw [this, this2, hes]
  have fin := Nod.turn (σ'' := T) (mid := [K, R]) (mid' := [⟨ka, weave kks' kxs', fpOf ka kl kc kks', kxs'.length⟩, ⟨ra, weave rks' rxs', fpOf ra rl rc rks', rxs'.length⟩]) (xs' := xl ++ y :: xr) o
    (fun k hk => by
      rcases List.mem_cons.mp hk with rfl | hk
      · exact ⟨v1, .inr ownK⟩
      · rw [List.mem_singleton] at hk; subst hk; exact ⟨v2, .inr ownR⟩) (by simpa using nd3)
    (fun b cb h1 h2 h3 e => by
      rw [hfp] at h1
      simp only [fpOf, List.mem_append, List.mem_cons, not_or] at h1
      rw [agree b h2 h1.1.2.1 h1.1.2.2.1 h1.2.2.1 h1.2.2.2.1]; exact e)
    (fun b hb => by
      left; rw [hfp]
      have hb' : b ∈ fpOf ka kl kc kks' ++ fpOf ra rl rc rks' := by simpa using hb
      have pm := pf.mem_iff (a := b)
      simp only [fpOf, List.mem_append, List.mem_cons] at hb' pm ⊢
      grind)
    tl (by
      rw [agree c o.ne.2.2.symm (fun z => hll.2 (by simp [z])) (fun z => hll.2 (by simp [z])) (fun z => hll.2 (by simp [z])) (fun z => hll.2 (by simp [z])), o.nd.ch]
      simp [aK, aR]) (by have := o.nd.hi; simpa using this) (by have := o.nd.num; simpa using this) (by rw [hw]; exact o.cx.els) (by rw [hw]; exact o.cx.ris)
  exact ⟨fin.1, fin.2, ownK, ownR⟩
end
end
section
section
variable {g : Gl} {x : Fx} {σ : Store} {m : Loc} {E : Value → Heap → Prop} {a : Addr}
theorem pg_Base (n : Str) : plainGet g.K cBase n = true := by show plainGet g.K cBase "t" = true; kernel_rfl
theorem hd_Base : hasDictIn g.K cBase = true := by kernel_rfl
theorem sa_Base : findIn g.K (.ref cBase) "__setattr__" = some (some (.builtin "object.__setattr__")) := by kernel_rfl
theorem po_Base : plainOver g.K cBase = true := by kernel_rfl
theorem i_Node_0 {v0 : Value} {Q : Unit → Store → Loc → Prop} (e : σ a = some (.inst cNode [])) (h : Q () (σ.set a (.inst cNode [("t", v0)])) m) : W g x (setAttr (.ref a) (Str.ofString "t") v0) σ m Q E :=
  w_setAttr e sa_Node po_Node (by kernel_rfl) hd_Node (Nat.le_of_ble_eq_true rfl) h
theorem i_Node_1 {v0 v1 : Value} {Q : Unit → Store → Loc → Prop} (e : σ a = some (.inst cNode [("t", v0)])) (h : Q () (σ.set a (.inst cNode [("t", v0), ("creator", v1)])) m) : W g x (setAttr (.ref a) (Str.ofString "creator") v1) σ m Q E :=
  w_setAttr e sa_Node po_Node (by kernel_rfl) hd_Node (Nat.le_of_ble_eq_true rfl) h
theorem i_Node_2 {v0 v1 v2 : Value} {Q : Unit → Store → Loc → Prop} (e : σ a = some (.inst cNode [("t", v0), ("creator", v1)])) (h : Q () (σ.set a (.inst cNode [("t", v0), ("creator", v1), ("is_leaf", v2)])) m) : W g x (setAttr (.ref a) (Str.ofString "is_leaf") v2) σ m Q E :=
  w_setAttr e sa_Node po_Node (by kernel_rfl) hd_Node (Nat.le_of_ble_eq_true rfl) h
theorem i_Node_3 {v0 v1 v2 v3 : Value} {Q : Unit → Store → Loc → Prop} (e : σ a = some (.inst cNode [("t", v0), ("creator", v1), ("is_leaf", v2)])) (h : Q () (σ.set a (.inst cNode [("t", v0), ("creator", v1), ("is_leaf", v2), ("elts", v3)])) m) : W g x (setAttr (.ref a) (Str.ofString "elts") v3) σ m Q E :=
  w_setAttr e sa_Node po_Node (by kernel_rfl) hd_Node (Nat.le_of_ble_eq_true rfl) h
theorem i_Node_4 {v0 v1 v2 v3 v4 : Value} {Q : Unit → Store → Loc → Prop} (e : σ a = some (.inst cNode [("t", v0), ("creator", v1), ("is_leaf", v2), ("elts", v3)])) (h : Q () (σ.set a (.inst cNode [("t", v0), ("creator", v1), ("is_leaf", v2), ("elts", v3), ("children", v4)])) m) : W g x (setAttr (.ref a) (Str.ofString "children") v4) σ m Q E :=
  w_setAttr e sa_Node po_Node (by kernel_rfl) hd_Node (Nat.le_of_ble_eq_true rfl) h
theorem i_KV_0 {v0 : Value} {Q : Unit → Store → Loc → Prop} (e : σ a = some (.inst cKV [])) (h : Q () (σ.set a (.inst cKV [("_key", v0)])) m) : W g x (setAttr (.ref a) (Str.ofString "_key") v0) σ m Q E :=
  w_setAttr e sa_KV po_KV (by kernel_rfl) hd_KV (Nat.le_of_ble_eq_true rfl) h
theorem i_KV_1 {v0 v1 : Value} {Q : Unit → Store → Loc → Prop} (e : σ a = some (.inst cKV [("_key", v0)])) (h : Q () (σ.set a (.inst cKV [("_key", v0), ("_value", v1)])) m) : W g x (setAttr (.ref a) (Str.ofString "_value") v1) σ m Q E :=
  w_setAttr e sa_KV po_KV (by kernel_rfl) hd_KV (Nat.le_of_ble_eq_true rfl) h
theorem i_Tree_0 {v0 : Value} {Q : Unit → Store → Loc → Prop} (e : σ a = some (.inst cTree [])) (h : Q () (σ.set a (.inst cTree [("creator", v0)])) m) : W g x (setAttr (.ref a) (Str.ofString "creator") v0) σ m Q E :=
  w_setAttr e sa_Tree po_Tree (by kernel_rfl) hd_Tree (Nat.le_of_ble_eq_true rfl) h
theorem i_Tree_1 {v0 v1 : Value} {Q : Unit → Store → Loc → Prop} (e : σ a = some (.inst cTree [("creator", v0)])) (h : Q () (σ.set a (.inst cTree [("creator", v0), ("_immutable", v1)])) m) : W g x (setAttr (.ref a) (Str.ofString "_immutable") v1) σ m Q E :=
  w_setAttr e sa_Tree po_Tree (by kernel_rfl) hd_Tree (Nat.le_of_ble_eq_true rfl) h
theorem i_Tree_2 {v0 v1 v2 : Value} {Q : Unit → Store → Loc → Prop} (e : σ a = some (.inst cTree [("creator", v0), ("_immutable", v1)])) (h : Q () (σ.set a (.inst cTree [("creator", v0), ("_immutable", v1), ("cursors", v2)])) m) : W g x (setAttr (.ref a) (Str.ofString "cursors") v2) σ m Q E :=
  w_setAttr e sa_Tree po_Tree (by kernel_rfl) hd_Tree (Nat.le_of_ble_eq_true rfl) h
theorem i_Tree_3 {v0 v1 v2 v3 : Value} {Q : Unit → Store → Loc → Prop} (e : σ a = some (.inst cTree [("creator", v0), ("_immutable", v1), ("cursors", v2)])) (h : Q () (σ.set a (.inst cTree [("creator", v0), ("_immutable", v1), ("cursors", v2), ("t", v3)])) m) : W g x (setAttr (.ref a) (Str.ofString "t") v3) σ m Q E :=
  w_setAttr e sa_Tree po_Tree (by kernel_rfl) hd_Tree (Nat.le_of_ble_eq_true rfl) h
theorem i_Tree_4 {v0 v1 v2 v3 v4 : Value} {Q : Unit → Store → Loc → Prop} (e : σ a = some (.inst cTree [("creator", v0), ("_immutable", v1), ("cursors", v2), ("t", v3)])) (h : Q () (σ.set a (.inst cTree [("creator", v0), ("_immutable", v1), ("cursors", v2), ("t", v3), ("root", v4)])) m) : W g x (setAttr (.ref a) (Str.ofString "root") v4) σ m Q E :=
  w_setAttr e sa_Tree po_Tree (by kernel_rfl) hd_Tree (Nat.le_of_ble_eq_true rfl) h
theorem i_Tree_5 {v0 v1 v2 v3 v4 v5 : Value} {Q : Unit → Store → Loc → Prop} (e : σ a = some (.inst cTree [("creator", v0), ("_immutable", v1), ("cursors", v2), ("t", v3), ("root", v4)])) (h : Q () (σ.set a (.inst cTree [("creator", v0), ("_immutable", v1), ("cursors", v2), ("t", v3), ("root", v4), ("size", v5)])) m) : W g x (setAttr (.ref a) (Str.ofString "size") v5) σ m Q E :=
  w_setAttr e sa_Tree po_Tree (by kernel_rfl) hd_Tree (Nat.le_of_ble_eq_true rfl) h
theorem i_Tree_6 {v0 v1 v2 v3 v4 v5 v6 : Value} {Q : Unit → Store → Loc → Prop} (e : σ a = some (.inst cTree [("creator", v0), ("_immutable", v1), ("cursors", v2), ("t", v3), ("root", v4), ("size", v5)])) (h : Q () (σ.set a (.inst cTree [("creator", v0), ("_immutable", v1), ("cursors", v2), ("t", v3), ("root", v4), ("size", v5), ("in_order", v6)])) m) : W g x (setAttr (.ref a) (Str.ofString "in_order") v6) σ m Q E :=
  w_setAttr e sa_Tree po_Tree (by kernel_rfl) hd_Tree (Nat.le_of_ble_eq_true rfl) h
theorem i_Base_0 {v0 : Value} {Q : Unit → Store → Loc → Prop} (e : σ a = some (.inst cBase [])) (h : Q () (σ.set a (.inst cBase [("creator", v0)])) m) : W g x (setAttr (.ref a) (Str.ofString "creator") v0) σ m Q E :=
  w_setAttr e sa_Base po_Base (by kernel_rfl) hd_Base (Nat.le_of_ble_eq_true rfl) h
theorem i_Base_1 {v0 v1 : Value} {Q : Unit → Store → Loc → Prop} (e : σ a = some (.inst cBase [("creator", v0)])) (h : Q () (σ.set a (.inst cBase [("creator", v0), ("_immutable", v1)])) m) : W g x (setAttr (.ref a) (Str.ofString "_immutable") v1) σ m Q E :=
  w_setAttr e sa_Base po_Base (by kernel_rfl) hd_Base (Nat.le_of_ble_eq_true rfl) h
theorem i_Base_2 {v0 v1 v2 : Value} {Q : Unit → Store → Loc → Prop} (e : σ a = some (.inst cBase [("creator", v0), ("_immutable", v1)])) (h : Q () (σ.set a (.inst cBase [("creator", v0), ("_immutable", v1), ("cursors", v2)])) m) : W g x (setAttr (.ref a) (Str.ofString "cursors") v2) σ m Q E :=
  w_setAttr e sa_Base po_Base (by kernel_rfl) hd_Base (Nat.le_of_ble_eq_true rfl) h
end
end
section
def cmpIn (K : Frag) (C : Addr) : Bool := match K.lookup C with
  | some ⟨.type "type", _, .cls cd, sl⟩ => (match cd.mro, sl.toList with
    | [.ref C', .type "object"], [_, _, _, _, some (.builtin _), _] => C' == C && !cd.hasDel && nsOkIn K cd.ns && nsIn K cd.ns "__eq__" == some none && nsIn K cd.ns "__ne__" == some none
    | _, _ => false)
  | _ => false
theorem cmpInst_in {K : Frag} {h : Heap} {x C : Addr} {o : Obj} (X : K.In h) (q : cmpIn K C = true) (ho : h.get? x = some o) (hc : o.cls = .ref C) : h.CmpInst x C [.type "object"] := by
  unfold cmpIn at q
  split at q
  · rename_i dd cd sl hC
    split at q
    · rename_i C' k0 k1 k2 k3 n k5 hm hs
      simp only [Bool.and_eq_true, beq_iff_eq, Bool.not_eq_true'] at q
      obtain ⟨⟨⟨⟨rfl, hdel⟩, hok⟩, h1⟩, h2⟩ := q
      obtain ⟨nm, bs, mro, ns, qn, hd, sn, sub, ab, col, del⟩ := cd
      dsimp only at hm hdel hok h1 h2
      subst hm hdel
      have hsl : sl = #[k0, k1, k2, k3, some (.builtin n), k5] := by
        obtain ⟨l⟩ := sl
        simp only at hs
        rw [hs]
      subst hsl
      exact ⟨o, nm, qn, ns, bs, hd, sn, sub, ab, col, dd, k0, k1, k2, k3, k5, n, _, ho, hc, X _ _ hC, .of_isNs (isNs_of_in X hok), nsMap_none_of_in X hok h1, nsMap_none_of_in X hok h2⟩
    · cases q
  · cases q
section
variable {g : Gl} {x : Fx} {σ : Store} {m : Loc} {E : Value → Heap → Prop}
theorem cmp_Node : cmpIn g.K cNode = true := by kernel_rfl
theorem w_eqSame {a C : Addr} {fs : List (Str × Value)} {Q : Value → Store → Loc → Prop} (hcmp : cmpIn g.K C = true) (e : σ a = some (.inst C fs)) (h : Q (.bool true) σ m) : W g x (compareOp .Eq (.ref a) (.ref a)) σ m Q E := by
  intro ok s₀ σ₀ s hs H
  obtain ⟨dx, es, k, I, en⟩ := H.inst e
  obtain ⟨hh, gg, d, t, os⟩ := s
  exact compareOp_eq_same PySem.F.cmp_object (cmpInst_in (ok.X.keeps H.1.keep) hcmp I.at_ I.cls) ok.ru ⟨σ, m, hs, H, h⟩
theorem w_starCall {f : Value} {first : List Value} {pos p : Pos} {e : Expr} {Q : Value → Store → Loc → Prop} (hk : keepIn g.K f = true)
    (h : W g x (eval e x.env) σ m (fun v σ m => ∃ l vs, v = .ref l ∧ σ l = some (.tup vs) ∧ vs.length ≤ 1000 ∧ W g x (call f (first ++ vs)) σ m Q E) E) : W g x (callWith pos f first (backTo pos (starEach [.Starred e p] x.env)) (backToKw pos (keywordEach [] x.env))) σ m Q E := by
  intro ok s₀ σ₀ s hs H
  refine callWith_S ok.X hk (h.use ok hs H fun v s1 σ1 m1 hs1 H1 h1 => ?_)
  obtain ⟨l, vs, rfl, e1, hz, h2⟩ := h1
  obtain ⟨F, news, dx, R⟩ := H1
  refine star_seq F R.N (R.cells l _ e1) rfl rfl (.inr rfl) rfl (by rw [List.size_toArray, sizeLine_eq]; omega) fun h' F' N' => ⟨ok.X.keeps F'.keep, ?_⟩
  exact h2 ok s₀ σ₀ _ (hs1.heap h') ⟨F', news, dx, R.heap N'⟩
end
end
section
section
variable {g : Gl} {x : Fx} {σ : Store} {m : Loc} {E : Value → Heap → Prop}
theorem w_getBound {a C f : Addr} {fs : List (Str × Value)} {n : Str} {b : Bool} {Q : Value → Store → Loc → Prop} (e : σ a = some (.inst C fs)) (hno : getF n fs = none)
    (hg : plainGet g.K C n = true) (hh : hasDictIn g.K C = true) (ha : findIn g.K (.ref C) n = some (some (.ref f))) (hf : isFn g.K (.ref f) = true) (hgf : specialIn g.K (.ref f) "__get__" = some (some (.builtin "function.__get__"))) (ht : takesIn g.K (.ref f) = some false) (hc : copiedNames.contains n = false)
    (h : ∀ q, σ q = none → Q (.ref q) (σ.set q (.raw (methodObj (.ref f) (.ref a)))) m) : W g x (getAttr (.ref a) n b) σ m Q E := by
  intro ok s₀ σ₀ s hs H
  obtain ⟨dx, es, k, I, en⟩ := H.inst e
  obtain ⟨F, news, dx', R⟩ := id H
  refine kbm_bound F ok.X R.N I hg hh ha hf hgf ht hc (by rw [en.get, hno]) fun q h' F' N' l1 => ?_
  exact ⟨_, _, (hs.mk' h' _).new _ (R.fresh l1), ⟨F', _, _, R.new l1 (c := .raw (methodObj (.ref f) (.ref a))) (fun _ _ q => by cases q) N' fun _ hm => ⟨_, hm, rfl⟩⟩, h q (R.fresh l1)⟩
theorem w_callBound {hp : Option Value → Prop} {q f : Addr} {self : Value} {k : Nat} {args : List Value} {kw : List (Str × Value)} {Q : Value → Store → Loc → Prop} (e : σ q = some (.raw (methodObj (.ref f) self))) (hh : hp x.hd) (hr : Room x k) (h : Calls g hp k (.ref f) (self :: args) kw σ (fun v σ' => Q v σ' m)) : W g x (call (.ref q) args kw) σ m Q E :=
  fun ok s₀ σ₀ s hs H => wpAny_call (method_call (H.getPred e) (codeAny_mono (h x m E hh hr ok s₀ σ₀ s hs H) fun r s' z => by
    rcases r with e | (v | _ | _ | _)
    · exact z
    · exact z.elim
    · exact z.elim
    · exact z.elim
    · obtain ⟨σ', a, b, c⟩ := z; exact ⟨σ', m, a, b, c⟩))
theorem w_starBound {hp : Option Value → Prop} {q f : Addr} {self : Value} {k : Nat} {pos p : Pos} {e : Expr} {Q : Value → Store → Loc → Prop} (hk : fnIn g.K f = true) (hh : hp x.hd) (hr : Room x k) (eq : σ q = some (.raw (methodObj (.ref f) self)))
    (h : W g x (eval e x.env) σ m (fun v σ m => ∃ l vs, v = .ref l ∧ σ l = some (.tup vs) ∧ vs.length ≤ 1000 ∧ Calls g hp k (.ref f) (self :: vs) [] σ (fun v σ' => Q v σ' m)) E) : W g x (callWith pos (.ref q) [] (backTo pos (starEach [.Starred e p] x.env)) (backToKw pos (keywordEach [] x.env))) σ m Q E := by
  intro ok s₀ σ₀ s hs H
  have he : starEach [.Starred e p] x.env = [(true, eval e x.env)] := rfl
  show wpAny g.M x.A (callWith pos (.ref q) [] (backTo pos (starEach [.Starred e p] x.env)) []) _ _ s
  rw [he]
  refine ks_call (P := MethP g.K q f self) rfl (keeps_M hk) (ks_lone ?_)
  refine W.use (σ₀ := σ) h ok ⟨hs.same, Keeps.refl _⟩ H fun v s1 σ1 m1 hs1 H1 h1 => ?_
  obtain ⟨l, vs, rfl, e1, hz, h2⟩ := h1
  obtain ⟨F, news, dx, R⟩ := H1
  have eq1 : σ1 q = some (.raw (methodObj (.ref f) self)) := hs1.keep _ _ eq
  refine star_seq F R.N (R.cells l _ e1) rfl rfl (.inr rfl) rfl (by rw [List.size_toArray, sizeLine_eq]; omega) fun h' F' N' => ?_
  have H2 : At g x σ1 m1 h' := ⟨F', news, dx, R.heap N'⟩
  refine ⟨⟨H2.getPred eq1, ok.X.keeps F'.keep⟩, ?_⟩
  have hs2 : Was s₀ σ₀ { s1 with heap := h' } σ1 := ⟨hs1.same.heap h', fun b P q => hs1.keep b P (hs.keep b P q)⟩
  exact w_callBound (E := E) eq1 hh hr h2 ok s₀ σ₀ _ hs2 H2
theorem w_MethodStar {o e : Expr} {n : Str} {apos pos p : Pos} {Q : Value → Store → Loc → Prop}
    (h : W g x (eval o x.env) σ m (fun ov σ m => W g x (getAttr ov n true) σ m (fun f σ m => W g x (callWith pos f [] (backTo pos (starEach [.Starred e p] x.env)) (backToKw pos (keywordEach [] x.env))) σ m Q E) E) E)
    (he : eval (.Call (.Attribute o n apos) [.Starred e p] [] pos) x.env = (do
      let ov ← eval o x.env
      standAt apos.atName
      let (f, first) ← holding [ov] (do pure (← getAttr ov n true, []))
      callWith pos f first (backTo pos (starEach [.Starred e p] x.env)) (backToKw pos (keywordEach [] x.env)))) : W g x (eval (.Call (.Attribute o n apos) [.Starred e p] [] pos) x.env) σ m Q E := by
  rw [he]
  intro ok s₀ σ₀ s hs H
  refine wpAny_bind (h.use ok hs H fun ov s1 σ1 m1 hs1 H1 h1 => wpAny_bind (wpAny_standAt (wpAny_bind (wpAny_holding (wpAny_bind (h1.use ok hs1 H1 fun f s2 σ2 m2 hs2 H2 h2 => wpAny_pure ?_))))))
  exact h2 ok s₀ σ₀ s2 hs2 H2
theorem bound_adopt {a : Addr} {t cr lf : Value} {es ch : Addr} {b : Bool} {Q : Value → Store → Loc → Prop} (e : σ a = some (nodeC t cr lf es ch)) (h : ∀ q, σ q = none → Q (.ref q) (σ.set q (.raw (methodObj (.ref 168) (.ref a)))) m) : W g x (getAttr (.ref a) (Str.ofString "adopt") b) σ m Q E :=
  w_getBound e (by rfl) (pg_Node _) hd_Node (by kernel_rfl) (by kernel_rfl) (by kernel_rfl) (by kernel_rfl) (by kernel_rfl) h
end
end
section
section
variable {g : Gl} {x : Fx} {σ : Store} {m : Loc} {E : Value → Heap → Prop} {hp : Option Value → Prop} {k : Nat}
theorem ns_Tree : noSeq g.K cTree = true := by kernel_rfl
theorem fi_Tree_setitem : findIn g.K (.ref cTree) "__setitem__" = some (some (.ref 535)) := by kernel_rfl
theorem fi_Tree_getitem : findIn g.K (.ref cTree) "__getitem__" = some (some (.ref 528)) := by kernel_rfl
theorem fi_Tree_len : findIn g.K (.ref cTree) "__len__" = some (some (.ref 415)) := by kernel_rfl
theorem fi_Tree_delitem : findIn g.K (.ref cTree) "__delitem__" = some (some (.ref 542)) := by kernel_rfl
theorem isf_535 : isFn g.K (.ref 535) = true := by kernel_rfl
theorem isf_528 : isFn g.K (.ref 528) = true := by kernel_rfl
theorem isf_415 : isFn g.K (.ref 415) = true := by kernel_rfl
theorem isf_542 : isFn g.K (.ref 542) = true := by kernel_rfl
theorem fnin_528 : fnIn g.K 528 = true := by kernel_rfl
theorem w_setItemT {ta : Addr} {fs : List (Str × Value)} {i v : Value} {Q : Unit → Store → Loc → Prop} (e : σ ta = some (.inst cTree fs)) (hh : hp x.hd) (hr : Room x k) (h : Calls g hp k (.ref 535) [.ref ta, i, v] [] σ (fun _ σ' => Q () σ' m)) : W g x (setItem (.ref ta) i v) σ m Q E := by
  intro ok s₀ σ₀ s hs H
  obtain ⟨dx, es, n, I, en⟩ := H.inst e
  exact ksp_setItem H.1 ok.X I ns_Tree fi_Tree_setitem isf_535 (W.use (w_call (Q := fun _ σ' m' => Q () σ' m') hh hr h) ok hs H fun v s' σ' m' a b c => ⟨σ', m', a, b, c⟩)
theorem in1_A (x : Fx) : x.A.in1 = ({ x with un := x.un + 1 } : Fx).A := rfl
theorem ok_in1 {ok : x.Ok g} (hr : Room x 1) : Fx.Ok g ({ x with un := x.un + 1 } : Fx) := ⟨ok.B, ok.X, ok.T, ok.k, ok.rd, by have := hr.2; show x.un + 1 < cLine; omega⟩
theorem w_subT {ta : Addr} {fs : List (Str × Value)} {value slice : Expr} {i : Value} {Q : Value → Store → Loc → Prop} (e : σ ta = some (.inst cTree fs)) (hh : hp x.hd) (hr : Room x (k + 1)) (h : Calls g hp k (.ref 528) [.ref ta, i] [] σ (fun v σ' => Q v σ' m))
    (hsl : subscripted slice true (.ref ta) i = runValue (.builtin "lifetime.subscript" ⟨[.ref ta, i], []⟩)) : W g x (subscriptTail value slice (.ref ta) i) σ m Q E := by
  intro ok s₀ σ₀ s hs H
  obtain ⟨dx, es, n, I, en⟩ := H.inst e
  refine sub_K H.1 ok.X I fi_Tree_getitem fnin_528 isf_528 ?_ hsl
  rw [in1_A]
  exact W.use (x := { x with un := x.un + 1 }) (w_call (x := { x with un := x.un + 1 }) hh ⟨by have := hr.1; show x.dp + 2 * k < _; omega, by have := hr.2; show x.un + 1 + 12 * k < _; omega⟩ h) (ok_in1 (ok := ok) (hr.le (by omega))) hs H fun v s' σ' m' a b c => ⟨σ', m', a, b, c⟩
theorem w_lenT {ta : Addr} {fs : List (Str × Value)} {Q : Value → Store → Loc → Prop} (e : σ ta = some (.inst cTree fs)) (hh : hp x.hd) (hr : Room x (k + 1)) (h : Calls g hp k (.ref 415) [.ref ta] [] σ (fun v σ' => ∃ (n : Nat) (t : Tok), v = .int n t ∧ n < 2 ^ 60 ∧ ∀ t, Q (.int n t) σ' m)) : W g x (call (.builtin "len") [.ref ta]) σ m Q E := by
  intro ok s₀ σ₀ s hs H
  obtain ⟨dx, es, n, I, en⟩ := H.inst e
  refine PySem.W.len_K H.1 ok.X I fi_Tree_len isf_415 ?_
  rw [in1_A]
  refine W.use (x := { x with un := x.un + 1 }) (w_call (x := { x with un := x.un + 1 }) (Q := fun v σ' m' => ∃ (n : Nat) (t : Tok), v = .int n t ∧ n < 2 ^ 60 ∧ ∀ t, Q (.int n t) σ' m') hh ⟨by have := hr.1; show x.dp + 2 * k < _; omega, by have := hr.2; show x.un + 1 + 12 * k < _; omega⟩ h) (ok_in1 (ok := ok) (hr.le (by omega))) hs H fun v s' σ' m' a b c => ?_
  obtain ⟨n, t, rfl, hn, hq⟩ := c
  exact ⟨⟨by omega, by omega⟩, σ', m', a.toks _, b, hq _⟩
theorem w_delItemT {ta : Addr} {fs : List (Str × Value)} {i : Value} {Q : Unit → Store → Loc → Prop} (e : σ ta = some (.inst cTree fs)) (hh : hp x.hd) (hr : Room x k) (h : Calls g hp k (.ref 542) [.ref ta, i] [] σ (fun _ σ' => Q () σ' m)) : W g x (delItem (.ref ta) i) σ m Q E := by
  intro ok s₀ σ₀ s hs H
  obtain ⟨dx, es, n, I, en⟩ := H.inst e
  have X := ok.X.keeps H.1.keep
  unfold delItem sequenceKey
  refine wpAny_holding (wpAny_bind (wpAny_bind (I.type.here ?_)))
  refine wpAny_bind ((anyM_none X ns_Tree).here ?_)
  rw [if_pos (show (!false) = true from rfl)]
  exact wpAny_pure (wpAny_bind (special_fn X I fi_Tree_delitem (beq_iff_eq.mp isf_542) (wpAny_mono (W.use (R := fun _ s' => Post g x s₀ σ₀ Q () s') (w_call (Q := fun _ σ' m' => Q () σ' m') hh hr h) ok hs H fun v s' σ' m' a b c => ⟨σ', m', a, b, c⟩) (fun _ _ z => wpAny_pure z) fun _ _ z => z)))
end
end
section
theorem at_MethodCallKW {M : Model} {A : Around} {c : Code} {E : Value → Shared → Prop} {s : Shared} {env : Env} {o : Expr} {name : Str} {apos pos : Pos} {args : List Expr} {kws : List Keyword} {pl : Sem Bool} {Q : Value → Shared → Prop}
    (h : _root_.PySem.wpAt M A c (attributeBase o name env (eval o env)) (fun ov s₁ => wpAny M A (getMethod ov name pl) (fun fx s₂ => wpAny M A (callWith pos fx.1 fx.2 (backTo pos (starEach args env)) (backToKw pos (keywordEach kws env))) Q E s₂) E s₁) E s)
    (he : eval (.Call (.Attribute o name apos) args kws pos) env = (do
      let ov ← attributeBase o name env (eval o env)
      standAt apos.atName
      let (f, first) ← holding [ov] (getMethod ov name pl)
      callWith pos f first (backTo pos (starEach args env)) (backToKw pos (keywordEach kws env)))) :
    _root_.PySem.wpAt M A c (eval (.Call (.Attribute o name apos) args kws pos) env) Q E s := by
  rw [he]
  refine _root_.PySem.wpAt_bind (ks_wpAt_mono h (fun ov s₁ h₁ => _root_.PySem.wpAt_of_wpAny (wpAny_bind (wpAny_standAt (wpAny_bind (wpAny_holding (wpAny_mono h₁ (fun fx s₂ h₂ => ?_) fun _ _ x => x)))))) fun _ _ x => x)
  exact h₂
end
section
section
variable {g : Gl} {x : Fx} {σ : Store} {m : Loc} {E : Value → Heap → Prop}
theorem w_superMethod {a so C D f2 : Addr} {fs : List (Str × Value)} {n : Str} {pl : Sem Bool} {Q : Value × List Value → Store → Loc → Prop} (e : σ a = some (.inst C fs)) (es : σ so = some (.raw (ks_superObj D a C)))
    (ho : nsIn g.K cStatics "thirdparty.any" = some none) (hm : ks_superIn g.K C D n = some (some (.ref f2))) (ht : typeIn g.K (.ref f2) = some (.type "function")) (hn : (n == ("__class__" : Str)) = false)
    (h : ∀ q, σ q = none → Q (.ref q, []) (σ.set q (.raw (methodObj (.ref f2) (.ref a)))) m) : W g x (getMethod (.ref so) n pl) σ m Q E := by
  intro ok s₀ σ₀ s hs H
  obtain ⟨dx, es', k, I, en⟩ := H.inst e
  obtain ⟨F, news, dx', R⟩ := id H
  obtain ⟨o, hm2, rfl⟩ := R.cells so _ es
  refine ks_method F ok.X R.N hm2 I ho hm ht hn fun q h' F' N' l1 => ?_
  exact ⟨_, _, (hs.mk' h' _).new _ (R.fresh l1), ⟨F', _, _, R.new l1 (c := .raw (methodObj (.ref f2) (.ref a))) (fun _ _ q => by cases q) N' fun _ hm => ⟨_, hm, rfl⟩⟩, h q (R.fresh l1)⟩
theorem w_callWithBound {q f : Addr} {self : Value} {pos : Pos} {args : List (Bool × Sem Value)} {kws : List (Option Str × Sem Value)} {Q : Value → Store → Loc → Prop} (hk : fnIn g.K f = true) (eq : σ q = some (.raw (methodObj (.ref f) self)))
    (h : W g x (evalArgs (.ref q) true args kws) σ m (fun a σ m => W g x (call (.ref q) a.pos a.kw) σ m Q E) E) (hplain : (args.any (·.1) || kws.any (·.1.isNone)) = false) : W g x (callWith pos (.ref q) [] args kws) σ m Q E := by
  intro ok s₀ σ₀ s hs H
  refine callWith_of (P := MethP g.K q f self) hplain (keeps_M hk) (W.use (σ₀ := σ) h ok ⟨hs.same, Keeps.refl _⟩ H fun a s1 σ1 m1 hs1 H1 h1 => ?_)
  have eq1 : σ1 q = some (.raw (methodObj (.ref f) self)) := hs1.keep _ _ eq
  exact ⟨⟨H1.getPred eq1, ok.X.keeps H1.1.keep⟩, h1 ok s₀ σ₀ s1 ⟨hs1.same, fun b P q => hs1.keep b P (hs.keep b P q)⟩ H1⟩
end
end
section
/-- a def that closes over __class__ is entered -/
theorem calls_super {g : Gl} {hp : Option Value → Prop} {n : Nat} {σ : Store} {name qual : Str} {params : Arguments} {body : List Stmt} {scope : Scope} {dV kV doc pm cdv ct oc : Value} {an od : Option Addr} {osl : Array (Option Value)} {f cc : Addr} {args : List Value} {kw : List (Str × Value)} {Q : Value → Store → Prop} (binds : List (Str × Value))
    (ho : g.K.lookup f = some ⟨oc, od, .func (ksFn name qual params body scope dV kV doc pm an cdv ct cc), osl⟩) (hcd : codeIn g.K cdv qual = true)
    (hbind : ∀ s, g.K.In s.heap → BindsTo s (ksFn name qual params body scope dV kV doc pm an cdv ct cc) ⟨args, kw⟩ binds) (hloc : ∀ y ∈ binds, scope.names.lookup y.1 = some .local) (hcell : ∀ x ∈ scope.names, x.2 ≠ .cell)
    (hco : scope.isCoroutine = false) (hgen : scope.isGenerator = false) (hk : scope.kind = .function)
    (h : ∀ y : Fx, hp y.hd → Room y n → y.Ok g → y.cs = scope → y.cn = qual → y.a = f → y.ccd = cdv → y.cl = ([("__class__", cc)] : List (Str × Addr)) → ∀ s₀ σ₀ s, Was s₀ σ₀ s σ → At g y σ (fun z => binds.reverse.lookup z) s.heap →
      _root_.PySem.wpAt g.M y.A (.func body y.env) (execs body y.env) (Post g y s₀ σ₀ (fun fl σ' _ => Q (match fl with | .ret v => v | _ => .none) σ')) (EE s₀ (fun _ _ => False)) s) :
    Calls g hp (n + 1) (.ref f) args kw σ Q := by
  intro x m E hh hr ok s₀ σ₀ s hs H
  obtain ⟨F, news, dx, R⟩ := H
  refine ks_code_super ok.B F ok.X R.N ok.T (A := x.A) rfl (env := x.env) rfl ok.k ho hcd ok.rd (hbind s (ok.X.keeps F.keep)) hloc (fun G L' h₁ FG F' N' B' X' T' l1 => ?_) hcell hco hgen hk
  have ok' : Fx.Ok g ⟨x.hd, x.dp + 1, x.un + 3, x.gd, x.env :: x.outer, x.A, x.base, G, L', qual, scope, f, cdv, [("__class__", cc)]⟩ := by
    refine ⟨B', X', T', hk, ?_, ?_⟩
    · have := hr.1; show x.dp + 1 < recursionLimit; omega
    · have := hr.2; show x.un + 3 < cLine; omega
  have hb := h ⟨x.hd, x.dp + 1, x.un + 3, x.gd, x.env :: x.outer, x.A, x.base, G, L', qual, scope, f, cdv, [("__class__", cc)]⟩ hh ⟨by have := hr.1; show x.dp + 1 + 2 * n < _; omega, by have := hr.2; show x.un + 3 + 12 * n < _; omega⟩ ok' rfl rfl rfl rfl rfl
  refine ks_wpAt_mono (hb s₀ σ₀ _ (hs.mk' h₁ _) ⟨F', news, dx, ⟨N', R.nd, R.cells, R.inj, R.off⟩⟩) (fun fl s' hp => ?_) fun e s' he => he.2.elim
  obtain ⟨σ', m', hs', ⟨F2, news2, dx2, R2⟩, hq⟩ := hp
  exact leaveK_ F2 R2.N fun F3 N3 => ⟨σ', hs', ⟨F3, news2, dx2, ⟨N3, R2.nd, R2.cells, R2.inj, R2.off⟩⟩, hq⟩
end
section
/-! ## Exceptions in flight: the record's context stays none -/
def RecAt (h : Heap) (e : Addr) (cls head : Value) : Prop := ∃ oe vs, h.get? e = some oe ∧ oe.cls = cls ∧ oe.data = .fields vs ∧ vs[1]? = some head ∧ vs[2]? = some .none
def TrAt (h base : Heap) (e : Addr) (cls fl : Value) : Prop := ∃ T oT ts, RecAt h e cls (.ref T) ∧ base.get? T = none ∧ T ≠ e ∧ h.get? T = some oT ∧ oT.data = .fields ts ∧ ts[3]? = some fl
structure FlyC (base : Heap) (l : List Env) (e : Addr) (cls fl : Value) (h : Heap) : Prop where
  stays : base.StaysIn h
  new : base.get? e = none
  frames : h.FunFrames base l
  tr : TrAt h base e cls fl
/-- an exception has just been made -/
structure Born (h h' : Heap) (e : Addr) (cls : Value) : Prop where
  keeps : ∀ b o, h.get? b = some o → h'.get? b = some o
  new : h.get? e = none
  there : RecAt h' e cls .none
theorem Born.ofN {h h' : Heap} {e : Addr} {cls : String} (x : Heap.NewExc h h' e cls) : Born h h' e (.type cls) :=
  ⟨x.keeps, x.new, by obtain ⟨ob, t, he, hc, hd⟩ := x.there; exact ⟨ob, _, he, hc, hd, rfl, rfl⟩⟩
theorem Born.ofM {h h' : Heap} {e : Addr} {cls : Value} {vs : List Value} (x : Heap.MadeExcOf h h' e cls vs) : Born h h' e cls :=
  ⟨x.keeps, x.new, by obtain ⟨t, he, _, _⟩ := x.there; exact ⟨_, _, he, rfl, rfl, rfl, rfl⟩⟩
theorem Born.ofE {h h' : Heap} {e : Addr} {cls : String} {vs : List Value} (x : Heap.MadeExc h h' e cls vs) : Born h h' e (.type cls) :=
  ⟨x.keeps, x.new, by obtain ⟨t, he, _, _⟩ := x.there; exact ⟨_, _, he, rfl, rfl, rfl, rfl⟩⟩
/-! a record's cell is turned: what is no record stays -/
theorem upRec {h : Heap} {a : Addr} {oa : Obj} {va : Array Value} (f : Obj → Obj) (ea : h.get? a = some oa) (da : oa.data = .fields va) : h.UpToSlots (h.update a f) := fun b o eb nb => by
  have ne : b ≠ a := by rintro rfl; exact nb va (Option.some.inj (ea.symm.trans eb) ▸ da)
  exact ⟨o.slots, ((Heap.SameBut.update h a f).2 b ne).trans eb⟩
theorem framesUp {h h' base : Heap} {l : List Env} (u : h.UpToSlots h') (F : h.FunFrames base l) : h'.FunFrames base l := F.of_keeps fun b o q n => by
  obtain ⟨sl, r⟩ := u b o q n
  exact ⟨_, r, rfl⟩
theorem staysRec {base h : Heap} {a : Addr} (f : Obj → Obj) (S : base.StaysIn h) (na : base.get? a = none) : base.StaysIn (h.update a f) := fun b o q => by
  have ne : b ≠ a := by rintro rfl; cases na.symm.trans q
  exact ((Heap.SameBut.update h a f).2 b ne).trans (S b o q)
theorem turnedRec {h : Heap} {a : Addr} {oa : Obj} {va : Array Value} (k : Nat) (v : Value) (ea : h.get? a = some oa) (da : oa.data = .fields va) :
    ∃ o', (h.update a (Obj.mapFields (·.setIfInBounds k v))).get? a = some o' ∧ o'.cls = oa.cls ∧ o'.data = .fields (va.setIfInBounds k v) :=
  ⟨_, Heap.get?_update_self _ ea (Obj.isFreed_of_fields (Obj.data_mapFields da _)), Obj.cls_mapFields _ _, Obj.data_mapFields da _⟩
theorem asideRec {h : Heap} {a b : Addr} {o : Obj} (f : Obj → Obj) (ne : b ≠ a) (q : h.get? b = some o) : (h.update a f).get? b = some o := ((Heap.SameBut.update h a f).2 b ne).trans q
/-- a new record, and the record e turned so that it names the new one -/
theorem linked {base g : Heap} {e : Addr} {oe on : Obj} {vs ts : Array Value} {fl : Value} (ee : g.get? e = some oe) (de : oe.data = .fields vs) (s1 : 1 < vs.size) (v2 : vs[2]? = some .none)
    (hn : on.data = .fields ts) (t3 : ts[3]? = some fl) (S : base.StaysIn g) (ne : base.get? e = none) :
    base.StaysIn ((g.push on).update e (Obj.mapFields (·.setIfInBounds 1 (.ref g.objs.size)))) ∧ g.UpToSlots ((g.push on).update e (Obj.mapFields (·.setIfInBounds 1 (.ref g.objs.size))))
      ∧ TrAt ((g.push on).update e (Obj.mapFields (·.setIfInBounds 1 (.ref g.objs.size)))) base e oe.cls fl := by
  have pe := Heap.get?_push_of_some on ee
  have off : g.objs.size ≠ e := (Nat.ne_of_lt (Heap.lt_size ee)).symm
  obtain ⟨o', q1, q2, q3⟩ := turnedRec 1 (.ref g.objs.size) pe de
  refine ⟨staysRec _ (fun b o q => Heap.get?_push_of_some on (S b o q)) ne, (Heap.UpToSlots.of_keeps fun b o q => Heap.get?_push_of_some on q).trans (upRec _ pe de), g.objs.size, on, ts, ⟨o', _, q1, q2, q3, ?_, ?_⟩, S.fresh, off,
    asideRec _ off (Heap.get?_push_size g (Obj.isFreed_of_fields hn)), hn, t3⟩
  · simp [s1]
  · rw [Array.getElem?_setIfInBounds_ne (by decide), v2]
section
variable {M : Model} {A : Around} {E : Value → Shared → Prop} {s : Shared} {base : Heap} {env : Env} {outer : List Env} {L e : Addr} {cls head : Value} {Q : Unit → Shared → Prop}
theorem entryC {hn : Bool}
    (hfr : A.frames = some (env :: outer)) (hl : s.heap.FunFrames base (env :: outer)) (hf : env.frame = some L) (hr : RecAt s.heap e cls head) (hkb : base.StaysIn s.heap) (hen : base.get? e = none)
    (h : ∀ h', FlyC base (env :: outer) e cls (rawInt L) h' → s.heap.UpToSlots h' → Q () { s with heap := h' }) :
    wpAny M A (do let a ← frameOf env; let pl ← entryPlaceOf L hn; let b ← EntryCells.newEntry head a .none (rawInt L) .none pl; setField (.ref e) 1 b) Q E s := by
  obtain ⟨oe, vs, ee, rfl, de, v1, v2⟩ := hr
  have s1 : 1 < vs.size := (Array.getElem?_eq_some_iff.mp v1).1
  unfold EntryCells.newEntry newFields
  refine wpAny_bind (wpAny_frameOf_fun hfr hl hf fun g k => wpAny_bind (wpAny_entryPlaceOf fun pl hpl => wpAny_bind (wpAny_newObj_type ?_ (hpl.sizeOk5 ..))))
  have apart : ∀ b, (∀ o, s.heap.get? b = some o → ∃ ws, o.data = .fields ws) ∨ base.get? b ≠ none → g.get? b = s.heap.get? b := fun b hb => k.2.1 b fun hm => by
    obtain ⟨n0, o, q, np⟩ := hl.mem hm
    rcases hb with z | z
    · obtain ⟨ws, d⟩ := z o q; exact np ws d
    · exact z n0
  have eg : g.get? e = some oe := (apart e (.inl fun o q => ⟨vs, Option.some.inj (ee.symm.trans q) ▸ de⟩)).trans ee
  have u : s.heap.UpToSlots g := fun b o q _ => k.2.2 b o q
  obtain ⟨r1, r2, r3⟩ := linked (fl := rawInt L) (on := ⟨.type "traceback", none, .fields ([head, .ref L, .none, rawInt L, .none] ++ (if pl.isEmpty then List.replicate 6 Value.none else pl)).toArray, #[]⟩) eg de s1 v2 rfl (by simp)
    (fun b o q => (apart b (.inr (by rw [q]; nofun))).trans (hkb b o q)) hen
  exact wpAny_setField (Heap.get?_push_of_some _ eg) de s1 (h _ ⟨r1, hen, framesUp (u.trans r2) hl, r3⟩ (u.trans r2))
theorem flightC {l : List Env} {fl : Value} (x : FlyC base l e cls fl s.heap) (h : ∀ h', FlyC base l e cls .none h' → s.heap.UpToSlots h' → Q () { s with heap := h' }) : wpAny M A (setFlight (.ref e) none) Q E s := by
  obtain ⟨S, ne, F, T, oT, ts, ⟨oe, vs, ee, hc, de, v1, v2⟩, nT, off, eT, dT, t3⟩ := x
  have s3 : 3 < ts.size := (Array.getElem?_eq_some_iff.mp t3).1
  obtain ⟨o', q1, -, q3⟩ := turnedRec 3 .none eT dT
  have up := upRec (Obj.mapFields (·.setIfInBounds 3 .none)) eT dT
  unfold setFlight
  refine wpAny_bind (wpAny_field ee de v1 ?_)
  refine wpAny_ite_true rfl ?_
  exact wpAny_setField eT dT s3 (h _ ⟨staysRec _ S nT, ne, framesUp up F, T, o', _, ⟨oe, vs, asideRec _ off.symm ee, hc, de, v1, v2⟩, nT, off, q1, q3, by simp [s3]⟩ up)
theorem noteC_first (hfr : A.frames = some (env :: outer)) (hl : s.heap.FunFrames base (env :: outer)) (hf : env.frame = some L) (hr : RecAt s.heap e cls .none) (hkb : base.StaysIn s.heap) (hen : base.get? e = none)
    (h : ∀ h', FlyC base (env :: outer) e cls (rawInt L) h' → s.heap.UpToSlots h' → Q () { s with heap := h' }) : wpAny M A (noteFrame (.ref e) env) Q E s := by
  have entry := entryC (M := M) (E := E) (hn := false) hfr hl hf hr hkb hen h
  obtain ⟨oe, vs, ee, -, de, v1, -⟩ := hr
  unfold noteFrame
  rw [hf]
  exact wpAny_bind (wpAny_field ee de v1 (wpAny_ite_false rfl entry))
theorem noteC_on (hfr : A.frames = some (env :: outer)) (hf : env.frame = some L) (x : FlyC base (env :: outer) e cls .none s.heap)
    (h : ∀ h', FlyC base (env :: outer) e cls (rawInt L) h' → s.heap.UpToSlots h' → Q () { s with heap := h' }) : wpAny M A (noteFrame (.ref e) env) Q E s := by
  obtain ⟨S, ne, F, T, oT, ts, ⟨oe, vs, ee, hc, de, v1, v2⟩, nT, off, eT, dT, t3⟩ := x
  have s3 : 3 < ts.size := (Array.getElem?_eq_some_iff.mp t3).1
  have up := upRec (Obj.mapFields (·.setIfInBounds 3 .none)) eT dT
  have entry := fun b => entryC (M := M) (E := E) (Q := Q) (hn := b) (s := { s with heap := s.heap.update T (Obj.mapFields (·.setIfInBounds 3 .none)) }) hfr (framesUp up F) hf ⟨oe, vs, asideRec _ off.symm ee, hc, de, v1, v2⟩ (staysRec _ S nT) ne
    fun h' y u => h h' y (up.trans u)
  unfold noteFrame
  rw [hf]
  refine wpAny_bind (wpAny_field ee de v1 (wpAny_ite_true rfl (wpAny_bind (wpAny_field eT dT t3 (wpAny_ite_false ?_ (wpAny_bind (wpAny_setField eT dT s3 (entry _))))))))
  simp [rawInt]
theorem leaveC_first (hfr : A.frames = some (env :: outer)) (hl : s.heap.FunFrames base (env :: outer)) (hf : env.frame = some L) (hr : RecAt s.heap e cls .none) (hkb : base.StaysIn s.heap) (hen : base.get? e = none)
    (h : ∀ h', FlyC base outer e cls .none h' → s.heap.UpToSlots h' → Q () { s with heap := h' }) : wpAny M A (leaving env (.ref e)) Q E s := by
  unfold leaving
  refine wpAny_bind (noteC_first hfr hl hf hr hkb hen fun h₁ x1 u1 => flightC x1 fun h₂ x2 u2 => h h₂ ⟨x2.stays, x2.new, ?_, x2.tr⟩ (u1.trans u2))
  obtain ⟨_, _, q⟩ := x2.frames; exact q
theorem leaveC_on (hfr : A.frames = some (env :: outer)) (hf : env.frame = some L) (x : FlyC base (env :: outer) e cls .none s.heap)
    (h : ∀ h', FlyC base outer e cls .none h' → s.heap.UpToSlots h' → Q () { s with heap := h' }) : wpAny M A (leaving env (.ref e)) Q E s := by
  unfold leaving
  refine wpAny_bind (noteC_on hfr hf x fun h₁ x1 u1 => flightC x1 fun h₂ x2 u2 => h h₂ ⟨x2.stays, x2.new, ?_, x2.tr⟩ (u1.trans u2))
  obtain ⟨_, _, q⟩ := x2.frames; exact q
end

/-! ## The judgement's side -/
/-- a store's ledger, apart from the heap -/
structure RepX (w : World) (σ : Store) (news : List (Addr × Obj)) (dx : Addr → Addr) : Prop where
  nd : (news.map (·.1)).Nodup
  cells : ∀ a c, σ a = some c → CellOk w news dx a c
  inj : ∀ a b C fs C' fs', σ a = some (.inst C fs) → σ b = some (.inst C' fs') → dx a = dx b → a = b
  off : ∀ a C fs, σ a = some (.inst C fs) → σ (dx a) = none
theorem RepN.ofX {w : World} {h₀ h : Heap} {L : Addr} {σ : Store} {news : List (Addr × Obj)} {dx : Addr → Addr} (R : RepX w σ news dx) (N : News h₀ L h news) : RepN w h₀ L h σ news dx := ⟨N, R.nd, R.cells, R.inj, R.off⟩
theorem RepN.toX {w : World} {h₀ h : Heap} {L : Addr} {σ : Store} {news : List (Addr × Obj)} {dx : Addr → Addr} (R : RepN w h₀ L h σ news dx) : RepX w σ news dx := ⟨R.nd, R.cells, R.inj, R.off⟩

/-- an exception flies up to the frame x; what x held is held -/
def Fly (g : Gl) (x : Fx) (σ : Store) (m : Loc) (a : Addr) (cls : Value) (h : Heap) : Prop :=
  ∃ G news dx B, Fr x.h₀ x.L G m ∧ G.UpToSlots h ∧ RepX g.w σ news dx ∧ x.base.StaysIn B ∧ (∀ b o, G.get? b = some o → b ∉ (x.env :: x.outer).filterMap (·.frame) → B.get? b = some o) ∧
    (∀ q ∈ news, B.get? q.1 = some q.2 ∧ G.get? q.1 = none) ∧ FlyC B (x.env :: x.outer) a cls .none h
def Made (g : Gl) (x : Fx) (σ : Store) (m : Loc) (a : Addr) (cls : Value) (h : Heap) : Prop := ∃ h₁, At g x σ m h₁ ∧ Born h₁ h a cls
/-- what W's E is at a raising: R tells the class, the store, the locals -/
def Up (g : Gl) (x : Fx) (R : Value → Store → Loc → Prop) (e : Value) (h : Heap) : Prop := ∃ a cls σ m, e = .ref a ∧ R cls σ m ∧ (Fly g x σ m a cls h ∨ Made g x σ m a cls h)
def UpF (g : Gl) (x : Fx) (R : Value → Store → Loc → Prop) (e : Value) (h : Heap) : Prop := ∃ a cls σ m, e = .ref a ∧ R cls σ m ∧ Fly g x σ m a cls h

theorem mem_frames {x : Fx} {b : Addr} (hm : b ∈ (x.env :: x.outer).filterMap (·.frame)) : b = x.L ∨ b ∈ x.outer.filterMap (·.frame) := by
  rw [List.filterMap_cons] at hm
  exact (List.mem_cons.mp hm).imp id id
theorem fr_self {g h : Heap} {L : Addr} {m : Loc} (F : Fr g L h m) : g.get? L = none := by
  cases q : g.get? L with
  | none => rfl
  | some o => exact absurd (Nat.lt_of_lt_of_le (Heap.lt_size q) F.above) (Nat.lt_irrefl _)

/-- an exception leaves the frame y, called from x -/
theorem leave_up {g : Gl} {x y : Fx} {m₀ : Loc} {R : Value → Store → Prop} {E' : Value → Shared → Prop} {Q : Unit → Shared → Prop} {e : Value} {s' : Shared}
    (hyo : y.outer = x.env :: x.outer) (hyb : y.base = x.base) (okB : Below y.A₀ y.base y.outer y.h₀) (hk : y.cs.kind = .function) (FG : Fr x.h₀ x.L y.h₀ m₀)
    (hu : Up g y (fun c σ _ => R c σ) e s'.heap) (h : ∀ h', UpF g x (fun c σ m => R c σ ∧ m = m₀) e h' → Q () { s' with heap := h' }) : wpAny g.M y.A (leaving y.env e) Q E' s' := by
  obtain ⟨a, cls, σ, m, rfl, hR, hu⟩ := hu
  have hfr : y.A.frames = some (y.env :: y.outer) := rfl
  have nmx : ∀ b, b ∉ (x.env :: x.outer).filterMap (·.frame) → ∀ {h : Heap} {m : Loc}, Fr y.h₀ y.L h m → (∃ o, y.h₀.get? b = some o) → b ∉ (y.env :: y.outer).filterMap (·.frame) := fun b hb h m F ⟨o, ho⟩ hm => by
    rcases mem_frames hm with z | z
    · rw [z, fr_self F] at ho; cases ho
    · rw [hyo] at z; exact hb z
  rcases hu with ⟨G, news, dx, B, F, hsm, RX, hB, hBG, hl, hfl⟩ | ⟨h₁, ⟨F, news, dx, RN⟩, hb⟩
  · refine leaveC_on hfr rfl hfl fun h' x1 u1 => h h' ⟨a, cls, σ, m₀, rfl, ⟨hR, rfl⟩, y.h₀, news, dx, B, FG, ((Heap.UpToSlots.of_keeps F.keep).trans (hsm.trans u1)), RX, hyb ▸ hB, fun b o q nm => hBG b o (F.keep b o q) (nmx b nm F ⟨o, q⟩), fun q hq => ⟨(hl q hq).1, kts_none F.keep (hl q hq).2⟩, hyo ▸ x1⟩
  · have K' : Below (y.A₀.deeper y.env) y.base (y.env :: y.outer) h₁ := pushX okB F rfl hk
    have hin : ∀ env ∈ (y.env :: y.outer), ∀ b, env.frame = some b → b ∈ (y.env :: y.outer).filterMap (·.frame) := fun env he b hb => List.mem_filterMap.mpr ⟨env, he, hb⟩
    have st : y.base.StaysIn (hideAll h₁ ((y.env :: y.outer).filterMap (·.frame))) := fun b o q => hideAll_get _ (K'.stays b o q) fun hm => by
      rw [(K'.frames.mem hm).1] at q; cases q
    have hen : (hideAll h₁ ((y.env :: y.outer).filterMap (·.frame))).get? a = none := by
      cases q : (hideAll h₁ ((y.env :: y.outer).filterMap (·.frame))).get? a with
      | none => rfl
      | some o => have := of_hideAll _ q; rw [hb.new] at this; cases this
    refine leaveC_first hfr ((funFrames_hide K'.frames hin).of_keeps fun b o ho _ => ⟨o, hb.keeps b o ho, rfl⟩) rfl hb.there (fun b o ho => hb.keeps b o (of_hideAll _ ho)) hen fun h' x1 u1 => h h' ⟨a, cls, σ, m₀, rfl, ⟨hR, rfl⟩, y.h₀, news, dx, hideAll h₁ ((y.env :: y.outer).filterMap (·.frame)), FG,
      (((Heap.UpToSlots.of_keeps F.keep).trans (Heap.UpToSlots.of_keeps hb.keeps)).trans u1), RN.toX, hyb ▸ st, fun b o q nm => hideAll_get _ (F.keep b o q) (nmx b nm F ⟨o, q⟩), fun q hq => ⟨hideAll_get _ (RN.N q hq).1 fun hm => ?_, (RN.N q hq).2.2⟩, hyo ▸ x1⟩
    rcases mem_frames hm with z | z
    · exact (RN.N q hq).2.1 z
    · obtain ⟨o, ho, _⟩ := (okB.frames.mem z).2
      rw [(RN.N q hq).2.2] at ho; cases ho
end
section
section
variable {prog : Program} {w : World} {A : Around} {E : Value → Shared → Prop} {s : Shared} {env : Env} {h : Heap} {g : Array GenState} {d : Drawn} {t : Nat} {os : OsState}
variable {nm q : Str} {C N : Addr} {bs bm bmB : List Value} {hdct : Bool} {sn : List Str} {sub : List Value} {ab : Bool} {col : Option Bool} {dd : Option Addr} {k0 k1 k2 k3 k5 : Option Value} {B newId initId : String}
theorem nested_own {k : Value} {dep : Int} {tk : Tok} {Q : Fin → Shared → Prop} (hk : k = .int dep tk) (hC : h.get? C = some (excClassObj nm q C N bs bm hdct sn sub ab col dd k0 k1 k2 k3 k5 newId))
    (hq : Q (.done (.ret (.bool true))) ⟨h, g, d, t, os⟩) : wpAny (model prog w) A (Builtin.«issubclass.nested» ⟨[.ref C, .ref C, k], []⟩) Q E ⟨h, g, d, t, os⟩ := by
  subst hk
  have hcC : (Value.ref C :: bm).contains (.ref C) = true := by simp
  repeat (any_goals (first | assumption | with_reducible refine wpAny_loadPart_at hC ?_ | (with_reducible refine wpAny_isSubtype_exc hC ?_; rw [hcC]) | wp_step))
theorem issub_own (hC : h.get? C = some (excClassObj nm q C N bs bm hdct sn sub ab col dd k0 k1 k2 k3 k5 newId)) {Q : Value → Shared → Prop} (hq : Q (.bool true) ⟨h, g, d, t, os⟩) :
    wpAny (model prog w) A (call (.builtin "issubclass") [.ref C, .ref C]) Q E ⟨h, g, d, t, os⟩ :=
  call_issubclass (S := fun _ R s => s.heap.get? C = some (excClassObj nm q C N bs bm hdct sn sub ab col dd k0 k1 k2 k3 k5 newId) ∧ R (.ok (.ret (.bool true))) s) (fun _ _ _ _ s hs => issubclass_outer (by
    obtain ⟨h, g, d, t, os⟩ := s
    exact nested_own rfl hs.1 hs.2)) ⟨hC, hq⟩
theorem isExc_own {Q : Bool → Shared → Prop} (hC : h.get? C = some (excClassObj nm q C N bs bm hdct sn sub ab col dd k0 k1 k2 k3 k5 newId)) (hcB : (Value.ref C :: bm).contains (.type "BaseException") = true)
    (hq : Q true ⟨h, g, d, t, os⟩) : wpAny (model prog w) A (isExcClass (.ref C)) Q E ⟨h, g, d, t, os⟩ := by
  unfold isExcClass
  repeat (any_goals (first | assumption | with_reducible refine wpAny_loadPart_at hC ?_ | (with_reducible refine wpAny_isSubtype_exc hC ?_; rw [hcB]) | wp_step))
theorem inst_own {e t' : Addr} {Q : Bool → Shared → Prop} (he : h.get? e = some { cls := Value.ref C, data := Data.fields #[Value.ref t', Value.none, Value.none, Value.none, Value.bool false, Value.none] }) (hC : h.get? C = some (excClassObj nm q C N bs bm hdct sn sub ab col dd k0 k1 k2 k3 k5 newId)) (hcB : (Value.ref C :: bm).contains (.type "BaseException") = true)
    (hq : Q true ⟨h, g, d, t, os⟩) : wpAny (model prog w) A (isInstance (.ref e) (.type "BaseException")) Q E ⟨h, g, d, t, os⟩ := by
  unfold isInstance
  repeat (any_goals (first | assumption | with_reducible refine wpAny_loadPart_at he ?_ | with_reducible refine wpAny_loadPart_at hC ?_ | (with_reducible refine wpAny_isSubtype_exc hC ?_; rw [hcB]) | wp_step))
theorem isType_own {Q : Bool → Shared → Prop} (hC : h.get? C = some (excClassObj nm q C N bs bm hdct sn sub ab col dd k0 k1 k2 k3 k5 newId))
    (hq : Q true ⟨h, g, d, t, os⟩) : wpAny (model prog w) A (isType (.ref C)) Q E ⟨h, g, d, t, os⟩ := by
  unfold isType
  repeat (any_goals (first | assumption | with_reducible refine wpAny_loadPart_at hC ?_ | wp_step))
theorem raised_own {e t' : Addr} {Q : Value → Shared → Prop} (he : h.get? e = some { cls := Value.ref C, data := Data.fields #[Value.ref t', Value.none, Value.none, Value.none, Value.bool false, Value.none] }) (hC : h.get? C = some (excClassObj nm q C N bs bm hdct sn sub ab col dd k0 k1 k2 k3 k5 newId))
    (hq : Q (.ref e) ⟨h, g, d, t, os⟩) : wpAny (model prog w) A (raisedFor (.ref C) (.ref e)) Q E ⟨h, g, d, t, os⟩ := by
  unfold raisedFor
  simp only [Bool.false_eq_true, if_false]
  have hT : wpAny (model prog w) A (typeOf (.ref e)) (fun v s₁ => v = .ref C ∧ s₁ = ⟨h, g, d, t, os⟩) E ⟨h, g, d, t, os⟩ := by
    unfold typeOf
    repeat (any_goals (first | assumption | exact ⟨rfl, rfl⟩ | with_reducible refine wpAny_loadPart_at he ?_ | wp_step))
  refine wpAny_bind (wpAny_mono hT (fun v s₁ h₁ => ?_) fun _ _ y => y)
  obtain ⟨rfl, rfl⟩ := h₁
  refine wpAny_bind (issub_own hC ?_)
  refine wpAny_bind (wpAny_truthy_bool ?_)
  simp only [if_true]
  exact wpAny_pure hq
theorem Raise_clsOwn {x : Str} {np pos : Pos} {Q : Flow → Shared → Prop} {mN : Str → Option Value} (F : ExcBaseFacts B newId initId bmB) (T : OwnTail h bmB bm) (hbase : bm.contains (.type "BaseException") = true) (hh : A.handled = none)
    (hC : h.get? C = some (excClassObj nm q C N bs bm hdct sn sub ab col dd k0 k1 k2 k3 k5 newId)) (hn : h.Ns N mN) (hni : mN "__init__" = none)
    (hx : wpAny (model prog w) A (eval (.Name x np) env) (fun v s₁ => v = .ref C ∧ s₁ = ⟨h, g, d, t, os⟩) E ⟨h, g, d, t, os⟩)
    (hE : ∀ h' e, Heap.MadeExcOf h h' e (.ref C) [] → E (.ref e) ⟨h', g, d, t, os⟩) :
    wpAny (model prog w) A (exec (.Raise (some (.Name x np)) none pos) env) Q E ⟨h, g, d, t, os⟩ := by
  have hcB : (Value.ref C :: bm).contains (.type "BaseException") = true := by rw [List.contains_cons, hbase, Bool.or_true]
  show wpAny (model prog w) A (do standAt pos; raiseStmt env (some (do let v ← eval (.Name x np) env; standAt pos; pure v)) none) Q E _
  refine wpAny_bind (wpAny_standAt ?_)
  unfold raiseStmt
  dsimp only
  refine wpAny_bind (wpAny_bind (wpAny_mono hx (fun v s₁ h₁ => wpAny_bind (wpAny_standAt (wpAny_pure ?_))) fun _ _ e => e))
  obtain ⟨rfl, rfl⟩ := h₁
  refine wpAny_bind (wpAny_pure ?_)
  dsimp only
  refine wpAny_bind (wpAny_holding ?_)
  unfold excFromValue
  refine wpAny_bind (isExc_own hC hcB ?_)
  simp only [if_true]
  refine wpAny_bind (wpAny_call_exc_subT F T hC hn hni (rest := []) (fun h' e hm => ?_))
  obtain ⟨t', he, _, _⟩ := hm.there
  have hC' := hm.keeps _ _ hC
  refine wpAny_bind (inst_own he hC' hcB ?_)
  simp only [Bool.not_true, Bool.false_eq_true, if_false]
  refine wpAny_pure (wpAny_bind (isType_own hC' ?_))
  simp only [if_true]
  refine wpAny_bind (wpAny_holding (raised_own he hC' ?_))
  unfold setFlight
  repeat (first | with_reducible refine wpAny_loadPart_at he ?_ | wp_step)
  exact wpAny_raiseNew_none hh (hE h' e hm)
end
end
section
section
variable {α β : Type} {g : Gl} {x : Fx} {σ : Store} {m : Loc} {E : Value → Heap → Prop} {hp : Option Value → Prop} {R : Value → Store → Loc → Prop}
theorem W.monoE {t : Sem α} {Q : α → Store → Loc → Prop} {E' : Value → Heap → Prop} (h : W g x t σ m Q E) (k : ∀ e h, E e h → E' e h) : W g x t σ m Q E' :=
  fun ok s₀ σ₀ s hs H => wpAny_mono (h ok s₀ σ₀ s hs H) (fun _ _ z => z) fun e s' z => ⟨z.1, k _ _ z.2⟩
theorem Up.mono {y : Fx} {R R' : Value → Store → Loc → Prop} {e : Value} {h : Heap} (u : Up g y R e h) (k : ∀ c σ m, R c σ m → R' c σ m) : Up g y R' e h := by
  obtain ⟨a, c, σ, m, q1, q2, q3⟩ := u; exact ⟨a, c, σ, m, q1, k _ _ _ q2, q3⟩
theorem UpF.mono {y : Fx} {R R' : Value → Store → Loc → Prop} {e : Value} {h : Heap} (u : UpF g y R e h) (k : ∀ c σ m, R c σ m → R' c σ m) : UpF g y R' e h := by
  obtain ⟨a, c, σ, m, q1, q2, q3⟩ := u; exact ⟨a, c, σ, m, q1, k _ _ _ q2, q3⟩
theorem UpF.up {y : Fx} {R : Value → Store → Loc → Prop} {e : Value} {h : Heap} (u : UpF g y R e h) : Up g y R e h := by
  obtain ⟨a, c, σ, m, q1, q2, q3⟩ := u; exact ⟨a, c, σ, m, q1, q2, .inl q3⟩
/-! ### raise statements -/
theorem w_raiseImm {np pos : Pos} {Q : Flow → Store → Loc → Prop} (hh : x.hd = none) (hl : x.cs.names.lookup (Str.ofString "Immutable") = some .globalImplicit) (h : R (.ref 340) σ m) :
    W g x (exec (.Raise (some (.Name (Str.ofString "Immutable") np)) none pos) x.env) σ m Q (Up g x R) := by
  intro ok s₀ σ₀ s hs H
  have X := ok.X
  have O := own_of_in (x := Str.ofString "Immutable") (C := 340) (bmB := [.type "Exception", .type "BaseException", .type "object"]) (newId := "Exception.__new__") X (topRead_of ok.T) (by kernel_rfl) (by kernel_rfl)
  obtain ⟨tl, N, nm, q, bs, hdct, sn, sub, ab, col, dd, k0, k1, k2, k3, k5, mN, hC, hN, hni, T⟩ := O.obj
  have k := H.1.keep
  obtain ⟨hp, gs, d, tk, os⟩ := s
  refine Raise_clsOwn (E := EE s₀ (Up g x R)) PySem.F.excBase_Exception (T.keeps k) (T.hasType PySem.F.excBase_Exception.hasBase) hh (k _ _ hC) (hN.keeps k) hni (nameX_K (cn := x.cn) (cs := x.cs) (L := x.L) (a := x.a) (ccd := x.ccd) (cl := x.cl) H.1 ok.X (topRead_of ok.T) (v := .ref 340) (by kernel_rfl) ⟨rfl, rfl⟩ ok.k hl (by decide)) fun h' e hm => ?_
  exact ⟨hs.same.heap h', e, _, σ, m, rfl, h, .inr ⟨_, H, Born.ofM hm⟩⟩
theorem w_raiseKE {np pos : Pos} {Q : Flow → Store → Loc → Prop} (hh : x.hd = none) (hl : x.cs.names.lookup (Str.ofString "KeyError") = some .globalImplicit) (h : R (.type "KeyError") σ m) :
    W g x (exec (.Raise (some (.Name (Str.ofString "KeyError") np)) none pos) x.env) σ m Q (Up g x R) := by
  intro ok s₀ σ₀ s hs H
  refine Raise_classB hh excClass_KeyError (by rw [isSubtype_type]; kernel_rfl) (nameX_B (cn := x.cn) (cs := x.cs) (L := x.L) (a := x.a) (ccd := x.ccd) (cl := x.cl) H.1 ok.X (topRead_of ok.T) (v := .type "KeyError") (by kernel_rfl) (by kernel_rfl) (by decide) ⟨rfl, rfl⟩ ok.k hl (by decide)) fun h' e hn => ?_
  exact ⟨hs.same.heap h', e, _, σ, m, rfl, h, .inr ⟨_, H, Born.ofN hn⟩⟩
theorem w_raiseVE {np cpos pos p : Pos} {b : Str} {k : Nat} {Q : Flow → Store → Loc → Prop} (hh : x.hd = none) (hl : x.cs.names.lookup (Str.ofString "ValueError") = some .globalImplicit) (h : R (.type "ValueError") σ m) :
    W g x (exec (.Raise (some (.Call (.Name (Str.ofString "ValueError") np) [.Constant (.str b) k p] [] cpos)) none pos) x.env) σ m Q (Up g x R) := by
  intro ok s₀ σ₀ s hs H
  refine wpAny_Raise_call PySem.F.excCall_ValueError PySem.F.excRaise_ValueError hh rfl (nameX_B (cn := x.cn) (cs := x.cs) (L := x.L) (a := x.a) (ccd := x.ccd) (cl := x.cl) H.1 ok.X (topRead_of ok.T) (v := .type "ValueError") (by kernel_rfl) (by kernel_rfl) (by decide) ⟨rfl, ?_⟩ ok.k hl (by decide))
  have hw : W g x (spliced (backTo cpos (starEach [.Constant (.str b) k p] x.env))) σ m (fun vs σ' m' => vs.length = 1 ∧ σ' = σ ∧ m' = m) (Up g x R) := w_items_cons (w_str fun t => w_items_nil ⟨rfl, rfl, rfl⟩) rfl
  refine evalArgs_plain (W.use hw ok hs H fun vs s' σ' m' hs' H' h' => ?_)
  obtain ⟨hv, rfl, rfl⟩ := h'
  refine ⟨rfl, by rw [sizeLine_eq]; show vs.length ≤ _; omega, fun h' e hn => ?_⟩
  exact ⟨hs'.same.heap h', e, _, _, _, rfl, h, .inr ⟨_, H', Born.ofE hn⟩⟩
/-! ### calls that come back or raise -/
def CPostE (g : Gl) (x : Fx) (m : Loc) (s₀ : Shared) (σ₀ : Store) (Q : Value → Store → Prop) (R : Value → Store → Prop) (r : Result) (s' : Shared) : Prop := match r with
  | .ok (.ret v) => ∃ σ', Was s₀ σ₀ s' σ' ∧ At g x σ' m s'.heap ∧ Q v σ'
  | .ok _ => False
  | .error e => EE s₀ (UpF g x (fun c σ m' => R c σ ∧ m' = m)) e s'
def CallsE (g : Gl) (hp : Option Value → Prop) (n : Nat) (f : Value) (args : List Value) (kw : List (Str × Value)) (σ : Store) (Q : Value → Store → Prop) (R : Value → Store → Prop) : Prop :=
  ∀ (x : Fx) (m : Loc), hp x.hd → Room x n → x.Ok g → ∀ s₀ σ₀ s, Was s₀ σ₀ s σ → At g x σ m s.heap → codeAny g.M x.A (.call f ⟨args, kw⟩) (CPostE g x m s₀ σ₀ Q R) s
theorem CallsE.le {n k : Nat} {f : Value} {args : List Value} {kw : List (Str × Value)} {Q R : Value → Store → Prop} (h : CallsE g hp n f args kw σ Q R) (hk : n ≤ k) : CallsE g hp k f args kw σ Q R :=
  fun x m hh hr => h x m hh (hr.le hk)
theorem w_callE {n : Nat} {f : Value} {args : List Value} {kw : List (Str × Value)} {Q : Value → Store → Loc → Prop} {R : Value → Store → Prop} (hh : hp x.hd) (hr : Room x n) (h : CallsE g hp n f args kw σ (fun v σ' => Q v σ' m) R)
    (hE : ∀ e h, UpF g x (fun c σ m' => R c σ ∧ m' = m) e h → E e h) : W g x (call f args kw) σ m Q E :=
  fun ok s₀ σ₀ s hs H => wpAny_call (codeAny_mono (h x m hh hr ok s₀ σ₀ s hs H) fun r s' z => by
    rcases r with e | (v | _ | _ | _)
    · exact ⟨z.1, hE _ _ z.2⟩
    · exact z.elim
    · exact z.elim
    · exact z.elim
    · obtain ⟨σ', a, b, c⟩ := z; exact ⟨σ', m, a, b, c⟩)
theorem w_specE {k n : Nat} {f : Value} {args : List Value} {kw : List (Str × Value)} {Q : Value → Store → Loc → Prop} {R : Value → Store → Prop} (hr : Room x n) (hh : hp x.hd) (h : CallsE g hp k f args kw σ (fun v σ' => Q v σ' m) R) (hk : k ≤ n)
    (hE : ∀ e h, UpF g x (fun c σ m' => R c σ ∧ m' = m) e h → E e h) : W g x (call f args kw) σ m Q E := w_callE hh (hr.le hk) h hE
theorem Calls.toE {n : Nat} {f : Value} {args : List Value} {kw : List (Str × Value)} {Q R : Value → Store → Prop} (h : Calls g hp n f args kw σ Q) : CallsE g hp n f args kw σ Q R := fun x m hh hr ok s₀ σ₀ s hs H =>
  codeAny_mono (h x m (UpF g x (fun c σ m' => R c σ ∧ m' = m)) hh hr ok s₀ σ₀ s hs H) fun r s' z => by
    rcases r with e | (v | _ | _ | _)
    · exact z
    · exact z.elim
    · exact z.elim
    · exact z.elim
    · exact z
/-- what a bound method's call is -/
theorem w_callBoundE {q f : Addr} {self : Value} {k : Nat} {args : List Value} {kw : List (Str × Value)} {Q : Value → Store → Loc → Prop} {R : Value → Store → Prop} (e : σ q = some (.raw (methodObj (.ref f) self))) (hh : hp x.hd) (hr : Room x k) (h : CallsE g hp k (.ref f) (self :: args) kw σ (fun v σ' => Q v σ' m) R)
    (hE : ∀ e h, UpF g x (fun c σ m' => R c σ ∧ m' = m) e h → E e h) : W g x (call (.ref q) args kw) σ m Q E :=
  fun ok s₀ σ₀ s hs H => wpAny_call (method_call (H.getPred e) (codeAny_mono (h x m hh hr ok s₀ σ₀ s hs H) fun r s' z => by
    rcases r with e | (v | _ | _ | _)
    · exact ⟨z.1, hE _ _ z.2⟩
    · exact z.elim
    · exact z.elim
    · exact z.elim
    · obtain ⟨σ', a, b, c⟩ := z; exact ⟨σ', m, a, b, c⟩))
end
theorem calls_defE {g : Gl} {hp : Option Value → Prop} {n : Nat} {σ : Store} {name qual : Str} {params : Arguments} {body : List Stmt} {scope : Scope} {dV kV doc pm cdv ct oc : Value} {an od : Option Addr} {osl : Array (Option Value)} {f : Addr} {args : List Value} {kw : List (Str × Value)} {Q R : Value → Store → Prop} (binds : List (Str × Value))
    (ho : g.K.lookup f = some ⟨oc, od, .func (fnOf name qual params body scope dV kV doc pm an cdv ct), osl⟩) (hcd : codeIn g.K cdv qual = true)
    (hbind : ∀ s, g.K.In s.heap → BindsTo s (fnOf name qual params body scope dV kV doc pm an cdv ct) ⟨args, kw⟩ binds) (hloc : ∀ y ∈ binds, scope.names.lookup y.1 = some .local) (hcell : ∀ x ∈ scope.names, x.2 ≠ .cell)
    (hco : scope.isCoroutine = false) (hgen : scope.isGenerator = false) (hk : scope.kind = .function)
    (h : ∀ y : Fx, hp y.hd → Room y n → y.cs = scope → y.cn = qual → y.a = f → y.ccd = cdv → y.cl = [] →
      W g y (execs body y.env) σ (fun z => binds.reverse.lookup z) (fun fl σ' _ => Q (match fl with | .ret v => v | _ => .none) σ') (Up g y (fun c σ _ => R c σ))) :
    CallsE g hp (n + 1) (.ref f) args kw σ Q R := by
  intro x m hh hr ok s₀ σ₀ s hs H
  obtain ⟨F, news, dx, RN⟩ := H
  refine code_def ok.B F ok.X RN.N ok.T (A := x.A) rfl (env := x.env) rfl ok.k ho hcd ok.rd (hbind s (ok.X.keeps F.keep)) hloc (fun G L' h₁ FG F' N' B' X' T' => ?_) hco hgen hk hcell
  have ok' : Fx.Ok g ⟨x.hd, x.dp + 1, x.un + 3, x.gd, x.env :: x.outer, x.A, x.base, G, L', qual, scope, f, cdv, []⟩ := by
    refine ⟨B', X', T', hk, ?_, ?_⟩
    · have := hr.1; show x.dp + 1 < recursionLimit; omega
    · have := hr.2; show x.un + 3 < cLine; omega
  have hb := h ⟨x.hd, x.dp + 1, x.un + 3, x.gd, x.env :: x.outer, x.A, x.base, G, L', qual, scope, f, cdv, []⟩ hh ⟨by have := hr.1; show x.dp + 1 + 2 * n < _; omega, by have := hr.2; show x.un + 3 + 12 * n < _; omega⟩ rfl rfl rfl rfl rfl
  refine wpAny_mono (hb ok' s₀ σ₀ _ (hs.mk' h₁ _) ⟨F', news, dx, ⟨N', RN.nd, RN.cells, RN.inj, RN.off⟩⟩) (fun fl s' hp => ?_) fun e s' he => ?_
  · obtain ⟨σ', m', hs', ⟨F2, news2, dx2, R2⟩, hq⟩ := hp
    exact leaveK_ F2 R2.N fun F3 N3 => ⟨σ', hs', ⟨F3, news2, dx2, ⟨N3, R2.nd, R2.cells, R2.inj, R2.off⟩⟩, hq⟩
  · exact leave_up (x := x) (y := ⟨x.hd, x.dp + 1, x.un + 3, x.gd, x.env :: x.outer, x.A, x.base, G, L', qual, scope, f, cdv, []⟩) (R := R) rfl rfl B' hk FG he.2 fun h' u => ⟨he.1.heap h', u⟩
theorem calls_superE {g : Gl} {hp : Option Value → Prop} {n : Nat} {σ : Store} {name qual : Str} {params : Arguments} {body : List Stmt} {scope : Scope} {dV kV doc pm cdv ct oc : Value} {an od : Option Addr} {osl : Array (Option Value)} {f cc : Addr} {args : List Value} {kw : List (Str × Value)} {Q R : Value → Store → Prop} (binds : List (Str × Value))
    (ho : g.K.lookup f = some ⟨oc, od, .func (ksFn name qual params body scope dV kV doc pm an cdv ct cc), osl⟩) (hcd : codeIn g.K cdv qual = true)
    (hbind : ∀ s, g.K.In s.heap → BindsTo s (ksFn name qual params body scope dV kV doc pm an cdv ct cc) ⟨args, kw⟩ binds) (hloc : ∀ y ∈ binds, scope.names.lookup y.1 = some .local) (hcell : ∀ x ∈ scope.names, x.2 ≠ .cell)
    (hco : scope.isCoroutine = false) (hgen : scope.isGenerator = false) (hk : scope.kind = .function)
    (h : ∀ y : Fx, hp y.hd → Room y n → y.Ok g → y.cs = scope → y.cn = qual → y.a = f → y.ccd = cdv → y.cl = ([("__class__", cc)] : List (Str × Addr)) → ∀ s₀ σ₀ s, Was s₀ σ₀ s σ → At g y σ (fun z => binds.reverse.lookup z) s.heap →
      _root_.PySem.wpAt g.M y.A (.func body y.env) (execs body y.env) (Post g y s₀ σ₀ (fun fl σ' _ => Q (match fl with | .ret v => v | _ => .none) σ')) (EE s₀ (Up g y (fun c σ _ => R c σ))) s) :
    CallsE g hp (n + 1) (.ref f) args kw σ Q R := by
  intro x m hh hr ok s₀ σ₀ s hs H
  obtain ⟨F, news, dx, RN⟩ := H
  refine ks_code_super ok.B F ok.X RN.N ok.T (A := x.A) rfl (env := x.env) rfl ok.k ho hcd ok.rd (hbind s (ok.X.keeps F.keep)) hloc (fun G L' h₁ FG F' N' B' X' T' l1 => ?_) hcell hco hgen hk
  have ok' : Fx.Ok g ⟨x.hd, x.dp + 1, x.un + 3, x.gd, x.env :: x.outer, x.A, x.base, G, L', qual, scope, f, cdv, [("__class__", cc)]⟩ := by
    refine ⟨B', X', T', hk, ?_, ?_⟩
    · have := hr.1; show x.dp + 1 < recursionLimit; omega
    · have := hr.2; show x.un + 3 < cLine; omega
  have hb := h ⟨x.hd, x.dp + 1, x.un + 3, x.gd, x.env :: x.outer, x.A, x.base, G, L', qual, scope, f, cdv, [("__class__", cc)]⟩ hh ⟨by have := hr.1; show x.dp + 1 + 2 * n < _; omega, by have := hr.2; show x.un + 3 + 12 * n < _; omega⟩ ok' rfl rfl rfl rfl rfl
  refine ks_wpAt_mono (hb s₀ σ₀ _ (hs.mk' h₁ _) ⟨F', news, dx, ⟨N', RN.nd, RN.cells, RN.inj, RN.off⟩⟩) (fun fl s' hp => ?_) fun e s' he => ?_
  · obtain ⟨σ', m', hs', ⟨F2, news2, dx2, R2⟩, hq⟩ := hp
    exact leaveK_ F2 R2.N fun F3 N3 => ⟨σ', hs', ⟨F3, news2, dx2, ⟨N3, R2.nd, R2.cells, R2.inj, R2.off⟩⟩, hq⟩
  · exact leave_up (x := x) (y := ⟨x.hd, x.dp + 1, x.un + 3, x.gd, x.env :: x.outer, x.A, x.base, G, L', qual, scope, f, cdv, [("__class__", cc)]⟩) (R := R) rfl rfl B' hk FG he.2 fun h' u => ⟨he.1.heap h', u⟩
theorem calls_newE {g : Gl} {σ : Store} {hp : Option Value → Prop} {n : Nat} {C fI : Addr} {args : List Value} {kw : List (Str × Value)} {Q R : Value → Store → Prop} (hm : makesIn g.K C = true) (hi : findIn g.K (.ref C) "__init__" = some (some (.ref fI))) (hf : isFn g.K (.ref fI) = true)
    (h : ∀ a, σ a = none → CallsE g hp n (.ref fI) (.ref a :: args) kw (σ.set a (.inst C [])) (fun v σ' => v = .none ∧ Q (.ref a) σ') R) : CallsE g hp (n + 1) (.ref C) args kw σ Q R := by
  intro x m hh hr ok s₀ σ₀ s hs H
  obtain ⟨F, news, dx, RN⟩ := id H
  refine make_K F RN.N (ok.X.keeps F.keep) hm hi (beq_iff_eq.mp hf) fun a d h' F' N' l1 l2 => ?_
  have R' := RN.newI l1 l2 N'
  have fr := RN.fresh (l := a) (fun p hp => Nat.lt_trans (l1 p hp) l2)
  obtain ⟨u, hu, hA⟩ := under_type x C args kw
  rw [hA]
  have ok' : Fx.Ok g ({ x with dp := x.dp + 1, un := x.un + u } : Fx) := ⟨ok.B, ok.X, ok.T, ok.k, by have := hr.1; show x.dp + 1 < _; omega, by have := hr.2; show x.un + u < _; omega⟩
  refine codeAny_mono (h a fr ({ x with dp := x.dp + 1, un := x.un + u } : Fx) m hh ⟨by have := hr.1; show x.dp + 1 + 2 * n < _; omega, by have := hr.2; show x.un + u + 12 * n < _; omega⟩ ok' s₀ σ₀ { s with heap := h' } ((hs.heap h').new _ fr) ⟨F', _, _, R'⟩) fun r s' z => ?_
  rcases r with e | (v | _ | _ | _)
  · exact z
  · exact z.elim
  · exact z.elim
  · exact z.elim
  · obtain ⟨σ', z1, z2, z3, z4⟩ := z; exact ⟨z3, σ', z1, z2, z4⟩
end
section
abbrev Fx.frs (x : Fx) : List Addr := x.outer.filterMap (·.frame)
/-- y is x behind a catching: the frames below have other slots -/
def Turned (x y : Fx) : Prop := ∃ h₁, y = { x with h₀ := h₁ } ∧ KtsTurn x.frs x.h₀ h₁ ∧ Below x.A₀ x.base x.outer h₁
def Grd (g : Gl) (x : Fx) : Prop := g.K.In x.base ∧ Top g.p g.loose g.mean g.mg g.mb x.base
def CtxNone (o : Obj) : Prop := ∃ vs, o.data = .fields vs ∧ vs[2]? = some .none
section
variable {α β : Type} {g : Gl} {x y z : Fx} {σ : Store} {m : Loc} {R : Value → Store → Loc → Prop}
theorem Turned.refl (ok : x.Ok g) : Turned x x := ⟨x.h₀, rfl, .refl, ok.B⟩
theorem Turned.trans (a : Turned x y) (b : Turned y z) : Turned x z := by
  obtain ⟨h₁, rfl, t₁, B₁⟩ := a
  obtain ⟨h₂, rfl, t₂, B₂⟩ := b
  exact ⟨h₂, rfl, t₁.trans t₂, B₂⟩
theorem Turned.ok (G : Grd g x) (ok : x.Ok g) (T : Turned x y) : y.Ok g := by
  obtain ⟨h₁, rfl, T, B⟩ := T
  exact ⟨B, G.1.keeps B.stays, G.2.keeps B.stays, ok.k, ok.rd, ok.ru⟩
theorem Turned.grd (G : Grd g x) (T : Turned x y) : Grd g y := by
  obtain ⟨h₁, rfl, T, B⟩ := T
  exact G
theorem groundT {G B h₅ : Heap} (K : Below x.A₀ x.base x.outer x.h₀) (F : Fr x.h₀ x.L G m) (hBG : ∀ b o, G.get? b = some o → b ∉ (x.env :: x.outer).filterMap (·.frame) → B.get? b = some o) (hBh : B.StaysIn h₅) (hsm : G.UpToSlots h₅) :
    ∃ g', KtsTurn x.frs x.h₀ g' ∧ Fr g' x.L h₅ m ∧ Below x.A₀ x.base x.outer g' := by
  have frame : ∀ {b}, b ∈ x.frs → x.base.get? b = none ∧ ∃ o, x.h₀.get? b = some o ∧ ∀ vs, o.data ≠ .fields vs := fun hm => by
    obtain ⟨n, o, q, np⟩ := K.frames.mem hm
    exact ⟨n, o, q, np⟩
  have apart : ∀ b o, x.h₀.get? b = some o → b ∉ x.frs → h₅.get? b = some o := fun b o q nm =>
    hBh b o (hBG b o (F.keep b o q) fun hm => (mem_frames hm).elim (fun z => by subst z; cases (fr_self F).symm.trans q) nm)
  have own : ∀ b o, x.h₀.get? b = some o → b ∈ x.frs → ∃ sl, h₅.get? b = some { o with slots := sl } := fun b o q hm => by
    obtain ⟨-, o', q', np⟩ := frame hm
    exact hsm b o (F.keep b o q) (Option.some.inj (q'.symm.trans q) ▸ np)
  obtain ⟨T, above⟩ := kts_turn_at (fun b hb => (frame hb).2.imp fun _ z => z.1) apart own
  refine ⟨_, T, ⟨hsm.ns F.ns, above, T.size ▸ F.above⟩, K.stack, fun b o q => T.other b o (K.stays b o q) fun hm => ?_, K.frames.of_keeps fun b o q _ => (T.up q).elim fun sl z => ⟨_, z, rfl⟩⟩
  cases (frame hm).1.symm.trans q
theorem RepX.add {w : World} {news : List (Addr × Obj)} {dx : Addr → Addr} (R : RepX w σ news dx) {l : Addr} {o : Obj} (hl : ∀ p ∈ news, p.1 ≠ l) : RepX w (σ.set l (.raw o)) ((l, o) :: news) dx ∧ σ l = none := by
  have hf : σ l = none := by
    cases q : σ l with
    | none => rfl
    | some c => obtain ⟨o, hm⟩ := (R.cells l c q).mem; exact absurd rfl (hl _ hm)
  refine ⟨⟨?_, fun b cb hb => ?_, fun b b' C fs C' fs' h1 h2 q => ?_, fun b C fs h1 => ?_⟩, hf⟩
  · rw [List.map_cons, List.nodup_cons]
    refine ⟨fun q => ?_, R.nd⟩
    obtain ⟨p, hp, e⟩ := List.mem_map.mp q
    exact hl p hp e
  · by_cases hbl : b = l
    · subst hbl
      rw [Store.set_same] at hb; cases hb
      exact ⟨o, .head _, rfl⟩
    · rw [Store.set_ne _ _ hbl] at hb
      exact (R.cells b cb hb).keep (fun o h => .tail _ h) fun C fs q => ⟨rfl, fun o h => .tail _ h⟩
  · have n1 : b ≠ l := fun q => by subst q; rw [Store.set_same] at h1; cases h1
    have n2 : b' ≠ l := fun q => by subst q; rw [Store.set_same] at h2; cases h2
    rw [Store.set_ne _ _ n1] at h1; rw [Store.set_ne _ _ n2] at h2
    exact R.inj _ _ _ _ _ _ h1 h2 q
  · have n1 : b ≠ l := fun q => by subst q; rw [Store.set_same] at h1; cases h1
    rw [Store.set_ne _ _ n1] at h1
    obtain ⟨_, es, n, hm, _⟩ := R.cells b _ h1
    rw [Store.set_ne _ _ (hl _ hm)]
    exact R.off b C fs h1
/-- what the test of a clause does: it fits -/
def Hits (g : Gl) (x : Fx) (n : Str) (c : Value) : Prop := ∀ {np pos : Pos} {b₀ : Stmt} {suite : List Stmt} {rest : List ExceptHandler} {Q : Flow → Shared → Prop} {E : Value → Shared → Prop} {s₅ : Shared} {a : Addr} {h : Value} {g₅ : Heap} {m : Loc},
  Fr g₅ x.L s₅.heap m → g.K.In g₅ → TopRead g.p g.loose g.mg g.mb g₅ → RecAt s₅.heap a c h →
  wpAny g.M (x.A.mark (some (.ref a))) (setFlight (.ref a) none) (fun _ s₂ => wpAny g.M (x.A.mark (some (.ref a))) (execs (b₀ :: suite) x.env) Q (notedBy g.M (x.A.mark (some (.ref a))) x.env (cameBackBy g.M x.A x.env E)) s₂) (notedBy g.M (x.A.mark (some (.ref a))) x.env (cameBackBy g.M x.A x.env E)) s₅ →
  wpAny g.M x.A (handleBy (.ref a) x.env (.ExceptHandler (some (.Name n np)) none (b₀ :: suite) pos :: rest)) Q E s₅
theorem hits_B {n : Str} {X T' : String} (ok : x.Ok g) (ex : nsIn g.K mainGlobals n = some none) (hv : bootBuiltins n = some (.type T')) (hn' : n ≠ "__name__")
    (hexc : isSubtype (.type T') (.type "BaseException") = pure true) (hnt : isSubtype (.type ((Manifest.find? T').elim "type" fun y => y.metatype)) (.type "tuple") = pure false) (hsub : isSubtype (.type X) (.type T') = pure true)
    (hl : x.cs.names.lookup n = some .globalImplicit) (hd : (n == ("__debug__" : Str)) = false) : Hits g x n (.type X) := by
  intro np pos b₀ suite rest Q E s₅ a h g₅ m F X₅ P₅ hr k
  obtain ⟨oe, vs, he, hc, _⟩ := hr
  exact wpAny_handleBy_builtin (X := X) (T := T') (b := true) hexc hnt hsub (nameX_B (cn := x.cn) (cs := x.cs) (L := x.L) (a := x.a) (ccd := x.ccd) (cl := x.cl) F X₅ P₅ ex hv hn' ⟨rfl, ⟨oe, he, hc⟩, k⟩ ok.k hl hd)
theorem hits_O {n : Str} {C : Addr} (ok : x.Ok g) (ex : nsIn g.K mainGlobals n = some (some (.ref C))) (q : ktsIn g.K C "BaseException" = true)
    (hl : x.cs.names.lookup n = some .globalImplicit) (hd : (n == ("__debug__" : Str)) = false) : Hits g x n (.ref C) := by
  intro np pos b₀ suite rest Q E s₅ a h g₅ m F X₅ P₅ hr k
  obtain ⟨oe, vs, he, hc, _⟩ := hr
  obtain ⟨nm, q', N, bs, bm, hdct, sn, sub, ab, col, dd, k0, k1, k2, k3, k5, newId, hC, hbase, hbT⟩ := kts_cls X₅ q
  have hC₅ := F.keep _ _ hC
  obtain ⟨hp, gs, d, tk, os⟩ := s₅
  refine wpAny_handleBy_cons (codeAny_handlers_test (nameX_K (cn := x.cn) (cs := x.cs) (L := x.L) (a := x.a) (ccd := x.ccd) (cl := x.cl) F X₅ P₅ ex ?_ ok.k hl hd)) (by intro q; cases q)
  exact wpAny_excMatches_sub_self hC₅ he hc hbase (codeAny_handlers_suite k)
/-- an exception lands in the frame's clause -/
theorem land {n : Str} {c : Value} {np pos : Pos} {b₀ : Stmt} {suite : List Stmt} {rest : List ExceptHandler} {Q : Flow → Shared → Prop} {E : Value → Shared → Prop} {s' : Shared} {a : Addr} (G : Grd g x) (ok : x.Ok g) (hit : Hits g x n c) (hf : Fly g x σ m a c s'.heap)
    (k : ∀ y oe h', Turned x y → CtxNone oe → σ a = none → At g y (σ.set a (.raw oe)) m h' → wpAny g.M (x.A.mark (some (.ref a))) (execs (b₀ :: suite) x.env) Q (fun _ _ => False) { s' with heap := h' }) :
    wpAny g.M x.A (noteFrame (.ref a) x.env) (fun _ s₂ => wpAny g.M x.A (setFlight (.ref a) none) (fun _ s₃ => wpAny g.M x.A (handleBy (.ref a) x.env (.ExceptHandler (some (.Name n np)) none (b₀ :: suite) pos :: rest)) Q E s₃) E s₂) E s' := by
  obtain ⟨G', news, dx, B, F, hsm, RX, hB, hBG, hl, hfl⟩ := hf
  have hL : B.get? x.L = none := by
    obtain ⟨_, ⟨L', _, hf, hn', _⟩, _⟩ := hfl.frames
    obtain rfl : x.L = L' := Option.some.inj hf
    exact hn'
  refine noteC_on rfl rfl hfl fun h₄ x4 u4 => flightC x4 fun h₅ x5 u5 => ?_
  obtain ⟨g₅, T₅, F₅, K₅⟩ := groundT ok.B F hBG x5.stays ((hsm.trans u4).trans u5)
  obtain ⟨T, oT, ts, r5, _⟩ := x5.tr
  refine hit F₅ (G.1.keeps K₅.stays) (topRead_of (G.2.keeps K₅.stays)) r5 ?_
  refine flightC x5 fun h₆ x6 u6 => ?_
  have hsm₆ := ((hsm.trans u4).trans u5).trans u6
  obtain ⟨g₆, T₆, F₆, K₆⟩ := groundT ok.B F hBG x6.stays hsm₆
  obtain ⟨T2, oT2, ts2, ⟨oe, vs, hoe, hoc, hod, _, ho2⟩, _⟩ := x6.tr
  have ne₀ : x.h₀.get? a = none := by
    cases q : x.h₀.get? a with
    | none => rfl
    | some o =>
      by_cases hm : a ∈ x.outer.filterMap (·.frame)
      · obtain ⟨_, o', ho', hd⟩ := ok.B.frames.mem hm
        rw [q] at ho'; cases ho'
        obtain ⟨sl, hs⟩ := hsm₆ _ _ (F.keep _ _ q) hd
        rw [hoe] at hs; cases hs
        exact absurd hod (hd _)
      · have := hBG a o (F.keep _ _ q) (fun hm' => by
          rcases mem_frames hm' with z | z
          · rw [z, fr_self F] at q; cases q
          · exact hm z)
        rw [x6.new] at this; cases this
  have hnl : ∀ p ∈ news, p.1 ≠ a := fun p hp q => by have := (hl p hp).1; rw [q, x6.new] at this; cases this
  obtain ⟨RX', hσ⟩ := RX.add (o := oe) hnl
  refine wpAny_mono (k { x with h₀ := g₆ } oe h₆ ⟨g₆, rfl, T₆, K₆⟩ ⟨vs, hod, ho2⟩ hσ ⟨F₆, _, dx, RepN.ofX RX' fun q hq => ?_⟩) (fun _ _ z => z) fun _ _ z => z.elim
  rcases List.mem_cons.mp hq with rfl | hq
  · refine ⟨hoe, fun z => ?_, T₆.none_ _ ne₀⟩
    obtain ⟨oL, es, ep, hL6, hd6, _⟩ := F₆.ns
    have z : a = x.L := z
    rw [← z, hoe] at hL6; cases hL6
    rw [hod] at hd6; cases hd6
  · exact ⟨x6.stays _ _ (hl q hq).1, (fun z => by have := (hl q hq).1; rw [z, hL] at this; cases this), T₆.none_ _ (kts_none F.keep (hl q hq).2)⟩

/-- the judgement for a frame that may be turned -/
def WS {α : Type} (g : Gl) (x : Fx) (t : Sem α) (σ : Store) (m : Loc) (Q : α → Store → Loc → Prop) : Prop :=
  ∀ y, Turned x y → y.Ok g → ∀ s₀ σ₀ s, Was s₀ σ₀ s σ → At g y σ m s.heap → wpAny g.M x.A t (fun v s' => ∃ z, Turned x z ∧ Post g z s₀ σ₀ Q v s') (fun _ _ => False) s
theorem WS.of {t : Sem α} {Q : α → Store → Loc → Prop} (h : ∀ y, Turned x y → W g y t σ m Q NoE) : WS g x t σ m Q := fun y T ok s₀ σ₀ s hs H => by
  have := h y T ok s₀ σ₀ s hs H
  obtain ⟨h₁, rfl, T1, B1⟩ := id T
  exact wpAny_mono this (fun v s' z => ⟨_, T, z⟩) fun e s' z => z.2
theorem WS.mono {t : Sem α} {P Q : α → Store → Loc → Prop} (h : WS g x t σ m P) (k : ∀ v σ' m', P v σ' m' → Q v σ' m') : WS g x t σ m Q := fun y T ok s₀ σ₀ s hs H =>
  wpAny_mono (h y T ok s₀ σ₀ s hs H) (fun v s' ⟨z, Tz, σ', m', h1, h2, h3⟩ => ⟨z, Tz, σ', m', h1, h2, k _ _ _ h3⟩) fun _ _ e => e
theorem ws_nil {Q : Flow → Store → Loc → Prop} (h : Q .next σ m) : WS g x (execs [] x.env) σ m Q := fun y T ok s₀ σ₀ s hs H => wpAny_execs_nil ⟨y, T, σ, m, hs, H, h⟩
def NextS (g : Gl) (x : Fx) (rest : List Stmt) (Q : Flow → Store → Loc → Prop) (f : Flow) (σ : Store) (m : Loc) : Prop := match f with
  | .next => WS g x (execs rest x.env) σ m Q
  | f => Q f σ m
theorem ws_cons {st : Stmt} {rest : List Stmt} {Q : Flow → Store → Loc → Prop} (G : Grd g x) (ok : x.Ok g) (h : WS g x (exec st x.env) σ m (NextS g x rest Q)) : WS g x (execs (st :: rest) x.env) σ m Q := fun y T oky s₀ σ₀ s hs H =>
  wpAny_execs_cons (wpAny_mono (h y T oky s₀ σ₀ s hs H) (fun f s' ⟨z, Tz, σ', m', h1, h2, h3⟩ => by
    cases f
    · exact h3 z Tz (Tz.ok G ok) s₀ σ₀ s' h1 h2
    · exact ⟨z, Tz, σ', m', h1, h2, h3⟩
    · exact ⟨z, Tz, σ', m', h1, h2, h3⟩
    · exact ⟨z, Tz, σ', m', h1, h2, h3⟩) fun _ _ e => e)
theorem ws_Try {n : Str} {np hpos pos : Pos} {b₀ : Stmt} {body suite : List Stmt} {c : Value} {Q : Flow → Store → Loc → Prop} (G : Grd g x) (ok : x.Ok g) (hit : Hits g x n c)
    (hbody : ∀ y, Turned x y → W g y (execs body x.env) σ m Q (UpF g y R))
    (hk : ∀ c' σ' m', R c' σ' m' → c' = c ∧ Keeps σ σ' ∧ ∀ y a oe, Turned x y → σ' a = none → CtxNone oe → W g { y with hd := some (.ref a) } (execs (b₀ :: suite) x.env) (σ'.set a (.raw oe)) m' Q NoE) :
    WS g x (exec (.Try body [.ExceptHandler (some (.Name n np)) none (b₀ :: suite) hpos] [] [] pos) x.env) σ m Q := by
  intro y T oky s₀ σ₀ s hs H
  have hb := hbody y T oky s₀ σ₀ s hs H
  have Gy := T.grd G
  obtain ⟨h₁, rfl, T1, B1⟩ := id T
  refine wpAny_Try_except (wpAny_mono hb (fun f s₁ ⟨σ', m', h1, h2, h3⟩ => ?_) fun e s₁ he => ?_)
  · cases f with
    | next => exact wpAny_execs_nil ⟨_, T, σ', m', h1, h2, h3⟩
    | brk => exact ⟨_, T, σ', m', h1, h2, h3⟩
    | cont => exact ⟨_, T, σ', m', h1, h2, h3⟩
    | ret v => exact ⟨_, T, σ', m', h1, h2, h3⟩
  · obtain ⟨hs1, a, c', σ', m', rfl, hR, hf⟩ := he
    obtain ⟨rfl, kp, hsuite⟩ := hk c' σ' m' hR
    refine land (x := { x with h₀ := h₁ }) Gy oky hit hf fun z oe h' Tz hc hσ Hz => ?_
    have Tx := T.trans Tz
    have okz := Tx.ok G ok
    have hw := hsuite z a oe Tx hσ hc
    obtain ⟨h₂, rfl, _, _⟩ := id Tx
    have hs2 : Was s₀ σ₀ { s₁ with heap := h' } (σ'.set a (.raw oe)) := ⟨hs1.heap h', (show Keeps σ₀ σ' from fun b P q => kp b P (hs.keep b P q)).new _ hσ⟩
    exact wpAny_mono (hw ⟨okz.B, okz.X, okz.T, okz.k, okz.rd, okz.ru⟩ s₀ σ₀ _ hs2 Hz) (fun f s2 q => ⟨_, Tx, q⟩) fun e s2 q => q.2.elim
theorem heap_ext {h h' : Heap} (T : KtsTurn [] h h') : (∀ b o, h'.get? b = some o → h.get? b = some o) := fun b o e => by
  cases q : h.get? b with
  | none => rw [T.none_ b q] at e; cases e
  | some o' => rw [T.other b o' q (by simp)] at e; exact e
theorem At.turn0 {h : Heap} (ho : x.outer = []) (T : Turned x y) (H : At g y σ m h) : At g x σ m h := by
  obtain ⟨h₁, rfl, T1, B1⟩ := T
  have e : x.frs = [] := by unfold Fx.frs; rw [ho]; rfl
  rw [e] at T1
  obtain ⟨F, news, dx, RN⟩ := H
  exact ⟨⟨F.ns, fun b o q => F.keep b o (T1.other b o q (by simp)), T1.size ▸ F.above⟩, news, dx, ⟨fun p hp => ⟨(RN.N p hp).1, (RN.N p hp).2.1, kts_none (fun b o q => T1.other b o q (by simp)) (RN.N p hp).2.2⟩, RN.nd, RN.cells, RN.inj, RN.off⟩⟩
/-- where no frame is below, a turned frame is as it was -/
theorem W.ofS {t : Sem α} {Q : α → Store → Loc → Prop} (ho : x.outer = []) (h : WS g x t σ m Q) : W g x t σ m Q NoE := fun ok s₀ σ₀ s hs H =>
  wpAny_mono (h x (.refl ok) ok s₀ σ₀ s hs H) (fun v s' ⟨z, Tz, σ', m', h1, h2, h3⟩ => ⟨σ', m', h1, h2.turn0 ho Tz, h3⟩) fun _ _ e => e.elim
/-- a helper that catches, called from a frame without frames below -/
def CallsS (g : Gl) (n : Nat) (f : Value) (args : List Value) (σ : Store) (Q : Value → Store → Prop) : Prop :=
  ∀ (x : Fx) (m : Loc), x.hd = none → Room x n → x.Ok g → x.outer = [] → Grd g x → ∀ s₀ σ₀ s, Was s₀ σ₀ s σ → At g x σ m s.heap → codeAny g.M x.A (.call f ⟨args, []⟩) (CPost g x m s₀ σ₀ Q NoE) s
theorem w_callS {n : Nat} {f : Value} {args : List Value} {Q : Value → Store → Loc → Prop} {E : Value → Heap → Prop} (hh : x.hd = none) (hr : Room x n) (ho : x.outer = []) (G : Grd g x) (h : CallsS g n f args σ (fun v σ' => Q v σ' m)) : W g x (call f args []) σ m Q E :=
  fun ok s₀ σ₀ s hs H => wpAny_call (codeAny_mono (h x m hh hr ok ho G s₀ σ₀ s hs H) fun r s' z => by
    rcases r with e | (v | _ | _ | _)
    · exact z.2.elim
    · exact z.elim
    · exact z.elim
    · exact z.elim
    · obtain ⟨σ', a, b, c⟩ := z; exact ⟨σ', m, a, b, c⟩)
end
theorem calls_defS {g : Gl} {n : Nat} {σ : Store} {name qual : Str} {params : Arguments} {body : List Stmt} {scope : Scope} {dV kV doc pm cdv ct oc : Value} {an od : Option Addr} {osl : Array (Option Value)} {f : Addr} {args : List Value} {Q : Value → Store → Prop} (binds : List (Str × Value))
    (ho : g.K.lookup f = some ⟨oc, od, .func (fnOf name qual params body scope dV kV doc pm an cdv ct), osl⟩) (hcd : codeIn g.K cdv qual = true)
    (hbind : ∀ s, g.K.In s.heap → BindsTo s (fnOf name qual params body scope dV kV doc pm an cdv ct) ⟨args, []⟩ binds) (hloc : ∀ y ∈ binds, scope.names.lookup y.1 = some .local) (hcell : ∀ x ∈ scope.names, x.2 ≠ .cell)
    (hco : scope.isCoroutine = false) (hgen : scope.isGenerator = false) (hk : scope.kind = .function)
    (h : ∀ y : Fx, y.hd = none → Room y n → y.Ok g → Grd g y → y.cs = scope → y.cn = qual → y.a = f → y.ccd = cdv → y.cl = [] →
      WS g y (execs body y.env) σ (fun z => binds.reverse.lookup z) (fun fl σ' _ => Q (match fl with | .ret v => v | _ => .none) σ')) :
    CallsS g (n + 1) (.ref f) args σ Q := by
  intro x m hh hr ok hout GR s₀ σ₀ s hs H
  obtain ⟨F, news, dx, RN⟩ := H
  have X := ok.X.keeps F.keep
  obtain ⟨FG, BG, st, _⟩ := groundX (R := fun _ _ => True) ok.B F RN.N (A := x.A) rfl (env := x.env) rfl ok.k
  refine codeAny_call_def (fd := fnOf name qual params body scope dV kV doc pm an cdv ct) (body := body) (binds := binds) ok.rd (X _ _ ho) rfl (ok.T.nolimit.keeps F.keep) (codeRec_of X hcd) rfl (hbind s X) hcell hloc (fun h₁ hns hk₁ => ?_) hco hgen hk
  generalize hG : hideAll s.heap (news.map (·.1)) = G at FG BG st
  have hk₂ : ∀ b o, G.get? b = some o → h₁.get? b = some o := fun b o e => hk₁ b o (by rw [← hG] at e; exact of_hideAll _ e)
  have hsz : G.objs.size ≤ s.heap.objs.size := by rw [← hG]; exact Nat.le_of_eq (hideAll_size _ _)
  have N' : News G s.heap.objs.size h₁ news := fun p hp => ⟨hk₁ _ _ (RN.N p hp).1, Nat.ne_of_lt (Heap.lt_size (RN.N p hp).1), by rw [← hG]; exact hideAll_none _ (List.mem_map_of_mem hp)⟩
  have ok' : Fx.Ok g ⟨x.hd, x.dp + 1, x.un + 3, x.gd, x.env :: x.outer, x.A, x.base, G, s.heap.objs.size, qual, scope, f, cdv, []⟩ := by
    refine ⟨BG, ok.X.keeps st, ok.T.keeps st, hk, ?_, ?_⟩
    · have := hr.1; show x.dp + 1 < recursionLimit; omega
    · have := hr.2; show x.un + 3 < cLine; omega
  have hb := h ⟨x.hd, x.dp + 1, x.un + 3, x.gd, x.env :: x.outer, x.A, x.base, G, s.heap.objs.size, qual, scope, f, cdv, []⟩ hh ⟨by have := hr.1; show x.dp + 1 + 2 * n < _; omega, by have := hr.2; show x.un + 3 + 12 * n < _; omega⟩ ok' GR rfl rfl rfl rfl rfl
  refine wpAny_mono (hb _ (.refl ok') ok' s₀ σ₀ _ (hs.mk' h₁ _) ⟨⟨hns, hk₂, hsz⟩, news, dx, ⟨N', RN.nd, RN.cells, RN.inj, RN.off⟩⟩) (fun fl s' hp => ?_) fun e s' he => he.elim
  obtain ⟨z, ⟨g', rfl, T', B'⟩, σ', m', hs', ⟨F2, news2, dx2, R2⟩, hq⟩ := hp
  have nL₀ : x.h₀.get? x.L = none := fr_self F
  have eo : (x.env :: x.outer).filterMap (·.frame) = [x.L] := by rw [hout]; rfl
  have T' : KtsTurn [x.L] G g' := by have := T'; unfold Fx.frs at this; simp only at this; rw [eo] at this; exact this
  obtain ⟨oL, es, ep, hLg, hLd, hLk, hLf⟩ := FG.ns
  obtain ⟨sl, hsl⟩ := T'.up hLg
  refine ⟨σ', hs', ⟨⟨⟨_, es, ep, F2.keep _ _ hsl, hLd, hLk, hLf⟩, fun b o e => F2.keep b o (T'.other b o (st b o e) (fun q => by
    rw [List.mem_singleton.mp q, nL₀] at e; cases e)), F.above⟩, news2, dx2, ⟨fun p hp => ⟨(R2.N p hp).1, fun q => ?_, ?_⟩, R2.nd, R2.cells, R2.inj, R2.off⟩⟩, hq⟩
  · have := (R2.N p hp).2.2; rw [q] at this; rw [show g'.get? x.L = _ from hsl] at this; cases this
  · cases q : x.h₀.get? p.1 with
    | none => rfl
    | some o =>
      obtain ⟨sl', hs'⟩ := T'.up (st _ _ q)
      have := (R2.N p hp).2.2
      rw [show g'.get? p.1 = _ from hs'] at this
      cases this
end
section
/-! ## Cells: names that an inner function reads -/
section
variable {α β : Type} {g : Gl} {x : Fx} {σ : Store} {m : Loc} {E : Value → Heap → Prop}
theorem w_cell {n : Str} {pos : Pos} {v : Value} {c : Addr} {Q : Value → Store → Loc → Prop} (hc : x.cl.lookup n = some c) (e : σ c = some (.var (some v))) (hl : x.cs.names.lookup n = some .cell) (hd : (n == ("__debug__" : Str)) = false) (h : Q v σ m) :
    W g x (eval (.Name n pos) x.env) σ m Q E := fun ok s₀ σ₀ s hs H => by
  obtain ⟨F, news, dx, RN⟩ := id H
  obtain ⟨o, hm, hd'⟩ := RN.cells c _ e
  exact nameX_C (cn := x.cn) (cs := x.cs) (L := x.L) (a := x.a) (ccd := x.ccd) (cl := x.cl) RN.N hc hm hd' ⟨σ, m, hs, H, h⟩ ok.k hl hd
theorem w_storeCell {n : Str} {v : Value} {c : Addr} {v₀ : Option Value} {Q : Unit → Store → Loc → Prop} (hc : x.cl.lookup n = some c) (e : σ c = some (.var v₀)) (hl : x.cs.names.lookup n = some .cell) (h : Q () (σ.set c (.var (some v))) m) :
    W g x (storeName x.env n v) σ m Q E := fun ok s₀ σ₀ s hs H => by
  obtain ⟨F, news, dx, RN⟩ := id H
  obtain ⟨o, hm, hd'⟩ := RN.cells c _ e
  refine storeX_C (cn := x.cn) (cs := x.cs) (L := x.L) (a := x.a) (ccd := x.ccd) (cl := x.cl) F RN.N hc (updF_of RN.nd hm) hd' (fun h' o' F' N' ho' => ?_) ok.k hl
  exact ⟨_, _, (hs.heap _).set _ e (fun _ q => by cases q), ⟨F', _, _, RN.turn (c' := .var (some v)) e (fun _ _ q => by cases q) (fun _ _ q => by cases q) N' fun _ hm => ⟨o', hm, ho'⟩⟩, h⟩
theorem w_assignCell {n : Str} {p : Pos} {v : Value} {c : Addr} {v₀ : Option Value} {Q : Unit → Store → Loc → Prop} (hc : x.cl.lookup n = some c) (e : σ c = some (.var v₀)) (hl : x.cs.names.lookup n = some .cell) (h : Q () (σ.set c (.var (some v))) m) : W g x (assign (.Name n p) x.env v) σ m Q E := by
  intro ok s₀ σ₀ s hs H
  exact wpAny_assign_Name (w_storeCell hc e hl h ok s₀ σ₀ s hs H)
theorem w_AssignCell {n : Str} {p pos : Pos} {e : Expr} {c : Addr} {Q : Flow → Store → Loc → Prop} (hc : x.cl.lookup n = some c) (hl : x.cs.names.lookup n = some .cell)
    (h : W g x (eval e x.env) σ m (fun v σ m => ∃ v₀, σ c = some (.var v₀) ∧ Q .next (σ.set c (.var (some v))) m) E) (hs' : swapsWith e (some (.Name n p)) pos.line x.env = pure false) : W g x (exec (.Assign [.Name n p] e pos) x.env) σ m Q E := by
  intro ok s₀ σ₀ s hs H
  exact wpAny_Assign_Name (h.use ok hs H fun v s' σ m hs H ⟨v₀, e, h⟩ => w_storeCell (Q := fun _ => Q .next) hc e hl h ok s₀ σ₀ s' hs H) hs'
theorem RepX.addVar {w : World} {news : List (Addr × Obj)} {dx : Addr → Addr} (R : RepX w σ news dx) {l : Addr} {o : Obj} {v : Option Value} (hd : o.data = .cell v) (hl : ∀ p ∈ news, p.1 ≠ l) : RepX w (σ.set l (.var v)) ((l, o) :: news) dx ∧ σ l = none := by
  obtain ⟨R', hf⟩ := R.add (o := o) hl
  refine ⟨⟨R'.nd, fun b cb hb => ?_, fun b b' C fs C' fs' h1 h2 q => ?_, fun b C fs h1 => ?_⟩, hf⟩
  · by_cases hbl : b = l
    · subst hbl
      rw [Store.set_same] at hb; cases hb
      exact ⟨o, .head _, hd⟩
    · rw [Store.set_ne _ _ hbl] at hb
      exact R'.cells b cb (by rw [Store.set_ne _ _ hbl]; exact hb)
  · have n1 : b ≠ l := fun q => by subst q; rw [Store.set_same] at h1; cases h1
    have n2 : b' ≠ l := fun q => by subst q; rw [Store.set_same] at h2; cases h2
    rw [Store.set_ne _ _ n1] at h1; rw [Store.set_ne _ _ n2] at h2
    exact R.inj _ _ _ _ _ _ h1 h2 q
  · have n1 : b ≠ l := fun q => by subst q; rw [Store.set_same] at h1; cases h1
    rw [Store.set_ne _ _ n1] at h1
    obtain ⟨_, es, n, hm, _⟩ := R.cells b _ h1
    rw [Store.set_ne _ _ (hl _ hm)]
    exact R.off b C fs h1
end
/-- a def with 1 cells -/
theorem calls_defC1 {g : Gl} {hp : Option Value → Prop} {n : Nat} {σ : Store} {name qual : Str} {params : Arguments} {body : List Stmt} {scope : Scope} {dV kV doc pm cdv ct oc : Value} {an od : Option Addr} {osl : Array (Option Value)} {f : Addr} {args : List Value} {kw : List (Str × Value)} {Q : Value → Store → Prop} (binds : List (Str × Value)) (n1 : Str) (m0 : Loc) (v1 : Option Value)
    (ho : g.K.lookup f = some ⟨oc, od, .func (fnOf name qual params body scope dV kV doc pm an cdv ct), osl⟩) (hcd : codeIn g.K cdv qual = true)
    (hbind : ∀ s, g.K.In s.heap → BindsTo s (fnOf name qual params body scope dV kV doc pm an cdv ct) ⟨args, kw⟩ binds) (hkind : (binds.all fun y => scope.names.lookup y.1 == some .local || scope.names.lookup y.1 == some .cell) = true)
    (hcl : ∀ L, cellsFrom (L + 1) scope.names [] = [(n1, L + 1)]) (hnd : ((cellsFrom 0 scope.names []).map (·.1)).Nodup) (hm0 : ∀ L', bindL (envOfC qual scope L' f cdv).kindOf binds (fun _ => none) = m0) (hv1 : ∀ L', bindC (envOfC qual scope L' f cdv).kindOf binds (fun _ => none) n1 = v1)
    (hco : scope.isCoroutine = false) (hgen : scope.isGenerator = false) (hk : scope.kind = .function)
    (h : ∀ (y : Fx) (c1 : Addr), hp y.hd → Room y n → y.cs = scope → y.cn = qual → y.a = f → y.ccd = cdv → y.cl = [(n1, c1)] → σ c1 = none →
      W g y (execs body y.env) (σ.set c1 (.var v1)) m0 (fun fl σ' _ => Q (match fl with | .ret v => v | _ => .none) σ') (fun _ _ => False)) :
    Calls g hp (n + 1) (.ref f) args kw σ Q := by
  intro x m E hh hr ok s₀ σ₀ s hs H
  obtain ⟨F, news, dx, RN⟩ := H
  refine code_defC ok.B F ok.X RN.N ok.T (A := x.A) rfl (env := x.env) rfl ok.k ho hcd ok.rd (hbind s (ok.X.keeps F.keep)) hkind hnd (fun G L' h₁ tk cells FG F' N' Y B' X' T' hlt => ?_) hco hgen hk
  rw [hcl L'] at Y
  rw [hm0] at F'
  obtain ⟨o1, rfl, d1⟩ := Y.one
  rw [hv1] at d1
  obtain ⟨R1, f1⟩ := RN.toX.addVar (l := L' + 1) (o := o1) (v := v1) d1 (fun p hp => by have := hlt p hp; exact Nat.ne_of_lt (Nat.lt_succ_of_lt this))
  have ok' : Fx.Ok g ⟨x.hd, x.dp + 1, x.un + 3, x.gd, x.env :: x.outer, x.A, x.base, G, L', qual, scope, f, cdv, cellsFrom (L' + 1) scope.names []⟩ := by
    refine ⟨B', X', T', hk, ?_, ?_⟩
    · have := hr.1; show x.dp + 1 < recursionLimit; omega
    · have := hr.2; show x.un + 3 < cLine; omega
  have hb := h ⟨x.hd, x.dp + 1, x.un + 3, x.gd, x.env :: x.outer, x.A, x.base, G, L', qual, scope, f, cdv, cellsFrom (L' + 1) scope.names []⟩ (L' + 1) hh ⟨by have := hr.1; show x.dp + 1 + 2 * n < _; omega, by have := hr.2; show x.un + 3 + 12 * n < _; omega⟩ rfl rfl rfl rfl (hcl L') f1
  refine wpAny_mono (hb ok' s₀ σ₀ _ ((hs.mk' h₁ tk).new _ f1) ⟨F', _, dx, RepN.ofX R1 N'⟩) (fun fl s' hp => ?_) fun e s' he => he.2.elim
  obtain ⟨σ', m', hs', ⟨F2, news2, dx2, R2⟩, hq⟩ := hp
  exact leaveK_ F2 R2.N fun F3 N3 => ⟨σ', hs', ⟨F3, news2, dx2, ⟨N3, R2.nd, R2.cells, R2.inj, R2.off⟩⟩, hq⟩
/-- a def with 2 cells -/
theorem calls_defC2 {g : Gl} {hp : Option Value → Prop} {n : Nat} {σ : Store} {name qual : Str} {params : Arguments} {body : List Stmt} {scope : Scope} {dV kV doc pm cdv ct oc : Value} {an od : Option Addr} {osl : Array (Option Value)} {f : Addr} {args : List Value} {kw : List (Str × Value)} {Q : Value → Store → Prop} (binds : List (Str × Value)) (n1 n2 : Str) (m0 : Loc) (v1 v2 : Option Value)
    (ho : g.K.lookup f = some ⟨oc, od, .func (fnOf name qual params body scope dV kV doc pm an cdv ct), osl⟩) (hcd : codeIn g.K cdv qual = true)
    (hbind : ∀ s, g.K.In s.heap → BindsTo s (fnOf name qual params body scope dV kV doc pm an cdv ct) ⟨args, kw⟩ binds) (hkind : (binds.all fun y => scope.names.lookup y.1 == some .local || scope.names.lookup y.1 == some .cell) = true)
    (hcl : ∀ L, cellsFrom (L + 1) scope.names [] = [(n2, L + 2), (n1, L + 1)]) (hnd : ((cellsFrom 0 scope.names []).map (·.1)).Nodup) (hm0 : ∀ L', bindL (envOfC qual scope L' f cdv).kindOf binds (fun _ => none) = m0) (hv1 : ∀ L', bindC (envOfC qual scope L' f cdv).kindOf binds (fun _ => none) n1 = v1) (hv2 : ∀ L', bindC (envOfC qual scope L' f cdv).kindOf binds (fun _ => none) n2 = v2)
    (hco : scope.isCoroutine = false) (hgen : scope.isGenerator = false) (hk : scope.kind = .function)
    (h : ∀ (y : Fx) (c1 c2 : Addr), hp y.hd → Room y n → y.cs = scope → y.cn = qual → y.a = f → y.ccd = cdv → y.cl = [(n2, c2), (n1, c1)] → σ c1 = none → σ c2 = none → c1 ≠ c2 →
      W g y (execs body y.env) ((σ.set c1 (.var v1)).set c2 (.var v2)) m0 (fun fl σ' _ => Q (match fl with | .ret v => v | _ => .none) σ') (fun _ _ => False)) :
    Calls g hp (n + 1) (.ref f) args kw σ Q := by
  intro x m E hh hr ok s₀ σ₀ s hs H
  obtain ⟨F, news, dx, RN⟩ := H
  refine code_defC ok.B F ok.X RN.N ok.T (A := x.A) rfl (env := x.env) rfl ok.k ho hcd ok.rd (hbind s (ok.X.keeps F.keep)) hkind hnd (fun G L' h₁ tk cells FG F' N' Y B' X' T' hlt => ?_) hco hgen hk
  rw [hcl L'] at Y
  rw [hm0] at F'
  obtain ⟨o2, o1, rfl, d2, d1⟩ := Y.two
  rw [hv1] at d1
  rw [hv2] at d2
  obtain ⟨R0, f1⟩ := RN.toX.addVar (l := L' + 1) (o := o1) (v := v1) d1 (fun p hp => by have := hlt p hp; exact Nat.ne_of_lt (Nat.lt_succ_of_lt this))
  have hne : L' + 2 ≠ L' + 1 := Nat.succ_ne_self _
  obtain ⟨R1, f2⟩ := R0.addVar (l := L' + 2) (o := o2) (v := v2) d2 (fun p hp => by
    rcases List.mem_cons.mp hp with rfl | hp
    · exact Ne.symm hne
    · have := hlt p hp; exact Nat.ne_of_lt (Nat.lt_succ_of_lt (Nat.lt_succ_of_lt this)))
  rw [Store.set_ne _ _ hne] at f2
  have ok' : Fx.Ok g ⟨x.hd, x.dp + 1, x.un + 3, x.gd, x.env :: x.outer, x.A, x.base, G, L', qual, scope, f, cdv, cellsFrom (L' + 1) scope.names []⟩ := by
    refine ⟨B', X', T', hk, ?_, ?_⟩
    · have := hr.1; show x.dp + 1 < recursionLimit; omega
    · have := hr.2; show x.un + 3 < cLine; omega
  have hb := h ⟨x.hd, x.dp + 1, x.un + 3, x.gd, x.env :: x.outer, x.A, x.base, G, L', qual, scope, f, cdv, cellsFrom (L' + 1) scope.names []⟩ (L' + 1) (L' + 2) hh ⟨by have := hr.1; show x.dp + 1 + 2 * n < _; omega, by have := hr.2; show x.un + 3 + 12 * n < _; omega⟩ rfl rfl rfl rfl (hcl L') f1 f2 (Ne.symm hne)
  refine wpAny_mono (hb ok' s₀ σ₀ _ (((hs.mk' h₁ tk).new _ f1).new _ (by rw [Store.set_ne _ _ hne]; exact f2)) ⟨F', _, dx, RepN.ofX R1 N'⟩) (fun fl s' hp => ?_) fun e s' he => he.2.elim
  obtain ⟨σ', m', hs', ⟨F2, news2, dx2, R2⟩, hq⟩ := hp
  exact leaveK_ F2 R2.N fun F3 N3 => ⟨σ', hs', ⟨F3, news2, dx2, ⟨N3, R2.nd, R2.cells, R2.inj, R2.off⟩⟩, hq⟩
end
section
open PySem PySem.W PyProof.Rows PySem.Calls PyProof.Rows.LCg
/-! ## List comprehensions -/
section
variable {α β : Type} {g : Gl} {x : Fx} {σ : Store} {m : Loc} {E : Value → Heap → Prop} {env : Env}
theorem RepX.drop {w : World} {news : List (Addr × Obj)} {dx : Addr → Addr} (R : RepX w σ news dx) {I : Addr} {P : Obj → Prop} (e : σ I = some (.pred P)) : RepX w (σ.drop I) (news.filter fun p => p.1 != I) dx := by
  refine ⟨R.nd.sublist (List.filter_sublist.map _), fun b cb hb => ?_, fun a b C fs C' fs' h1 h2 => R.inj _ _ _ _ _ _ (Store.drop_some h1) (Store.drop_some h2), fun a C fs h1 => ?_⟩
  · have hbI : b ≠ I := fun q => by unfold Store.drop at hb; rw [if_pos q] at hb; cases hb
    have hb' := Store.drop_some hb
    refine (R.cells b cb hb').keep (fun o h => List.mem_filter.mpr ⟨h, bne_iff_ne.mpr hbI⟩) fun C fs q => ⟨rfl, fun o h => List.mem_filter.mpr ⟨h, bne_iff_ne.mpr fun q2 => ?_⟩⟩
    subst q
    have := R.off b C fs hb'
    rw [show dx b = I from q2, e] at this; cases this
  · unfold Store.drop; split
    · rfl
    · exact R.off a C fs (Store.drop_some h1)
theorem RepX.addList {w : World} {news : List (Addr × Obj)} {dx : Addr → Addr} (R : RepX w σ news dx) {l : Addr} {ys : List Value} (hl : ∀ p ∈ news, p.1 ≠ l) : RepX w (σ.set l (.list ys)) ((l, lst ys) :: news) dx ∧ σ l = none := by
  obtain ⟨R', hf⟩ := R.add (o := lst ys) hl
  refine ⟨⟨R'.nd, fun b cb hb => ?_, fun b b' C fs C' fs' h1 h2 q => ?_, fun b C fs h1 => ?_⟩, hf⟩
  · by_cases hbl : b = l
    · subst hbl
      rw [Store.set_same] at hb; cases hb
      exact ⟨_, .head _⟩
    · rw [Store.set_ne _ _ hbl] at hb
      exact R'.cells b cb (by rw [Store.set_ne _ _ hbl]; exact hb)
  · have n1 : b ≠ l := fun q => by subst q; rw [Store.set_same] at h1; cases h1
    have n2 : b' ≠ l := fun q => by subst q; rw [Store.set_same] at h2; cases h2
    rw [Store.set_ne _ _ n1] at h1; rw [Store.set_ne _ _ n2] at h2
    exact R.inj _ _ _ _ _ _ h1 h2 q
  · have n1 : b ≠ l := fun q => by subst q; rw [Store.set_same] at h1; cases h1
    rw [Store.set_ne _ _ n1] at h1
    obtain ⟨_, es, n, hm, _⟩ := R.cells b _ h1
    rw [Store.set_ne _ _ (hl _ hm)]
    exact R.off b C fs h1
structure Drop3 (g : Gl) (x : Fx) (σ₀ σ σ₂ σ₃ : Store) (I C D : Addr) (news news' : List (Addr × Obj)) (dx : Addr → Addr) : Prop where
  rep : RepX g.w σ₃ news' dx
  sub : ∀ p ∈ news', p ∈ news
  off : Off3 I C D news'
  keep : Keeps σ₀ σ₃
  sups : SubS σ₂ σ₃
theorem drop3 {σ₀ σ₁ σ₂ : Store} {I C D : Addr} {P1 P2 P3 : Obj → Prop} {news : List (Addr × Obj)} {dx : Addr → Addr} (RX : RepX g.w σ₂ news dx) (e1 : σ₂ I = some (.pred P1)) (e2 : σ₂ C = some (.pred P2)) (e3 : σ₂ D = some (.pred P3)) (ic : I ≠ C) (id : I ≠ D) (cd : C ≠ D)
    (k0 : Keeps σ₀ σ) (hI : σ I = none) (hC : σ C = none) (hD : σ D = none) (k1 : Keeps σ σ₁) (k2 : Keeps σ₁ σ₂) : Drop3 g x σ₀ σ σ₂ (((σ₂.drop I).drop C).drop D) I C D news (((news.filter fun p => p.1 != I).filter fun p => p.1 != C).filter fun p => p.1 != D) dx := by
  have r1 := RX.drop e1
  have e2' : (σ₂.drop I) C = some (.pred P2) := by rw [Store.drop_ne _ (Ne.symm ic)]; exact e2
  have r2 := r1.drop e2'
  have e3' : ((σ₂.drop I).drop C) D = some (.pred P3) := by rw [Store.drop_ne _ (Ne.symm cd), Store.drop_ne _ (Ne.symm id)]; exact e3
  refine ⟨r2.drop e3', fun p hp => (List.mem_filter.mp (List.mem_filter.mp (List.mem_filter.mp hp).1).1).1, Off3.of fun p hp => ?_, fun b P q => ?_, ((SubS.drop e1).trans (SubS.drop e2')).trans (SubS.drop e3')⟩
  · obtain ⟨hp, h3⟩ := List.mem_filter.mp hp
    obtain ⟨hp, h2⟩ := List.mem_filter.mp hp
    obtain ⟨hp, h1⟩ := List.mem_filter.mp hp
    exact ⟨bne_iff_ne.mp h1, bne_iff_ne.mp h2, bne_iff_ne.mp h3⟩
  · have q1 := k0 b P q
    have nI : b ≠ I := fun z => by rw [z, hI] at q1; cases q1
    have nC : b ≠ C := fun z => by rw [z, hC] at q1; cases q1
    have nD : b ≠ D := fun z => by rw [z, hD] at q1; cases q1
    rw [Store.drop_ne _ nD, Store.drop_ne _ nC, Store.drop_ne _ nI]
    exact k2 b P (k1 b P q1)
theorem comp_rest {elt : Expr} {xn : Str} {scope : Scope} {cl : List (Str × Addr)} {s₂ : Shared} {S : List (Addr × Obj) → Prop} {P : Nat → Value → Prop} {Fin : List Value → List (Addr × Obj) → Prop} {n : Nat} {σ₀ : Store} (ok : x.Ok g) (J : Nat → List Value → Store → Prop) (mono : ∀ i ys, Mono (J i ys)) (hS : ∀ i ys σ news dx, J i ys σ → RepX g.w σ news dx → S news)
    (turn : ∀ i v ys σ C oC mC, i < n → P i v → J i ys σ → σ C = some (.raw oC) → NsObj oC mC → mC xn = some v → W g x (eval elt (compEnvC scope cl C x.env)) σ m (fun y σ' m' => m' = m ∧ J (i + 1) (ys ++ [y]) σ') NoE)
    (fin : ∀ ys σ news dx, Keeps σ₀ σ → J n ys σ → RepX g.w σ news dx → Fin ys news) :
    ∀ k i ys σ news dx, i + k = n → RepX g.w σ news dx → Keeps σ₀ σ → J i ys σ → CompRest PG g.w x.A x.h₀ x.L m x.env elt xn scope cl s₂ S P Fin k i ys news := by
  intro k
  induction k with
  | zero =>
    intro i ys σ news dx hi RX kp hJ
    obtain rfl : i = n := by omega
    exact CompRest.zero (fin ys σ news dx kp hJ RX)
  | succ k ih =>
    intro i ys σ news dx hi RX kp hJ
    refine CompRest.succ fun v I oI C oC D m₂ h tk E' hP hC hx F N off ne => ?_
    obtain ⟨ic, id, cd⟩ := ne
    have o3 := off.mem
    obtain ⟨R1, fD⟩ := RX.add (l := D) (o := lst ys) fun p hp => (o3 p hp).2.2
    have hnC : ∀ p ∈ (D, lst ys) :: news, p.1 ≠ C := fun p hp => by
      rcases List.mem_cons.mp hp with rfl | hp
      · exact fun q => cd q.symm
      · exact (o3 p hp).2.1
    obtain ⟨R2, fC⟩ := R1.add (l := C) (o := oC) hnC
    have hnI : ∀ p ∈ (C, oC) :: (D, lst ys) :: news, p.1 ≠ I := fun p hp => by
      rcases List.mem_cons.mp hp with rfl | hp
      · exact fun q => ic q.symm
      · rcases List.mem_cons.mp hp with rfl | hp
        · exact fun q => id q.symm
        · exact (o3 p hp).1
    obtain ⟨R3, fI⟩ := R2.add (l := I) (o := oI) hnI
    have fC' : σ C = none := by rw [Store.set_ne _ _ cd] at fC; exact fC
    have fI' : σ I = none := by rw [Store.set_ne _ _ ic, Store.set_ne _ _ id] at fI; exact fI
    generalize hσ1 : (((σ.set D (.raw (lst ys))).set C (.raw oC)).set I (.raw oI)) = σ1 at R3
    have eI : σ1 I = some (.raw oI) := by rw [← hσ1]; exact Store.set_same _ _ _
    have eC : σ1 C = some (.raw oC) := by rw [← hσ1, Store.set_ne _ _ (Ne.symm ic)]; exact Store.set_same _ _ _
    have eD : σ1 D = some (.raw (lst ys)) := by rw [← hσ1, Store.set_ne _ _ (Ne.symm id), Store.set_ne _ _ (Ne.symm cd)]; exact Store.set_same _ _ _
    have fC2 : (σ.set D (.raw (lst ys))) C = none := by rw [Store.set_ne _ _ cd]; exact fC'
    have fI2 : ((σ.set D (.raw (lst ys))).set C (.raw oC)) I = none := by rw [Store.set_ne _ _ ic, Store.set_ne _ _ id]; exact fI'
    have s1 : SubS σ σ1 := by rw [← hσ1]; exact ((SubS.new _ fD).trans (SubS.new _ fC2)).trans (SubS.new _ fI2)
    have k1 : Keeps σ σ1 := by rw [← hσ1]; exact (((Keeps.refl σ).new _ fD).new _ fC2).new _ fI2
    have hJ1 := mono i ys σ σ1 s1 hJ
    have hw := turn i v ys σ1 C oC m₂ (by omega) hP hJ1 eC hC hx
    refine wpAny_mono (hw ok { s₂ with heap := h, toks := tk } σ1 { s₂ with heap := h, toks := tk } ⟨Same.refl _, Keeps.refl _⟩ ⟨F, _, dx, RepN.ofX R3 N⟩) (fun y s' hq => ?_) fun e s' he => he.2.elim
    obtain ⟨σ2, m2, hs2, ⟨F2, news2, dx2, RN2⟩, rfl, hJ2⟩ := hq
    obtain ⟨h2, tk2, rfl⟩ := hs2.same
    have eI2 := hs2.keep _ _ eI
    have eC2 := hs2.keep _ _ eC
    have eD2 := hs2.keep _ _ eD
    have d3 := drop3 (x := x) RN2.toX eI2 eC2 eD2 ic id cd kp fI' fC' fD k1 hs2.keep
    have hJ3 := mono _ _ _ _ d3.sups hJ2
    obtain ⟨oi, hmI, rfl⟩ := RN2.cells _ _ eI2
    obtain ⟨oc, hmC, rfl⟩ := RN2.cells _ _ eC2
    obtain ⟨od, hmD, rfl⟩ := RN2.cells _ _ eD2
    refine CompEnd.intro F2 RN2.N _ (fun p hp => ?_) d3.off (hS _ _ _ _ _ hJ3 d3.rep) (ih (i + 1) _ _ _ dx2 (by omega) d3.rep d3.keep hJ3)
    rcases List.mem_cons.mp hp with rfl | hp
    · exact hmI
    · rcases List.mem_cons.mp hp with rfl | hp
      · exact hmC
      · rcases List.mem_cons.mp hp with rfl | hp
        · exact hmD
        · exact d3.sub p hp
theorem fin_of {ys : List Value} {news : List (Addr × Obj)} {dx : Addr → Addr} {s₀ s₁ : Shared} {σ₀ : Store} {Q : Value → Store → Loc → Prop} (hsame : Same s₀ s₁) (kp : Keeps σ₀ σ) (RX : RepX g.w σ news dx) (h : ∀ d, σ d = none → Q (.ref d) (σ.set d (.list ys)) m) :
    FinE x.h₀ x.L m s₁ (Post g x s₀ σ₀ Q) ys news := fun D h' tk F N o1 => by
  have hn : ∀ p ∈ news, p.1 ≠ D := by
    clear N RX
    induction news with
    | nil => exact fun _ h => nomatch h
    | cons q r ih => exact fun p hp => (List.mem_cons.mp hp).elim (fun e => e ▸ o1.1) (ih o1.2 p)
  obtain ⟨R', hf⟩ := RX.addList (ys := ys) hn
  exact ⟨_, _, ⟨hsame.mk h' tk, kp.new _ hf⟩, ⟨F, _, _, RepN.ofX R' N⟩, h D hf⟩
/-- a comprehension over a list of the store -/
theorem w_ListComp {elt iter : Expr} {xn : Str} {px : Pos} {scope : Scope} {cl : List (Str × Addr)} {pos : Pos} {Q : Value → Store → Loc → Prop} (hh : x.hd = none)
    (hclos : closureFor scope x.env = pure cl) (hcell : ∀ y ∈ scope.names, y.2 ≠ .cell) (hkind : scope.kind = .function)
    (hnames : ∀ y ∈ scope.names, y.2 = .local → scope.names.lookup y.1 = some .local) (hx : scope.names.lookup xn = some .local)
    (h : W g x (eval iter x.env) σ m (fun v σ m' => m' = m ∧ ∃ l vs, v = .ref l ∧ σ l = some (.list vs) ∧ vs.length ≤ sizeLine ∧ ∃ J : Nat → List Value → Store → Prop, J 0 [] σ ∧ (∀ i ys, Mono (J i ys)) ∧ (∀ i ys σ, J i ys σ → σ l = some (.list vs)) ∧
      (∀ i v ys σ C oC mC, i < vs.length → vs[i]? = some v → J i ys σ → σ C = some (.raw oC) → NsObj oC mC → mC xn = some v → W g x (eval elt (compEnvC scope cl C x.env)) σ m (fun y σ' m' => m' = m ∧ J (i + 1) (ys ++ [y]) σ') NoE) ∧
      (∀ ys σ, J vs.length ys σ → ∀ d, σ d = none → Q (.ref d) (σ.set d (.list ys)) m)) E)
    (hs' : ∀ v, foldedSetIterable iter x.env v = pure v) : W g x (eval (.ListComp elt [⟨.Name xn px, iter, [], 0⟩] scope pos) x.env) σ m Q E := by
  intro ok s₀ σ₀ s hs H
  refine ListComp_U H.1 hclos hcell hkind hnames hx (h.use ok hs H fun v s1 σ1 m1 hs1 H1 h1 => ?_) hs'
  obtain ⟨rfl, l, vs, rfl, e, hz, J, hJ, mono, sup, turn, done⟩ := h1
  obtain ⟨F, news, dx, RN⟩ := id H1
  obtain ⟨k, hm⟩ := RN.cells l _ e
  have hsz : vs.toArray.size = vs.length := List.size_toArray
  refine CompSrc.ledger (k := k) hh F RN.N hm (by rw [hsz]; exact hz) fun G => ?_
  rw [hsz]
  refine comp_rest (P := fun i v => vs.toArray[i]? = some v) (σ₀ := σ₀) ok J mono (fun i ys σ2 news2 dx2 hJ2 RX => ?_) (fun i v ys σ2 C oC mC hi hv => turn i v ys σ2 C oC mC hi (by simpa using hv)) (fun ys σ2 news2 dx2 kp hJ2 RX => fin_of (x := x) (hs1.same.heap G) kp RX (done ys σ2 hJ2)) vs.length 0 [] σ1 news dx (by omega) RN.toX hs1.keep hJ
  obtain ⟨k2, hm2⟩ := RX.cells l _ (sup i ys σ2 hJ2)
  exact .inr ⟨_, hm2, rfl, k2, rfl⟩
/-- a comprehension over a range -/
theorem w_ListCompR {elt iter : Expr} {xn : Str} {px : Pos} {scope : Scope} {cl : List (Str × Addr)} {pos : Pos} {Q : Value → Store → Loc → Prop} (hh : x.hd = none)
    (hclos : closureFor scope x.env = pure cl) (hcell : ∀ y ∈ scope.names, y.2 ≠ .cell) (hkind : scope.kind = .function)
    (hnames : ∀ y ∈ scope.names, y.2 = .local → scope.names.lookup y.1 = some .local) (hx : scope.names.lookup xn = some .local)
    (h : W g x (eval iter x.env) σ m (fun v σ m' => m' = m ∧ ∃ r a n, v = .ref r ∧ σ r = some (rangeC a (a + (n : Nat))) ∧ -(2 ^ 60) ≤ a ∧ a + n < 2 ^ 60 ∧ n ≤ sizeLine ∧ ∃ J : Nat → List Value → Store → Prop, J 0 [] σ ∧ (∀ i ys, Mono (J i ys)) ∧
      (∀ (i : Nat) t ys σ C oC mC, i < n → J i ys σ → σ C = some (.raw oC) → NsObj oC mC → mC xn = some (.int (a + (i : Int)) t) → W g x (eval elt (compEnvC scope cl C x.env)) σ m (fun y σ' m' => m' = m ∧ J (i + 1) (ys ++ [y]) σ') NoE) ∧
      (∀ ys σ, J n ys σ → ∀ d, σ d = none → Q (.ref d) (σ.set d (.list ys)) m)) E)
    (hs' : ∀ v, foldedSetIterable iter x.env v = pure v) : W g x (eval (.ListComp elt [⟨.Name xn px, iter, [], 0⟩] scope pos) x.env) σ m Q E := by
  intro ok s₀ σ₀ s hs H
  refine ListComp_U H.1 hclos hcell hkind hnames hx (h.use ok hs H fun v s1 σ1 m1 hs1 H1 h1 => ?_) hs'
  obtain ⟨rfl, r, a, n, rfl, e, ha, hb, hz, J, hJ, mono, turn, done⟩ := h1
  obtain ⟨F, news, dx, RN⟩ := id H1
  obtain ⟨o, hm, t, u, v, rfl⟩ := RN.cells r _ e
  have hn : Builtin.Range.rangeSize a (a + n) 1 = n := by rw [rangeSize_one]; split <;> omega
  refine CompSrc.range hh F RN.N (RN.N _ hm).1 (small_one (by omega) (by omega) (by omega) (by omega)) hn hz fun G => ?_
  exact comp_rest (S := fun _ => True) (P := fun i v => ∃ t, v = .int (a + (i : Int)) t) (σ₀ := σ₀) ok J mono (fun i ys σ2 news2 dx2 hJ2 RX => trivial) (fun i v ys σ2 C oC mC hi hv => by
    obtain ⟨t, rfl⟩ := hv; exact turn i t ys σ2 C oC mC hi) (fun ys σ2 news2 dx2 kp hJ2 RX => fin_of (x := x) (hs1.same.heap G) kp RX (done ys σ2 hJ2)) n 0 [] σ1 news dx (by omega) RN.toX hs1.keep hJ
/-! ### names within the block -/
theorem w_compLocal {scope : Scope} {cl : List (Str × Addr)} {C : Addr} {oC : Obj} {mC : Loc} {n : Str} {pos : Pos} {v : Value} {Q : Value → Store → Loc → Prop} (eC : σ C = some (.raw oC)) (hC : NsObj oC mC) (hv : mC n = some v)
    (hk : scope.kind = .function) (hx : scope.names.lookup n = some .local) (hd : (n == ("__debug__" : Str)) = false) (h : Q v σ m) : W g x (eval (.Name n pos) (compEnvC scope cl C x.env)) σ m Q E := fun ok s₀ σ₀ s hs H =>
  wpAny_Name (wpAny_loadName_local hk (lookup_relabel_local hx) (hC.ns (H.getPred eC)) hv ⟨σ, m, hs, H, h⟩) hd
theorem w_compCell {scope : Scope} {cl : List (Str × Addr)} {C c : Addr} {n : Str} {pos : Pos} {v : Value} {Q : Value → Store → Loc → Prop} (hc : cl.lookup n = some c) (e : σ c = some (.var (some v)))
    (hk : scope.kind = .function) (hx : (compEnvC scope cl C x.env).kindOf n = some .cell) (hd : (n == ("__debug__" : Str)) = false) (h : Q v σ m) : W g x (eval (.Name n pos) (compEnvC scope cl C x.env)) σ m Q E := fun ok s₀ σ₀ s hs H => by
  obtain ⟨F, news, dx, RN⟩ := id H
  obtain ⟨o, hm, hd'⟩ := RN.cells c _ e
  exact lcf_cell RN.N hc hm hd' ⟨σ, m, hs, H, h⟩ hk hx hd
/-! ### expressions in any names -/
theorem e_BinOp {l r : Expr} {op : Operator} {pos : Pos} {Q : Value → Store → Loc → Prop}
    (h : W g x (eval l env) σ m (fun a σ m => W g x (eval r env) σ m (fun b σ m => W g x (binaryOp op a b) σ m Q E) E) E) : W g x (eval (.BinOp l op r pos) env) σ m Q E :=
  fun ok _ _ _ hs H => wpAny_BinOp (h.use ok hs H fun _ _ _ _ hs H h => h.use ok hs H fun _ _ _ _ hs H h => h ok _ _ _ hs H)
theorem e_int {i : Int} {k : Nat} {pos : Pos} {Q : Value → Store → Loc → Prop} (h : ∀ t, Q (.int i t) σ m) : W g x (eval (.Constant (.int i) k pos) env) σ m Q E :=
  w_skipT (f := fun t => .int i t) (k := 1) (fun _ _ _ h => wpAny_Constant_int h) h
theorem e_Subscript {e i : Expr} {pos : Pos} {Q : Value → Store → Loc → Prop}
    (h : W g x (eval e env) σ m (fun o σ m => W g x (eval i env) σ m (fun k σ m => W g x (subscriptTail e i o k) σ m Q E) E) E) : W g x (eval (.Subscript e i pos) env) σ m Q E :=
  fun ok _ _ _ hs H => Subscript_ (h.use ok hs H fun _ _ _ _ hs H h => h.use ok hs H fun _ _ _ _ hs H h => h ok _ _ _ hs H)
theorem e_Tuple {elts : List Expr} {k : Nat} {pos : Pos} {Q : Value → Store → Loc → Prop} (h : W g x (spliced (backTo pos (starEach elts env))) σ m (fun vs σ m => W g x (newTuple vs) σ m Q E) E) : W g x (eval (.Tuple elts k pos) env) σ m Q E :=
  fun ok _ _ _ hs H => Tuple_ (h.use ok hs H fun _ _ _ _ hs H h => h ok _ _ _ hs H)
theorem e_items_nil {pos : Pos} {Q : List Value → Store → Loc → Prop} (h : Q [] σ m) : W g x (spliced (backTo pos (starEach [] env))) σ m Q E := w_skip (fun _ _ _ h => wpAny_items_nil h) h
theorem e_items_cons {pos : Pos} {e : Expr} {rest : List Expr} {Q : List Value → Store → Loc → Prop}
    (h : W g x (eval e env) σ m (fun v σ m => W g x (spliced (backTo pos (starEach rest env))) σ m (fun vs σ m => Q (v :: vs) σ m) E) E)
    (he : starEach (e :: rest) env = (false, eval e env) :: starEach rest env) : W g x (spliced (backTo pos (starEach (e :: rest) env))) σ m Q E :=
  fun ok _ _ _ hs H => wpAny_items_cons (h.use ok hs H fun _ _ _ _ hs H h => h.use ok hs H fun _ _ σ m hs H h => ⟨σ, m, hs, H, h⟩) he
theorem e_Method {o : Expr} {n : Str} {apos pos : Pos} {args : List Expr} {kws : List Keyword} {pl : Sem Bool} {Q : Value → Store → Loc → Prop}
    (h : W g x (eval o env) σ m (fun ov σ m => W g x (getMethod ov n pl) σ m (fun fx σ m => W g x (callWith pos fx.1 fx.2 (backTo pos (starEach args env)) (backToKw pos (keywordEach kws env))) σ m Q E) E) E)
    (he : eval (.Call (.Attribute o n apos) args kws pos) env = (do
      let ov ← eval o env
      standAt apos.atName
      let (f, first) ← holding [ov] (getMethod ov n pl)
      callWith pos f first (backTo pos (starEach args env)) (backToKw pos (keywordEach kws env)))) : W g x (eval (.Call (.Attribute o n apos) args kws pos) env) σ m Q E :=
  fun ok _ _ _ hs H => methodCall_KW (h.use ok hs H fun _ _ _ _ hs H h => h.use ok hs H fun _ _ _ _ hs H h => h ok _ _ _ hs H) he
theorem e_args0 {f : Value} {pos : Pos} {Q : Args → Store → Loc → Prop} (h : Q ⟨[], []⟩ σ m) : W g x (evalArgs f true (backTo pos (starEach [] env)) (backToKw pos (keywordEach [] env))) σ m Q E :=
  w_skip (fun _ _ _ h => evalArgs_nil3 h) h
end
end
section
/-! ## list.sort of 64: a run that begins later -/
abbrev Pend : Type := Array (Nat × Nat × Nat)
structure SB (a₀ : Array Keyed) (P : Pend) (lo : Nat) (st : SortSt) : Prop where
  perm : (arrOf st).Perm a₀
  kind : kindOf st = oneType'
  failed : failedOf st = none
  pend : pendingOf st = P
  pre : SortedTo (arrOf st) lo
def SortedIn (xs : Array Keyed) (lo n : Nat) : Prop := ∀ i j, lo ≤ i → i ≤ j → j < lo + n → K xs i ≤ K xs j
def NonIncIn (xs : Array Keyed) (lo n : Nat) : Prop := ∀ i j, lo ≤ i → i ≤ j → j < lo + n → K xs j ≤ K xs i
theorem SB.size {a₀ : Array Keyed} {P : Pend} {lo : Nat} {st : SortSt} (h : SB a₀ P lo st) : (arrOf st).size = a₀.size := h.perm.size_eq
theorem SB.turn {a₀ : Array Keyed} {P : Pend} {lo : Nat} {st : SortSt} (h : SB a₀ P lo st) {xs : Array Keyed} (hp : xs.Perm (arrOf st)) (hk : ∀ i, i < lo → K xs i = K (arrOf st) i) : SB a₀ P lo (setArr st xs) :=
  ⟨hp.trans h.perm, h.kind, h.failed, h.pend, fun i j hij hj => by rw [show arrOf (setArr st xs) = xs from rfl, hk i (by omega), hk j hj]; exact h.pre i j hij hj⟩
theorem get_K {xs a₀ : Array Keyed} (hp : xs.Perm a₀) (h0 : IntKeys a₀) {i : Nat} (hi : i < xs.size) : ∃ t q, xs[i]? = some (.int (K xs i) t, q) := by
  have hm : xs[i] ∈ a₀.toList := (Array.perm_iff_toList_perm.mp hp).mem_iff.mp (by simp)
  obtain ⟨n, t, hn⟩ := h0 _ hm
  refine ⟨t, xs[i].2, ?_⟩
  have e : xs[i]? = some xs[i] := getElem?_pos _ i hi
  have e2 : xs[i] = (.int n t, xs[i].2) := Prod.ext hn rfl
  unfold K
  rw [e, e2]
  rfl
theorem SortedIn.snoc {xs : Array Keyed} {lo n : Nat} (so : SortedIn xs lo n) (h1 : 1 ≤ n) (le : K xs (lo + n - 1) ≤ K xs (lo + n)) : SortedIn xs lo (n + 1) := fun i j a b c => by
  by_cases hj : j < lo + n
  · exact so i j a b hj
  by_cases hi : i < j
  · exact Int.le_trans (so i (lo + n - 1) a (by omega) (by omega)) (by rw [show j = lo + n by omega]; exact le)
  · rw [show i = j by omega]; exact Int.le_refl _
/-- a falling run of n, whose last neq + 1 are alike -/
structure Fall (xs : Array Keyed) (lo n neq : Nat) : Prop where
  falls : NonIncIn xs lo n
  len : neq + 1 ≤ n
  alike : ∀ i, lo + n - (neq + 1) ≤ i → i < lo + n → K xs i = K xs (lo + n - 1)
theorem NonIncIn.snoc {xs : Array Keyed} {lo n : Nat} (so : NonIncIn xs lo n) (h1 : 1 ≤ n) (le : K xs (lo + n) ≤ K xs (lo + n - 1)) : NonIncIn xs lo (n + 1) := fun i j a b c => by
  by_cases hj : j < lo + n
  · exact so i j a b hj
  by_cases hi : i < j
  · exact Int.le_trans (by rw [show j = lo + n by omega]; exact le) (so i (lo + n - 1) a (by omega) (by omega))
  · rw [show i = j by omega]; exact Int.le_refl _
theorem NonIncIn.same {xs ys : Array Keyed} {lo n : Nat} (so : NonIncIn xs lo n) (q : ∀ k, K ys k = K xs k) : NonIncIn ys lo n := fun i j a b c => by rw [q, q]; exact so i j a b c
theorem Fall.start {xs : Array Keyed} {lo n : Nat} (so : NonIncIn xs lo n) (h1 : 1 ≤ n) : Fall xs lo n 0 := ⟨so, h1, fun i a b => by rw [show i = lo + n - 1 by omega]⟩
theorem Fall.less {xs ys : Array Keyed} {lo n neq : Nat} (F : Fall xs lo n neq) (q : ∀ k, K ys k = K xs k) (lt : K xs (lo + n) < K xs (lo + n - 1)) : Fall ys lo (n + 1) 0 :=
  .start ((F.falls.snoc (Nat.le_trans (Nat.le_add_left ..) F.len) (Int.le_of_lt lt)).same q) (Nat.le_add_left ..)
theorem Fall.like {xs : Array Keyed} {lo n neq : Nat} (F : Fall xs lo n neq) (eq : K xs (lo + n) = K xs (lo + n - 1)) : Fall xs lo (n + 1) (neq + 1) := by
  have h1 : 1 ≤ n := Nat.le_trans (Nat.le_add_left ..) F.len
  refine ⟨F.falls.snoc h1 (Int.le_of_eq eq), Nat.succ_le_succ F.len, fun i a b => ?_⟩
  rw [show lo + (n + 1) - 1 = lo + n by omega]
  by_cases hi : i = lo + n
  · rw [hi]
  · rw [eq]; exact F.alike i (by omega) (by omega)
section
variable {prog : Program} {w : World} {A : Around} {E : Value → Shared → Prop} {s : Shared} {a₀ : Array Keyed} {P : Pend} {lo : Nat}
theorem wpS_ltL {st : SortSt} {i j : Nat} {Q : Option Bool → SortSt → Prop} (hB : SB a₀ P lo st) (h0 : IntKeys a₀) (hi : i < a₀.size) (hj : j < a₀.size)
    (h : Q (some (decide (K (arrOf st) i < K (arrOf st) j))) st) : wpS (model prog w) A E s (ltAt' i j) Q st := by
  obtain ⟨t, p, e1⟩ := get_K hB.perm h0 (by rw [hB.size]; exact hi)
  obtain ⟨u, q, e2⟩ := get_K hB.perm h0 (by rw [hB.size]; exact hj)
  exact wpS_ltAt hB.kind e1 e2 h
theorem SB.mirror {st : SortSt} {i j : Nat} (hB : SB a₀ P lo st) (hi : lo ≤ i) (hj : j ≤ a₀.size) : SB a₀ P lo (setArr st (mirror (arrOf st) i j ((j - i) / 2))) :=
  hB.turn (mirror_perm _ _ _ _) fun k hk => by rw [K_mirror (by rw [hB.size]; exact hj), if_neg (by omega)]
/-- a loop that goes on while the keys rise; what its body does is told by `step` -/
theorem up_loop {st : SortSt} {a nrem : Nat} {f : Nat → Option (Option Nat) × Nat → StateT SortSt Sem (ForInStep (Option (Option Nat) × Nat))} {Q : Option (Option Nat) × Nat → SortSt → Prop} (h1 : 1 ≤ a) (han : a ≤ nrem)
    (so : SortedIn (arrOf st) lo a)
    (step : ∀ x R, 1 ≤ x → x < nrem → (K (arrOf st) (lo + x) < K (arrOf st) (lo + x - 1) → R (.done (none, x)) st) → (K (arrOf st) (lo + x - 1) ≤ K (arrOf st) (lo + x) → R (.yield (none, x + 1)) st) → wpS (model prog w) A E s (f x (none, x)) R st)
    (h : ∀ n, 1 ≤ n → n ≤ nrem → SortedIn (arrOf st) lo n → (n = nrem ∨ K (arrOf st) (lo + n) < K (arrOf st) (lo + n - 1)) → Q (none, n) st) :
    wpS (model prog w) A E s (forIn [a:nrem] ((none, a) : Option (Option Nat) × Nat) f) Q st := by
  refine wpS_forRange (I := fun x c z => z = st ∧ c = (none, x) ∧ SortedIn (arrOf st) lo x) ?_ ?_ ⟨rfl, rfl, so⟩
  · rintro x _ _ ax xn ⟨rfl, rfl, so⟩
    have x1 := Nat.le_trans h1 ax
    exact step x _ x1 xn (fun lt => h x x1 (Nat.le_of_lt xn) so (.inr lt)) fun le => ⟨rfl, rfl, so.snoc x1 le⟩
  · rintro _ _ ⟨rfl, rfl, so⟩
    have m : max a nrem = nrem := Nat.max_eq_right han
    rw [m] at so ⊢
    exact h nrem (Nat.le_trans h1 han) (Nat.le_refl _) so (.inl rfl)
/-- a loop that goes on while the keys fall or stay -/
theorem down_loop {st : SortSt} {n nrem : Nat} {f : Nat → Option (Option Nat) × Nat × Nat → StateT SortSt Sem (ForInStep (Option (Option Nat) × Nat × Nat))} {Q : Option (Option Nat) × Nat × Nat → SortSt → Prop}
    (hnn : n ≤ nrem) (hB : SB a₀ P lo st) (F : Fall (arrOf st) lo n 0)
    (step : ∀ x neq z R, 1 ≤ x → x < nrem → SB a₀ P lo z → Fall (arrOf z) lo x neq →
      (∀ z', SB a₀ P lo z' → (∀ k, K (arrOf z') k = K (arrOf z) k) → K (arrOf z) (lo + x) < K (arrOf z) (lo + x - 1) → R (.yield (none, x + 1, 0)) z') →
      (R (.done (none, x, neq)) z) → (K (arrOf z) (lo + x) = K (arrOf z) (lo + x - 1) → R (.yield (none, x + 1, neq + 1)) z) → wpS (model prog w) A E s (f x (none, x, neq)) R z)
    (h : ∀ m neq z, m ≤ nrem → SB a₀ P lo z → Fall (arrOf z) lo m neq → Q (none, m, neq) z) :
    wpS (model prog w) A E s (forIn [n:nrem] ((none, n, 0) : Option (Option Nat) × Nat × Nat) f) Q st := by
  refine wpS_forRange (I := fun x c z => ∃ neq, c = (none, x, neq) ∧ SB a₀ P lo z ∧ Fall (arrOf z) lo x neq) ?_ ?_ ⟨0, rfl, hB, F⟩
  · rintro x _ z - xn ⟨neq, rfl, B, F⟩
    exact step x neq z _ (Nat.le_trans (Nat.le_add_left ..) F.len) xn B F (fun z' B' q lt => ⟨0, rfl, B', F.less q lt⟩) (h x neq z (Nat.le_of_lt xn) B F) fun eq => ⟨neq + 1, rfl, B, F.like eq⟩
  · rintro _ z ⟨neq, rfl, B, F⟩
    have m : max n nrem = nrem := Nat.max_eq_right hnn
    rw [m] at F ⊢
    exact h nrem neq z (Nat.le_refl _) B F
/-- a part that stands in two places: its law is shown once -/
theorem with_part {α : Type} {b : α} {G : Prop} (R : α → Prop) (main : R b → G) (part : R b) : G := main part
/-- a falling run, mirrored, rises -/
theorem NonIncIn.turned {xs : Array Keyed} {lo n : Nat} (so : NonIncIn xs lo n) (hsz : lo + n ≤ xs.size) : SortedIn (mirror xs lo (lo + n) ((lo + n - lo) / 2)) lo n := fun i j a b c => by
  rw [K_mirror hsz, K_mirror hsz, if_pos (by omega), if_pos (by omega)]
  exact so _ _ (by omega) (by omega) (by omega)
theorem wpS_countRunL {st : SortSt} {nrem : Nat} {Q : Option Nat → SortSt → Prop} (h0 : IntKeys a₀) (hn : lo + nrem ≤ a₀.size) (h1 : 1 ≤ nrem) (hB : SB a₀ P lo st)
    (h : ∀ m st', SB a₀ P lo st' → 1 ≤ m → m ≤ nrem → SortedIn (arrOf st') lo m → Q (some m) st') :
    wpS (model prog w) A E s (countRun' lo nrem) Q st := by
  have ends : ∀ {n : Nat} {z : SortSt}, SB a₀ P lo z → n ≤ nrem → lo + n ≤ (arrOf z).size := fun B q => by rw [B.size]; omega
  rw [countRun'_eq]
  refine wpS_bind (up_loop (lo := lo) (Nat.le_refl 1) h1 (fun i j a b c => by rw [show i = j by omega]; exact Int.le_refl _) (fun x R x1 xn falls rises => ?_) fun n n1 n2 so hor => ?_)
  · refine wpS_bind (wpS_ltL hB h0 (by omega) (by omega) ?_)
    rcases Int.lt_or_le (K (arrOf st) (lo + x)) (K (arrOf st) (lo + x - 1)) with q | q
    · rw [decide_eq_true q]; exact wpS_pure (falls q)
    · rw [decide_eq_false (Int.not_lt.mpr q)]; exact wpS_pure (rises q)
  dsimp only
  by_cases nn : n = nrem
  · rw [if_pos (beq_iff_eq.mpr nn)]; exact wpS_pure (h n st hB n1 n2 so)
  have lt := hor.resolve_left nn
  rw [if_neg fun q => nn (beq_iff_eq.mp q)]
  -- from here on: a run of n + 1 that falls or stays
  refine' with_part (fun b => ∀ z, SB a₀ P lo z → NonIncIn (arrOf z) lo (n + 1) → wpS (model prog w) A E s b Q z) (fun part => ?main) ?pp
  case' main =>
    by_cases n2 : n > 1
    · rw [if_pos n2]
      refine wpS_bind (wpS_ltL hB h0 (by omega) (by omega) ?_)
      rcases Int.lt_or_le (K (arrOf st) lo) (K (arrOf st) (lo + n - 1)) with q | q
      · rw [decide_eq_true q]; exact wpS_pure (h n st hB n1 (by omega) so)
      · rw [decide_eq_false (Int.not_lt.mpr q)]
        have flat : ∀ k, lo ≤ k → k < lo + n → K (arrOf st) k = K (arrOf st) (lo + n - 1) := fun k a b => by
          have := so lo k (Nat.le_refl _) a b
          have := so k (lo + n - 1) a (by omega) (by omega)
          omega
        have same := fun k => K_mirror_equal (ends hB (by omega)) flat k
        refine wpS_bind (wpS_reverse (part _ (hB.mirror (i := lo) (j := lo + n) (Nat.le_refl _) (by omega)) ?_))
        exact NonIncIn.same (NonIncIn.snoc (fun i j a b c => by rw [flat i a (by omega), flat j (by omega) c]; exact Int.le_refl _) n1 (Int.le_of_lt lt)) same
    · rw [if_neg n2]
      refine part st hB (NonIncIn.snoc (fun i j a b c => by rw [show i = j by omega]; exact Int.le_refl _) n1 (Int.le_of_lt lt))
  case pp =>
    intro z B fall
    refine wpS_bind (wpS_lift (wpAny_rule ⟨rfl, wpS_bind (down_loop (by omega) B (.start fall (Nat.le_add_left ..)) (fun x neq z R x1 xn B F less done eq => ?_) fun m neq z mn B F => ?_)⟩))
    · dsimp only
      refine wpS_bind (wpS_ltL B h0 (by omega) (by omega) ?_)
      rcases Int.lt_or_le (K (arrOf z) (lo + x)) (K (arrOf z) (lo + x - 1)) with q | q
      · rw [decide_eq_true q]
        dsimp only
        rw [if_pos rfl]
        by_cases hq : neq > 0
        · rw [if_pos hq]
          exact wpS_bind (wpS_reverse (wpS_pure (less _ (B.mirror (by have := F.len; omega) (by omega)) (K_mirror_equal (ends B (by omega)) F.alike) q)))
        · rw [if_neg hq]
          exact wpS_pure (less z B (fun _ => rfl) q)
      · rw [decide_eq_false (Int.not_lt.mpr q)]
        refine wpS_bind (wpS_ltL B h0 (by omega) (by omega) ?_)
        rcases Int.lt_or_le (K (arrOf z) (lo + x - 1)) (K (arrOf z) (lo + x)) with r | r
        · rw [decide_eq_true r]; exact wpS_pure done
        · rw [decide_eq_false (Int.not_lt.mpr r)]; exact wpS_pure (eq (Int.le_antisymm r q))
    dsimp only
    refine' with_part (fun b => ∀ z, SB a₀ P lo z → NonIncIn (arrOf z) lo m → wpS (model prog w) A E s b Q z) (fun tail => ?both) ?tl
    case' both =>
      by_cases hq : neq > 0
      · rw [if_pos hq]
        exact wpS_bind (wpS_reverse (tail _ (B.mirror (by have := F.len; omega) (by omega)) (F.falls.same (K_mirror_equal (ends B mn) F.alike))))
      · rw [if_neg hq]
        exact tail z B F.falls
    case tl =>
      intro z B fall
      have B' := B.mirror (i := lo) (j := lo + m) (Nat.le_refl _) (by omega)
      have m1 := Nat.le_trans (Nat.le_add_left 1 _) F.len
      refine wpS_bind (wpS_reverse (wpS_bind (up_loop (lo := lo) m1 mn (fall.turned (ends B mn)) (fun x R x1 xn falls rises => ?_) fun k k1 kn so _ => wpS_pure (h k _ B' k1 kn so))))
      refine wpS_bind (wpS_ltL B' h0 (by omega) (by omega) ?_)
      rcases Int.lt_or_le (K (arrOf (setArr z (mirror (arrOf z) lo (lo + m) ((lo + m - lo) / 2)))) (lo + x)) (K (arrOf (setArr z (mirror (arrOf z) lo (lo + m) ((lo + m - lo) / 2)))) (lo + x - 1)) with q | q
      · rw [decide_eq_true q]; exact wpS_pure (falls q)
      · rw [decide_eq_false (Int.not_lt.mpr q)]; exact wpS_pure (rises q)
/-! ### insertion -/
/-- between l and r stands the place for the key at k -/
structure Place (xs : Array Keyed) (lo k l r : Nat) : Prop where
  le : l ≤ r
  hi : r ≤ k
  low : ∀ i, lo ≤ i → i < lo + l → K xs i ≤ K xs (lo + k)
  high : ∀ i, lo + r ≤ i → i < lo + k → K xs (lo + k) < K xs i
theorem Place.left {xs : Array Keyed} {lo k l r : Nat} (p : Place xs lo k l r) (so : SortedIn xs lo k) (lr : l < r) (lt : K xs (lo + k) < K xs (lo + (l + r) / 2)) : Place xs lo k l ((l + r) / 2) := by
  have := p.hi
  exact ⟨by omega, by omega, p.low, fun i a b => Int.lt_of_lt_of_le lt (so _ i (by omega) a b)⟩
theorem Place.right {xs : Array Keyed} {lo k l r : Nat} (p : Place xs lo k l r) (so : SortedIn xs lo k) (lr : l < r) (le : K xs (lo + (l + r) / 2) ≤ K xs (lo + k)) : Place xs lo k ((l + r) / 2 + 1) r := by
  have := p.hi
  exact ⟨by omega, p.hi, fun i a b => Int.le_trans (so i _ a (by omega) (by omega)) le, p.high⟩
/-- the key is set into its place -/
theorem Place.put {xs : Array Keyed} {lo k l : Nat} (p : Place xs lo k l l) (so : SortedIn xs lo k) (hsz : lo + k < xs.size) : SortedIn (bubble xs (lo + k) (lo + k - (lo + l))) lo (k + 1) := fun i j a b c => by
  have hl := p.hi
  have at' : lo + k - (lo + k - (lo + l)) = lo + l := by omega
  have key := fun x => K_bubble (xs := xs) (k := x) hsz (show lo + k - (lo + l) ≤ lo + k by omega)
  rw [key, key, at']
  split <;> split <;> try split
  all_goals try split
  all_goals first
    | exact Int.le_refl _
    | exact so _ _ (by omega) (by omega) (by omega)
    | exact p.low _ (by omega) (by omega)
    | exact Int.le_of_lt (p.high _ (by omega) (by omega))
    | (exfalso; omega)
theorem half_loop {st : SortSt} {k : Nat} {f : Nat → Option Bool × Nat × Nat → StateT SortSt Sem (ForInStep (Option Bool × Nat × Nat))} {Q : Option Bool × Nat × Nat → SortSt → Prop} (so : SortedIn (arrOf st) lo k)
    (step : ∀ x l r R, (r ≤ l → R (.done (none, l, r)) st) → (l < r → K (arrOf st) (lo + k) < K (arrOf st) (lo + (l + r) / 2) → R (.yield (none, l, (l + r) / 2)) st) →
      (l < r → K (arrOf st) (lo + (l + r) / 2) ≤ K (arrOf st) (lo + k) → R (.yield (none, (l + r) / 2 + 1, r)) st) → r ≤ k → wpS (model prog w) A E s (f x (none, l, r)) R st)
    (h : ∀ l, Place (arrOf st) lo k l l → Q (none, l, l) st) : wpS (model prog w) A E s (forIn [0:k] ((none, 0, k) : Option Bool × Nat × Nat) f) Q st := by
  -- each turn takes at least one place away
  refine wpS_forRange (I := fun x c z => z = st ∧ ∃ l r, c = (none, l, r) ∧ Place (arrOf st) lo k l r ∧ r + x ≤ l + k) ?_ ?_ ⟨rfl, 0, k, rfl, ⟨Nat.zero_le _, Nat.le_refl _, fun i a b => by omega, fun i a b => by omega⟩, by omega⟩
  · rintro x _ z - xk ⟨rfl, l, r, rfl, p, short⟩
    have le := p.le
    refine step x l r _ (fun q => ?_) (fun q lt => ⟨rfl, _, _, rfl, p.left so q lt, by omega⟩) (fun q le => ⟨rfl, _, _, rfl, p.right so q le, by omega⟩) p.hi
    obtain rfl : l = r := Nat.le_antisymm le q
    exact h l p
  · rintro _ z ⟨rfl, l, r, rfl, p, short⟩
    have le := p.le
    obtain rfl : l = r := by omega
    exact h l p
theorem wpS_binarySortL {st : SortSt} {n ok : Nat} {Q : Bool → SortSt → Prop} (h0 : IntKeys a₀) (hn : lo + n ≤ a₀.size) (hok : ok ≤ n) (hok1 : 1 ≤ ok) (hB : SB a₀ P lo st) (hs : SortedIn (arrOf st) lo ok)
    (h : ∀ st', SB a₀ P lo st' → SortedIn (arrOf st') lo n → Q true st') : wpS (model prog w) A E s (binarySort' lo n ok) Q st := by
  have m1 : max ok 1 = ok := Nat.max_eq_left hok1
  have m2 : max ok n = n := Nat.max_eq_right hok
  rw [binarySort'_eq, m1]
  refine wpS_bind (wpS_forRange (I := fun k c z => c = (none, ()) ∧ SB a₀ P lo z ∧ SortedIn (arrOf z) lo k) ?_ ?_ ⟨rfl, hB, hs⟩)
  · rintro k _ z - kn ⟨rfl, B, so⟩
    have hsz : lo + k < (arrOf z).size := by rw [B.size]; omega
    refine wpS_bind (half_loop so (fun x l r R out low high rk => ?_) fun l p => ?_)
    · dsimp only
      by_cases q : r ≤ l
      · rw [if_pos q]; exact wpS_pure (out q)
      · rw [if_neg q]
        refine wpS_bind (wpS_ltL B h0 (by omega) (by omega) ?_)
        rcases Int.lt_or_le (K (arrOf z) (lo + k)) (K (arrOf z) (lo + (l + r) / 2)) with t | t
        · rw [decide_eq_true t]; exact wpS_pure (low (by omega) t)
        · rw [decide_eq_false (Int.not_lt.mpr t)]; exact wpS_pure (high (by omega) t)
    · have hl := p.hi
      dsimp only
      rw [moveDown'_eq]
      refine wpS_bind (wpS_modify (wpS_pure ⟨rfl, B.turn (bubble_perm _ _ _) fun i hi => ?_, p.put so hsz⟩))
      have key := K_bubble (xs := arrOf z) (k := i) hsz (show lo + k - (lo + l) ≤ lo + k by omega)
      rw [if_neg (by omega), if_neg (by omega)] at key
      exact key
  · rintro _ z ⟨rfl, B, so⟩
    rw [m2] at so
    exact wpS_pure (h z B so)
end
end
section
/-! ## Galloping -/
def gallop' : Bool → Keyed → Array Keyed → Nat → Nat → Nat → StateT SortSt Sem (Option Nat) := sortPriv% PySem.Builtin.gallop
/-- what a gallop asks of a place -/
def bey (left : Bool) (k : Int) (arr : Array Keyed) (i : Nat) : Bool := if left then decide (K arr i < k) else !decide (k < K arr i)
theorem bey_down {left : Bool} {k : Int} {arr : Array Keyed} {base n : Nat} (hs : SortedIn arr base n) {i j : Nat} (hij : i ≤ j) (hj : j < n) (h : bey left k arr (base + j) = true) : bey left k arr (base + i) = true := by
  have := hs (base + i) (base + j) (by omega) (by omega) (by omega)
  unfold bey at h ⊢
  cases left
  · simp at h ⊢; omega
  · simp at h ⊢; omega
section
variable {prog : Program} {w : World} {A : Around} {E : Value → Shared → Prop} {s : Shared} {a₀ : Array Keyed}
theorem wpS_lt {st : SortSt} {x y : Keyed} {a b : Int} {t u : Tok} {p q : Value} {Q : Option Bool → SortSt → Prop} (hk : kindOf st = oneType') (hx : x = (.int a t, p)) (hy : y = (.int b u, q)) (h : Q (some (decide (a < b))) st) :
    wpS (model prog w) A E s (lt' x y) Q st := by
  subst hx hy
  rw [lt'_eq]
  refine wpS_bind (wpS_get ?_)
  rw [hk, keyLt'_oneType]
  refine wpS_bind (wpS_lift (wpAny_attempt (oneLt_int ⟨rfl, ?_⟩)))
  exact wpS_pure h
theorem wpS_elem {st : SortSt} {arr : Array Keyed} {i : Nat} {p : Keyed} {Q : Keyed → SortSt → Prop} (hi : arr[i]? = some p) (h : Q p st) : wpS (model prog w) A E s (elem' arr i) Q st := by
  rw [elem'_eq, hi]; exact wpS_pure h
theorem keyAt {xs : Array Keyed} (h : IntKeys xs) {i : Nat} (hi : i < xs.size) : ∃ t q, xs[i]? = some (.int (K xs i) t, q) := get_K (Array.Perm.refl _) h hi
theorem wpS_bey {st : SortSt} {left : Bool} {key : Keyed} {k : Int} {t : Tok} {v : Value} {arr : Array Keyed} {i : Nat} {Q : Option Bool → SortSt → Prop} (hk : kindOf st = oneType') (hkey : key = (.int k t, v)) (h0 : IntKeys arr) (hi : i < arr.size) (h : Q (some (bey left k arr i)) st) :
    wpS (model prog w) A E s (do
      let x ← elem' arr i
      if left = true then lt' x key else do
        let r ← lt' key x
        pure (Option.map (fun x => !x) r)) Q st := by
  obtain ⟨u, q, e⟩ := keyAt h0 hi
  refine wpS_bind (wpS_elem e ?_)
  unfold bey at h
  cases left with
  | true =>
    rw [if_pos rfl] at h ⊢
    exact wpS_lt hk rfl hkey h
  | false =>
    rw [if_neg Bool.false_ne_true] at h ⊢
    exact wpS_bind (wpS_lt hk hkey rfl (wpS_pure h))
set_option maxHeartbeats 1000000 in
theorem wpS_gallop {st : SortSt} {left : Bool} {key : Keyed} {k : Int} {t : Tok} {v : Value} {arr : Array Keyed} {base n hint : Nat} {Q : Option Nat → SortSt → Prop} (hk : kindOf st = oneType') (hkey : key = (.int k t, v)) (h0 : IntKeys arr) (hn : base + n ≤ arr.size) (hh : hint < n) (hs : SortedIn arr base n)
    (h : ∀ r, r ≤ n → (∀ i, i < r → bey left k arr (base + i) = true) → (∀ i, r ≤ i → i < n → bey left k arr (base + i) = false) → Q (some r) st) : wpS (model prog w) A E s (gallop' left key arr base n hint) Q st := by
  have up : ∀ {i j : Nat}, i ≤ j → j < n → bey left k arr (base + i) = false → bey left k arr (base + j) = false := fun hij hj e => by
    cases q : bey left k arr (base + _) with
    | false => rfl
    | true => rw [bey_down hs hij hj q] at e; cases e
  refine wpS_bind ?_
  dsimp only
  refine wpS_bey hk hkey h0 (by omega) ?_
  dsimp only
  by_cases hp : bey left k arr (base + hint) = true
  · rw [if_pos hp]
    refine wpS_bind (wpS_mono (wpS_forRange
      (I := fun x c st' => st' = st ∧ ∃ la of, c = (none, la, of) ∧ la < of ∧ hint + la < n ∧ bey left k arr (base + (hint + la)) = true ∧ x + 1 ≤ of)
      (Q := fun c st' => st' = st ∧ ∃ la of, c = (none, la, of) ∧ la < of ∧ hint + la < n ∧ bey left k arr (base + (hint + la)) = true ∧ (n - hint ≤ of ∨ (hint + of < n ∧ bey left k arr (base + (hint + of)) = false))) ?step ?fin ?init) ?post)
    case init => exact ⟨rfl, 0, 1, rfl, by omega, by omega, hp, by omega⟩
    case fin =>
      rintro c st' ⟨rfl, la, of, rfl, h1, h2, h3, h4⟩
      exact ⟨rfl, la, of, rfl, h1, h2, h3, .inl (by omega)⟩
    case step =>
      rintro x c st' _ hx ⟨rfl, la, of, rfl, h1, h2, h3, h4⟩
      dsimp only
      by_cases hge : of ≥ n - hint
      · rw [if_pos hge]
        exact wpS_pure ⟨rfl, la, of, rfl, h1, h2, h3, .inl hge⟩
      · rw [if_neg hge]
        refine wpS_bind (wpS_bey hk hkey h0 (by omega) ?_)
        dsimp only
        cases hb : bey left k arr (base + (hint + of)) with
        | false =>
          rw [if_pos (show (!false) = true from rfl)]
          exact wpS_pure ⟨rfl, la, of, rfl, h1, h2, h3, .inr ⟨by omega, hb⟩⟩
        | true =>
          rw [if_neg (show ¬ (!true) = true by decide)]
          exact wpS_pure ⟨rfl, of, 2 * of + 1, rfl, by omega, by omega, hb, by omega⟩
    case post =>
      rintro c st' ⟨rfl, la, of, rfl, h1, h2, h3, h4⟩
      dsimp only
      have hA : hint + la + 1 ≤ hint + min of (n - hint) := by omega
      have hB : hint + min of (n - hint) ≤ n := by omega
      have hC : ∀ i, i < hint + la + 1 → bey left k arr (base + i) = true := fun i hi => bey_down hs (by omega) h2 h3
      have hD : ∀ i, hint + min of (n - hint) ≤ i → i < n → bey left k arr (base + i) = false := fun i hi hi2 => by
        rcases h4 with h4 | ⟨h4, h5⟩
        · omega
        · exact up (by omega) hi2 h5
      generalize hint + la + 1 = lo at hA hC ⊢
      generalize hint + min of (n - hint) = hi at hA hB hD ⊢
      clear h1 h2 h3 h4
      refine wpS_bind (wpS_mono (wpS_forRange
        (I := fun x c st'' => st'' = st' ∧ ∃ l r, c = (none, l, r) ∧ l ≤ r ∧ r ≤ n ∧ (∀ i, i < l → bey left k arr (base + i) = true) ∧ (∀ i, r ≤ i → i < n → bey left k arr (base + i) = false) ∧ r - l ≤ n - x)
        (Q := fun c st'' => st'' = st' ∧ ∃ l, c = (none, l, l) ∧ l ≤ n ∧ (∀ i, i < l → bey left k arr (base + i) = true) ∧ (∀ i, l ≤ i → i < n → bey left k arr (base + i) = false)) ?bstep ?bfin ⟨rfl, lo, hi, rfl, hA, hB, hC, hD, by omega⟩) ?bpost)
      case bfin =>
        rintro c st'' ⟨rfl, l, r, rfl, h1, h2, h3, h4, h5⟩
        obtain rfl : l = r := by omega
        exact ⟨rfl, l, rfl, h2, h3, h4⟩
      case bstep =>
        rintro x c st'' _ hx ⟨rfl, l, r, rfl, h1, h2, h3, h4, h5⟩
        dsimp only
        by_cases hge : l ≥ r
        · rw [if_pos hge]
          obtain rfl : l = r := by omega
          exact wpS_pure ⟨rfl, l, rfl, h2, h3, h4⟩
        · rw [if_neg hge]
          refine wpS_bind (wpS_bey hk hkey h0 (by omega) ?_)
          dsimp only
          cases hb : bey left k arr (base + (l + (r - l) / 2)) with
          | true =>
            rw [if_pos rfl]
            exact wpS_pure ⟨rfl, l + (r - l) / 2 + 1, r, rfl, by omega, h2, fun i hi => bey_down hs (by omega) (by omega) hb, h4, by omega⟩
          | false =>
            rw [if_neg (by decide)]
            exact wpS_pure ⟨rfl, l, l + (r - l) / 2, rfl, by omega, by omega, h3, fun i hi hi2 => up hi hi2 hb, by omega⟩
      case bpost =>
        rintro c st'' ⟨rfl, l, rfl, h2, h3, h4⟩
        exact wpS_pure (h l h2 h3 h4)
  · have hp : bey left k arr (base + hint) = false := by simpa using hp
    rw [if_neg (by rw [hp]; decide)]
    refine wpS_bind (wpS_mono (wpS_forRange
      (I := fun x c st' => st' = st ∧ ∃ la of, c = (none, la, of) ∧ la < of ∧ la ≤ hint ∧ bey left k arr (base + (hint - la)) = false ∧ x + 1 ≤ of)
      (Q := fun c st' => st' = st ∧ ∃ la of, c = (none, la, of) ∧ la < of ∧ la ≤ hint ∧ bey left k arr (base + (hint - la)) = false ∧ (hint + 1 ≤ of ∨ (of ≤ hint ∧ bey left k arr (base + (hint - of)) = true))) ?step ?fin ?init) ?post)
    case init => exact ⟨rfl, 0, 1, rfl, by omega, by omega, hp, by omega⟩
    case fin =>
      rintro c st' ⟨rfl, la, of, rfl, h1, h2, h3, h4⟩
      exact ⟨rfl, la, of, rfl, h1, h2, h3, .inl (by omega)⟩
    case step =>
      rintro x c st' _ hx ⟨rfl, la, of, rfl, h1, h2, h3, h4⟩
      dsimp only
      by_cases hge : of ≥ hint + 1
      · rw [if_pos hge]
        exact wpS_pure ⟨rfl, la, of, rfl, h1, h2, h3, .inl hge⟩
      · rw [if_neg hge]
        refine wpS_bind (wpS_bey hk hkey h0 (by omega) ?_)
        dsimp only
        cases hb : bey left k arr (base + (hint - of)) with
        | true =>
          rw [if_pos rfl]
          exact wpS_pure ⟨rfl, la, of, rfl, h1, h2, h3, .inr ⟨by omega, hb⟩⟩
        | false =>
          rw [if_neg (by decide)]
          exact wpS_pure ⟨rfl, of, 2 * of + 1, rfl, by omega, by omega, hb, by omega⟩
    case post =>
      rintro c st' ⟨rfl, la, of, rfl, h1, h2, h3, h4⟩
      dsimp only
      have hA : hint + 1 - min of (hint + 1) ≤ hint - la := by omega
      have hB : hint - la ≤ n := by omega
      have hC : ∀ i, i < hint + 1 - min of (hint + 1) → bey left k arr (base + i) = true := fun i hi => by
        rcases h4 with h4 | ⟨h4, h5⟩
        · omega
        · exact bey_down hs (by omega) (by omega) h5
      have hD : ∀ i, hint - la ≤ i → i < n → bey left k arr (base + i) = false := fun i hi hi2 => up hi hi2 h3
      generalize hint + 1 - min of (hint + 1) = lo at hA hC ⊢
      generalize hint - la = hi at hA hB hD ⊢
      clear h1 h2 h3 h4
      refine wpS_bind (wpS_mono (wpS_forRange
        (I := fun x c st'' => st'' = st' ∧ ∃ l r, c = (none, l, r) ∧ l ≤ r ∧ r ≤ n ∧ (∀ i, i < l → bey left k arr (base + i) = true) ∧ (∀ i, r ≤ i → i < n → bey left k arr (base + i) = false) ∧ r - l ≤ n - x)
        (Q := fun c st'' => st'' = st' ∧ ∃ l, c = (none, l, l) ∧ l ≤ n ∧ (∀ i, i < l → bey left k arr (base + i) = true) ∧ (∀ i, l ≤ i → i < n → bey left k arr (base + i) = false)) ?bstep ?bfin ⟨rfl, lo, hi, rfl, hA, hB, hC, hD, by omega⟩) ?bpost)
      case bfin =>
        rintro c st'' ⟨rfl, l, r, rfl, h1, h2, h3, h4, h5⟩
        obtain rfl : l = r := by omega
        exact ⟨rfl, l, rfl, h2, h3, h4⟩
      case bstep =>
        rintro x c st'' _ hx ⟨rfl, l, r, rfl, h1, h2, h3, h4, h5⟩
        dsimp only
        by_cases hge : l ≥ r
        · rw [if_pos hge]
          obtain rfl : l = r := by omega
          exact wpS_pure ⟨rfl, l, rfl, h2, h3, h4⟩
        · rw [if_neg hge]
          refine wpS_bind (wpS_bey hk hkey h0 (by omega) ?_)
          dsimp only
          cases hb : bey left k arr (base + (l + (r - l) / 2)) with
          | true =>
            rw [if_pos rfl]
            exact wpS_pure ⟨rfl, l + (r - l) / 2 + 1, r, rfl, by omega, h2, fun i hi => bey_down hs (by omega) (by omega) hb, h4, by omega⟩
          | false =>
            rw [if_neg (by decide)]
            exact wpS_pure ⟨rfl, l, l + (r - l) / 2, rfl, by omega, by omega, h3, fun i hi hi2 => up hi hi2 hb, by omega⟩
      case bpost =>
        rintro c st'' ⟨rfl, l, rfl, h2, h3, h4⟩
        exact wpS_pure (h l h2 h3 h4)
end
end
section
/-! ## Merging, in lists -/
abbrev ky (p : Keyed) : Int := numOf p.1
def SL (l : List Keyed) : Prop := l.Pairwise fun x y => ky x ≤ ky y
theorem SL.app {l r : List Keyed} (h1 : SL l) (h2 : SL r) (h : ∀ x ∈ l, ∀ y ∈ r, ky x ≤ ky y) : SL (l ++ r) := List.pairwise_append.mpr ⟨h1, h2, h⟩
theorem SL.left {l r : List Keyed} (h : SL (l ++ r)) : SL l := (List.pairwise_append.mp h).1
theorem SL.right {l r : List Keyed} (h : SL (l ++ r)) : SL r := (List.pairwise_append.mp h).2.1
theorem SL.one (p : Keyed) : SL [p] := List.pairwise_singleton _ _
theorem SL.head {p : Keyed} {l : List Keyed} (h : SL (p :: l)) : ∀ x ∈ p :: l, ky p ≤ ky x := fun x hx => by
  rcases List.mem_cons.mp hx with rfl | hx
  · exact Int.le_refl _
  · exact (List.pairwise_cons.mp h).1 x hx
theorem SL.tail {p : Keyed} {l : List Keyed} (h : SL (p :: l)) : SL l := (List.pairwise_cons.mp h).2
theorem SL.last {p : Keyed} {l : List Keyed} (h : SL (l ++ [p])) : ∀ x ∈ l ++ [p], ky x ≤ ky p := fun x hx => by
  rcases List.mem_append.mp hx with hx | hx
  · exact (List.pairwise_append.mp h).2.2 x hx p (.head _)
  · rw [List.mem_singleton.mp hx]; exact Int.le_refl _
def Good (T r : List Keyed) : Prop := r.Perm T ∧ SL r
/-- what is out is no greater than what is left -/
structure MI (T O A B : List Keyed) : Prop where
  perm : (O ++ (A ++ B)).Perm T
  so : SL O
  sa : SL A
  sb : SL B
  la : ∀ x ∈ O, ∀ y ∈ A, ky x ≤ ky y
  lb : ∀ x ∈ O, ∀ y ∈ B, ky x ≤ ky y
theorem MI.swap {T O A B : List Keyed} (h : MI T O A B) : MI T O B A := ⟨(List.perm_append_comm.append_left O).trans h.perm, h.so, h.sb, h.sa, h.lb, h.la⟩
theorem MI.blockA {T O A1 A2 B : List Keyed} (h : MI T O (A1 ++ A2) B) (hle : ∀ x ∈ A1, ∀ y ∈ B, ky x ≤ ky y) : MI T (O ++ A1) A2 B := by
  refine ⟨by simpa [List.append_assoc] using h.perm, h.so.app h.sa.left fun x hx y hy => h.la x hx y (List.mem_append.mpr (.inl hy)), h.sa.right, h.sb, fun x hx y hy => ?_, fun x hx y hy => ?_⟩
  · rcases List.mem_append.mp hx with hx | hx
    · exact h.la x hx y (List.mem_append.mpr (.inr hy))
    · exact (List.pairwise_append.mp h.sa).2.2 x hx y hy
  · rcases List.mem_append.mp hx with hx | hx
    · exact h.lb x hx y hy
    · exact hle x hx y hy
theorem MI.pushA {T O A B : List Keyed} {p : Keyed} (h : MI T O (p :: A) B) (hle : ∀ y ∈ B, ky p ≤ ky y) : MI T (O ++ [p]) A B :=
  MI.blockA (A1 := [p]) h fun x hx y hy => by rw [List.mem_singleton.mp hx]; exact hle y hy
theorem MI.blockB {T O A B1 B2 : List Keyed} (h : MI T O A (B1 ++ B2)) (hle : ∀ x ∈ B1, ∀ y ∈ A, ky x ≤ ky y) : MI T (O ++ B1) A B2 := (h.swap.blockA hle).swap
theorem MI.pushB {T O A B : List Keyed} {p : Keyed} (h : MI T O A (p :: B)) (hle : ∀ y ∈ A, ky p ≤ ky y) : MI T (O ++ [p]) A B := (h.swap.pushA hle).swap
theorem MI.doneA {T O A : List Keyed} (h : MI T O A []) : Good T (O ++ A) := ⟨by simpa using h.perm, h.so.app h.sa h.la⟩
theorem MI.doneB {T O B : List Keyed} (h : MI T O [] B) : Good T (O ++ B) := h.swap.doneA
theorem MI.lastA {T O B : List Keyed} {p : Keyed} (h : MI T O [p] B) (hp : ∀ y ∈ B, ky y ≤ ky p) : Good T (O ++ B ++ [p]) := by
  have h2 := MI.blockB (B1 := B) (B2 := []) (by simpa using h) fun x hx y hy => by rw [List.mem_singleton.mp hy]; exact hp x hx
  exact h2.doneA
/-- the same from the other end -/
structure MH (T R A B : List Keyed) : Prop where
  perm : (A ++ B ++ R).Perm T
  so : SL R
  sa : SL A
  sb : SL B
  la : ∀ x ∈ R, ∀ y ∈ A, ky y ≤ ky x
  lb : ∀ x ∈ R, ∀ y ∈ B, ky y ≤ ky x
theorem MH.swap {T R A B : List Keyed} (h : MH T R A B) : MH T R B A := ⟨(List.perm_append_comm.append_right R).trans h.perm, h.so, h.sb, h.sa, h.lb, h.la⟩
theorem MH.blockB {T R A B1 B2 : List Keyed} (h : MH T R A (B1 ++ B2)) (hle : ∀ x ∈ B2, ∀ y ∈ A, ky y ≤ ky x) : MH T (B2 ++ R) A B1 := by
  refine ⟨by simpa [List.append_assoc] using h.perm, h.sb.right.app h.so fun x hx y hy => h.lb y hy x (List.mem_append.mpr (.inr hx)), h.sa, h.sb.left, fun x hx y hy => ?_, fun x hx y hy => ?_⟩
  · rcases List.mem_append.mp hx with hx | hx
    · exact hle x hx y hy
    · exact h.la x hx y hy
  · rcases List.mem_append.mp hx with hx | hx
    · exact (List.pairwise_append.mp h.sb).2.2 y hy x hx
    · exact h.lb x hx y (List.mem_append.mpr (.inl hy))
theorem MH.blockA {T R A1 A2 B : List Keyed} (h : MH T R (A1 ++ A2) B) (hle : ∀ x ∈ A2, ∀ y ∈ B, ky y ≤ ky x) : MH T (A2 ++ R) A1 B := (h.swap.blockB hle).swap
theorem MH.pushB {T R A B : List Keyed} {p : Keyed} (h : MH T R A (B ++ [p])) (hle : ∀ y ∈ A, ky y ≤ ky p) : MH T (p :: R) A B :=
  MH.blockB (B2 := [p]) h fun x hx y hy => by rw [List.mem_singleton.mp hx]; exact hle y hy
theorem MH.pushA {T R A B : List Keyed} {p : Keyed} (h : MH T R (A ++ [p]) B) (hle : ∀ y ∈ B, ky y ≤ ky p) : MH T (p :: R) A B := (h.swap.pushB hle).swap
theorem MH.doneB {T R B : List Keyed} (h : MH T R [] B) : Good T (B ++ R) := ⟨by simpa using h.perm, h.sb.app h.so fun x hx y hy => h.lb y hy x hx⟩
theorem MH.doneA {T R A : List Keyed} (h : MH T R A []) : Good T (A ++ R) := h.swap.doneB
theorem MH.firstB {T R A : List Keyed} {p : Keyed} (h : MH T R A [p]) (hp : ∀ y ∈ A, ky p ≤ ky y) : Good T ([p] ++ A ++ R) := by
  have h2 := MH.blockA (A1 := []) (A2 := A) (by simpa using h) fun x hx y hy => by rw [List.mem_singleton.mp hy]; exact hp x hx
  have := h2.doneB
  simpa [List.append_assoc] using this
/-! ### arrays and lists -/
theorem drop_at {xs : Array Keyed} {i : Nat} {p : Keyed} (e : xs[i]? = some p) : xs.toList.drop i = p :: xs.toList.drop (i + 1) := by
  obtain ⟨hi, rfl⟩ := Array.getElem?_eq_some_iff.mp e
  rw [List.drop_eq_getElem_cons (by simpa using hi)]; simp
theorem take_at {xs : Array Keyed} {i : Nat} {p : Keyed} (e : xs[i]? = some p) : xs.toList.take (i + 1) = xs.toList.take i ++ [p] := by
  rw [List.take_add_one]
  rw [show xs.toList[i]? = some p by simpa using e]; rfl
theorem ext_from (xs : Array Keyed) (i : Nat) : (xs.extract i).toList = xs.toList.drop i := by
  have : List.take (xs.size - i) (List.drop i xs.toList) = List.drop i xs.toList := List.take_of_length_le (by simp)
  simpa using this
theorem ext_mid (xs : Array Keyed) (i k : Nat) : (xs.extract i (i + k)).toList = (xs.toList.drop i).take k := by simp [List.take_drop]
theorem ext_upto (xs : Array Keyed) (k : Nat) : (xs.extract 0 k).toList = xs.toList.take k := by simp
theorem ext_mid2 (xs : Array Keyed) (i k : Nat) : (xs.extract i k).toList = (xs.toList.take k).drop i := by simp [List.drop_take]
theorem drop_all (xs : Array Keyed) {i : Nat} (h : i = xs.size) : xs.toList.drop i = [] := List.drop_eq_nil_of_le (by simp [h])
theorem ky_at {xs : Array Keyed} {i : Nat} {p : Keyed} (e : xs[i]? = some p) : ky p = K xs i := by unfold K; rw [e]
theorem mem_drop {xs : Array Keyed} {i : Nat} {p : Keyed} (h : p ∈ xs.toList.drop i) : ∃ j, i ≤ j ∧ j < xs.size ∧ xs[j]? = some p := by
  obtain ⟨j, hj, e⟩ := List.getElem_of_mem h
  simp only [List.length_drop, Array.length_toList] at hj
  exact ⟨i + j, by omega, by omega, by rw [List.getElem_drop] at e; rw [← e]; simp [Array.getElem?_eq_getElem (show i + j < xs.size by omega)]⟩
theorem mem_take {xs : Array Keyed} {k : Nat} {p : Keyed} (h : p ∈ xs.toList.take k) : ∃ j, j < k ∧ j < xs.size ∧ xs[j]? = some p := by
  obtain ⟨j, hj, e⟩ := List.getElem_of_mem h
  simp only [List.length_take, Array.length_toList] at hj
  exact ⟨j, by omega, by omega, by rw [List.getElem_take] at e; rw [← e]; simp [Array.getElem?_eq_getElem (show j < xs.size by omega)]⟩
theorem mem_mid {xs : Array Keyed} {i k : Nat} {p : Keyed} (h : p ∈ (xs.toList.drop i).take k) : ∃ j, j < k ∧ i + j < xs.size ∧ xs[i + j]? = some p := by
  obtain ⟨j, hj, e⟩ := List.getElem_of_mem h
  simp only [List.length_take, List.length_drop, Array.length_toList] at hj
  exact ⟨j, by omega, by omega, by rw [List.getElem_take, List.getElem_drop] at e; rw [← e]; simp [Array.getElem?_eq_getElem (show i + j < xs.size by omega)]⟩
theorem mem_mid2 {xs : Array Keyed} {i k : Nat} {p : Keyed} (h : p ∈ (xs.toList.take k).drop i) : ∃ j, i ≤ j ∧ j < k ∧ j < xs.size ∧ xs[j]? = some p := by
  obtain ⟨j, hj, e⟩ := List.getElem_of_mem h
  simp only [List.length_take, List.length_drop, Array.length_toList] at hj
  exact ⟨i + j, by omega, by omega, by omega, by rw [List.getElem_drop, List.getElem_take] at e; rw [← e]; simp [Array.getElem?_eq_getElem (show i + j < xs.size by omega)]⟩
theorem sl_of {xs : Array Keyed} (h : SortedIn xs 0 xs.size) : SL xs.toList := by
  unfold SL
  rw [List.pairwise_iff_getElem]
  intro i j hi hj hij
  simp only [Array.length_toList] at hi hj
  have := h i j (Nat.zero_le _) (Nat.le_of_lt hij) (by omega)
  rw [K_eq hi, K_eq hj] at this
  simpa using this
theorem of_sl {xs : Array Keyed} (h : SL xs.toList) : SortedIn xs 0 xs.size := by
  unfold SL at h
  rw [List.pairwise_iff_getElem] at h
  intro i j _ hij hj
  have hj : j < xs.size := by omega
  rcases Nat.lt_or_ge i j with hlt | hge
  · have := h i j (by simp; omega) (by simp; omega) hlt
    rw [K_eq (by omega), K_eq hj]
    simpa using this
  · obtain rfl : i = j := by omega
    exact Int.le_refl _
theorem SortedIn.sub {xs : Array Keyed} {lo n lo' n' : Nat} (h : SortedIn xs lo n) (h1 : lo ≤ lo') (h2 : lo' + n' ≤ lo + n) : SortedIn xs lo' n' := fun i j hi hij hj => h i j (by omega) hij (by omega)
end
section
def mergeLo' : Array Keyed → Array Keyed → StateT SortSt Sem (Array Keyed) := sortPriv% PySem.Builtin.mergeLo
def setGallop' : Nat → StateT SortSt Sem Unit := sortPriv% PySem.Builtin.setMinGallop
/-- but for the count of gallops as it was -/
structure GS (st st' : SortSt) : Prop where
  kind : kindOf st' = kindOf st
  arr : arrOf st' = arrOf st
  pend : pendingOf st' = pendingOf st
  failed : failedOf st' = failedOf st
theorem GS.refl (st : SortSt) : GS st st := ⟨rfl, rfl, rfl, rfl⟩
theorem GS.trans {a b c : SortSt} (h : GS a b) (k : GS b c) : GS a c := ⟨k.kind.trans h.kind, k.arr.trans h.arr, k.pend.trans h.pend, k.failed.trans h.failed⟩
section
variable {prog : Program} {w : World} {A : Around} {E : Value → Shared → Prop} {s : Shared}
theorem wpS_setGallop {st : SortSt} {n : Nat} {Q : Unit → SortSt → Prop} (h : ∀ st', GS st st' → Q () st') : wpS (model prog w) A E s (setGallop' n) Q st := by
  refine wpS_modify (h _ ?_)
  exact ⟨rfl, rfl, rfl, rfl⟩
variable {st : SortSt} {a b : Array Keyed} {Q : Array Keyed → SortSt → Prop}
/-- what the loops hold -/
structure LoSt (a b : Array Keyed) (out : Array Keyed) (ia ib n : Nat) : Prop where
  mi : MI (a.toList ++ b.toList) out.toList (a.toList.drop ia) (b.toList.drop ib)
  ha : ia + 1 < a.size
  hb : ib < b.size
  hn : n ≤ ia + ib
set_option maxHeartbeats 4000000 in
theorem wpS_mergeLo (hk : kindOf st = oneType') (ka : IntKeys a) (kb : IntKeys b) (sa : SortedIn a 0 a.size) (sb : SortedIn b 0 b.size) (ha1 : 1 ≤ a.size) (hb1 : 1 ≤ b.size)
    (P1 : ∀ i, i < a.size → K b 0 ≤ K a i) (P2 : ∀ j, j < b.size → K b j ≤ K a (a.size - 1))
    (h : ∀ out st', GS st st' → Good (a.toList ++ b.toList) out.toList → Q out st') : wpS (model prog w) A E s (mergeLo' a b) Q st := by
  have lastG : ∀ {out : Array Keyed} {ia ib : Nat}, MI (a.toList ++ b.toList) out.toList (a.toList.drop ia) (b.toList.drop ib) → ia + 1 = a.size → Good (a.toList ++ b.toList) (out ++ b.extract ib ++ a.extract ia).toList := fun {out ia ib} m e => by
    obtain ⟨t, q, ea⟩ := keyAt ka (i := ia) (by omega)
    have hd := drop_at ea
    rw [drop_all a (i := ia + 1) e] at hd
    rw [hd] at m
    rw [Array.toList_append, Array.toList_append, ext_from, ext_from, hd]
    refine m.lastA fun y hy => ?_
    obtain ⟨j, h1, h2, h3⟩ := mem_drop hy
    rw [ky_at h3, ky_at ea]
    have := P2 j h2
    rwa [show a.size - 1 = ia by omega] at this
  have doneB : ∀ {out : Array Keyed} {ia ib : Nat}, MI (a.toList ++ b.toList) out.toList (a.toList.drop ia) (b.toList.drop ib) → ib = b.size → Good (a.toList ++ b.toList) (out ++ a.extract ia ++ b.extract ib).toList := fun {out ia ib} m e => by
    rw [drop_all b e] at m
    rw [Array.toList_append, Array.toList_append, ext_from, ext_from, drop_all b e, List.append_nil]
    exact m.doneA
  have doneA : ∀ {out : Array Keyed} {ia ib : Nat}, MI (a.toList ++ b.toList) out.toList (a.toList.drop ia) (b.toList.drop ib) → ia = a.size → Good (a.toList ++ b.toList) (out ++ a.extract ia ++ b.extract ib).toList := fun {out ia ib} m e => by
    rw [drop_all a e] at m
    rw [Array.toList_append, Array.toList_append, ext_from, ext_from, drop_all a e, List.append_nil]
    exact m.doneB
  have pushB : ∀ {out : Array Keyed} {ia ib : Nat} {p : Keyed}, MI (a.toList ++ b.toList) out.toList (a.toList.drop ia) (b.toList.drop ib) → b[ib]? = some p → (∀ i, ia ≤ i → i < a.size → K b ib ≤ K a i) → MI (a.toList ++ b.toList) (out.push p).toList (a.toList.drop ia) (b.toList.drop (ib + 1)) := fun {out ia ib p} m e hle => by
    rw [drop_at e] at m
    rw [Array.toList_push]
    refine m.pushB fun y hy => ?_
    obtain ⟨j, h1, h2, h3⟩ := mem_drop hy
    rw [ky_at h3, ky_at e]
    exact hle j h1 h2
  have pushA : ∀ {out : Array Keyed} {ia ib : Nat} {p : Keyed}, MI (a.toList ++ b.toList) out.toList (a.toList.drop ia) (b.toList.drop ib) → a[ia]? = some p → (∀ i, ib ≤ i → i < b.size → K a ia ≤ K b i) → MI (a.toList ++ b.toList) (out.push p).toList (a.toList.drop (ia + 1)) (b.toList.drop ib) := fun {out ia ib p} m e hle => by
    rw [drop_at e] at m
    rw [Array.toList_push]
    refine m.pushA fun y hy => ?_
    obtain ⟨j, h1, h2, h3⟩ := mem_drop hy
    rw [ky_at h3, ky_at e]
    exact hle j h1 h2
  have blockA : ∀ {out : Array Keyed} {ia ib k : Nat}, MI (a.toList ++ b.toList) out.toList (a.toList.drop ia) (b.toList.drop ib) → (∀ i, i < k → ∀ j, ib ≤ j → j < b.size → K a (ia + i) ≤ K b j) → MI (a.toList ++ b.toList) (out ++ a.extract ia (ia + k)).toList (a.toList.drop (ia + k)) (b.toList.drop ib) := fun {out ia ib k} m hle => by
    rw [← List.take_append_drop k (a.toList.drop ia), List.drop_drop] at m
    rw [Array.toList_append, ext_mid]
    refine m.blockA fun x hx y hy => ?_
    obtain ⟨i, h1, h2, h3⟩ := mem_mid hx
    obtain ⟨j, g1, g2, g3⟩ := mem_drop hy
    rw [ky_at h3, ky_at g3]
    exact hle i h1 j g1 g2
  have blockB : ∀ {out : Array Keyed} {ia ib k : Nat}, MI (a.toList ++ b.toList) out.toList (a.toList.drop ia) (b.toList.drop ib) → (∀ i, i < k → ∀ j, ia ≤ j → j < a.size → K b (ib + i) ≤ K a j) → MI (a.toList ++ b.toList) (out ++ b.extract ib (ib + k)).toList (a.toList.drop ia) (b.toList.drop (ib + k)) := fun {out ia ib k} m hle => by
    rw [← List.take_append_drop k (b.toList.drop ib), List.drop_drop] at m
    rw [Array.toList_append, ext_mid]
    refine m.blockB fun x hx y hy => ?_
    obtain ⟨i, h1, h2, h3⟩ := mem_mid hx
    obtain ⟨j, g1, g2, g3⟩ := mem_drop hy
    rw [ky_at h3, ky_at g3]
    exact hle i h1 j g1 g2
  have upA : ∀ {i j : Nat}, i ≤ j → j < a.size → K a i ≤ K a j := fun hij hj => sa _ _ (Nat.zero_le _) hij (by omega)
  have upB : ∀ {i j : Nat}, i ≤ j → j < b.size → K b i ≤ K b j := fun hij hj => sb _ _ (Nat.zero_le _) hij (by omega)
  refine wpS_bind (wpS_lift (wpAny_rule ⟨rfl, ?_⟩))
  dsimp only
  obtain ⟨t0, q0, e0⟩ := keyAt kb (i := 0) (by omega)
  refine wpS_bind (wpS_elem e0 ?_)
  have m0 : MI (a.toList ++ b.toList) [] (a.toList.drop 0) (b.toList.drop 0) := ⟨by simp, List.Pairwise.nil, by simpa using sl_of sa, by simpa using sl_of sb, fun x hx => (by cases hx), fun x hx => (by cases hx)⟩
  have m1 := pushB (out := #[]) m0 e0 fun i _ hi => P1 i hi
  rw [show (#[] : Array Keyed).push (Value.int (K b 0) t0, q0) = #[(Value.int (K b 0) t0, q0)] from rfl] at m1
  generalize #[(Value.int (K b 0) t0, q0)] = out1 at m1 ⊢
  by_cases hib : 1 = b.size
  · rw [if_pos (by simpa using hib)]
    exact wpS_pure (h _ st (.refl st) (doneB m1 hib))
  · rw [if_neg (by simpa using hib)]
    by_cases hia : 0 + 1 = a.size
    · rw [if_pos (by simpa using hia)]
      exact wpS_pure (h _ st (.refl st) (lastG m1 hia))
    · rw [if_neg (by simpa using hia)]
      refine wpS_bind (wpS_get ?_)
      refine wpS_bind (wpS_mono (wpS_forRange
        (I := fun x c st' => GS st st' ∧ ∃ out ia ib mg, c = (none, out, ia, ib, mg) ∧ LoSt a b out ia ib (x + 1))
        (Q := fun c st' => GS st st' ∧ ∃ r rest, c = (some r, rest) ∧ Good (a.toList ++ b.toList) r.toList) ?step ?fin ?init) ?post)
      case init => exact ⟨.refl st, out1, 0, 1, _, rfl, m1, by omega, by omega, by omega⟩
      case fin =>
        rintro c st' ⟨G, out, ia, ib, mg, rfl, L⟩
        have := L.ha; have := L.hb; have := L.hn
        exfalso; omega
      case post =>
        rintro c st' ⟨G, r, rest, rfl, hg⟩
        exact wpS_pure (h r st' G hg)
      case step =>
        rintro x c st' _ hx ⟨G, out, ia, ib, mg, rfl, L⟩
        dsimp only
        have hk' : kindOf st' = oneType' := G.kind.trans hk
        refine wpS_bind (wpS_mono (wpS_forRange
          (I := fun y c st'' => st'' = st' ∧ ∃ out ia ib ac bc, c = (none, out, ia, ib, ac, bc) ∧ LoSt a b out ia ib (x + 1))
          (Q := fun c st'' => st'' = st' ∧ ((∃ r rest, c = (some r, rest) ∧ Good (a.toList ++ b.toList) r.toList) ∨ ∃ out ia ib ac bc, c = (none, out, ia, ib, ac, bc) ∧ LoSt a b out ia ib (x + 1))) ?step1 ?fin1 ?init1) ?post1)
        case init1 => exact ⟨rfl, out, ia, ib, 0, 0, rfl, L⟩
        case fin1 =>
          rintro c st'' ⟨rfl, hc⟩
          exact ⟨rfl, .inr hc⟩
        case step1 =>
          rintro yy c st'' _ hy ⟨rfl, out, ia, ib, ac, bc, rfl, L⟩
          dsimp only
          have := L.ha; have := L.hb; have := L.hn
          obtain ⟨ta, qa, ea⟩ := keyAt ka (i := ia) (by omega)
          obtain ⟨tb, qb, eb⟩ := keyAt kb (i := ib) (by omega)
          refine wpS_bind (wpS_elem eb (wpS_bind (wpS_elem ea (wpS_bind (wpS_lt hk' rfl rfl ?_)))))
          dsimp only
          by_cases hlt : K b ib < K a ia
          · rw [if_pos (by simpa using hlt)]
            refine wpS_bind (wpS_elem eb ?_)
            have m2 := pushB L.mi eb fun i h1 h2 => Int.le_trans (Int.le_of_lt hlt) (upA h1 h2)
            by_cases hd : ib + 1 = b.size
            · rw [if_pos (by simpa using hd)]
              exact wpS_pure ⟨rfl, .inl ⟨_, _, rfl, doneB m2 hd⟩⟩
            · rw [if_neg (by simpa using hd)]
              have L2 : LoSt a b _ ia (ib + 1) (x + 1) := ⟨m2, by omega, by omega, by omega⟩
              by_cases hg : bc + 1 ≥ mg
              · rw [if_pos hg]
                exact wpS_pure ⟨rfl, .inr ⟨_, _, _, _, _, rfl, L2⟩⟩
              · rw [if_neg hg]
                exact wpS_pure ⟨rfl, _, _, _, _, _, rfl, L2⟩
          · rw [if_neg (by simpa using hlt)]
            refine wpS_bind (wpS_elem ea ?_)
            have m2 := pushA L.mi ea fun i h1 h2 => Int.le_trans (Int.not_lt.mp hlt) (upB h1 h2)
            by_cases hd : ia + 1 + 1 = a.size
            · rw [if_pos (by simpa using hd)]
              exact wpS_pure ⟨rfl, .inl ⟨_, _, rfl, lastG m2 hd⟩⟩
            · rw [if_neg (by simpa using hd)]
              have L2 : LoSt a b _ (ia + 1) ib (x + 1) := ⟨m2, by omega, by omega, by omega⟩
              by_cases hg : ac + 1 ≥ mg
              · rw [if_pos hg]
                exact wpS_pure ⟨rfl, .inr ⟨_, _, _, _, _, rfl, L2⟩⟩
              · rw [if_neg hg]
                exact wpS_pure ⟨rfl, _, _, _, _, _, rfl, L2⟩
        case post1 =>
          rintro c st'' ⟨rfl, ⟨r, rest, rfl, hg⟩ | ⟨out, ia, ib, ac, bc, rfl, L⟩⟩
          · exact wpS_pure ⟨G, r, _, rfl, hg⟩
          · dsimp only
            refine wpS_bind (wpS_lift (wpAny_rule ⟨rfl, ?_⟩))
            refine wpS_bind (wpS_mono (wpS_forRange
              (I := fun y c st3 => GS st st3 ∧ ∃ out ia ib mg ac bc, c = (none, out, ia, ib, mg, ac, bc) ∧ LoSt a b out ia ib (if y = 0 then x + 1 else x + 2))
              (Q := fun c st3 => GS st st3 ∧ ((∃ r rest, c = (some r, rest) ∧ Good (a.toList ++ b.toList) r.toList) ∨ ∃ out ia ib mg ac bc, c = (none, out, ia, ib, mg, ac, bc) ∧ LoSt a b out ia ib (x + 2))) ?step2 ?fin2 ?init2) ?post2)
            case init2 => exact ⟨G, out, ia, ib, _, ac, bc, rfl, L⟩
            case fin2 =>
              rintro c st3 ⟨G3, out, ia, ib, mg, ac, bc, rfl, L⟩
              rw [if_neg (by omega)] at L
              exact ⟨G3, .inr ⟨_, _, _, _, _, _, rfl, L⟩⟩
            case post2 =>
              rintro c st3 ⟨G3, ⟨r, rest, rfl, hg⟩ | ⟨out, ia, ib, mg, ac, bc, rfl, L⟩⟩
              · exact wpS_pure ⟨G3, r, _, rfl, hg⟩
              · dsimp only
                refine wpS_bind (wpS_setGallop fun st4 G4 => ?_)
                exact wpS_pure ⟨G3.trans G4, _, _, _, _, rfl, L⟩
            case step2 =>
              rintro yy c st3 _ hy ⟨G3, out, ia, ib, mg, ac, bc, rfl, L⟩
              dsimp only
              have g1 := L.ha
              have g2 := L.hb
              have g3 := L.hn
              have mi := L.mi
              have hN : x + 1 ≤ ia + ib := by
                split at g3 <;> omega
              have hk3 : kindOf st3 = oneType' := G3.kind.trans hk
              obtain ⟨tb, qb, eb⟩ := keyAt kb (i := ib) (by omega)
              clear L G hx
              by_cases hmg : mg > 1
              all_goals first | rw [if_pos hmg] | rw [if_neg hmg]
              all_goals
                refine wpS_bind (wpS_setGallop fun st4 G4 => ?_)
                have G' := G3.trans G4
                have hk4 : kindOf st4 = oneType' := G4.kind.trans hk3
                refine wpS_bind (wpS_elem eb ?_)
                refine wpS_bind (wpS_gallop hk4 rfl ka (by omega) (by omega) (sa.sub (Nat.zero_le _) (by omega)) fun k hkn hlo hhi => ?_)
                dsimp only
                have hlo1 : ∀ i, i < k → K a (ia + i) ≤ K b ib := fun i hi => by
                  have := hlo i hi
                  simp [bey] at this; omega
                have hhi1 : ∀ i, ia + k ≤ i → i < a.size → K b ib < K a i := fun i h1 h2 => by
                  have := hhi (i - ia) (by omega) (by omega)
                  rw [show ia + (i - ia) = i by omega] at this
                  simp [bey] at this; omega
                by_cases hk0 : k > 0
                · rw [if_pos hk0]
                  have m1 := blockA mi (k := k) fun i hi j h1 h2 => Int.le_trans (hlo1 i hi) (upB h1 h2)
                  by_cases hl : ia + k + 1 = a.size
                  · rw [if_pos (by simpa using hl)]
                    exact wpS_pure ⟨G', .inl ⟨_, _, rfl, lastG m1 hl⟩⟩
                  · rw [if_neg (by simpa using hl)]
                    by_cases hdA : ia + k = a.size
                    · rw [if_pos (by simpa using hdA)]
                      exact wpS_pure ⟨G', .inl ⟨_, _, rfl, doneA m1 hdA⟩⟩
                    · rw [if_neg (by simpa using hdA)]
                      have hI : ia + k + 1 < a.size := by omega
                      have hhi2 := hhi1
                      generalize out ++ a.extract ia (ia + k) = out2 at m1 ⊢
                      generalize hA : ia + k = ia2 at m1 hhi2 hI ⊢
                      clear hl hdA hlo hhi hlo1 hhi1 mi
                      refine wpS_bind (wpS_elem eb ?_)
                      have m2 := pushB m1 eb fun i h1 h2 => Int.le_of_lt (hhi2 i h1 h2)
                      generalize out2.push (Value.int (K b ib) tb, qb) = out3 at m2 ⊢
                      by_cases hd : ib + 1 = b.size
                      · rw [if_pos (by simpa using hd)]
                        exact wpS_pure ⟨G', .inl ⟨_, _, rfl, doneB m2 hd⟩⟩
                      · rw [if_neg (by simpa using hd)]
                        obtain ⟨ta, qa, ea⟩ := keyAt ka (i := ia2) (by omega)
                        refine wpS_bind (wpS_elem ea ?_)
                        refine wpS_bind (wpS_gallop hk4 rfl kb (by omega) (by omega) (sb.sub (Nat.zero_le _) (by omega)) fun k2 hkn2 hlo2 hhi3 => ?_)
                        dsimp only
                        have hlo3 : ∀ i, i < k2 → K b (ib + 1 + i) ≤ K a ia2 := fun i hi => by
                          have := hlo2 i hi
                          simp [bey] at this; omega
                        have hhi4 : ∀ i, ib + 1 + k2 ≤ i → i < b.size → K a ia2 ≤ K b i := fun i h1 h2 => by
                          have := hhi3 (i - (ib + 1)) (by omega) (by omega)
                          rw [show ib + 1 + (i - (ib + 1)) = i by omega] at this
                          simp [bey] at this; omega
                        by_cases hk2 : k2 > 0
                        · rw [if_pos hk2]
                          have m3 := blockB m2 (k := k2) fun i hi j h1 h2 => Int.le_trans (hlo3 i hi) (upA h1 h2)
                          by_cases hd2 : ib + 1 + k2 = b.size
                          · rw [if_pos (by simpa using hd2)]
                            exact wpS_pure ⟨G', .inl ⟨_, _, rfl, doneB m3 hd2⟩⟩
                          · rw [if_neg (by simpa using hd2)]
                            refine wpS_bind (wpS_elem ea ?_)
                            have m4 := pushA m3 ea fun i h1 h2 => hhi4 i h1 h2
                            by_cases hl2 : ia2 + 1 + 1 = a.size
                            · rw [if_pos (by simpa using hl2)]
                              exact wpS_pure ⟨G', .inl ⟨_, _, rfl, lastG m4 hl2⟩⟩
                            · rw [if_neg (by simpa using hl2)]
                              by_cases h7 : (decide (k < 7) && decide (k2 < 7)) = true
                              · rw [if_pos h7]
                                exact wpS_pure ⟨G', .inr ⟨_, _, _, _, _, _, rfl, m4, by omega, by omega, by omega⟩⟩
                              · rw [if_neg h7]
                                exact wpS_pure ⟨G', _, _, _, _, _, _, rfl, m4, by omega, by omega, by rw [if_neg (by omega)]; omega⟩
                        · rw [if_neg hk2]
                          refine wpS_bind (wpS_elem ea ?_)
                          have m4 := pushA m2 ea fun i h1 h2 => hhi4 i (by omega) h2
                          by_cases hl2 : ia2 + 1 + 1 = a.size
                          · rw [if_pos (by simpa using hl2)]
                            exact wpS_pure ⟨G', .inl ⟨_, _, rfl, lastG m4 hl2⟩⟩
                          · rw [if_neg (by simpa using hl2)]
                            by_cases h7 : (decide (k < 7) && decide (k2 < 7)) = true
                            · rw [if_pos h7]
                              exact wpS_pure ⟨G', .inr ⟨_, _, _, _, _, _, rfl, m4, by omega, by omega, by omega⟩⟩
                            · rw [if_neg h7]
                              exact wpS_pure ⟨G', _, _, _, _, _, _, rfl, m4, by omega, by omega, by rw [if_neg (by omega)]; omega⟩
                · rw [if_neg hk0]
                  have hI : ia + 1 < a.size := by omega
                  have hhi2 : ∀ i, ia ≤ i → i < a.size → K b ib < K a i := fun i h1 h2 => hhi1 i (by omega) h2
                  have m1 := mi
                  clear hlo hhi hlo1 hhi1 mi g1
                  generalize hO : out = out2 at m1 ⊢
                  generalize hA : ia = ia2 at m1 hhi2 hI hN g3 hkn ⊢
                  refine wpS_bind (wpS_elem eb ?_)
                  have m2 := pushB m1 eb fun i h1 h2 => Int.le_of_lt (hhi2 i h1 h2)
                  generalize out2.push (Value.int (K b ib) tb, qb) = out3 at m2 ⊢
                  by_cases hd : ib + 1 = b.size
                  · rw [if_pos (by simpa using hd)]
                    exact wpS_pure ⟨G', .inl ⟨_, _, rfl, doneB m2 hd⟩⟩
                  · rw [if_neg (by simpa using hd)]
                    obtain ⟨ta, qa, ea⟩ := keyAt ka (i := ia2) (by omega)
                    refine wpS_bind (wpS_elem ea ?_)
                    refine wpS_bind (wpS_gallop hk4 rfl kb (by omega) (by omega) (sb.sub (Nat.zero_le _) (by omega)) fun k2 hkn2 hlo2 hhi3 => ?_)
                    dsimp only
                    have hlo3 : ∀ i, i < k2 → K b (ib + 1 + i) ≤ K a ia2 := fun i hi => by
                      have := hlo2 i hi
                      simp [bey] at this; omega
                    have hhi4 : ∀ i, ib + 1 + k2 ≤ i → i < b.size → K a ia2 ≤ K b i := fun i h1 h2 => by
                      have := hhi3 (i - (ib + 1)) (by omega) (by omega)
                      rw [show ib + 1 + (i - (ib + 1)) = i by omega] at this
                      simp [bey] at this; omega
                    by_cases hk2 : k2 > 0
                    · rw [if_pos hk2]
                      have m3 := blockB m2 (k := k2) fun i hi j h1 h2 => Int.le_trans (hlo3 i hi) (upA h1 h2)
                      by_cases hd2 : ib + 1 + k2 = b.size
                      · rw [if_pos (by simpa using hd2)]
                        exact wpS_pure ⟨G', .inl ⟨_, _, rfl, doneB m3 hd2⟩⟩
                      · rw [if_neg (by simpa using hd2)]
                        refine wpS_bind (wpS_elem ea ?_)
                        have m4 := pushA m3 ea fun i h1 h2 => hhi4 i h1 h2
                        by_cases hl2 : ia2 + 1 + 1 = a.size
                        · rw [if_pos (by simpa using hl2)]
                          exact wpS_pure ⟨G', .inl ⟨_, _, rfl, lastG m4 hl2⟩⟩
                        · rw [if_neg (by simpa using hl2)]
                          by_cases h7 : (decide (k < 7) && decide (k2 < 7)) = true
                          · rw [if_pos h7]
                            exact wpS_pure ⟨G', .inr ⟨_, _, _, _, _, _, rfl, m4, by omega, by omega, by omega⟩⟩
                          · rw [if_neg h7]
                            exact wpS_pure ⟨G', _, _, _, _, _, _, rfl, m4, by omega, by omega, by rw [if_neg (by omega)]; omega⟩
                    · rw [if_neg hk2]
                      refine wpS_bind (wpS_elem ea ?_)
                      have m4 := pushA m2 ea fun i h1 h2 => hhi4 i (by omega) h2
                      by_cases hl2 : ia2 + 1 + 1 = a.size
                      · rw [if_pos (by simpa using hl2)]
                        exact wpS_pure ⟨G', .inl ⟨_, _, rfl, lastG m4 hl2⟩⟩
                      · rw [if_neg (by simpa using hl2)]
                        by_cases h7 : (decide (k < 7) && decide (k2 < 7)) = true
                        · rw [if_pos h7]
                          exact wpS_pure ⟨G', .inr ⟨_, _, _, _, _, _, rfl, m4, by omega, by omega, by omega⟩⟩
                        · rw [if_neg h7]
                          exact wpS_pure ⟨G', _, _, _, _, _, _, rfl, m4, by omega, by omega, by rw [if_neg (by omega)]; omega⟩
end
end
section
def mergeHi' : Array Keyed → Array Keyed → StateT SortSt Sem (Array Keyed) := sortPriv% PySem.Builtin.mergeHi
section
variable {prog : Program} {w : World} {A : Around} {E : Value → Shared → Prop} {s : Shared}
variable {st : SortSt} {a b : Array Keyed} {Q : Array Keyed → SortSt → Prop}
structure HiSt (a b : Array Keyed) (out : Array Keyed) (na nb n : Nat) : Prop where
  mh : MH (a.toList ++ b.toList) out.toList.reverse (a.toList.take na) (b.toList.take nb)
  ha : 1 ≤ na
  hb : 2 ≤ nb
  la : na ≤ a.size
  lb : nb ≤ b.size
  hn : na + nb + n ≤ a.size + b.size
set_option maxHeartbeats 4000000 in
theorem wpS_mergeHi (hk : kindOf st = oneType') (ka : IntKeys a) (kb : IntKeys b) (sa : SortedIn a 0 a.size) (sb : SortedIn b 0 b.size) (ha1 : 1 ≤ a.size) (hb1 : 1 ≤ b.size)
    (P1 : ∀ i, i < a.size → K b 0 ≤ K a i) (P2 : ∀ j, j < b.size → K b j ≤ K a (a.size - 1))
    (h : ∀ out st', GS st st' → Good (a.toList ++ b.toList) out.toList → Q out st') : wpS (model prog w) A E s (mergeHi' a b) Q st := by
  have firstG : ∀ {out : Array Keyed} {na nb : Nat}, MH (a.toList ++ b.toList) out.toList.reverse (a.toList.take na) (b.toList.take nb) → nb = 1 → Good (a.toList ++ b.toList) (b.extract 0 nb ++ a.extract 0 na ++ out.reverse).toList := fun {out na nb} m e => by
    subst e
    obtain ⟨t, q, eb⟩ := keyAt kb (i := 0) (by omega)
    have hd := take_at eb
    rw [show b.toList.take 0 = [] from rfl, List.nil_append, show 0 + 1 = 1 from rfl] at hd
    rw [hd] at m
    rw [Array.toList_append, Array.toList_append, ext_upto, ext_upto, Array.toList_reverse, hd]
    refine m.firstB fun y hy => ?_
    obtain ⟨j, h1, h2, h3⟩ := mem_take hy
    rw [ky_at h3, ky_at eb]
    exact P1 j h2
  have doneA : ∀ {out : Array Keyed} {na nb : Nat}, MH (a.toList ++ b.toList) out.toList.reverse (a.toList.take na) (b.toList.take nb) → na = 0 → Good (a.toList ++ b.toList) (a.extract 0 na ++ b.extract 0 nb ++ out.reverse).toList := fun {out na nb} m e => by
    subst e
    rw [Array.toList_append, Array.toList_append, ext_upto, ext_upto, Array.toList_reverse, show a.toList.take 0 = [] from rfl, List.nil_append]
    exact MH.doneB m
  have doneB : ∀ {out : Array Keyed} {na nb : Nat}, MH (a.toList ++ b.toList) out.toList.reverse (a.toList.take na) (b.toList.take nb) → nb = 0 → Good (a.toList ++ b.toList) (a.extract 0 na ++ b.extract 0 nb ++ out.reverse).toList := fun {out na nb} m e => by
    subst e
    rw [Array.toList_append, Array.toList_append, ext_upto, ext_upto, Array.toList_reverse, show b.toList.take 0 = [] from rfl, List.append_nil]
    exact MH.doneA m
  have pushB : ∀ {out : Array Keyed} {na nb : Nat} {p : Keyed}, MH (a.toList ++ b.toList) out.toList.reverse (a.toList.take na) (b.toList.take nb) → 1 ≤ nb → b[nb - 1]? = some p → (∀ i, i < na → i < a.size → K a i ≤ K b (nb - 1)) → MH (a.toList ++ b.toList) (out.push p).toList.reverse (a.toList.take na) (b.toList.take (nb - 1)) := fun {out na nb p} m h1 e hle => by
    have hd := take_at e
    rw [show nb - 1 + 1 = nb by omega] at hd
    rw [hd] at m
    rw [Array.toList_push, List.reverse_append]
    refine m.pushB fun y hy => ?_
    obtain ⟨j, h1, h2, h3⟩ := mem_take hy
    rw [ky_at h3, ky_at e]
    exact hle j h1 h2
  have pushA : ∀ {out : Array Keyed} {na nb : Nat} {p : Keyed}, MH (a.toList ++ b.toList) out.toList.reverse (a.toList.take na) (b.toList.take nb) → 1 ≤ na → a[na - 1]? = some p → (∀ i, i < nb → i < b.size → K b i ≤ K a (na - 1)) → MH (a.toList ++ b.toList) (out.push p).toList.reverse (a.toList.take (na - 1)) (b.toList.take nb) := fun {out na nb p} m h1 e hle => by
    have hd := take_at e
    rw [show na - 1 + 1 = na by omega] at hd
    rw [hd] at m
    rw [Array.toList_push, List.reverse_append]
    refine m.pushA fun y hy => ?_
    obtain ⟨j, h1, h2, h3⟩ := mem_take hy
    rw [ky_at h3, ky_at e]
    exact hle j h1 h2
  have blockA : ∀ {out : Array Keyed} {na nb k : Nat}, MH (a.toList ++ b.toList) out.toList.reverse (a.toList.take na) (b.toList.take nb) → k ≤ na → (∀ i, k ≤ i → i < na → i < a.size → ∀ j, j < nb → j < b.size → K b j ≤ K a i) → MH (a.toList ++ b.toList) (out ++ (a.extract k na).reverse).toList.reverse (a.toList.take k) (b.toList.take nb) := fun {out na nb k} m hkn hle => by
    rw [← List.take_append_drop k (a.toList.take na), List.take_take, Nat.min_eq_left hkn] at m
    rw [Array.toList_append, Array.toList_reverse, List.reverse_append, List.reverse_reverse, ext_mid2]
    refine m.blockA fun x hx y hy => ?_
    obtain ⟨i, h1, h2, h3, h4⟩ := mem_mid2 hx
    obtain ⟨j, g1, g2, g3⟩ := mem_take hy
    rw [ky_at h4, ky_at g3]
    exact hle i h1 h2 h3 j g1 g2
  have blockB : ∀ {out : Array Keyed} {na nb k : Nat}, MH (a.toList ++ b.toList) out.toList.reverse (a.toList.take na) (b.toList.take nb) → k ≤ nb → (∀ i, k ≤ i → i < nb → i < b.size → ∀ j, j < na → j < a.size → K a j ≤ K b i) → MH (a.toList ++ b.toList) (out ++ (b.extract k nb).reverse).toList.reverse (a.toList.take na) (b.toList.take k) := fun {out na nb k} m hkn hle => by
    rw [← List.take_append_drop k (b.toList.take nb), List.take_take, Nat.min_eq_left hkn] at m
    rw [Array.toList_append, Array.toList_reverse, List.reverse_append, List.reverse_reverse, ext_mid2]
    refine m.blockB fun x hx y hy => ?_
    obtain ⟨i, h1, h2, h3, h4⟩ := mem_mid2 hx
    obtain ⟨j, g1, g2, g3⟩ := mem_take hy
    rw [ky_at h4, ky_at g3]
    exact hle i h1 h2 h3 j g1 g2
  have upA : ∀ {i j : Nat}, i ≤ j → j < a.size → K a i ≤ K a j := fun hij hj => sa _ _ (Nat.zero_le _) hij (by omega)
  have upB : ∀ {i j : Nat}, i ≤ j → j < b.size → K b i ≤ K b j := fun hij hj => sb _ _ (Nat.zero_le _) hij (by omega)
  refine wpS_bind (wpS_lift (wpAny_rule ⟨rfl, ?_⟩))
  dsimp only
  obtain ⟨t0, q0, e0⟩ := keyAt ka (i := a.size - 1) (by omega)
  refine wpS_bind (wpS_elem e0 ?_)
  have m0 : MH (a.toList ++ b.toList) (#[] : Array Keyed).toList.reverse (a.toList.take a.size) (b.toList.take b.size) := by
    rw [List.take_of_length_le (by simp), List.take_of_length_le (by simp)]
    exact ⟨by simp, List.Pairwise.nil, sl_of sa, sl_of sb, fun x hx => (by cases hx), fun x hx => (by cases hx)⟩
  have m1 := pushA (out := #[]) m0 ha1 e0 fun i _ hi => P2 i hi
  rw [show (#[] : Array Keyed).push (Value.int (K a (a.size - 1)) t0, q0) = #[(Value.int (K a (a.size - 1)) t0, q0)] from rfl] at m1
  generalize #[(Value.int (K a (a.size - 1)) t0, q0)] = out1 at m1 ⊢
  by_cases hia : a.size - 1 = 0
  · rw [if_pos (by simpa using hia)]
    exact wpS_pure (h _ st (.refl st) (doneA m1 hia))
  · rw [if_neg (by simpa using hia)]
    by_cases hib : b.size = 1
    · rw [if_pos (by simpa using hib)]
      exact wpS_pure (h _ st (.refl st) (firstG m1 hib))
    · rw [if_neg (by simpa using hib)]
      refine wpS_bind (wpS_get ?_)
      refine wpS_bind (wpS_mono (wpS_forRange
        (I := fun x c st' => GS st st' ∧ ∃ na nb out mg, c = (none, na, nb, out, mg) ∧ HiSt a b out na nb (x + 1))
        (Q := fun c st' => GS st st' ∧ ∃ (r : Array Keyed) (rest : _), c = (some r, rest) ∧ Good (a.toList ++ b.toList) r.toList) ?step ?fin ?init) ?post)
      case init => exact ⟨.refl st, a.size - 1, b.size, out1, _, rfl, m1, by omega, by omega, by omega, by omega, by omega⟩
      case fin =>
        rintro c st' ⟨G, na, nb, out, mg, rfl, L⟩
        have := L.ha; have := L.hb; have := L.hn
        exfalso; omega
      case post =>
        rintro c st' ⟨G, r, rest, rfl, hg⟩
        exact wpS_pure (h r st' G hg)
      case step =>
        rintro x c st' _ hx ⟨G, na, nb, out, mg, rfl, L⟩
        dsimp only
        have hk' : kindOf st' = oneType' := G.kind.trans hk
        refine wpS_bind (wpS_mono (wpS_forRange
          (I := fun y c st'' => st'' = st' ∧ ∃ na nb out ac bc, c = (none, na, nb, out, ac, bc) ∧ HiSt a b out na nb (x + 1))
          (Q := fun c st'' => st'' = st' ∧ ((∃ (r : Array Keyed) (rest : _), c = (some r, rest) ∧ Good (a.toList ++ b.toList) r.toList) ∨ ∃ na nb out ac bc, c = (none, na, nb, out, ac, bc) ∧ HiSt a b out na nb (x + 1))) ?step1 ?fin1 ?init1) ?post1)
        case init1 => exact ⟨rfl, na, nb, out, 0, 0, rfl, L⟩
        case fin1 =>
          rintro c st'' ⟨rfl, hc⟩
          exact ⟨rfl, .inr hc⟩
        case step1 =>
          rintro yy c st'' _ hy ⟨rfl, na, nb, out, ac, bc, rfl, L⟩
          dsimp only
          have := L.ha; have := L.hb; have := L.hn; have := L.la; have := L.lb
          obtain ⟨ta, qa, ea⟩ := keyAt ka (i := na - 1) (by omega)
          obtain ⟨tb, qb, eb⟩ := keyAt kb (i := nb - 1) (by omega)
          refine wpS_bind (wpS_elem eb (wpS_bind (wpS_elem ea (wpS_bind (wpS_lt hk' rfl rfl ?_)))))
          dsimp only
          by_cases hlt : K b (nb - 1) < K a (na - 1)
          · rw [if_pos (by simpa using hlt)]
            refine wpS_bind (wpS_elem ea ?_)
            have m2 := pushA L.mh (by omega) ea fun i h1 h2 => Int.le_trans (upB (j := nb - 1) (by omega) (by omega)) (Int.le_of_lt hlt)
            by_cases hd : na - 1 = 0
            · rw [if_pos (by simpa using hd)]
              exact wpS_pure ⟨rfl, .inl ⟨_, _, rfl, doneA m2 hd⟩⟩
            · rw [if_neg (by simpa using hd)]
              have L2 : HiSt a b _ (na - 1) nb (x + 1) := ⟨m2, by omega, by omega, by omega, by omega, by omega⟩
              by_cases hg : ac + 1 ≥ mg
              · rw [if_pos hg]
                exact wpS_pure ⟨rfl, .inr ⟨_, _, _, _, _, rfl, L2⟩⟩
              · rw [if_neg hg]
                exact wpS_pure ⟨rfl, _, _, _, _, _, rfl, L2⟩
          · rw [if_neg (by simpa using hlt)]
            refine wpS_bind (wpS_elem eb ?_)
            have m2 := pushB L.mh (by omega) eb fun i h1 h2 => Int.le_trans (upA (j := na - 1) (by omega) (by omega)) (Int.not_lt.mp hlt)
            by_cases hd : nb - 1 = 1
            · rw [if_pos (by simpa using hd)]
              exact wpS_pure ⟨rfl, .inl ⟨_, _, rfl, firstG m2 hd⟩⟩
            · rw [if_neg (by simpa using hd)]
              have L2 : HiSt a b _ na (nb - 1) (x + 1) := ⟨m2, by omega, by omega, by omega, by omega, by omega⟩
              by_cases hg : bc + 1 ≥ mg
              · rw [if_pos hg]
                exact wpS_pure ⟨rfl, .inr ⟨_, _, _, _, _, rfl, L2⟩⟩
              · rw [if_neg hg]
                exact wpS_pure ⟨rfl, _, _, _, _, _, rfl, L2⟩
        case post1 =>
          rintro c st'' ⟨rfl, ⟨r, rest, rfl, hg⟩ | ⟨na, nb, out, ac, bc, rfl, L⟩⟩
          · exact wpS_pure ⟨G, r, _, rfl, hg⟩
          · dsimp only
            refine wpS_bind (wpS_lift (wpAny_rule ⟨rfl, ?_⟩))
            refine wpS_bind (wpS_mono (wpS_forRange
              (I := fun y c st3 => GS st st3 ∧ ∃ na nb out mg ac bc, c = (none, na, nb, out, mg, ac, bc) ∧ HiSt a b out na nb (if y = 0 then x + 1 else x + 2))
              (Q := fun c st3 => GS st st3 ∧ ((∃ (r : Array Keyed) (rest : _), c = (some r, rest) ∧ Good (a.toList ++ b.toList) r.toList) ∨ ∃ na nb out mg ac bc, c = (none, na, nb, out, mg, ac, bc) ∧ HiSt a b out na nb (x + 2))) ?step2 ?fin2 ?init2) ?post2)
            case init2 => exact ⟨G, na, nb, out, _, ac, bc, rfl, L⟩
            case fin2 =>
              rintro c st3 ⟨G3, na, nb, out, mg, ac, bc, rfl, L⟩
              rw [if_neg (by omega)] at L
              exact ⟨G3, .inr ⟨_, _, _, _, _, _, rfl, L⟩⟩
            case post2 =>
              rintro c st3 ⟨G3, ⟨r, rest, rfl, hg⟩ | ⟨na, nb, out, mg, ac, bc, rfl, L⟩⟩
              · exact wpS_pure ⟨G3, r, _, rfl, hg⟩
              · dsimp only
                refine wpS_bind (wpS_setGallop fun st4 G4 => ?_)
                exact wpS_pure ⟨G3.trans G4, _, _, _, _, rfl, L⟩
            case step2 =>
              rintro yy c st3 _ hy ⟨G3, na, nb, out, mg, ac, bc, rfl, L⟩
              dsimp only
              have g1 := L.ha
              have g2 := L.hb
              have g3 := L.hn
              have g4 := L.la
              have g5 := L.lb
              have mi := L.mh
              have hN : na + nb + (x + 1) ≤ a.size + b.size := by
                split at g3 <;> omega
              have hk3 : kindOf st3 = oneType' := G3.kind.trans hk
              obtain ⟨tb, qb, eb⟩ := keyAt kb (i := nb - 1) (by omega)
              clear L G hx
              by_cases hmg : mg > 1
              all_goals first | rw [if_pos hmg] | rw [if_neg hmg]
              all_goals
                refine wpS_bind (wpS_setGallop fun st4 G4 => ?_)
                have G' := G3.trans G4
                have hk4 : kindOf st4 = oneType' := G4.kind.trans hk3
                refine wpS_bind (wpS_elem eb ?_)
                refine wpS_bind (wpS_gallop hk4 rfl ka (by omega) (by omega) (sa.sub (Nat.zero_le _) (by omega)) fun k hkn hlo hhi => ?_)
                dsimp only
                have hlo1 : ∀ i, i < k → K a i ≤ K b (nb - 1) := fun i hi => by
                  have := hlo i hi
                  simp [bey] at this; omega
                have hhi1 : ∀ i, k ≤ i → i < na → K b (nb - 1) < K a i := fun i h1 h2 => by
                  have := hhi i h1 h2
                  simp [bey] at this; omega
                by_cases hk0 : na - k > 0
                · rw [if_pos hk0]
                  have m1 := blockA mi (k := k) (by omega) fun i h1 h2 h3 j q1 q2 => Int.le_trans (upB (j := nb - 1) (by omega) (by omega)) (Int.le_of_lt (hhi1 i h1 h2))
                  by_cases hl : k = 0
                  · rw [if_pos (by simpa using hl)]
                    exact wpS_pure ⟨G', .inl ⟨_, _, rfl, doneA m1 hl⟩⟩
                  · rw [if_neg (by simpa using hl)]
                    have hlo2 : ∀ i, i < k → i < a.size → K a i ≤ K b (nb - 1) := fun i h1 _ => hlo1 i h1
                    have hAl : k ≤ a.size := by omega
                    have hA1 : 1 ≤ k := by omega
                    have hN2 : k + nb + (x + 1) ≤ a.size + b.size := by omega
                    generalize out ++ (a.extract k na).reverse = out2 at m1 ⊢
                    generalize hKA : na - k = kaa
                    generalize hA : k = na2 at m1 hlo2 hAl hA1 hN2 ⊢
                    clear hl hlo hhi hlo1 hhi1 mi g1 hkn hN hk0
                    refine wpS_bind (wpS_elem eb ?_)
                    have m2 := pushB m1 (by omega) eb fun i h1 h2 => hlo2 i h1 h2
                    generalize out2.push (Value.int (K b (nb - 1)) tb, qb) = out3 at m2 ⊢
                    by_cases hd : nb - 1 = 1
                    · rw [if_pos (by simpa using hd)]
                      exact wpS_pure ⟨G', .inl ⟨_, _, rfl, firstG m2 hd⟩⟩
                    · rw [if_neg (by simpa using hd)]
                      obtain ⟨ta, qa, ea⟩ := keyAt ka (i := na2 - 1) (by omega)
                      refine wpS_bind (wpS_elem ea ?_)
                      refine wpS_bind (wpS_gallop hk4 rfl kb (by omega) (by omega) (sb.sub (Nat.zero_le _) (by omega)) fun k2 hkn2 hlo3 hhi3 => ?_)
                      dsimp only
                      have hlo4 : ∀ i, i < k2 → K b i ≤ K a (na2 - 1) := fun i hi => by
                        have := hlo3 i hi
                        simp [bey] at this; omega
                      have hhi4 : ∀ i, k2 ≤ i → i < nb - 1 → K a (na2 - 1) ≤ K b i := fun i h1 h2 => by
                        have := hhi3 i h1 h2
                        simp [bey] at this; omega
                      by_cases hk2 : nb - 1 - k2 > 0
                      · rw [if_pos hk2]
                        have m3 := blockB m2 (k := k2) (by omega) fun i h1 h2 h3 j g1 g2 => Int.le_trans (upA (j := na2 - 1) (by omega) (by omega)) (hhi4 i h1 h2)
                        by_cases hd1 : k2 = 1
                        · rw [if_pos (by simpa using hd1)]
                          exact wpS_pure ⟨G', .inl ⟨_, _, rfl, firstG m3 hd1⟩⟩
                        · rw [if_neg (by simpa using hd1)]
                          by_cases hd2 : k2 = 0
                          · rw [if_pos (by simpa using hd2)]
                            exact wpS_pure ⟨G', .inl ⟨_, _, rfl, doneB m3 hd2⟩⟩
                          · rw [if_neg (by simpa using hd2)]
                            refine wpS_bind (wpS_elem ea ?_)
                            have m4 := pushA m3 (by omega) ea fun i h1 h2 => hlo4 i h1
                            by_cases hl2 : na2 - 1 = 0
                            · rw [if_pos (by simpa using hl2)]
                              exact wpS_pure ⟨G', .inl ⟨_, _, rfl, doneA m4 hl2⟩⟩
                            · rw [if_neg (by simpa using hl2)]
                              by_cases h7 : (decide (kaa < 7) && decide (nb - 1 - k2 < 7)) = true
                              · rw [if_pos h7]
                                exact wpS_pure ⟨G', .inr ⟨_, _, _, _, _, _, rfl, m4, by omega, by omega, by omega, by omega, by omega⟩⟩
                              · rw [if_neg h7]
                                exact wpS_pure ⟨G', _, _, _, _, _, _, rfl, m4, by omega, by omega, by omega, by omega, by rw [if_neg (by omega)]; omega⟩
                      · rw [if_neg hk2]
                        refine wpS_bind (wpS_elem ea ?_)
                        have m4 := pushA m2 (by omega) ea fun i h1 h2 => hlo4 i (by omega)
                        by_cases hl2 : na2 - 1 = 0
                        · rw [if_pos (by simpa using hl2)]
                          exact wpS_pure ⟨G', .inl ⟨_, _, rfl, doneA m4 hl2⟩⟩
                        · rw [if_neg (by simpa using hl2)]
                          by_cases h7 : (decide (kaa < 7) && decide (nb - 1 - k2 < 7)) = true
                          · rw [if_pos h7]
                            exact wpS_pure ⟨G', .inr ⟨_, _, _, _, _, _, rfl, m4, by omega, by omega, by omega, by omega, by omega⟩⟩
                          · rw [if_neg h7]
                            exact wpS_pure ⟨G', _, _, _, _, _, _, rfl, m4, by omega, by omega, by omega, by omega, by rw [if_neg (by omega)]; omega⟩
                · rw [if_neg hk0]
                  have hlo2 : ∀ i, i < na → i < a.size → K a i ≤ K b (nb - 1) := fun i h1 h2 => hlo1 i (by omega)
                  have m1 := mi
                  have hN2 := hN
                  have hA1 := g1
                  have hAl := g4
                  generalize hKA : na - k = kaa
                  clear hlo hhi hlo1 hhi1 mi g1 hN g4 hkn hk0
                  generalize hO : out = out2 at m1 ⊢
                  generalize hA : na = na2 at m1 hlo2 hN2 hA1 hAl ⊢
                  refine wpS_bind (wpS_elem eb ?_)
                  have m2 := pushB m1 (by omega) eb fun i h1 h2 => hlo2 i h1 h2
                  generalize out2.push (Value.int (K b (nb - 1)) tb, qb) = out3 at m2 ⊢
                  by_cases hd : nb - 1 = 1
                  · rw [if_pos (by simpa using hd)]
                    exact wpS_pure ⟨G', .inl ⟨_, _, rfl, firstG m2 hd⟩⟩
                  · rw [if_neg (by simpa using hd)]
                    obtain ⟨ta, qa, ea⟩ := keyAt ka (i := na2 - 1) (by omega)
                    refine wpS_bind (wpS_elem ea ?_)
                    refine wpS_bind (wpS_gallop hk4 rfl kb (by omega) (by omega) (sb.sub (Nat.zero_le _) (by omega)) fun k2 hkn2 hlo3 hhi3 => ?_)
                    dsimp only
                    have hlo4 : ∀ i, i < k2 → K b i ≤ K a (na2 - 1) := fun i hi => by
                      have := hlo3 i hi
                      simp [bey] at this; omega
                    have hhi4 : ∀ i, k2 ≤ i → i < nb - 1 → K a (na2 - 1) ≤ K b i := fun i h1 h2 => by
                      have := hhi3 i h1 h2
                      simp [bey] at this; omega
                    by_cases hk2 : nb - 1 - k2 > 0
                    · rw [if_pos hk2]
                      have m3 := blockB m2 (k := k2) (by omega) fun i h1 h2 h3 j g1 g2 => Int.le_trans (upA (j := na2 - 1) (by omega) (by omega)) (hhi4 i h1 h2)
                      by_cases hd1 : k2 = 1
                      · rw [if_pos (by simpa using hd1)]
                        exact wpS_pure ⟨G', .inl ⟨_, _, rfl, firstG m3 hd1⟩⟩
                      · rw [if_neg (by simpa using hd1)]
                        by_cases hd2 : k2 = 0
                        · rw [if_pos (by simpa using hd2)]
                          exact wpS_pure ⟨G', .inl ⟨_, _, rfl, doneB m3 hd2⟩⟩
                        · rw [if_neg (by simpa using hd2)]
                          refine wpS_bind (wpS_elem ea ?_)
                          have m4 := pushA m3 (by omega) ea fun i h1 h2 => hlo4 i h1
                          by_cases hl2 : na2 - 1 = 0
                          · rw [if_pos (by simpa using hl2)]
                            exact wpS_pure ⟨G', .inl ⟨_, _, rfl, doneA m4 hl2⟩⟩
                          · rw [if_neg (by simpa using hl2)]
                            by_cases h7 : (decide (kaa < 7) && decide (nb - 1 - k2 < 7)) = true
                            · rw [if_pos h7]
                              exact wpS_pure ⟨G', .inr ⟨_, _, _, _, _, _, rfl, m4, by omega, by omega, by omega, by omega, by omega⟩⟩
                            · rw [if_neg h7]
                              exact wpS_pure ⟨G', _, _, _, _, _, _, rfl, m4, by omega, by omega, by omega, by omega, by rw [if_neg (by omega)]; omega⟩
                    · rw [if_neg hk2]
                      refine wpS_bind (wpS_elem ea ?_)
                      have m4 := pushA m2 (by omega) ea fun i h1 h2 => hlo4 i (by omega)
                      by_cases hl2 : na2 - 1 = 0
                      · rw [if_pos (by simpa using hl2)]
                        exact wpS_pure ⟨G', .inl ⟨_, _, rfl, doneA m4 hl2⟩⟩
                      · rw [if_neg (by simpa using hl2)]
                        by_cases h7 : (decide (kaa < 7) && decide (nb - 1 - k2 < 7)) = true
                        · rw [if_pos h7]
                          exact wpS_pure ⟨G', .inr ⟨_, _, _, _, _, _, rfl, m4, by omega, by omega, by omega, by omega, by omega⟩⟩
                        · rw [if_neg h7]
                          exact wpS_pure ⟨G', _, _, _, _, _, _, rfl, m4, by omega, by omega, by omega, by omega, by rw [if_neg (by omega)]; omega⟩
end
end
section
/-! ## Two runs joined -/
theorem set_fold : ∀ (l : List Keyed) (n base : Nat) (xs : Array Keyed), base + n + l.length ≤ xs.size →
    ((l.zipIdx n).foldl (fun a (q : Keyed × Nat) => a.setIfInBounds (base + q.2) q.1) xs).toList = xs.toList.take (base + n) ++ (l ++ xs.toList.drop (base + n + l.length))
  | [], n, base, xs, h => by simp
  | p :: l, n, base, xs, h => by
    simp only [List.length_cons] at h
    rw [List.zipIdx_cons, List.foldl_cons, set_fold l (n + 1) base _ (by rw [Array.size_setIfInBounds]; omega)]
    simp only [Array.toList_setIfInBounds, List.length_cons]
    rw [show base + (n + 1) = base + n + 1 by omega, List.take_add_one, List.take_set_of_le (Nat.le_refl _), List.getElem?_set_self (by simp; omega), List.drop_set_of_lt (by omega)]
    rw [show base + n + 1 + l.length = base + n + (l.length + 1) by omega]
    simp
theorem sl_take {X : Array Keyed} {n k : Nat} (h : SortedIn X 0 n) (hk : k ≤ n) (hn : n ≤ X.size) : SL (X.toList.take k) := by
  unfold SL
  rw [List.pairwise_iff_getElem]
  intro i j hi hj hij
  simp only [List.length_take, Array.length_toList] at hi hj
  have := h i j (Nat.zero_le _) (Nat.le_of_lt hij) (by omega)
  rw [K_eq (by omega), K_eq (by omega)] at this
  simpa using this
theorem sl_drop {X : Array Keyed} {n m i0 : Nat} (h : SortedIn X n m) (hn : n + m = X.size) (hi0 : n ≤ i0) : SL (X.toList.drop i0) := by
  unfold SL
  rw [List.pairwise_iff_getElem]
  intro i j hi hj hij
  simp only [List.length_drop, Array.length_toList] at hi hj
  have := h (i0 + i) (i0 + j) (by omega) (by omega) (by omega)
  rw [K_eq (by omega), K_eq (by omega)] at this
  simpa using this
theorem K_ext {X : Array Keyed} {i j r : Nat} (hj : j ≤ X.size) (h : i + r < j) : K (X.extract i j) r = K X (i + r) := by
  refine K_congr ?_
  rw [Array.getElem?_extract, if_pos (by omega)]
theorem intKeys_ext {X : Array Keyed} (h : IntKeys X) (i j : Nat) : IntKeys (X.extract i j) := fun p hp => by
  rw [ext_mid2] at hp
  exact h p (List.mem_of_mem_take (List.mem_of_mem_drop hp))
theorem split4 (L : List Keyed) {k n1 e : Nat} (h1 : k ≤ n1) (h2 : n1 ≤ e) : L = L.take k ++ ((L.take n1).drop k ++ (L.take e).drop n1) ++ L.drop e := by
  have a1 : L.take n1 = L.take k ++ (L.take n1).drop k := by
    have := List.take_append_drop k (L.take n1)
    rw [List.take_take, Nat.min_eq_left h1] at this
    exact this.symm
  have a2 : L.take e = L.take n1 ++ (L.take e).drop n1 := by
    have := List.take_append_drop n1 (L.take e)
    rw [List.take_take, Nat.min_eq_left h2] at this
    exact this.symm
  have a3 := (List.take_append_drop e L).symm
  rw [← List.append_assoc, ← a1, ← a2]
  exact a3
theorem sort_fin {X M : Array Keyed} {n1 n2 k nb : Nat} (hn : n1 + n2 = X.size) (h1 : 1 ≤ n1) (h2 : 1 ≤ n2) (hk : k ≤ n1) (hnb : nb ≤ n2) (s1 : SortedIn X 0 n1) (s2 : SortedIn X n1 n2)
    (lo : ∀ i, i < k → K X i ≤ K X n1) (hi : ∀ i, k ≤ i → i < n1 → K X n1 ≤ K X i) (lo2 : ∀ i, i < nb → K X (n1 + i) ≤ K X (n1 - 1)) (hi2 : ∀ i, nb ≤ i → i < n2 → K X (n1 - 1) ≤ K X (n1 + i))
    (g : Good ((X.extract k n1).toList ++ (X.extract n1 (n1 + nb)).toList) M.toList) :
    Good X.toList (X.toList.take k ++ (M.toList ++ X.toList.drop (n1 + nb))) := by
  rw [ext_mid2, ext_mid2] at g
  refine ⟨?_, ?_⟩
  · have := split4 X.toList hk (show n1 ≤ n1 + nb by omega)
    conv => rhs; rw [this]
    rw [List.append_assoc]
    exact (g.1.append_right _).append_left _
  · have inM : ∀ p ∈ M.toList, K X n1 ≤ ky p ∧ ky p ≤ K X (n1 - 1) := fun p hp => by
      rcases List.mem_append.mp (g.1.mem_iff.mp hp) with q | q
      · obtain ⟨j, a1, a2, a3, a4⟩ := mem_mid2 q
        rw [ky_at a4]
        exact ⟨hi j a1 a2, s1 j (n1 - 1) (Nat.zero_le _) (by omega) (by omega)⟩
      · obtain ⟨j, a1, a2, a3, a4⟩ := mem_mid2 q
        rw [ky_at a4]
        have := lo2 (j - n1) (by omega)
        rw [show n1 + (j - n1) = j by omega] at this
        exact ⟨s2 n1 j (Nat.le_refl _) a1 (by omega), this⟩
    have inD : ∀ p ∈ X.toList.drop (n1 + nb), K X (n1 - 1) ≤ ky p ∧ K X n1 ≤ ky p := fun p hp => by
      obtain ⟨j, a1, a2, a3⟩ := mem_drop hp
      rw [ky_at a3]
      have := hi2 (j - n1) (by omega) (by omega)
      rw [show n1 + (j - n1) = j by omega] at this
      exact ⟨this, s2 n1 j (Nat.le_refl _) (by omega) (by omega)⟩
    refine (sl_take s1 hk (by omega)).app (g.2.app (sl_drop s2 hn (by omega)) fun p hp q hq => Int.le_trans (inM p hp).2 (inD q hq).1) fun p hp q hq => ?_
    obtain ⟨i, a1, a2, a3⟩ := mem_take hp
    rw [ky_at a3]
    rcases List.mem_append.mp hq with hq | hq
    · exact Int.le_trans (lo i a1) (inM q hq).1
    · exact Int.le_trans (lo i a1) (inD q hq).2
theorem join_sorted {X : Array Keyed} {n1 n2 : Nat} (hn : n1 + n2 = X.size) (h1 : 1 ≤ n1) (h2 : 1 ≤ n2) (s1 : SortedIn X 0 n1) (s2 : SortedIn X n1 n2) (h : K X (n1 - 1) ≤ K X n1) : SortedTo X X.size := fun i j hij hj => by
  rcases Nat.lt_or_ge j n1 with hjn | hjn
  · exact s1 i j (Nat.zero_le _) hij (by omega)
  · rcases Nat.lt_or_ge i n1 with hin | hin
    · exact Int.le_trans (s1 i (n1 - 1) (Nat.zero_le _) (by omega) (by omega)) (Int.le_trans h (s2 n1 j (Nat.le_refl _) hjn (by omega)))
    · exact s2 i j hin hij (by omega)
structure One (a₀ : Array Keyed) (st : SortSt) : Prop where
  perm : (arrOf st).Perm a₀
  failed : failedOf st = none
  pend : ∃ p, pendingOf st = #[p]
  srt : SortedTo (arrOf st) a₀.size
section
variable {prog : Program} {w : World} {A : Around} {E : Value → Shared → Prop} {s : Shared} {a₀ : Array Keyed}
theorem wpS_set {σ : Type} {M : Model} {x st : σ} {Q : PUnit → σ → Prop} (h : Q ⟨⟩ x) : wpS M A E s (set x : StateT σ Sem PUnit) Q st := by
  unfold wpS; rw [StateT.run_set]; exact wpAny_pure ⟨rfl, h⟩
theorem wpS_mergeAt {st : SortSt} {n1 n2 p q : Nat} {Q : Bool → SortSt → Prop} (h0 : IntKeys a₀) (hp : pendingOf st = #[(0, n1, p), (n1, n2, q)]) (hperm : (arrOf st).Perm a₀) (hkind : kindOf st = oneType') (hf : failedOf st = none)
    (hn : n1 + n2 = a₀.size) (h1 : 1 ≤ n1) (h2 : 1 ≤ n2) (s1 : SortedIn (arrOf st) 0 n1) (s2 : SortedIn (arrOf st) n1 n2)
    (h : ∀ st', One a₀ st' → Q true st') : wpS (model prog w) A E s (mergeAt' 0) Q st := by
  have hX : IntKeys (arrOf st) := fun p hp => h0 p ((Array.perm_iff_toList_perm.mp hperm).mem_iff.mp hp)
  have hsz : (arrOf st).size = a₀.size := hperm.size_eq
  have hpe : (#[(0, n1, p), (n1, n2, q)].setIfInBounds 0 (0, n1 + n2, p)).eraseIdxIfInBounds (0 + 1) = #[(0, n1 + n2, p)] := by
    simp [Array.eraseIdxIfInBounds]
  refine wpS_bind (wpS_get ?_)
  dsimp only
  simp only [hp]
  refine wpS_bind (wpS_set ?_)
  obtain ⟨tb, qb, eb⟩ := keyAt hX (i := n1) (by omega)
  refine wpS_bind (wpS_elem eb ?_)
  refine wpS_bind (wpS_gallop (arr := arrOf st) (by exact hkind) rfl hX (by omega) (by omega) s1 fun k hk lo hi => ?_)
  have lo1 : ∀ i, i < k → K (arrOf st) i ≤ K (arrOf st) n1 := fun i hi' => by
    have := lo i hi'
    simp [bey] at this; omega
  have hi1 : ∀ i, k ≤ i → i < n1 → K (arrOf st) n1 ≤ K (arrOf st) i := fun i a1 a2 => by
    have := hi i a1 a2
    simp [bey] at this; omega
  clear lo hi
  dsimp only
  by_cases hk1 : n1 - k = 0
  · rw [if_pos (by simpa using hk1)]
    refine wpS_pure (h _ ⟨hperm, hf, ⟨_, hpe⟩, ?_⟩)
    have := join_sorted (by omega) h1 h2 s1 s2 (lo1 (n1 - 1) (by omega))
    rw [← hsz]; exact this
  · rw [if_neg (by simpa using hk1)]
    obtain ⟨ta, qa, ea⟩ := keyAt hX (i := n1 - 1) (by omega)
    refine wpS_bind (wpS_elem (p := (Value.int (K (arrOf st) (n1 - 1)) ta, qa)) (by rw [show 0 + k + (n1 - k) - 1 = n1 - 1 by omega]; exact ea) ?_)
    refine wpS_bind (wpS_gallop (arr := arrOf st) (by exact hkind) rfl hX (by omega) (by omega) s2 fun nb hnb lo hi => ?_)
    have lo2 : ∀ i, i < nb → K (arrOf st) (n1 + i) ≤ K (arrOf st) (n1 - 1) := fun i hi' => by
      have := lo i hi'
      simp [bey] at this; omega
    have hi2 : ∀ i, nb ≤ i → i < n2 → K (arrOf st) (n1 - 1) ≤ K (arrOf st) (n1 + i) := fun i a1 a2 => by
      have := hi i a1 a2
      simp [bey] at this; omega
    clear lo hi
    dsimp only
    by_cases hnb0 : nb = 0
    · rw [if_pos (by simpa using hnb0)]
      refine wpS_pure (h _ ⟨hperm, hf, ⟨_, hpe⟩, ?_⟩)
      have := join_sorted (by omega) h1 h2 s1 s2 (hi2 0 (by omega) (by omega))
      rw [← hsz]; exact this
    · rw [if_neg (by simpa using hnb0)]
      rw [Nat.zero_add]
      have zx : ((arrOf st).extract k n1).size = n1 - k := by rw [Array.size_extract]; omega
      have zy : ((arrOf st).extract n1 (n1 + nb)).size = nb := by rw [Array.size_extract]; omega
      have kx : ∀ i, i < n1 - k → K ((arrOf st).extract k n1) i = K (arrOf st) (k + i) := fun i hi => K_ext (by omega) (by omega)
      have kyy : ∀ i, i < nb → K ((arrOf st).extract n1 (n1 + nb)) i = K (arrOf st) (n1 + i) := fun i hi => K_ext (by omega) (by omega)
      have sx : SortedIn ((arrOf st).extract k n1) 0 ((arrOf st).extract k n1).size := fun i j a1 a2 a3 => by
        rw [zx] at a3
        rw [kx i (by omega), kx j (by omega)]
        exact s1 _ _ (Nat.zero_le _) (by omega) (by omega)
      have sy : SortedIn ((arrOf st).extract n1 (n1 + nb)) 0 ((arrOf st).extract n1 (n1 + nb)).size := fun i j a1 a2 a3 => by
        rw [zy] at a3
        rw [kyy i (by omega), kyy j (by omega)]
        exact s2 _ _ (by omega) (by omega) (by omega)
      have P1 : ∀ i, i < ((arrOf st).extract k n1).size → K ((arrOf st).extract n1 (n1 + nb)) 0 ≤ K ((arrOf st).extract k n1) i := fun i hi => by
        rw [zx] at hi
        rw [kx i hi, kyy 0 (by omega)]
        exact hi1 _ (by omega) (by omega)
      have P2 : ∀ j, j < ((arrOf st).extract n1 (n1 + nb)).size → K ((arrOf st).extract n1 (n1 + nb)) j ≤ K ((arrOf st).extract k n1) (((arrOf st).extract k n1).size - 1) := fun j hj => by
        rw [zy] at hj
        rw [zx, kx _ (by omega), kyy j hj, show k + (n1 - k - 1) = n1 - 1 by omega]
        exact lo2 j hj
      have fin : ∀ (M : Array Keyed) (st' : SortSt), GS (SortSt.mk' (kindOf st) (arrOf st) ((#[(0, n1, p), (n1, n2, q)].setIfInBounds 0 (0, n1 + n2, p)).eraseIdxIfInBounds (0 + 1)) (gallopOf st) (failedOf st)) st' →
          Good (((arrOf st).extract k n1).toList ++ ((arrOf st).extract n1 (n1 + nb)).toList) M.toList →
          One a₀ (SortSt.mk' (kindOf st') (List.foldl (fun a (x : Keyed × Nat) => a.setIfInBounds (k + x.2) x.1) (arrOf st') M.toList.zipIdx) (pendingOf st') (gallopOf st') (failedOf st')) := fun M st' G g => by
        have hlen : M.toList.length = n1 - k + nb := by
          have := g.1.length_eq
          simp only [List.length_append, Array.length_toList, zx, zy] at this
          rw [Array.length_toList]; exact this
        have hM := set_fold M.toList 0 k (arrOf st') (by rw [G.arr]; show k + 0 + _ ≤ (arrOf st).size; omega)
        rw [G.arr] at hM
        have hM' : (List.foldl (fun a (x : Keyed × Nat) => a.setIfInBounds (k + x.2) x.1) (arrOf st) (M.toList.zipIdx 0)).toList = (arrOf st).toList.take k ++ (M.toList ++ (arrOf st).toList.drop (n1 + nb)) := by
          have := hM
          rw [show k + 0 + M.toList.length = n1 + nb by omega] at this
          exact this
        have gf := sort_fin (M := M) (by omega) h1 h2 hk hnb s1 s2 lo1 hi1 lo2 hi2 g
        rw [← hM'] at gf
        have hpm : (List.foldl (fun a (x : Keyed × Nat) => a.setIfInBounds (k + x.2) x.1) (arrOf st) (M.toList.zipIdx 0)).Perm (arrOf st) := Array.perm_iff_toList_perm.mpr gf.1
        have harr : arrOf st' = arrOf st := G.arr
        refine ⟨?_, ?_, ⟨_, G.pend.trans hpe⟩, ?_⟩
        · show (List.foldl _ (arrOf st') _).Perm a₀
          rw [harr]; exact hpm.trans hperm
        · show failedOf st' = none
          exact G.failed.trans hf
        · show SortedTo (List.foldl _ (arrOf st') _) a₀.size
          rw [harr]
          have := of_sl gf.2
          rw [hpm.size_eq, hsz] at this
          exact fun i j hij hj => this i j (Nat.zero_le _) hij (by omega)
      have fin2 : ∀ st2 : SortSt, One a₀ st2 → Q (failedOf st2).isNone st2 := fun st2 O => by rw [O.failed]; exact h st2 O
      by_cases hle : n1 - k ≤ nb
      · rw [if_pos hle]
        refine wpS_bind (wpS_mergeLo (a := (arrOf st).extract k n1) (b := (arrOf st).extract n1 (n1 + nb)) (by exact hkind) (intKeys_ext hX _ _) (intKeys_ext hX _ _) sx sy (by rw [zx]; omega) (by rw [zy]; omega) P1 P2 fun M st' G g => ?_)
        have O := fin M st' G g
        refine wpS_bind (wpS_modify (wpS_bind (wpS_get (wpS_pure ?_))))
        exact fin2 _ O
      · rw [if_neg hle]
        refine wpS_bind (wpS_mergeHi (a := (arrOf st).extract k n1) (b := (arrOf st).extract n1 (n1 + nb)) (by exact hkind) (intKeys_ext hX _ _) (intKeys_ext hX _ _) sx sy (by rw [zx]; omega) (by rw [zy]; omega) P1 P2 fun M st' G g => ?_)
        have O := fin M st' G g
        refine wpS_bind (wpS_modify (wpS_bind (wpS_get (wpS_pure ?_))))
        exact fin2 _ O
end
end
section
/-- two runs stand -/
structure Two (a₀ : Array Keyed) (st : SortSt) (n : Nat) (pw : Nat) : Prop where
  perm : (arrOf st).Perm a₀
  kind : kindOf st = oneType'
  failed : failedOf st = none
  pend : pendingOf st = #[(0, n, pw), (n, 64 - n, 0)]
  s1 : SortedIn (arrOf st) 0 n
  s2 : SortedIn (arrOf st) n (64 - n)
  lo : 32 ≤ n
  hi : n < 64
section
variable {prog : Program} {w : World} {A : Around} {E : Value → Shared → Prop} {s : Shared} {a₀ : Array Keyed}
theorem minRun64 : minRun' 64 64 0 = 32 := by rw [minRun'_succ, if_neg (by decide), minRun'_succ, if_pos (by decide)]; rfl
set_option maxHeartbeats 1000000 in
theorem wpS_sortRuns64 {st : SortSt} {Q : Unit → SortSt → Prop} (h0 : IntKeys a₀) (hperm : (arrOf st).Perm a₀) (hkind : kindOf st = oneType') (hf : failedOf st = none) (hp : pendingOf st = #[]) (h64 : a₀.size = 64)
    (h : ∀ st', (arrOf st').Perm a₀ → failedOf st' = none → SortedTo (arrOf st') a₀.size → Q () st') : wpS (model prog w) A E s sortRuns' Q st := by
  have hB : SB a₀ #[] 0 st := ⟨hperm, hkind, hf, hp, fun i j _ hj => by omega⟩
  rw [sortRuns'_eq]
  refine wpS_bind (wpS_get ?_)
  dsimp only
  simp only [hB.size, h64, minRun64]
  refine wpS_bind (wpS_mono (wpS_forRange
    (I := fun x c st' => (x = 0 ∧ c = (none, 0) ∧ SB a₀ #[] 0 st') ∨ (x = 1 ∧ ∃ n, 32 ≤ n ∧ n ≤ 64 ∧ c = (none, n) ∧ SB a₀ #[(0, n, 0)] n st') ∨ (2 ≤ x ∧ c = (none, 64) ∧ ∃ n pw, Two a₀ st' n pw))
    (Q := fun c st' => c = (none, 64) ∧ (One a₀ st' ∨ ∃ n pw, Two a₀ st' n pw)) ?step ?fin (.inl ⟨rfl, rfl, hB⟩)) ?post)
  case fin =>
    rintro c st' (⟨hx, _, _⟩ | ⟨hx, _⟩ | ⟨_, hc, hD⟩)
    · omega
    · omega
    · exact ⟨hc, .inr hD⟩
  case step =>
    rintro x c st' _ hx (⟨rfl, rfl, hB'⟩ | ⟨rfl, n, hn1, hn2, rfl, hB'⟩ | ⟨hx2, rfl, hD⟩)
    · dsimp only
      rw [if_neg (by omega)]
      have next : ∀ (m : Nat) (st2 : SortSt), 32 ≤ m → m ≤ 64 → SB a₀ #[] 0 st2 → SortedIn (arrOf st2) 0 m →
          SB a₀ #[(0, m, 0)] m (setPending st2 ((pendingOf st2).push (0, m, 0))) := fun m st2 h1 h2 B S =>
        ⟨B.perm, B.kind, B.failed, by show (pendingOf st2).push _ = _; rw [B.pend]; rfl, fun i j hij hj => S i j (Nat.zero_le _) hij (by omega)⟩
      refine wpS_bind (wpS_countRunL h0 (by omega) (by omega) hB' fun m st2 hB2 hm1 hm2 hs2 => ?_)
      dsimp only
      by_cases hlt : m < 32
      · rw [if_pos hlt]
        refine wpS_bind (wpS_lift (wpAny_rule ⟨rfl, ?_⟩))
        rw [show min (64 - 0) 32 = 32 from rfl]
        refine wpS_bind (wpS_binarySortL h0 (by omega) (by omega) hm1 hB2 hs2 fun st3 hB3 hs3 => ?_)
        rw [if_neg (show ¬ (!true) = true by decide)]
        refine wpS_bind (wpS_get ?_)
        have hb : (pendingOf st3).back? = none := by rw [hB3.pend]; rfl
        rw [hb]
        dsimp only
        exact wpS_bind (wpS_modify (wpS_pure (.inr (.inl ⟨rfl, 32, by omega, by omega, rfl, next 32 st3 (by omega) (by omega) hB3 hs3⟩))))
      · rw [if_neg hlt]
        refine wpS_bind (wpS_get ?_)
        have hb : (pendingOf st2).back? = none := by rw [hB2.pend]; rfl
        rw [hb]
        dsimp only
        rw [Nat.zero_add]
        exact wpS_bind (wpS_modify (wpS_pure (.inr (.inl ⟨rfl, m, by omega, by omega, rfl, next m st2 (by omega) (by omega) hB2 hs2⟩))))
    · dsimp only
      by_cases hge : n ≥ 64
      · rw [if_pos hge]
        obtain rfl : n = 64 := by omega
        exact wpS_pure ⟨rfl, .inl ⟨hB'.perm, hB'.failed, ⟨_, hB'.pend⟩, by rw [h64]; exact hB'.pre⟩⟩
      · rw [if_neg hge]
        have next : ∀ (pw : Nat) (st2 : SortSt), SB a₀ #[(0, n, 0)] n st2 → SortedIn (arrOf st2) n (64 - n) →
            Two a₀ (setPending (setPending st2 ((pendingOf st2).modify ((pendingOf st2).size - 1) fun (a, b, _) => (a, b, pw))) (((pendingOf st2).modify ((pendingOf st2).size - 1) fun (a, b, _) => (a, b, pw)).push (n, 64 - n, 0))) n pw := fun pw st2 B S =>
          ⟨B.perm, B.kind, B.failed, by show ((pendingOf st2).modify _ _).push _ = _; rw [B.pend]; rfl, fun i j _ hij hj => B.pre i j hij (by omega), S, hn1, by omega⟩
        have inner : ∀ (pw : Nat) (st2 : SortSt) {R : Option Unit × Unit → SortSt → Prop}, SB a₀ #[(0, n, 0)] n st2 → R (none, ()) st2 → True := fun _ _ _ _ _ => trivial
        refine wpS_bind (wpS_countRunL h0 (by omega) (by omega) hB' fun m st2 hB2 hm1 hm2 hs2 => ?_)
        dsimp only
        by_cases hlt : m < 32
        · rw [if_pos hlt]
          refine wpS_bind (wpS_lift (wpAny_rule ⟨rfl, ?_⟩))
          rw [show min (64 - n) 32 = 64 - n by omega]
          refine wpS_bind (wpS_binarySortL h0 (by omega) (by omega) hm1 hB2 hs2 fun st3 hB3 hs3 => ?_)
          rw [if_neg (show ¬ (!true) = true by decide)]
          refine wpS_bind (wpS_get ?_)
          have hb : (pendingOf st3).back? = some (0, n, 0) := by rw [hB3.pend]; rfl
          rw [hb]
          dsimp only
          refine wpS_bind (wpS_mono (wpS_forRange (I := fun _ c st4 => st4 = st3 ∧ c = (none, ())) (Q := fun c st4 => st4 = st3 ∧ c = (none, ())) ?_ (fun _ _ hh => hh) ⟨rfl, rfl⟩) ?_)
          · rintro x c st4 _ _ ⟨rfl, rfl⟩
            refine wpS_bind (wpS_get ?_)
            rw [if_neg (by rw [hB3.pend]; exact Nat.lt_irrefl 1)]
            exact wpS_pure ⟨rfl, rfl⟩
          · rintro c st4 ⟨rfl, rfl⟩
            dsimp only
            refine wpS_bind (wpS_modify (wpS_bind (wpS_modify (wpS_pure (.inr (.inr ⟨by omega, ?_, n, _, next _ _ hB3 hs3⟩))))))
            rw [show n + (64 - n) = 64 by omega]
        · rw [if_neg hlt]
          have hmn : m = 64 - n := by omega
          subst hmn
          refine wpS_bind (wpS_get ?_)
          have hb : (pendingOf st2).back? = some (0, n, 0) := by rw [hB2.pend]; rfl
          rw [hb]
          dsimp only
          refine wpS_bind (wpS_mono (wpS_forRange (I := fun _ c st4 => st4 = st2 ∧ c = (none, ())) (Q := fun c st4 => st4 = st2 ∧ c = (none, ())) ?_ (fun _ _ hh => hh) ⟨rfl, rfl⟩) ?_)
          · rintro x c st4 _ _ ⟨rfl, rfl⟩
            refine wpS_bind (wpS_get ?_)
            rw [if_neg (by rw [hB2.pend]; exact Nat.lt_irrefl 1)]
            exact wpS_pure ⟨rfl, rfl⟩
          · rintro c st4 ⟨rfl, rfl⟩
            dsimp only
            refine wpS_bind (wpS_modify (wpS_bind (wpS_modify (wpS_pure (.inr (.inr ⟨by omega, ?_, n, _, next _ _ hB2 hs2⟩))))))
            rw [show n + (64 - n) = 64 by omega]
    · dsimp only
      rw [if_pos (Nat.le_refl _)]
      exact wpS_pure ⟨rfl, .inr hD⟩
  case post =>
    rintro c st' ⟨rfl, hD⟩
    dsimp only
    refine wpS_bind (wpS_mono (wpS_forRange (I := fun x c st2 => c = (none, ()) ∧ (One a₀ st2 ∨ (x = 0 ∧ ∃ n pw, Two a₀ st2 n pw))) (Q := fun c st2 => c = (none, ()) ∧ One a₀ st2) ?_ ?_ ⟨rfl, hD.imp id fun z => ⟨rfl, z⟩⟩) ?_)
    · rintro x c st2 _ _ ⟨rfl, O | ⟨rfl, n, pw, T⟩⟩
      · obtain ⟨p, hpp⟩ := O.pend
        refine wpS_bind (wpS_get ?_)
        rw [if_pos (by rw [hpp]; exact Nat.le_refl 1)]
        exact wpS_pure ⟨rfl, O⟩
      · refine wpS_bind (wpS_get ?_)
        rw [if_neg (by rw [T.pend]; exact (by decide : ¬ 2 ≤ 1))]
        have e2 : (pendingOf st2).size - 2 = 0 := by rw [T.pend]; rfl
        have hn := T.lo
        have hn2 := T.hi
        rw [e2, if_neg (show ¬ ((0 : Nat) > 0) from Nat.lt_irrefl 0), if_neg (by exact Bool.false_ne_true)]
        refine wpS_bind (wpS_mergeAt h0 T.pend T.perm T.kind T.failed (by omega) (by omega) (by omega) T.s1 T.s2 fun st3 O => ?_)
        exact wpS_pure ⟨rfl, .inl O⟩
    · rintro c st2 ⟨rfl, O | ⟨hx, _⟩⟩
      · exact ⟨rfl, O⟩
      · omega
    · rintro c st2 ⟨rfl, O⟩
      exact wpS_pure (h _ O.perm O.failed O.srt)
end
end
section
section
variable {prog : Program} {w : World} {A : Around} {E : Value → Shared → Prop} {s : Shared}
theorem sort_tree64 {a : Addr} {vs : List Value} {ns : List Int} {n : Nat} {P : Fin → Shared → Prop} (ho : s.heap.get? a = some (seqObj "list" vs.toArray n)) (hI : IntsAre vs ns) (h64 : vs.length = 64)
    (h : ∀ (out : Array Value) (ns' : List Int), IntsAre out.toList ns' → ns'.Perm ns → ns'.Pairwise (· ≤ ·) → P (.done (.ret .none)) { s with heap := sortedHeap s.heap a vs out }) :
    wpAny (model prog w) A (Builtin.«list.sort» ⟨[.ref a], []⟩) P E s := by
  rcases vs with _ | ⟨v1, _ | ⟨v2, rest⟩⟩
  · cases h64
  · cases h64
  have n64 : (v1 :: v2 :: rest).toArray.size = 64 := h64
  have room : ∀ {x : Nat}, x = 64 → x ≤ sizeLine := fun q => by rw [sizeLine_eq]; omega
  have void := get?_update_seq ho (fun _ => #[])
  -- the list is empty while its items are sorted apart
  have aside := fun (o₁ o₂ : Obj) => Heap.get?_push_of_some o₂ (Heap.get?_push_of_some o₁ void)
  rw [list_sort_plain]
  refine wpAny_bind (listItems_at ho rfl (wpAny_bind (listUpdate_at ho rfl ?_ (hsz := room n64))))
  refine wpAny_bind (seqEpoch_at void rfl (wpAny_bind (wpAny_newTuple ?_ (room n64))))
  refine wpAny_bind (wpAny_newList (wpAny_holding ?_))
  refine wpAny_bind ?_
  rw [if_neg (by rw [n64]; decide), if_neg (by rw [n64]; decide), keyKind_ints hI]
  have sorts := wpS_sortRuns64 (prog := prog) (w := w) (A := A) (E := E) (s := { s with heap := ((s.heap.update a (Obj.mapSeq fun _ => #[])).push (seqObj "tuple" (v1 :: v2 :: rest).toArray 0)).push (seqObj "list" #[] 0) })
    (a₀ := pairsOf (v1 :: v2 :: rest)) (st := SortSt.mk' oneType' ((v1 :: v2 :: rest).toArray.zip (v1 :: v2 :: rest).toArray) #[] 7 none)
    (Q := fun _ z => (arrOf z).Perm (pairsOf (v1 :: v2 :: rest)) ∧ failedOf z = none ∧ SortedTo (arrOf z) (pairsOf (v1 :: v2 :: rest)).size)
    hI.intKeys (Array.Perm.refl _) rfl rfl rfl (by rw [pairsOf_size, h64]) fun z p f o => ⟨p, f, o⟩
  refine wpAny_pure (wpAny_bind (wpAny_mono sorts ?_ fun _ _ q => q))
  rintro ⟨⟨⟩, z⟩ _ ⟨rfl, p, f, o⟩
  obtain ⟨out, i1, i2, i3⟩ := sorted_out hI p o
  have nz : ((arrOf z).map (·.2)).size = 64 := by rw [Array.size_map, p.size_eq, pairsOf_size, h64]
  refine wpAny_bind (seqEpoch_at (aside _ _) rfl (wpAny_bind (listUpdate_at (aside _ _) rfl ?_ (hsz2 := Nat.le_succ_of_le (room nz)))))
  rw [f]
  refine wpAny_ite_false (by simp) (wpAny_pure ?_)
  exact h _ out i1 i2 i3
theorem sort_call {h₀ : Heap} {L B : Addr} {m : Str → Option Value} {news : List (Addr × Obj)} {vs : List Value} {ns : List Int} {k : Nat} {Q : Value → Shared → Prop} (F : Fr h₀ L s.heap m) (N : News h₀ L s.heap ((B, PySem.W.listOf vs.toArray k) :: news)) (hB : ∀ p ∈ news, p.1 ≠ B) (hI : IntsAre vs ns) (h64 : ns.length ≤ 64)
    (h : ∀ h' vs' ns' e, Fr h₀ L h' m → News h₀ L h' ((B, PySem.W.listOf vs'.toArray e) :: news) → IntsAre vs' ns' → ns'.Perm ns → ns'.Pairwise (· ≤ ·) → Q .none { s with heap := h' }) : wpAny (model prog w) A (call (.builtin "list.sort") [.ref B]) Q E s := by
  have z := N _ (.head _)
  have ho : s.heap.get? B = some (seqObj "list" vs.toArray k) := z.1
  have hlen := hI.length
  have fin : ∀ (out : Array Value) (ns' : List Int), IntsAre out.toList ns' → ns'.Perm ns → ns'.Pairwise (· ≤ ·) → Q .none { s with heap := sortedHeap s.heap B vs out } := fun out ns' a1 a2 a3 => by
    obtain ⟨e, he⟩ := sortedHeap_at (vs := vs) (n := k) (out := out) ho
    have keep : ∀ b o, b ≠ B → s.heap.get? b = some o → (sortedHeap s.heap B vs out).get? b = some o := fun b o hb q => by rw [sortedHeap_old hb (Heap.lt_size q)]; exact q
    refine h _ out.toList ns' e ?_ ?_ a1 a2 a3
    · obtain ⟨oL, c1, c2, hL, c3⟩ := F.ns
      refine ⟨⟨oL, c1, c2, keep _ _ (Ne.symm z.2.1) hL, c3⟩, fun b o q => keep b o (fun y => by subst y; rw [z.2.2] at q; cases q) (F.keep b o q), F.above⟩
    · intro p hp
      rcases List.mem_cons.mp hp with rfl | hp
      · exact ⟨by rw [Array.toArray_toList]; exact he, z.2⟩
      · exact ⟨keep _ _ (hB p hp) (N p (.tail _ hp)).1, (N p (.tail _ hp)).2⟩
  refine wpAny_call_entry slot_list_sort ⟨_, ho, rfl⟩ entry_list_sort ?_ (args_list_sort _)
  by_cases hlt : vs.length < 64
  · exact list_sort_tree ho hI hlt fun out ns' a1 a2 a3 => ⟨_, rfl, fin out ns' a1 a2 a3⟩
  · exact sort_tree64 ho hI (by omega) fun out ns' a1 a2 a3 => ⟨_, rfl, fin out ns' a1 a2 a3⟩
end
end
section
open PySem PySem.W PyProof.Rows PySem.Calls PyProof.Rows.LCg PyProof.V
/-! ## A dict of ints -/
section
variable {α β : Type} {g : Gl} {x : Fx} {σ : Store} {m : Loc} {E : Value → Heap → Prop} {env : Env} {d : Addr} {D : List (Int × Int)} {k e : Int} {tk te : Tok}
theorem At.dict {h : Heap} (H : At g x σ m h) (ed : σ d = some (.dict D)) : IntTab PG g.w h d (kdfD D) := by
  obtain ⟨F, news, dx, RN⟩ := H
  obtain ⟨o, kvs, hm, hd, hf, lo⟩ := RN.cells d _ ed
  exact ⟨lo, kvs, Heap.dictOf_iff.mpr ⟨o, (RN.N _ hm).1, hd⟩, hf⟩
theorem w_newDict {pos : Pos} {Q : Value → Store → Loc → Prop} (h : ∀ d, σ d = none → Q (.ref d) (σ.set d (.dict [])) m) : W g x (eval (.Dict [] [] pos) env) σ m Q E := by
  intro ok s₀ σ₀ s hs H
  obtain ⟨F, news, dx, RN⟩ := H
  refine newDict_K F RN.N ok.T.nolimit fun d h' o F' N' l1 lo _ _ hd hf => ?_
  exact ⟨_, _, (hs.heap h').new _ (RN.fresh l1), ⟨F', _, _, RN.new l1 (c := .dict []) (fun _ _ q => by cases q) N' fun _ hm => ⟨o, [], hm, hd, hf, lo⟩⟩, h d (RN.fresh l1)⟩
theorem w_dictSet {Q : Unit → Store → Loc → Prop} (ed : σ d = some (.dict D)) (hz : D.length ≤ 1000) (h : Q () (σ.set d (.dict (kdfPut D k e))) m) : W g x (setItem (.ref d) (.int k tk) (.int e te)) σ m Q E := by
  intro ok s₀ σ₀ s hs H
  obtain ⟨F, news, dx, RN⟩ := H
  obtain ⟨o, kvs, hm, hd, hf, lo⟩ := RN.cells d _ ed
  refine kdf_setItem F RN.N (updF_of RN.nd hm) hd hf (by omega) fun h' o' kvs' F' N' hd' hf' => ?_
  exact ⟨_, _, (hs.mk' h' _).set _ ed (fun _ q => by cases q), ⟨F', _, _, RN.turn (c' := .dict (kdfPut D k e)) ed (fun _ _ q => by cases q) (fun _ _ q => by cases q) N' fun _ hm => ⟨o', kvs', hm, hd', hf', lo⟩⟩, h⟩
theorem w_dictIn {Q : Value → Store → Loc → Prop} (ed : σ d = some (.dict D)) (h : Q (.bool (kdfHas D k)) σ m) : W g x (compareOp .In (.int k tk) (.ref d)) σ m Q E :=
  fun ok s₀ σ₀ s hs H => kdf_in (H.dict ed) ⟨σ, m, hs.toks _, H, h⟩
theorem w_dictNotIn {Q : Value → Store → Loc → Prop} (ed : σ d = some (.dict D)) (h : Q (.bool (!kdfHas D k)) σ m) : W g x (compareOp .NotIn (.int k tk) (.ref d)) σ m Q E :=
  fun ok s₀ σ₀ s hs H => kdf_notin (H.dict ed) ⟨σ, m, hs.toks _, H, h⟩
theorem w_dictItem {value slice : Expr} {Q : Value → Store → Loc → Prop} (ed : σ d = some (.dict D)) (hk : kdfHas D k = true) (h : ∀ t, Q (.int (kdfLook D k 0) t) σ m)
    (hs' : subscripted slice false (.ref d) (.int k tk) = operate [.ref d, .int k tk] (getItem (.ref d) (.int k tk))) (hg : ∀ r, letTemporaryGo value (.ref d) r = pure ()) : W g x (subscriptTail value slice (.ref d) (.int k tk)) σ m Q E :=
  fun ok s₀ σ₀ s hs H => kdf_item (H.dict ed) hk (fun t => ⟨σ, m, hs.toks _, H, h t⟩) hs' hg
theorem w_dictLen {Q : Value → Store → Loc → Prop} (ed : σ d = some (.dict D)) (hz : D.length ≤ 1000) (h : ∀ t, Q (.int (D.length : Nat) t) σ m) : W g x (call (.builtin "len") [.ref d]) σ m Q E :=
  fun ok s₀ σ₀ s hs H => kdf_len (H.dict ed) (by omega) ⟨σ, m, (hs.toks _).toks _, H, h _⟩
theorem w_dictPopM {pl : Sem Bool} {Q : Value × List Value → Store → Loc → Prop} (ed : σ d = some (.dict D)) (h : Q (.builtin "dict.pop", [.ref d]) σ m) : W g x (getMethod (.ref d) (Str.ofString "pop") pl) σ m Q E := by
  intro ok s₀ σ₀ s hs H
  obtain ⟨F, news, dx, RN⟩ := id H
  obtain ⟨o, kvs, hm, hd, hf, lo⟩ := RN.cells d _ ed
  exact kob_method (knd := PySem.intKind PG g.w) PySem.F.slot_dict_pop PySem.F.type_dict_pop RN.N hm hd ⟨σ, m, hs, H, h⟩
theorem w_dictPop {Q : Value → Store → Loc → Prop} (ed : σ d = some (.dict D)) (hk : kdfHas D k = true) (hz : D.length ≤ 1000) (h : ∀ t, Q (.int (kdfLook D k 0) t) (σ.set d (.dict (kdyDel D k))) m) : W g x (call (.builtin "dict.pop") [.ref d, .int k tk]) σ m Q E := by
  intro ok s₀ σ₀ s hs H
  obtain ⟨F, news, dx, RN⟩ := H
  obtain ⟨o, kvs, hm, hd, hf, lo⟩ := RN.cells d _ ed
  refine kdy_pop (more := []) (.inl rfl) (PySem.F.args_dict_pop_2 _ _) F RN.N (updF_of RN.nd hm) hd hf hk (by omega) fun h' o' kvs' t F' N' hd' hf' => ?_
  exact ⟨_, _, (hs.mk' h' _).set _ ed (fun _ q => by cases q), ⟨F', _, _, RN.turn (c' := .dict (kdyDel D k)) ed (fun _ _ q => by cases q) (fun _ _ q => by cases q) N' fun _ hm => ⟨o', kvs', hm, hd', hf', lo⟩⟩, h t⟩
theorem intsAre_of {vs : List Value} : ∀ {D : List (Int × Int)}, vs.length = (kdfD D).length → (∀ (j : Nat) (v : Value), vs[j]? = some v → ∃ q : PyData × PyData, (kdfD D)[j]? = some q ∧ Flat v q.1) → IntsAre vs (D.map (·.1)) := by
  induction vs with
  | nil =>
    intro D hl _
    cases D with
    | nil => exact .nil
    | cons _ _ => simp [kdfD] at hl
  | cons v vs ih =>
    intro D hl hv
    cases D with
    | nil => simp [kdfD] at hl
    | cons p D =>
      obtain ⟨q, e, hf⟩ := hv 0 v rfl
      simp only [kdfD, List.map_cons, List.getElem?_cons_zero, Option.some.injEq] at e
      subst e
      obtain ⟨t, rfl⟩ := Flat.int_inv hf
      exact .cons _ _ (ih (by simpa [kdfD] using hl) fun j u hu => by have := hv (j + 1) u (by simpa using hu); simpa [kdfD] using this)
theorem kdl_keys_of {C : List Value → Prop} : ∀ (D : List (Int × Int)), (∀ vs, IntsAre vs (D.map (·.1)) → C vs) → KdlKeysD (kdfD D) C := by
  intro D
  induction D generalizing C with
  | nil => exact fun h => h [] .nil
  | cons p D ih =>
    intro h v hv
    obtain ⟨t, rfl⟩ := Flat.int_inv hv
    exact ih fun vs hvs => h _ (.cons _ _ hvs)
theorem w_sortedDict {Q : Value → Store → Loc → Prop} (hh : x.hd = none) (ed : σ d = some (.dict D)) (hz : D.length ≤ 64)
    (h : ∀ l vs ns, σ l = none → IntsAre vs ns → ns.Perm (D.map (·.1)) → ns.Pairwise (· ≤ ·) → Q (.ref l) (σ.set l (.list vs)) m) : W g x (call (.builtin "sorted") [.ref d]) σ m Q E := by
  intro ok s₀ σ₀ s hs H
  obtain ⟨F, news, dx, RN⟩ := id H
  refine kdu_sortedD (knd := PySem.intKind PG g.w) (enc := PyData.int) (fun _ _ => kdl_flat_int) hh F RN.N (H.dict ed) (by rw [kdfD_length]; omega) fun B h' tk => kdl_keys_of D fun vs hvs F' N' l1 => ?_
  refine sort_call F' N' (fun p hp => Nat.ne_of_lt (l1 p hp)) hvs (by rw [List.length_map]; exact hz) fun h2 vs' ns' e F2 N2 hi hp hw => ?_
  exact ⟨_, _, ((hs.mk' h2 _).new _ (RN.fresh l1)), ⟨F2, _, _, RN.new l1 (c := .list vs') (fun _ _ q => by cases q) N2 fun _ hm => ⟨e, hm⟩⟩, h B vs' ns' (RN.fresh l1) hi hp hw⟩
end
end
section
open PySem PySem.W PyProof.Rows PySem.Calls PyProof.Rows.LCg PyProof.V
section
variable {α β : Type} {g : Gl} {x : Fx} {σ : Store} {m : Loc} {E : Value → Heap → Prop} {env : Env}
/-! ### lists of ints, compared and joined -/
theorem w_eqInts {a b : Addr} {xs ys : List Value} {ns ms : List Int} {Q : Value → Store → Loc → Prop} (hr : Room x 6) (ea : σ a = some (.list xs)) (eb : σ b = some (.list ys)) (hi : IntsAre xs ns) (hj : IntsAre ys ms) (h : Q (.bool (decide (ns = ms))) σ m) : W g x (compareOp .Eq (.ref a) (.ref b)) σ m Q E :=
  fun ok s₀ σ₀ s hs H => ke_eq_ints (H.list ea) (H.list eb) hi hj (by have := hr.2; show x.un + 64 < _; omega) ⟨σ, m, hs, H, h⟩
theorem w_neInts {a b : Addr} {xs ys : List Value} {ns ms : List Int} {Q : Value → Store → Loc → Prop} (hr : Room x 6) (ea : σ a = some (.list xs)) (eb : σ b = some (.list ys)) (hi : IntsAre xs ns) (hj : IntsAre ys ms) (h : Q (.bool (!decide (ns = ms))) σ m) : W g x (compareOp .NotEq (.ref a) (.ref b)) σ m Q E :=
  fun ok s₀ σ₀ s hs H => ke_ne_ints (H.list ea) (H.list eb) hi hj (by have := hr.2; show x.un + 64 < _; omega) ⟨σ, m, hs, H, h⟩
theorem w_addLists {a b : Addr} {xs ys : List Value} {Q : Value → Store → Loc → Prop} (ea : σ a = some (.list xs)) (eb : σ b = some (.list ys)) (hz : xs.length + ys.length ≤ 1000) (h : ∀ l, σ l = none → Q (.ref l) (σ.set l (.list (xs ++ ys))) m) : W g x (binaryOp .Add (.ref a) (.ref b)) σ m Q E := by
  intro ok s₀ σ₀ s hs H
  obtain ⟨F, news, dx, RN⟩ := id H
  refine kmk_add_lit F RN.N (H.list ea) (H.list eb) (zs := xs ++ ys) (by simp) (fun D h' F' N' l1 => ?_) (by simp only [sizeLine_eq]; omega)
  exact ⟨_, _, (hs.heap h').new _ (RN.fresh l1), ⟨F', _, _, RN.new l1 (c := .list (xs ++ ys)) (fun _ _ q => by cases q) N' fun _ hm => ⟨0, hm⟩⟩, h D (RN.fresh l1)⟩
/-- pairs of ints, as tuples of the store -/
def PairAt (σ : Store) (v : Value) (p : Int × Int) : Prop := ∃ a t u, v = .ref a ∧ σ a = some (.tup [.int p.1 t, .int p.2 u])
inductive PairsAt (σ : Store) : List Value → List (Int × Int) → Prop
  | nil : PairsAt σ [] []
  | cons {v : Value} {p : Int × Int} {vs : List Value} {ps : List (Int × Int)} : PairAt σ v p → PairsAt σ vs ps → PairsAt σ (v :: vs) (p :: ps)
theorem PairsAt.sub {σ σ' : Store} (h : SubS σ σ') {vs : List Value} {ps : List (Int × Int)} (P : PairsAt σ vs ps) : PairsAt σ' vs ps := by
  induction P with
  | nil => exact .nil
  | cons h1 _ ih =>
    obtain ⟨a, t, u, rfl, e⟩ := h1
    exact .cons ⟨a, t, u, rfl, h _ _ (fun P q => by cases q) e⟩ ih
theorem PairsAt.snoc {σ : Store} {vs : List Value} {ps : List (Int × Int)} {v : Value} {p : Int × Int} (P : PairsAt σ vs ps) (h : PairAt σ v p) : PairsAt σ (vs ++ [v]) (ps ++ [p]) := by
  induction P with
  | nil => exact .cons h .nil
  | cons h1 _ ih => exact .cons h1 ih
theorem PairsAt.length {σ : Store} {vs : List Value} {ps : List (Int × Int)} (P : PairsAt σ vs ps) : vs.length = ps.length := by
  induction P with
  | nil => rfl
  | cons _ _ ih => simp [ih]
def pairD (p : Int × Int) : Dat := .tuple [.int p.1, .int p.2]
theorem PairsAt.dat {news : List (Addr × Obj)} {dx : Addr → Addr} {vs : List Value} {ps : List (Int × Int)} (P : PairsAt σ vs ps) (RX : RepX g.w σ news dx) : DatAll news vs (ps.map pairD) := by
  induction P with
  | nil => exact .nil
  | cons h1 _ ih =>
    obtain ⟨a, t, u, rfl, e⟩ := h1
    exact .cons (.tuple (RX.cells a _ e) (.cons (.int ..) (.cons (.int ..) .nil))) ih
theorem w_nePairs {a b : Addr} {xs ys : List Value} {ps qs : List (Int × Int)} {Q : Value → Store → Loc → Prop} (hr : Room x 6) (ea : σ a = some (.list xs)) (eb : σ b = some (.list ys)) (hi : PairsAt σ xs ps) (hj : PairsAt σ ys qs) (hpq : ps = qs) (h : Q (.bool false) σ m) : W g x (compareOp .NotEq (.ref a) (.ref b)) σ m Q E := by
  intro ok s₀ σ₀ s hs H
  obtain ⟨F, news, dx, RN⟩ := id H
  obtain ⟨ka, ma⟩ := RN.cells a _ ea
  obtain ⟨kb, mb⟩ := RN.cells b _ eb
  subst hpq
  have hok : ∀ d ∈ ps.map pairD, kqdOk 8 d = true := fun d hd => by obtain ⟨p, _, rfl⟩ := List.mem_map.mp hd; rfl
  refine kqd_ne RN.N ma rfl rfl (hi.dat RN.toX) (fun _ h => h) mb rfl rfl (hj.dat RN.toX) (fun _ h => h) hok hok (by have := hr.2; show x.un + 64 < _; omega) ⟨σ, m, hs, H, ?_⟩
  simpa using h

/-! ### for over a list, with names in a tuple -/
theorem go_list {M : Model} {A : Around} {E : Value → Shared → Prop} {s : Shared} {target : Expr} {I : Addr} {v : Value} {o : Obj} {Q : Unit → Shared → Prop} (ho : s.heap.get? I = some o) (hc : o.cls = .type "list_iterator") (h : Q () s) : wpAny M A (letOwnedTupleGo target (.ref I) v) Q E s := by
  obtain ⟨c, d, dt, sl⟩ := o
  obtain rfl : c = .type "list_iterator" := hc
  unfold letOwnedTupleGo
  split
  · cases v with
    | ref a =>
      refine wpAny_bind (wpAny_load ho ?_)
      cases dt with
      | fields vs =>
        dsimp only
        rw [if_neg (by simp)]
        exact wpAny_pure h
      | _ => exact wpAny_pure h
    | _ => exact wpAny_pure h
  · cases v with
    | ref a =>
      refine wpAny_bind (wpAny_load ho ?_)
      cases dt with
      | fields vs =>
        dsimp only
        rw [if_neg (by simp)]
        exact wpAny_pure h
      | _ => exact wpAny_pure h
    | _ => exact wpAny_pure h
  · exact wpAny_pure h
theorem code_forL {I l : Addr} {vs : List Value} {target : Expr} {body orelse : List Stmt} {Q : Flow → Store → Loc → Prop} (hh : x.hd = none) (hne : l ≠ I)
    (J : Nat → Store → Loc → Prop) (mono : ∀ i m, Mono fun σ => J i σ m) (sup : ∀ i σ m, J i σ m → σ l = some (.list vs))
    (turn : ∀ i v σ m, i < vs.length → vs[i]? = some v → J i σ m → W g x (assign target x.env v) σ m (fun _ σ m => W g x (execs body x.env) σ m (Turn (J (i + 1)) Q) NoE) NoE)
    (done : ∀ σ m, J vs.length σ m → W g x (execs orelse x.env) σ m Q NoE)
    (ok : x.Ok g) (s₀ : Shared) (σ₀ : Store) (hI : ∀ P, σ₀ I ≠ some (.pred P)) {s : Shared} (hs : Was s₀ σ₀ s σ) (H : At g x σ m s.heap) (eI : σ I = some (.raw { cls := .type "list_iterator", data := .fields #[.ref l, .int 0 0] })) (hJ : J 0 σ m) :
    codeAny g.M x.A (.forLoop target (.ref I) body orelse x.env) (fun r s' => match r with | .ok f => Post g x s₀ σ₀ Q f s' | .error e => cameBackBy g.M x.A x.env (EE s₀ E) e s') s := by
  have hz : vs.toArray.size = vs.length := List.size_toArray
  have Wk := Walks.list (prog := PG) (w := g.w) (A := x.A) hh I l hne vs.toArray
  rw [hz] at Wk
  refine codeAny_forLoop_any (fun k s => ∃ i σ m o, k = vs.length - i ∧ i ≤ vs.length ∧ Was s₀ σ₀ s σ ∧ At g x σ m s.heap ∧ σ I = some (.raw o) ∧ (o.cls = .type "list_iterator" ∧ o.data = .fields #[.ref l, .int i 0]) ∧ J i σ m) (fun k s ⟨i, σ, m, o, hk, hi, hs, H, eI, hSt, hJ⟩ => ?_) vs.length ⟨0, σ, m, _, rfl, Nat.zero_le _, hs, H, eI, ⟨rfl, rfl⟩, hJ⟩
  have hSt' : s.heap.IsListIter I l i ∧ s.heap.IsList l vs.toArray := ⟨⟨o, H.getPred eI, hSt.1, hSt.2⟩, H.list (sup i σ m hJ)⟩
  have kp : ∀ o', Keeps σ₀ (σ.set I (.raw o')) := fun o' b P q => by
    rw [Store.set_ne _ _ fun z => by subst z; exact hI P q]
    exact hs.keep b P q
  by_cases hlt : i < vs.length
  · refine Wk.item i _ _ _ hlt hSt' fun v h' tk hP hSt2 hk' => ?_
    obtain ⟨⟨o', ho', hc', hd'⟩, _⟩ := hSt2
    have H' := H.turnPred eI ho' fun b ob hb q => hk' b ob (by simpa using hb) q
    have hJ' := mono i m σ _ (SubS.pred (.raw o') eI) hJ
    have hs' : Was s₀ σ₀ { s with heap := h', toks := tk } (σ.set I (.raw o')) := ⟨hs.same.mk h' tk, kp o'⟩
    refine go_list (s := { s with heap := h', toks := tk }) ho' hc' ?_
    refine wpAny_mono (turn i v _ m hlt (by simpa using hP) hJ' ok s₀ (σ.set I (.raw o')) _ ⟨hs'.same, Keeps.refl _⟩ H') (fun _ s2 ⟨σ2, m2, hs2, H2, h2⟩ => ?_) fun e s' he => he.2.elim
    refine wpAny_mono (h2 ok s₀ (σ.set I (.raw o')) s2 hs2 H2) (fun f s3 ⟨σ3, m3, hs3, H3, h3⟩ => ?_) fun e s' he => he.2.elim
    have e3 : σ3 I = some (.raw o') := hs3.keep I _ (Store.set_same _ _ _)
    have hs4 : Was s₀ σ₀ s3 σ3 := ⟨hs3.same, fun b P q => hs3.keep b P (kp o' b P q)⟩
    cases f with
    | next => exact ⟨vs.length - (i + 1), by omega, i + 1, σ3, m3, o', rfl, hlt, hs4, H3, e3, ⟨hc', hd'⟩, h3⟩
    | cont => exact ⟨vs.length - (i + 1), by omega, i + 1, σ3, m3, o', rfl, hlt, hs4, H3, e3, ⟨hc', hd'⟩, h3⟩
    | brk => exact ⟨σ3, m3, hs4, H3, h3⟩
    | ret v => exact ⟨σ3, m3, hs4, H3, h3⟩
  · obtain rfl : i = vs.length := by omega
    refine Wk.done _ _ _ hSt' fun h' tk hk' => ?_
    have H' := H.erase eI fun b ob hb q => hk' b ob (by simpa using hb) q
    have hJ' := mono vs.length m σ _ (SubS.drop eI) hJ
    have hs' : Was s₀ σ₀ { s with heap := h', toks := tk } (σ.drop I) := ⟨hs.same.mk h' tk, fun b P q => by
      rw [Store.drop_ne _ fun z => by subst z; exact hI P q]
      exact hs.keep b P q⟩
    exact wpAny_mono (done _ m hJ' ok s₀ σ₀ _ hs' H') (fun f s3 h3 => h3) fun e s' he => he.2.elim
theorem w_For_listT {target iter : Expr} {body orelse : List Stmt} {pos : Pos} {Q : Flow → Store → Loc → Prop} (hh : x.hd = none)
    (h : W g x (eval iter x.env) σ m (fun v σ m => ∃ l vs, v = .ref l ∧ σ l = some (.list vs) ∧ ∃ J : Nat → Store → Loc → Prop, J 0 σ m ∧ (∀ i m, Mono fun σ => J i σ m) ∧ (∀ i σ m, J i σ m → σ l = some (.list vs)) ∧
      (∀ i v σ m, i < vs.length → vs[i]? = some v → J i σ m → W g x (assign target x.env v) σ m (fun _ σ m => W g x (execs body x.env) σ m (Turn (J (i + 1)) Q) NoE) NoE) ∧ (∀ σ m, J vs.length σ m → W g x (execs orelse x.env) σ m Q NoE)) E)
    (hf : ∀ v, foldedSetIterable iter x.env v = pure v) : W g x (exec (.For target iter body orelse pos) x.env) σ m Q E := by
  intro ok s₀ σ₀ s hs H
  refine wpAny_For (h.use ok hs H fun v s1 σ1 m1 hs1 H1 h1 => ?_) hf
  obtain ⟨l, vs, rfl, e, J, hJ, mono, sup, turn, done⟩ := h1
  refine wpAny_pyIter_list (H1.list e) ?_
  obtain ⟨H2, fr⟩ := H1.pushPred { cls := .type "list_iterator", data := .fields #[.ref l, .int 0 0] } rfl
  have hne : l ≠ s1.heap.objs.size := fun q => by rw [← q, e] at fr; cases fr
  refine code_forL hh hne J mono sup turn done ok s₀ σ₀ ?_ (s := { s1 with heap := s1.heap.push { cls := .type "list_iterator", data := .fields #[.ref l, .int 0 0] } }) ((hs1.heap _).new _ fr) H2 (Store.set_same _ _ _) (mono 0 m1 _ _ (SubS.new _ fr) hJ)
  intro P q
  have := hs1.keep _ P q
  rw [fr] at this; cases this
end
end
section
open PySem PySem.W PyProof.Rows PySem.Calls PyProof.Rows.LCg PyProof.V
section
variable {α β : Type} {g : Gl} {x : Fx} {σ : Store} {m : Loc} {E : Value → Heap → Prop} {env : Env}
/-! ### for over enumerate(list) -/
theorem RepX.turnP {w : World} {news : List (Addr × Obj)} {dx : Addr → Addr} (R : RepX w σ news dx) {a : Addr} {P P' : Obj → Prop} {o' : Obj} (e : σ a = some (.pred P)) (hP : P' o') : RepX w (σ.set a (.pred P')) (updN a o' news) dx := by
  obtain ⟨o, hm⟩ := (R.cells a _ e).mem
  refine ⟨by rw [updN_keys]; exact R.nd, fun b cb hb => ?_, fun b b' C fs C' fs' h1 h2 q => ?_, fun b C fs h1 => ?_⟩
  · by_cases hba : b = a
    · subst hba
      rw [Store.set_same] at hb; cases hb
      exact ⟨o', mem_updN_self hm, hP⟩
    · rw [Store.set_ne _ _ hba] at hb
      refine (R.cells b cb hb).keep (fun o h => mem_updN_ne h hba) fun C fs q => ⟨rfl, fun o h => mem_updN_ne h fun q2 => ?_⟩
      subst q
      have := R.off b C fs hb
      rw [show dx b = a from q2, e] at this; cases this
  · have n1 : b ≠ a := fun q => by subst q; rw [Store.set_same] at h1; cases h1
    have n2 : b' ≠ a := fun q => by subst q; rw [Store.set_same] at h2; cases h2
    rw [Store.set_ne _ _ n1] at h1; rw [Store.set_ne _ _ n2] at h2
    exact R.inj _ _ _ _ _ _ h1 h2 q
  · have n1 : b ≠ a := fun q => by subst q; rw [Store.set_same] at h1; cases h1
    rw [Store.set_ne _ _ n1] at h1
    have n2 : dx b ≠ a := fun q => by have := R.off b C fs h1; rw [q, e] at this; cases this
    rw [Store.set_ne _ _ n2]
    exact R.off b C fs h1
def tupP (vs : List Value) : Cell := .pred fun o => o.cls = .type "tuple" ∧ ∃ n, o.data = .seq vs.toArray n
theorem RepX.addP {w : World} {news : List (Addr × Obj)} {dx : Addr → Addr} (R : RepX w σ news dx) {l : Addr} {o : Obj} {P : Obj → Prop} (hP : P o) (hl : ∀ p ∈ news, p.1 ≠ l) : RepX w (σ.set l (.pred P)) ((l, o) :: news) dx ∧ σ l = none := by
  obtain ⟨R', hf⟩ := R.add (o := o) hl
  refine ⟨⟨R'.nd, fun b cb hb => ?_, fun b b' C fs C' fs' h1 h2 q => ?_, fun b C fs h1 => ?_⟩, hf⟩
  · by_cases hbl : b = l
    · subst hbl
      rw [Store.set_same] at hb; cases hb
      exact ⟨o, .head _, hP⟩
    · rw [Store.set_ne _ _ hbl] at hb
      exact R'.cells b cb (by rw [Store.set_ne _ _ hbl]; exact hb)
  · have n1 : b ≠ l := fun q => by subst q; rw [Store.set_same] at h1; cases h1
    have n2 : b' ≠ l := fun q => by subst q; rw [Store.set_same] at h2; cases h2
    rw [Store.set_ne _ _ n1] at h1; rw [Store.set_ne _ _ n2] at h2
    exact R.inj _ _ _ _ _ _ h1 h2 q
  · have n1 : b ≠ l := fun q => by subst q; rw [Store.set_same] at h1; cases h1
    rw [Store.set_ne _ _ n1] at h1
    obtain ⟨_, es, n, hm, _⟩ := R.cells b _ h1
    rw [Store.set_ne _ _ (hl _ hm)]
    exact R.off b C fs h1
theorem fr_but2 {h₀ h h' : Heap} {L I J : Addr} {m : Loc} (F : Fr h₀ L h m) (hk : ∀ b o, b ≠ I → b ≠ J → h.get? b = some o → h'.get? b = some o) (hI : h₀.get? I = none) (hJ : h₀.get? J = none) (hLI : L ≠ I) (hLJ : L ≠ J) : Fr h₀ L h' m :=
  ⟨F.ns.at' fun o e => hk L o hLI hLJ e, fun b o e => hk b o (fun q => by rw [q, hI] at e; cases e) (fun q => by rw [q, hJ] at e; cases e) (F.keep b o e), F.above⟩
theorem At.turn2 {h h' : Heap} {I J : Addr} {P1 P2 : Obj → Prop} {o1 o2 : Obj} (H : At g x σ m h) (e1 : σ I = some (.pred P1)) (e2 : σ J = some (.pred P2)) (hij : I ≠ J) (h1 : h'.get? I = some o1) (h2 : h'.get? J = some o2)
    (hk : ∀ b o, b ≠ I → b ≠ J → h.get? b = some o → h'.get? b = some o) : At g x ((σ.set I (.raw o1)).set J (.raw o2)) m h' := by
  obtain ⟨F, news, dx, RN⟩ := H
  obtain ⟨p1, m1, _⟩ := RN.cells I _ e1
  obtain ⟨p2, m2, _⟩ := RN.cells J _ e2
  have z1 := RN.N _ m1
  have z2 := RN.N _ m2
  have R1 := RN.toX.turnP (P' := (· = o1)) (o' := o1) e1 rfl
  have e2' : (σ.set I (.raw o1)) J = some (.pred P2) := by rw [Store.set_ne _ _ hij.symm]; exact e2
  have R2 := R1.turnP (P' := (· = o2)) (o' := o2) e2' rfl
  refine ⟨fr_but2 F hk z1.2.2 z2.2.2 (Ne.symm z1.2.1) (Ne.symm z2.2.1), _, dx, RepN.ofX R2 fun p hp => ?_⟩
  obtain ⟨q, hq, rfl⟩ := List.mem_map.mp hp
  obtain ⟨r, hr, rfl⟩ := List.mem_map.mp hq
  have zr := RN.N _ hr
  by_cases hrI : r.1 = I
  · rw [if_pos hrI]
    rw [if_neg (show ¬ (I, o1).1 = J from hij)]
    exact ⟨h1, z1.2⟩
  · rw [if_neg hrI]
    by_cases hrJ : r.1 = J
    · rw [if_pos hrJ]; exact ⟨h2, z2.2⟩
    · rw [if_neg hrJ]; exact ⟨hk _ _ hrI hrJ zr.1, zr.2⟩
theorem At.turn2T {h h' : Heap} {I J T : Addr} {P1 P2 : Obj → Prop} {o1 o2 oT : Obj} {vals : List Value} (H : At g x σ m h) (e1 : σ I = some (.pred P1)) (e2 : σ J = some (.pred P2)) (hij : I ≠ J) (h1 : h'.get? I = some o1) (h2 : h'.get? J = some o2)
    (hk : ∀ b o, b ≠ I → b ≠ J → h.get? b = some o → h'.get? b = some o) (hT : h'.get? T = some oT) (hge : h.objs.size ≤ T) (hc : oT.cls = .type "tuple") (hd : ∃ n, oT.data = .seq vals.toArray n) : At g x (((σ.set I (.raw o1)).set J (.raw o2)).set T (tupP vals)) m h' ∧ ((σ.set I (.raw o1)).set J (.raw o2)) T = none := by
  obtain ⟨F, news, dx, RN⟩ := H
  obtain ⟨p1, m1, _⟩ := RN.cells I _ e1
  obtain ⟨p2, m2, _⟩ := RN.cells J _ e2
  have z1 := RN.N _ m1
  have z2 := RN.N _ m2
  have R1 := RN.toX.turnP (P' := (· = o1)) (o' := o1) e1 rfl
  have e2' : (σ.set I (.raw o1)) J = some (.pred P2) := by rw [Store.set_ne _ _ hij.symm]; exact e2
  have R2 := R1.turnP (P' := (· = o2)) (o' := o2) e2' rfl
  have F' := fr_but2 F hk z1.2.2 z2.2.2 (Ne.symm z1.2.1) (Ne.symm z2.2.1)
  have hlt : ∀ p ∈ updN J o2 (updN I o1 news), p.1 ≠ T := fun p hp => by
    have := mem_fst hp
    rw [updN_keys, updN_keys] at this
    obtain ⟨q, hq, e⟩ := List.mem_map.mp this
    rw [← e]
    exact Nat.ne_of_lt (Nat.lt_of_lt_of_le (Heap.lt_size (RN.N q hq).1) hge)
  obtain ⟨R3, hf⟩ := R2.addP (l := T) (o := oT) (P := fun o => o.cls = .type "tuple" ∧ ∃ n, o.data = .seq vals.toArray n) ⟨hc, hd⟩ hlt
  refine ⟨⟨F', _, dx, RepN.ofX R3 fun p hp => ?_⟩, hf⟩
  rcases List.mem_cons.mp hp with rfl | hp
  · refine ⟨hT, fun q => ?_, ?_⟩
    · have q : T = x.L := q
      obtain ⟨oL, es, ep, hL, _⟩ := F.ns
      have := Heap.lt_size hL
      rw [← q] at this
      exact absurd (Nat.lt_of_lt_of_le this hge) (Nat.lt_irrefl _)
    · cases q : x.h₀.get? T with
      | none => rfl
      | some o => exact absurd (Nat.lt_of_lt_of_le (Heap.lt_size (F.keep _ _ q)) hge) (Nat.lt_irrefl _)
  · obtain ⟨q, hq, rfl⟩ := List.mem_map.mp hp
    obtain ⟨r, hr, rfl⟩ := List.mem_map.mp hq
    have zr := RN.N _ hr
    by_cases hrI : r.1 = I
    · rw [if_pos hrI]
      rw [if_neg (show ¬ (I, o1).1 = J from hij)]
      exact ⟨h1, z1.2⟩
    · rw [if_neg hrI]
      by_cases hrJ : r.1 = J
      · rw [if_pos hrJ]; exact ⟨h2, z2.2⟩
      · rw [if_neg hrJ]; exact ⟨hk _ _ hrI hrJ zr.1, zr.2⟩
theorem At.erase2 {h h' : Heap} {I J : Addr} {P1 P2 : Obj → Prop} (H : At g x σ m h) (e1 : σ I = some (.pred P1)) (e2 : σ J = some (.pred P2)) (hij : I ≠ J)
    (hk : ∀ b o, b ≠ I → b ≠ J → h.get? b = some o → h'.get? b = some o) : At g x ((σ.drop I).drop J) m h' := by
  obtain ⟨F, news, dx, RN⟩ := H
  obtain ⟨p1, m1, _⟩ := RN.cells I _ e1
  obtain ⟨p2, m2, _⟩ := RN.cells J _ e2
  have z1 := RN.N _ m1
  have z2 := RN.N _ m2
  have R1 := RN.toX.drop e1
  have e2' : (σ.drop I) J = some (.pred P2) := by rw [Store.drop_ne _ hij.symm]; exact e2
  have R2 := R1.drop e2'
  refine ⟨fr_but2 F hk z1.2.2 z2.2.2 (Ne.symm z1.2.1) (Ne.symm z2.2.1), _, dx, RepN.ofX R2 fun p hp => ?_⟩
  obtain ⟨hp, h2⟩ := List.mem_filter.mp hp
  obtain ⟨hp, h1⟩ := List.mem_filter.mp hp
  exact ⟨hk _ _ (bne_iff_ne.mp h1) (bne_iff_ne.mp h2) (RN.N p hp).1, (RN.N p hp).2⟩
theorem w_unpack2P {t : Addr} {v1 v2 : Value} {n1 n2 : Str} {p1 p2 : Pos} {k : Nat} {pos : Pos} {Q : Unit → Store → Loc → Prop} (hh : x.hd = none) (e : σ t = some (tupP [v1, v2])) (l1 : x.cs.names.lookup n1 = some .local) (l2 : x.cs.names.lookup n2 = some .local)
    (h : Q () σ (upL (upL m n1 v1) n2 v2)) : W g x (assign (.Tuple [.Name n1 p1, .Name n2 p2] k pos) x.env (.ref t)) σ m Q E := by
  intro ok s₀ σ₀ s hs H
  have ht : IsTup s.heap t [v1, v2].toArray := by
    obtain ⟨F, news, dx, RN⟩ := H
    obtain ⟨o, hm, hc, n, hd⟩ := RN.cells t _ e
    exact ⟨o, (RN.N _ hm).1, hc, n, hd⟩
  have hb : W g x (assignInOrder ((assignEach [.Name n1 p1, .Name n2 p2] x.env).map (·.2)) [v1, v2]) σ m Q E := w_inOrder_cons (w_assignName l1 (w_inOrder_cons (w_assignName l2 (w_inOrder_nil h))))
  have he : ∀ v, assign (.Tuple [.Name n1 p1, .Name n2 p2] k pos) x.env v = (do standAt pos; unpack v (assignEach [.Name n1 p1, .Name n2 p2] x.env)) := fun _ => rfl
  rw [he]
  refine wpAny_bind (wpAny_standAt (unpack_tuple hh ht rfl rfl fun h' he' => ?_))
  exact hb ok s₀ σ₀ _ (hs.heap h') (H.ext (get_size _) he')
abbrev enumO (it : Addr) (i : Int) (old : Value) : Obj := { cls := .type "enumerate", dict := none, data := .fields #[.none, .bool false, .ref it, rawInt i, .none, old], slots := #[] }
theorem w_enumerate {l : Addr} {vs : List Value} {Q : Value → Store → Loc → Prop} (el : σ l = some (.list vs)) (h : ∀ e it oi, σ e = none → σ it = none → e ≠ it → oi.cls = .type "list_iterator" → oi.data = .fields #[.ref l, .int 0 0] → Q (.ref e) ((σ.set it (.raw oi)).set e (.raw (enumO it 0 .none))) m) :
    W g x (call (.type "enumerate") [.ref l]) σ m Q E := by
  intro ok s₀ σ₀ s hs H
  obtain ⟨F, news, dx, RN⟩ := id H
  refine call_enumerate_list (H.list el) fun h' he hi hz hk => ?_
  obtain ⟨oi, hoi, hic, hid⟩ := hi
  have l1 : ∀ p ∈ news, p.1 ≠ s.heap.objs.size := fun p hp => Nat.ne_of_lt (Heap.lt_size (RN.N p hp).1)
  have l2 : ∀ p ∈ (s.heap.objs.size, oi) :: news, p.1 ≠ s.heap.objs.size + 1 := fun p hp => by
    rcases List.mem_cons.mp hp with rfl | hp
    · exact fun q => Nat.succ_ne_self s.heap.objs.size q.symm
    · exact Nat.ne_of_lt (Nat.lt_succ_of_lt (Heap.lt_size (RN.N p hp).1))
  obtain ⟨R1, f1⟩ := RN.toX.add (o := oi) l1
  obtain ⟨R2, f2⟩ := R1.add (o := enumO s.heap.objs.size 0 .none) l2
  have hne : s.heap.objs.size + 1 ≠ s.heap.objs.size := Nat.succ_ne_self _
  have f2' := f2
  rw [Store.set_ne _ _ hne] at f2'
  have hlt : ∀ a, s.heap.objs.size ≤ a → a ≠ x.L ∧ x.h₀.get? a = none := fun a ha => by
    refine ⟨fun q => ?_, ?_⟩
    · obtain ⟨oL, es, ep, hL, _⟩ := F.ns
      have := Heap.lt_size hL
      rw [← q] at this
      exact absurd (Nat.lt_of_lt_of_le this ha) (Nat.lt_irrefl _)
    · cases q : x.h₀.get? a with
      | none => rfl
      | some o => exact absurd (Nat.lt_of_lt_of_le (Heap.lt_size (F.keep _ _ q)) ha) (Nat.lt_irrefl _)
  refine ⟨_, _, ((hs.heap h').new _ f1).new _ f2, ⟨F.keeps hk, _, dx, RepN.ofX R2 fun p hp => ?_⟩, h _ _ oi f2' f1 hne hic hid⟩
  rcases List.mem_cons.mp hp with rfl | hp
  · exact ⟨he, hlt _ (Nat.le_succ _)⟩
  · rcases List.mem_cons.mp hp with rfl | hp
    · exact ⟨hoi, hlt _ (Nat.le_refl _)⟩
    · exact ⟨hk _ _ (RN.N p hp).1, (RN.N p hp).2⟩
/-- for over enumerate(list): e and it are new within the statement -/
theorem w_For_enum {n1 n2 : Str} {p1 p2 tp : Pos} {k : Nat} {iter : Expr} {body orelse : List Stmt} {pos : Pos} {Q : Flow → Store → Loc → Prop} (hh : x.hd = none) (l1 : x.cs.names.lookup n1 = some .local) (l2 : x.cs.names.lookup n2 = some .local)
    (h : W g x (eval iter x.env) σ m (fun v σ1 m1 => ∃ e it oi l vs, v = .ref e ∧ σ e = none ∧ σ it = none ∧ e ≠ it ∧ oi.cls = .type "list_iterator" ∧ oi.data = .fields #[.ref l, .int 0 0] ∧ σ1 it = some (.raw oi) ∧ σ1 e = some (.raw (enumO it 0 .none)) ∧ σ1 l = some (.list vs) ∧
      ∃ J : Nat → Store → Loc → Prop, J 0 σ1 m1 ∧ (∀ i m, Mono fun σ => J i σ m) ∧ (∀ i σ m, J i σ m → σ l = some (.list vs)) ∧
      (∀ (i : Nat) v t σ m, i < vs.length → vs[i]? = some v → J i σ m → W g x (execs body x.env) σ (upL (upL m n1 (.int i t)) n2 v) (Turn (J (i + 1)) Q) NoE) ∧ (∀ σ m, J vs.length σ m → W g x (execs orelse x.env) σ m Q NoE)) E)
    (hf : ∀ v, foldedSetIterable iter x.env v = pure v) : W g x (exec (.For (.Tuple [.Name n1 p1, .Name n2 p2] k tp) iter body orelse pos) x.env) σ m Q E := by
  intro ok s₀ σ₀ s hs H
  refine wpAny_For (W.use (σ₀ := σ) h ok ⟨hs.same, Keeps.refl _⟩ H fun v s1 σ1 m1 hs1 H1 h1 => ?_) hf
  obtain ⟨e, it, oi, l, vs, rfl, fe, fi, hei, hic, hid, ei, ee, el, J, hJ, mono, sup, turn, done⟩ := h1
  have nl : ∀ {σ : Store} {a : Addr} {P : Obj → Prop}, σ l = some (.list vs) → σ a = some (.pred P) → l ≠ a := fun h1 h2 q => by rw [q, h2] at h1; cases h1
  have hle : l ≠ e := nl el ee
  have hli : l ≠ it := nl el ei
  have nE : ∀ P, σ₀ e ≠ some (.pred P) := fun P q => by have := hs.keep _ _ q; rw [fe] at this; cases this
  have nI : ∀ P, σ₀ it ≠ some (.pred P) := fun P q => by have := hs.keep _ _ q; rw [fi] at this; cases this
  refine wpAny_pyIter_enum (H1.getPred ee) ?_
  have hz : vs.toArray.size = vs.length := List.size_toArray
  have Wk := WalksT.enumerate (prog := PG) (w := g.w) (A := x.A) hh e it l hei hle hli vs.toArray
  rw [hz] at Wk
  have hs2 : Was s₀ σ₀ s1 σ1 := ⟨hs1.same, fun b P q => hs1.keep b P (hs.keep b P q)⟩
  refine codeAny_forLoop_any (fun k s => ∃ i σ m old oi, k = vs.length - i ∧ i ≤ vs.length ∧ Was s₀ σ₀ s σ ∧ At g x σ m s.heap ∧ σ e = some (.raw (enumO it (i : Nat) old)) ∧ σ it = some (.raw oi) ∧ (oi.cls = .type "list_iterator" ∧ oi.data = .fields #[.ref l, .int i 0]) ∧ J i σ m) (fun k s ⟨i, σ, m, old, oi, hk, hi, hs, H, ee, ei, hSt, hJ⟩ => ?_) vs.length ⟨0, σ1, m1, _, oi, rfl, Nat.zero_le _, hs2, H1, ee, ei, ⟨hic, hid⟩, hJ⟩
  have hSt' : (∃ old, IsEnum s.heap e it i old) ∧ s.heap.IsListIter it l i ∧ s.heap.IsList l vs.toArray := ⟨⟨old, H.getPred ee⟩, ⟨oi, H.getPred ei, hSt.1, hSt.2⟩, H.list (sup i σ m hJ)⟩
  have kp : ∀ oe' oi', Keeps σ₀ ((σ.set e (.raw oe')).set it (.raw oi')) := fun oe' oi' b P q => by
    rw [Store.set_ne _ _ fun z => by subst z; exact nI P q, Store.set_ne _ _ fun z => by subst z; exact nE P q]
    exact hs.keep b P q
  have in2 : ∀ {b : Addr}, b ≠ e → b ≠ it → b ∉ [e, it] := fun h1 h2 hm => by simp at hm; exact hm.elim h1 h2
  by_cases hlt : i < vs.length
  · refine Wk.item i _ _ _ hlt hSt' fun T vals h' tk hP hge hT hMid hk' => ?_
    obtain ⟨t, v, hv, rfl⟩ := hP
    obtain ⟨⟨xo, heo⟩, ⟨oi1, hoi1, hic1, hid1⟩, _, hTe, hTi⟩ := id hMid
    obtain ⟨oe1, heo⟩ : ∃ o, h'.get? e = some o := ⟨_, heo⟩
    obtain ⟨oT, hoT, hcT, nT, hdT⟩ := hT
    obtain ⟨H', fT⟩ := H.turn2T (vals := [.int i t, v]) ee ei hei heo hoi1 (fun b ob h1 h2 q => hk' b ob (in2 h1 h2) q) hoT hge hcT ⟨nT, hdT⟩
    refine Wk.go _ _ _ i T { s with heap := h', toks := tk } _ _ hMid fun h'' hSt2 hk2 => ?_
    obtain ⟨⟨old2, he2⟩, ⟨oi2, hoi2, hic2, hid2⟩, _⟩ := hSt2
    have he2 : h''.get? e = some (enumO it ((i + 1 : Nat) : Int) old2) := he2
    have s0 : SubS σ (((σ.set e (.raw oe1)).set it (.raw oi1)).set T (tupP [.int i t, v])) := ((SubS.pred (.raw oe1) ee).trans (SubS.pred (.raw oi1) (show (σ.set e (.raw oe1)) it = _ by rw [Store.set_ne _ _ hei.symm]; exact ei))).trans (SubS.new _ fT)
    obtain ⟨σ3, hσ3⟩ : ∃ σ3, ((σ.set e (.raw oe1)).set it (.raw oi1)).set T (tupP [.int i t, v]) = σ3 := ⟨_, rfl⟩
    rw [hσ3] at H' s0
    have e3e : σ3 e = some (.raw oe1) := by rw [← hσ3, Store.set_ne _ _ (Ne.symm hTe), Store.set_ne _ _ hei]; exact Store.set_same _ _ _
    have e3i : σ3 it = some (.raw oi1) := by rw [← hσ3, Store.set_ne _ _ (Ne.symm hTi)]; exact Store.set_same _ _ _
    have e3T : σ3 T = some (tupP [.int i t, v]) := by rw [← hσ3]; exact Store.set_same _ _ _
    have H2 := H'.turn2 e3e e3i hei he2 hoi2 (fun b ob h1 h2 q => hk2 b ob (in2 h1 h2) q)
    have s1 : SubS σ ((σ3.set e (.raw (enumO it ((i + 1 : Nat) : Int) old2))).set it (.raw oi2)) := (s0.trans (SubS.pred _ e3e)).trans (SubS.pred _ (show (σ3.set e (.raw (enumO it ((i + 1 : Nat) : Int) old2))) it = _ by rw [Store.set_ne _ _ hei.symm]; exact e3i))
    obtain ⟨σ4, hσ4⟩ : ∃ σ4, (σ3.set e (.raw (enumO it ((i + 1 : Nat) : Int) old2))).set it (.raw oi2) = σ4 := ⟨_, rfl⟩
    rw [hσ4] at H2 s1
    have e4e : σ4 e = some (.raw (enumO it ((i + 1 : Nat) : Int) old2)) := by rw [← hσ4, Store.set_ne _ _ hei]; exact Store.set_same _ _ _
    have e4i : σ4 it = some (.raw oi2) := by rw [← hσ4]; exact Store.set_same _ _ _
    have e4T : σ4 T = some (tupP [.int i t, v]) := by rw [← hσ4, Store.set_ne _ _ hTi, Store.set_ne _ _ hTe]; exact e3T
    have k4 : Keeps σ₀ σ4 := fun b P q => by
      have q1 := hs.keep b P q
      have be : b ≠ e := fun z => by subst z; exact nE P q
      have bi : b ≠ it := fun z => by subst z; exact nI P q
      have fT' : σ T = none := by rw [Store.set_ne _ _ hTi, Store.set_ne _ _ hTe] at fT; exact fT
      have bT : b ≠ T := fun z => by
        subst z; rw [q1] at fT'; cases fT'
      rw [← hσ4, Store.set_ne _ _ bi, Store.set_ne _ _ be, ← hσ3, Store.set_ne _ _ bT, Store.set_ne _ _ bi, Store.set_ne _ _ be]
      exact q1
    have hv' : vs[i]? = some v := by simpa using hv
    have ha := w_unpack2P (g := g) (Q := fun _ σ' m' => W g x (execs body x.env) σ' m' (Turn (J (i + 1)) Q) NoE) (E := NoE) (p1 := p1) (p2 := p2) (k := k) (pos := tp) hh e4T l1 l2 (turn i v t σ4 m hlt hv' (mono i m _ _ s1 hJ))
    have hs4 : Same s₀ { s with heap := h'', toks := tk } := hs.same.mk h'' tk
    refine wpAny_mono (ha ok s₀ σ4 _ ⟨hs4, Keeps.refl _⟩ H2) (fun _ s2 ⟨σ5, m5, hs5, H5, h5⟩ => ?_) fun e s' he => he.2.elim
    refine wpAny_mono (h5 ok s₀ σ4 s2 hs5 H5) (fun f s3 ⟨σ6, m6, hs6, H6, h6⟩ => ?_) fun e s' he => he.2.elim
    have e6e := hs6.keep e _ e4e
    have e6i := hs6.keep it _ e4i
    have hs7 : Was s₀ σ₀ s3 σ6 := ⟨hs6.same, fun b P q => hs6.keep b P (k4 b P q)⟩
    cases f with
    | next => exact ⟨vs.length - (i + 1), by omega, i + 1, σ6, m6, old2, oi2, rfl, hlt, hs7, H6, e6e, e6i, ⟨hic2, hid2⟩, h6⟩
    | cont => exact ⟨vs.length - (i + 1), by omega, i + 1, σ6, m6, old2, oi2, rfl, hlt, hs7, H6, e6e, e6i, ⟨hic2, hid2⟩, h6⟩
    | brk => exact ⟨σ6, m6, hs7, H6, h6⟩
    | ret v => exact ⟨σ6, m6, hs7, H6, h6⟩
  · obtain rfl : i = vs.length := by omega
    refine Wk.done _ _ _ hSt' fun h' tk hk' => ?_
    have H' := H.erase2 ee ei hei (fun b ob h1 h2 q => hk' b ob (in2 h1 h2) q)
    have ei' : (σ.drop e) it = some (.raw oi) := by rw [Store.drop_ne _ hei.symm]; exact ei
    have hJ' := mono vs.length m σ _ ((SubS.drop ee).trans (SubS.drop ei')) hJ
    have hs' : Was s₀ σ₀ { s with heap := h', toks := tk } ((σ.drop e).drop it) := ⟨hs.same.mk h' tk, fun b P q => by
      rw [Store.drop_ne _ fun z => by subst z; exact nI P q, Store.drop_ne _ fun z => by subst z; exact nE P q]
      exact hs.keep b P q⟩
    exact wpAny_mono (done _ m hJ' ok s₀ σ₀ _ hs' H') (fun f s3 h3 => h3) fun e s' he => he.2.elim
end
end
section
open PySem PySem.W PyProof.Rows PySem.Calls PyProof.Rows.LCg PyProof.V
/-! ## The one lambda -/
/-- the table of code objects: empty, or with the lambda's own -/
def TabOk (σ : Store) (ln col : Int) (qual : Str) : Prop := σ 554 = some (.obj (tabObj #[])) ∨
  ∃ (c' : Addr) (oc : Obj) (vs : Array Value) (t : Tok), σ 554 = some (.obj (tabObj #[rawInt ln, rawInt col, .ref c'])) ∧ σ c' = some (.obj oc) ∧ oc.data = .fields vs ∧ vs[1]? = some (.str qual t)
section
variable {α β : Type} {g : Gl} {x : Fx} {σ : Store} {m : Loc} {E : Value → Heap → Prop} {env : Env} {hp : Option Value → Prop}
def lamC (nm : Value) (name qual : Str) (params : Arguments) (body : Expr) (scope : Scope) (cl : List (Str × Addr)) (c' : Addr) (ctv : Value) : Cell := .obj (kla_obj name qual params body scope cl nm c' ctv)
theorem RepX.turnO {w : World} {news : List (Addr × Obj)} {dx : Addr → Addr} (R : RepX w σ news dx) {a : Addr} {o o' : Obj} (e : σ a = some (.obj o)) : RepX w (σ.set a (.obj o')) (updN a o' news) dx := by
  have hm : (a, o) ∈ news := R.cells a _ e
  refine ⟨by rw [updN_keys]; exact R.nd, fun b cb hb => ?_, fun b b' C fs C' fs' h1 h2 q => ?_, fun b C fs h1 => ?_⟩
  · by_cases hba : b = a
    · subst hba
      rw [Store.set_same] at hb; cases hb
      exact mem_updN_self hm
    · rw [Store.set_ne _ _ hba] at hb
      refine (R.cells b cb hb).keep (fun o h => mem_updN_ne h hba) fun C fs q => ⟨rfl, fun o h => mem_updN_ne h fun q2 => ?_⟩
      subst q
      have := R.off b C fs hb
      rw [show dx b = a from q2, e] at this; cases this
  · have n1 : b ≠ a := fun q => by subst q; rw [Store.set_same] at h1; cases h1
    have n2 : b' ≠ a := fun q => by subst q; rw [Store.set_same] at h2; cases h2
    rw [Store.set_ne _ _ n1] at h1; rw [Store.set_ne _ _ n2] at h2
    exact R.inj _ _ _ _ _ _ h1 h2 q
  · have n1 : b ≠ a := fun q => by subst q; rw [Store.set_same] at h1; cases h1
    rw [Store.set_ne _ _ n1] at h1
    have n2 : dx b ≠ a := fun q => by have := R.off b C fs h1; rw [q, e] at this; cases this
    rw [Store.set_ne _ _ n2]
    exact R.off b C fs h1
theorem RepX.addO {w : World} {news : List (Addr × Obj)} {dx : Addr → Addr} (R : RepX w σ news dx) {l : Addr} {o : Obj} (hl : ∀ p ∈ news, p.1 ≠ l) : RepX w (σ.set l (.obj o)) ((l, o) :: news) dx ∧ σ l = none := by
  obtain ⟨R', hf⟩ := R.add (o := o) hl
  refine ⟨⟨R'.nd, fun b cb hb => ?_, fun b b' C fs C' fs' h1 h2 q => ?_, fun b C fs h1 => ?_⟩, hf⟩
  · by_cases hbl : b = l
    · subst hbl
      rw [Store.set_same] at hb; cases hb
      exact .head _
    · rw [Store.set_ne _ _ hbl] at hb
      exact R'.cells b cb (by rw [Store.set_ne _ _ hbl]; exact hb)
  · have n1 : b ≠ l := fun q => by subst q; rw [Store.set_same] at h1; cases h1
    have n2 : b' ≠ l := fun q => by subst q; rw [Store.set_same] at h2; cases h2
    rw [Store.set_ne _ _ n1] at h1; rw [Store.set_ne _ _ n2] at h2
    exact R.inj _ _ _ _ _ _ h1 h2 q
  · have n1 : b ≠ l := fun q => by subst q; rw [Store.set_same] at h1; cases h1
    rw [Store.set_ne _ _ n1] at h1
    obtain ⟨_, es, n, hm, _⟩ := R.cells b _ h1
    rw [Store.set_ne _ _ (hl _ hm)]
    exact R.off b C fs h1
theorem w_lambda {params : Arguments} {body : Expr} {scope : Scope} {pos : Pos} {clos : List (Str × Addr)} {Q : Value → Store → Loc → Prop} (C : CodeHd x.base 556 554) (hcd : x.ccd = .ref 556) (ht : TabOk σ pos.line pos.col (x.env.qual ++ "<lambda>"))
    (hdef : defaultsOf params x.env = ([], [])) (hcl : closureFor scope x.env = pure clos)
    (h : ∀ (σ' : Store) (f c' : Addr) (nm ctv : Value) (oc : Obj) (vs : Array Value) (t : Tok), (∀ b c, b ≠ 554 → σ b = some c → σ' b = some c) → TabOk σ' pos.line pos.col (x.env.qual ++ "<lambda>") → σ f = none → f ≠ 554 → σ' c' = some (.obj oc) → oc.data = .fields vs → vs[1]? = some (.str (x.env.qual ++ "<lambda>") t) →
      σ' f = some (lamC nm "<lambda>" (x.env.qual ++ "<lambda>") params body scope clos c' ctv) → Q (.ref f) σ' m) : W g x (eval (.Lambda params body scope pos) x.env) σ m Q E := by
  intro ok s₀ σ₀ s hs H
  obtain ⟨F, news, dx, RN⟩ := id H
  have C' := C.keeps ok.B.stays
  refine kla_eval hdef ?_
  rcases ht with e | ⟨c', oc, vs, t, e, ec, hd, hv⟩
  · have hm : ((554 : Addr), tabObj #[]) ∈ news := RN.cells 554 _ e
    refine kla_nest (cn := x.cn) (cs := x.cs) (L := x.L) (a := x.a) (ccd := x.ccd) (cl := x.cl) F RN.N ok.T C' hcd (updF_of RN.nd hm) True.intro rfl hcl fun f c' oc vs t ctv h' tk F' N' hd hv l1 l2 => ?_
    have R1 := RN.toX.turnO (o' := tabObj (#[] ++ #[rawInt pos.line, rawInt pos.col, .ref c'])) e
    have hk : ∀ p ∈ updN 554 (tabObj (#[] ++ #[rawInt pos.line, rawInt pos.col, .ref c'])) news, p.1 < c' := fun p hp => by
      have := mem_fst hp
      rw [updN_keys] at this
      obtain ⟨q, hq, e⟩ := List.mem_map.mp this
      rw [← e]; exact l1 q hq
    obtain ⟨R2, f2⟩ := R1.addO (l := c') (o := oc) fun p hp => Nat.ne_of_lt (hk p hp)
    have hk2 : ∀ p ∈ (c', oc) :: updN 554 (tabObj (#[] ++ #[rawInt pos.line, rawInt pos.col, .ref c'])) news, p.1 < f := fun p hp => by
      rcases List.mem_cons.mp hp with rfl | hp
      · exact l2
      · exact Nat.lt_trans (hk p hp) l2
    obtain ⟨R3, f3⟩ := R2.addO (l := f) (o := kla_obj "<lambda>" (x.env.qual ++ "<lambda>") params body scope clos _ c' ctv) fun p hp => Nat.ne_of_lt (hk2 p hp)
    have n1 : c' ≠ 554 := fun q => absurd (l1 _ hm) (by rw [q]; exact Nat.lt_irrefl _)
    have n2 : f ≠ c' := Nat.ne_of_gt l2
    have n3 : f ≠ 554 := fun q => absurd (hk2 _ (.tail _ (mem_updN_self hm))) (by rw [q]; exact Nat.lt_irrefl _)
    have f2' : σ c' = none := by rw [Store.set_ne _ _ n1] at f2; exact f2
    have f3' : σ f = none := by rw [Store.set_ne _ _ n2, Store.set_ne _ _ n3] at f3; exact f3
    refine ⟨_, _, ((((hs.mk' h' tk).set (.obj (tabObj (#[] ++ #[rawInt pos.line, rawInt pos.col, .ref c']))) e (fun _ q => by cases q)).new _ f2).new _ f3), ⟨F', _, dx, RepN.ofX R3 N'⟩, ?_⟩
    refine h _ f c' _ ctv oc vs t (fun b c nb q => ?_) (.inr ⟨c', oc, vs, t, ?_, ?_, hd, hv⟩) f3' n3 ?_ hd hv (Store.set_same _ _ _)
    · have b1 : b ≠ f := fun z => by subst z; rw [f3'] at q; cases q
      have b2 : b ≠ c' := fun z => by subst z; rw [f2'] at q; cases q
      rw [Store.set_ne _ _ b1, Store.set_ne _ _ b2, Store.set_ne _ _ nb]; exact q
    · rw [Store.set_ne _ _ n3.symm, Store.set_ne _ _ n1.symm, Store.set_same]; rfl
    · rw [Store.set_ne _ _ n2.symm]; exact Store.set_same _ _ _
    · rw [Store.set_ne _ _ n2.symm]; exact Store.set_same _ _ _
  · have hm : ((554 : Addr), tabObj #[rawInt pos.line, rawInt pos.col, .ref c']) ∈ news := RN.cells 554 _ e
    refine kla_hit (c' := c') (cn := x.cn) (cs := x.cs) (L := x.L) (a := x.a) (ccd := x.ccd) (cl := x.cl) F RN.N ok.T C' hcd hm (by simp [TriplesOk, rawInt]) (by simp [codeAmong, rawInt]) hcl fun f ctv h' tk F' N' l1 => ?_
    have fr := RN.fresh l1
    have R3 := fun o => (RN.toX.addO (l := f) (o := o) fun p hp => Nat.ne_of_lt (l1 p hp)).1
    have n3 : f ≠ 554 := fun q => absurd (l1 _ hm) (by rw [q]; exact Nat.lt_irrefl _)
    have n2 : f ≠ c' := fun q => by rw [q, ec] at fr; cases fr
    refine ⟨_, _, (hs.mk' h' tk).new _ fr, ⟨F', _, dx, RepN.ofX (R3 _) N'⟩, ?_⟩
    refine h _ f c' _ ctv oc vs t (fun b c nb q => ?_) (.inr ⟨c', oc, vs, t, ?_, ?_, hd, hv⟩) fr n3 ?_ hd hv (Store.set_same _ _ _)
    · rw [Store.set_ne _ _ fun z => by subst z; rw [fr] at q; cases q]; exact q
    · rw [Store.set_ne _ _ n3.symm]; exact e
    · rw [Store.set_ne _ _ n2.symm]; exact ec
    · rw [Store.set_ne _ _ n2.symm]; exact ec
/-- a call of it -/
theorem calls_lam {n : Nat} {f c' : Addr} {nm ctv : Value} {name qual : Str} {params : Arguments} {body : Expr} {scope : Scope} {clos : List (Str × Addr)} {args : List Value} {oc : Obj} {vs : Array Value} {t : Tok} {Q : Value → Store → Prop} (binds : List (Str × Value))
    (ef : σ f = some (lamC nm name qual params body scope clos c' ctv)) (ec : σ c' = some (.obj oc)) (hd : oc.data = .fields vs) (hv : vs[1]? = some (.str qual t))
    (hbind : bindArgs (kla_fn name qual params body scope clos nm (.ref c') ctv) ⟨args, []⟩ = pure binds) (hloc : ∀ y ∈ binds, scope.names.lookup y.1 = some .local) (hcell : ∀ x ∈ scope.names, x.2 ≠ .cell)
    (hco : scope.isCoroutine = false) (hgen : scope.isGenerator = false) (hk : scope.kind = .function)
    (h : ∀ y : Fx, hp y.hd → Room y n → y.cs = scope → y.cl = clos → W g y (eval body y.env) σ (fun z => binds.reverse.lookup z) (fun v σ' _ => Q v σ') NoE) :
    Calls g hp (n + 1) (.ref f) args [] σ Q := by
  intro x m E hh hr ok s₀ σ₀ s hs H
  obtain ⟨F, news, dx, R⟩ := H
  have hm1 : (f, kla_obj name qual params body scope clos nm c' ctv) ∈ news := R.cells f _ ef
  have hm2 : (c', oc) ∈ news := R.cells c' _ ec
  refine kla_code (A := x.A) (c' := c') ok.B F ok.X R.N ok.T rfl (env := x.env) rfl ok.k hm1 (codeRec_news R.N hm2 hd hv) ok.rd hbind hloc (fun G L' h₁ FG F' N' B' X' T' => ?_) hco hgen hk hcell
  have ok' : Fx.Ok g ⟨x.hd, x.dp + 1, x.un + 3, x.gd, x.env :: x.outer, x.A, x.base, G, L', qual, scope, f, .ref c', clos⟩ := by
    refine ⟨B', X', T', hk, ?_, ?_⟩
    · have := hr.1; show x.dp + 1 < recursionLimit; omega
    · have := hr.2; show x.un + 3 < cLine; omega
  have hb := h ⟨x.hd, x.dp + 1, x.un + 3, x.gd, x.env :: x.outer, x.A, x.base, G, L', qual, scope, f, .ref c', clos⟩ hh ⟨by have := hr.1; show x.dp + 1 + 2 * n < _; omega, by have := hr.2; show x.un + 3 + 12 * n < _; omega⟩ rfl rfl
  refine wpAny_mono (hb ok' s₀ σ₀ _ (hs.mk' h₁ _) ⟨F', news, dx, ⟨N', R.nd, R.cells, R.inj, R.off⟩⟩) (fun v s' hp => ?_) fun e s' he => he.2.elim
  obtain ⟨σ', m', hs', ⟨F2, news2, dx2, R2⟩, hq⟩ := hp
  exact leaveK_ F2 R2.N fun F3 N3 => ⟨σ', hs', ⟨F3, news2, dx2, ⟨N3, R2.nd, R2.cells, R2.inj, R2.off⟩⟩, hq⟩
theorem At.getObj {h : Heap} {I : Addr} {o : Obj} (H : At g x σ m h) (e : σ I = some (.obj o)) : h.get? I = some o := by
  obtain ⟨F, news, dx, R⟩ := H
  exact (R.N _ (show (I, o) ∈ news from R.cells I _ e)).1
theorem w_callWithF {f : Addr} {pos : Pos} {args : List (Bool × Sem Value)} {kws : List (Option Str × Sem Value)} {Q : Value → Store → Loc → Prop}
    (h : W g x (evalArgs (.ref f) true args kws) σ m (fun a σ m => (∃ c' nm ctv name qual params body scope clos, σ f = some (lamC nm name qual params body scope clos c' ctv)) ∧ W g x (call (.ref f) a.pos a.kw) σ m Q E) E) (hplain : (args.any (·.1) || kws.any (·.1.isNone)) = false) : W g x (callWith pos (.ref f) [] args kws) σ m Q E := by
  intro ok s₀ σ₀ s hs H
  refine callWith_of (P := FnAt f) hplain keeps_F (h.use ok hs H fun a s1 σ1 m1 hs1 H1 h1 => ?_)
  obtain ⟨⟨c', nm, ctv, name, qual, params, body, scope, clos, ef⟩, h2⟩ := h1
  exact ⟨⟨_, _, _, _, H1.getObj ef⟩, h2 ok s₀ σ₀ s1 hs1 H1⟩
end
end
section
open PySem PySem.W PyProof.Rows PySem.Calls PyProof.Rows.LCg PyProof.Rows.LCt PyProof.V
section
variable {α β : Type} {g : Gl} {x : Fx} {σ : Store} {m : Loc} {E : Value → Heap → Prop} {env : Env}
/-! ### a comprehension whose test never holds -/
theorem comp_restN {ct elt : Expr} {xn : Str} {scope : Scope} {cl : List (Str × Addr)} {s₂ : Shared} {S : List (Addr × Obj) → Prop} {P : Nat → Value → Prop} {Fin : List Value → List (Addr × Obj) → Prop} {n : Nat} {σ₀ : Store} (ok : x.Ok g) (J : Nat → Store → Prop) (mono : ∀ i, Mono (J i)) (hS : ∀ i σ news dx, J i σ → RepX g.w σ news dx → S news)
    (turn : ∀ i v σ C oC mC, i < n → P i v → J i σ → σ C = some (.raw oC) → NsObj oC mC → mC xn = some v → W g x (isTrue ct (compEnvC scope cl C x.env) (eval ct (compEnvC scope cl C x.env))) σ m (fun y σ' m' => m' = m ∧ y = false ∧ J (i + 1) σ') NoE)
    (fin : ∀ σ news dx, Keeps σ₀ σ → J n σ → RepX g.w σ news dx → Fin [] news) :
    ∀ k i σ news dx, i + k = n → RepX g.w σ news dx → Keeps σ₀ σ → J i σ → CompRestT PG g.w x.A x.h₀ x.L m x.env ct elt xn scope cl s₂ S P Fin k i [] news := by
  intro k
  induction k with
  | zero =>
    intro i σ news dx hi RX kp hJ
    obtain rfl : i = n := by omega
    exact CompRestT.zero (fin σ news dx kp hJ RX)
  | succ k ih =>
    intro i σ news dx hi RX kp hJ
    refine CompRestT.succ fun v I oI C oC D m₂ h tk E' hP hC hx F N off ne => ?_
    obtain ⟨ic, id, cd⟩ := ne
    have o3 := off.mem
    obtain ⟨R1, fD⟩ := RX.add (l := D) (o := lst []) fun p hp => (o3 p hp).2.2
    have hnC : ∀ p ∈ (D, lst []) :: news, p.1 ≠ C := fun p hp => by
      rcases List.mem_cons.mp hp with rfl | hp
      · exact fun q => cd q.symm
      · exact (o3 p hp).2.1
    obtain ⟨R2, fC⟩ := R1.add (l := C) (o := oC) hnC
    have hnI : ∀ p ∈ (C, oC) :: (D, lst []) :: news, p.1 ≠ I := fun p hp => by
      rcases List.mem_cons.mp hp with rfl | hp
      · exact fun q => ic q.symm
      · rcases List.mem_cons.mp hp with rfl | hp
        · exact fun q => id q.symm
        · exact (o3 p hp).1
    obtain ⟨R3, fI⟩ := R2.add (l := I) (o := oI) hnI
    have fC' : σ C = none := by rw [Store.set_ne _ _ cd] at fC; exact fC
    have fI' : σ I = none := by rw [Store.set_ne _ _ ic, Store.set_ne _ _ id] at fI; exact fI
    generalize hσ1 : (((σ.set D (.raw (lst []))).set C (.raw oC)).set I (.raw oI)) = σ1 at R3
    have eI : σ1 I = some (.raw oI) := by rw [← hσ1]; exact Store.set_same _ _ _
    have eC : σ1 C = some (.raw oC) := by rw [← hσ1, Store.set_ne _ _ (Ne.symm ic)]; exact Store.set_same _ _ _
    have eD : σ1 D = some (.raw (lst [])) := by rw [← hσ1, Store.set_ne _ _ (Ne.symm id), Store.set_ne _ _ (Ne.symm cd)]; exact Store.set_same _ _ _
    have fC2 : (σ.set D (.raw (lst []))) C = none := by rw [Store.set_ne _ _ cd]; exact fC'
    have fI2 : ((σ.set D (.raw (lst []))).set C (.raw oC)) I = none := by rw [Store.set_ne _ _ ic, Store.set_ne _ _ id]; exact fI'
    have s1 : SubS σ σ1 := by rw [← hσ1]; exact ((SubS.new _ fD).trans (SubS.new _ fC2)).trans (SubS.new _ fI2)
    have k1 : Keeps σ σ1 := by rw [← hσ1]; exact (((Keeps.refl σ).new _ fD).new _ fC2).new _ fI2
    have hJ1 := mono i σ σ1 s1 hJ
    have hw := turn i v σ1 C oC m₂ (by omega) hP hJ1 eC hC hx
    refine wpAny_mono (hw ok { s₂ with heap := h, toks := tk } σ1 { s₂ with heap := h, toks := tk } ⟨Same.refl _, Keeps.refl _⟩ ⟨F, _, dx, RepN.ofX R3 N⟩) (fun y s' hq => ?_) fun e s' he => he.2.elim
    obtain ⟨σ2, m2, hs2, ⟨F2, news2, dx2, RN2⟩, rfl, rfl, hJ2⟩ := hq
    obtain ⟨h2, tk2, rfl⟩ := hs2.same
    have eI2 := hs2.keep _ _ eI
    have eC2 := hs2.keep _ _ eC
    have eD2 := hs2.keep _ _ eD
    have d3 := drop3 (x := x) RN2.toX eI2 eC2 eD2 ic id cd kp fI' fC' fD k1 hs2.keep
    have hJ3 := mono _ _ _ d3.sups hJ2
    obtain ⟨oi, hmI, rfl⟩ := RN2.cells _ _ eI2
    obtain ⟨oc, hmC, rfl⟩ := RN2.cells _ _ eC2
    obtain ⟨od, hmD, rfl⟩ := RN2.cells _ _ eD2
    simp only [Bool.false_eq_true, if_false]
    refine CompEnd.intro F2 RN2.N _ (fun p hp => ?_) d3.off (hS _ _ _ _ hJ3 d3.rep) (ih (i + 1) _ _ dx2 (by omega) d3.rep d3.keep hJ3)
    rcases List.mem_cons.mp hp with rfl | hp
    · exact hmI
    · rcases List.mem_cons.mp hp with rfl | hp
      · exact hmC
      · rcases List.mem_cons.mp hp with rfl | hp
        · exact hmD
        · exact d3.sub p hp
theorem w_ListCompN {ct elt iter : Expr} {xn : Str} {px : Pos} {scope : Scope} {cl : List (Str × Addr)} {pos : Pos} {Q : Value → Store → Loc → Prop} (hh : x.hd = none)
    (hclos : closureFor scope x.env = pure cl) (hcell : ∀ y ∈ scope.names, y.2 ≠ .cell) (hkind : scope.kind = .function)
    (hnames : ∀ y ∈ scope.names, y.2 = .local → scope.names.lookup y.1 = some .local) (hx : scope.names.lookup xn = some .local)
    (h : W g x (eval iter x.env) σ m (fun v σ m' => m' = m ∧ ∃ l vs, v = .ref l ∧ σ l = some (.list vs) ∧ vs.length ≤ sizeLine ∧ ∃ J : Nat → Store → Prop, J 0 σ ∧ (∀ i, Mono (J i)) ∧ (∀ i σ, J i σ → σ l = some (.list vs)) ∧
      (∀ i v σ C oC mC, i < vs.length → vs[i]? = some v → J i σ → σ C = some (.raw oC) → NsObj oC mC → mC xn = some v → W g x (isTrue ct (compEnvC scope cl C x.env) (eval ct (compEnvC scope cl C x.env))) σ m (fun y σ' m' => m' = m ∧ y = false ∧ J (i + 1) σ') NoE) ∧
      (∀ σ, J vs.length σ → ∀ d, σ d = none → Q (.ref d) (σ.set d (.list [])) m)) E)
    (hs' : ∀ v, foldedSetIterable iter x.env v = pure v) : W g x (eval (.ListComp elt [⟨.Name xn px, iter, [ct], 0⟩] scope pos) x.env) σ m Q E := by
  intro ok s₀ σ₀ s hs H
  refine ListComp_T H.1 hclos hcell hkind hnames hx (h.use ok hs H fun v s1 σ1 m1 hs1 H1 h1 => ?_) hs'
  obtain ⟨rfl, l, vs, rfl, e, hz, J, hJ, mono, sup, turn, done⟩ := h1
  obtain ⟨F, news, dx, RN⟩ := id H1
  obtain ⟨k, hm⟩ := RN.cells l _ e
  have hsz : vs.toArray.size = vs.length := List.size_toArray
  refine CompSrcT.ledger (k := k) hh F RN.N hm (by rw [hsz]; exact hz) fun G => ?_
  rw [hsz]
  refine comp_restN (P := fun i v => vs.toArray[i]? = some v) (σ₀ := σ₀) ok J mono (fun i σ2 news2 dx2 hJ2 RX => ?_) (fun i v σ2 C oC mC hi hv => turn i v σ2 C oC mC hi (by simpa using hv)) (fun σ2 news2 dx2 kp hJ2 RX => fin_of (x := x) (hs1.same.heap G) kp RX (done σ2 hJ2)) vs.length 0 σ1 news dx (by omega) RN.toX hs1.keep hJ
  obtain ⟨k2, hm2⟩ := RX.cells l _ (sup i σ2 hJ2)
  exact .inr ⟨_, hm2, rfl, k2, rfl⟩
/-! ### a comprehension over a dict -/
def DictL (g : Gl) (σ : Store) (d : Addr) (D : List (Int × Int)) : Prop := σ d = some (.dict D) ∨ ∃ o kvs, σ d = some (.obj o) ∧ o.IsDictOf (intKind PG g.w) kvs ∧ FlatPairs PyData.int kvs (kdfD D) ∧ (d == sysModules) = false
theorem At.dictL {h : Heap} {d : Addr} {D : List (Int × Int)} (H : At g x σ m h) (ed : DictL g σ d D) : IntTab PG g.w h d (kdfD D) := by
  rcases ed with ed | ⟨o, kvs, e, hd, hf, lo⟩
  · exact H.dict ed
  · exact ⟨lo, kvs, Heap.dictOf_iff.mpr ⟨o, H.getObj e, hd⟩, hf⟩
theorem e_dictItem {d : Addr} {D : List (Int × Int)} {k : Int} {tk : Tok} {value slice : Expr} {Q : Value → Store → Loc → Prop} (ed : DictL g σ d D) (hk : kdfHas D k = true) (h : ∀ t, Q (.int (kdfLook D k 0) t) σ m)
    (hs' : subscripted slice false (.ref d) (.int k tk) = operate [.ref d, .int k tk] (getItem (.ref d) (.int k tk))) (hg : ∀ r, letTemporaryGo value (.ref d) r = pure ()) : W g x (subscriptTail value slice (.ref d) (.int k tk)) σ m Q E :=
  fun ok s₀ σ₀ s hs H => kdf_item (H.dictL ed) hk (fun t => ⟨σ, m, hs.toks _, H, h t⟩) hs' hg
theorem RepX.tag {w : World} {news : List (Addr × Obj)} {dx : Addr → Addr} (R : RepX w σ news dx) {a : Addr} {c c' : Cell} (e : σ a = some c) (h1 : ∀ C fs, c ≠ .inst C fs) (h2 : ∀ C fs, c' ≠ .inst C fs) (hc : CellOk w news dx a c') : RepX w (σ.set a c') news dx := by
  refine ⟨R.nd, fun b cb hb => ?_, fun b b' C fs C' fs' q1 q2 q => ?_, fun b C fs q1 => ?_⟩
  · by_cases hba : b = a
    · subst hba
      rw [Store.set_same] at hb; cases hb
      exact hc
    · rw [Store.set_ne _ _ hba] at hb
      exact R.cells b cb hb
  · have n1 : b ≠ a := fun q => by subst q; rw [Store.set_same] at q1; exact h2 _ _ (Option.some.inj q1)
    have n2 : b' ≠ a := fun q => by subst q; rw [Store.set_same] at q2; exact h2 _ _ (Option.some.inj q2)
    rw [Store.set_ne _ _ n1] at q1; rw [Store.set_ne _ _ n2] at q2
    exact R.inj _ _ _ _ _ _ q1 q2 q
  · have n1 : b ≠ a := fun q => by subst q; rw [Store.set_same] at q1; exact h2 _ _ (Option.some.inj q1)
    rw [Store.set_ne _ _ n1] at q1
    have n2 : dx b ≠ a := fun q => by have := R.off b C fs q1; rw [q, e] at this; cases this
    rw [Store.set_ne _ _ n2]
    exact R.off b C fs q1
theorem w_ListCompD {elt iter : Expr} {xn : Str} {px : Pos} {scope : Scope} {cl : List (Str × Addr)} {pos : Pos} {Q : Value → Store → Loc → Prop} (hh : x.hd = none)
    (hclos : closureFor scope x.env = pure cl) (hcell : ∀ y ∈ scope.names, y.2 ≠ .cell) (hkind : scope.kind = .function)
    (hnames : ∀ y ∈ scope.names, y.2 = .local → scope.names.lookup y.1 = some .local) (hx : scope.names.lookup xn = some .local)
    (h : W g x (eval iter x.env) σ m (fun v σ m' => m' = m ∧ ∃ d D, v = .ref d ∧ σ d = some (.dict D) ∧ D.length ≤ 1000 ∧ ∃ J : Nat → List Value → Store → Prop, (∀ σ' : Store, (∀ b, b ≠ d → σ' b = σ b) → J 0 [] σ') ∧ (∀ i ys, Mono (J i ys)) ∧
      (∀ (i : Nat) (p : Int × Int) t ys σ C oC mC, D[i]? = some p → J i ys σ → DictL g σ d D → σ C = some (.raw oC) → NsObj oC mC → mC xn = some (.int p.1 t) → W g x (eval elt (compEnvC scope cl C x.env)) σ m (fun y σ' m' => m' = m ∧ J (i + 1) (ys ++ [y]) σ' ∧ σ' d = σ d) NoE) ∧
      (∀ (ys : List Value) (σ σ' : Store), J D.length ys σ → σ' d = some (.dict D) → (∀ b, b ≠ d → σ' b = σ b) → ∀ l, σ' l = none → Q (.ref l) (σ'.set l (.list ys)) m)) E)
    (hs' : ∀ v, foldedSetIterable iter x.env v = pure v) : W g x (eval (.ListComp elt [⟨.Name xn px, iter, [], 0⟩] scope pos) x.env) σ m Q E := by
  intro ok s₀ σ₀ s hs H
  rw [eval_ListComp]
  refine wpAny_comprehension_free (use := none) rfl hs' hclos hkind hnames (h.use ok hs H fun v s1 σ1 m1 hs1 H1 h1 => ?_)
  obtain ⟨rfl, d, D, rfl, e, hz, J, hJ, mono, turn, done⟩ := h1
  obtain ⟨F, news, dx, RN⟩ := id H1
  obtain ⟨o, kvs, hm, hd, hf, lo⟩ := RN.cells d _ e
  have hDat : s1.heap.DictOf (intKind PG g.w) d kvs := Heap.dictOf_iff.mpr ⟨o, (RN.N _ hm).1, hd⟩
  obtain ⟨ep, hat⟩ := hDat.dictAt
  have hK : KdkAt (intKind PG g.w) o kvs ep := by
    obtain ⟨o2, es, ho2, r2⟩ := hat
    rw [(RN.N _ hm).1] at ho2; cases ho2
    exact ⟨es, r2⟩
  have hlen : kvs.length = D.length := by rw [← hf.length]; exact kdfD_length D
  have hlt : d < s1.heap.objs.size := hat.lt_size
  refine wpAny_pyIter_dict lo hat ?_
  generalize hio : ({ cls := .type "dict_keyiterator", data := .fields #[.ref d, .int 0 0, .int kvs.length 0, .int ep 0] } : Obj) = io
  have up : ∀ b o, s1.heap.get? b = some o → (s1.heap.push io).get? b = some o := fun b o e => Heap.get?_push_of_some _ e
  have hd1 : ∀ p ∈ news, p.1 < s1.heap.objs.size := fun p hp => Heap.lt_size (RN.N p hp).1
  -- the dict's object, as it stands
  have R0 := RN.toX.tag (c' := .obj o) e (fun _ _ q => by cases q) (fun _ _ q => by cases q) hm
  have k0 : Keeps σ₀ (σ1.set d (.obj o)) := hs1.keep.set _ e (fun _ q => by cases q)
  have hsz : kvs.length ≤ sizeLine := by rw [hlen, sizeLine_eq]; omega
  refine block_U (n := kvs.length) (S := fun nw => (d, o) ∈ nw) (news := news) (Walks.dictKeys (knd := intKind PG g.w) hh s1.heap.objs.size d (Nat.ne_of_lt hlt) kvs ep) hsz (fun i h st => ⟨_, st.1.choose_spec.1⟩) (fun i h h' ob nw st q1 q2 k N hS => ?_) hcell hkind hx ⟨⟨io, Heap.get?_push_size _ (by subst hio; rfl), by subst hio; rfl, by subst hio; rfl⟩, hat.push _⟩ (fun b hb => ?_)
    (F.keeps up) (RN.N.grown up) (Nat.ne_of_lt F.ns.lt) (next_is_new F) (fun p hp => Nat.ne_of_lt (hd1 p hp)) hm ?_ (Fin := FinE x.h₀ x.L m1 { s1 with heap := s1.heap.push io } (Post g x s₀ σ₀ Q)) ?_
  · obtain ⟨o', q, r⟩ := st.1
    rw [q1] at q; cases q
    exact ⟨⟨ob, q2, r⟩, hK.dictAt (N _ hS).1⟩
  · show b < (s1.heap.push _).objs.size
    rw [Heap.size_push]
    rcases List.mem_cons.mp hb with rfl | hb
    · exact Nat.lt_succ_self _
    · rw [List.mem_singleton.mp hb]; exact Nat.lt_succ_of_lt hlt
  · refine comp_rest (x := x) (P := fun i v => ∃ k x, kvs[i]? = some (k, x) ∧ (intKind PG g.w).is k v = true) (σ₀ := σ₀) ok (fun i ys σ => J i ys σ ∧ σ d = some (.obj o)) (fun i ys σ σ' hs hJ => ⟨mono i ys σ σ' hs hJ.1, hs _ _ (fun P q => by cases q) hJ.2⟩) (fun i ys σ2 news2 dx2 hJ2 RX => RX.cells d _ hJ2.2) (fun i v ys σ2 C oC mC hi hv hJ2 eC hC hx2 => ?_) (fun ys σ2 news2 dx2 kp hJ2 RX => ?_) kvs.length 0 [] (σ1.set d (.obj o)) news dx (Nat.zero_add _) R0 k0 ⟨hJ _ fun b hb => Store.set_ne _ _ hb, Store.set_same _ _ _⟩
    · obtain ⟨k, xv, hkx, his⟩ := hv
      obtain ⟨dv, hdv, _⟩ := hf.at hkx
      obtain ⟨t, rfl⟩ := Flat.int_inv (kdl_flat_int his)
      obtain ⟨p, hp, hpk⟩ : ∃ p, D[i]? = some p ∧ p.1 = k := by
        unfold intPairs at hdv
        rw [List.getElem?_map] at hdv
        cases q : D[i]? with
        | none => rw [q] at hdv; cases hdv
        | some p => rw [q] at hdv; exact ⟨p, rfl, by have := congrArg Prod.fst (Option.some.inj hdv); exact PyData.int.inj this⟩
      subst hpk
      exact W.mono (turn i p t ys σ2 C oC mC hp hJ2.1 (.inr ⟨o, kvs, hJ2.2, hd, hf, lo⟩) eC hC hx2) fun y σ' m' q => ⟨q.1, q.2.1, by rw [q.2.2]; exact hJ2.2⟩
    · have Rt := RX.tag (c' := .dict D) hJ2.2 (fun _ _ q => by cases q) (fun _ _ q => by cases q) ⟨o, kvs, RX.cells d _ hJ2.2, hd, hf, lo⟩
      rw [hlen] at hJ2
      exact fin_of (x := x) (hs1.same.heap _) (kp.set _ hJ2.2 (fun _ q => by cases q)) Rt (done ys σ2 _ hJ2.1 (Store.set_same _ _ _) fun b hb => Store.set_ne _ _ hb)
  · intro D' C h' tk m' ys news' F' N' o1 hn hC₀ hD₀ hCL hDL hCD offC fin
    refine ⟨m', hn, fun h'' hs'' => fin D' h'' tk (F'.change hs'' hCL hC₀) (fun p hp => ?_) o1⟩
    refine ⟨hs''.extBut _ _ ?_ (N' p hp).1, (N' p hp).2⟩
    rcases List.mem_cons.mp hp with rfl | hp
    · exact Ne.symm hCD
    · exact offC p hp
end
end
section
section
variable {Z σ T : Store} {cr : Addr} {t h : Nat} {a l c ka kl kc : Addr} {xl xr kxs rxs : List El} {x : El} {kks rks pre post : List Kd} {K R : Kd}
/-- two neighbours become one -/
theorem merge_fin (o : Nod Z σ cr t (h + 1) a l c (xl ++ x :: xr) (pre ++ ([K, R] ++ post))) (hpre : pre.length = xl.length)
    (oK : Nod Z σ cr t h ka kl kc kxs kks) (eK : K.es = weave kks kxs) (hK : K.fp = fpOf ka kl kc kks) (aK : K.a = ka) (rk : ∀ k ∈ rks, KidP Z σ cr t h k) (rs : (rks.flatMap Kd.fp).Sublist R.fp) (eR : R.es = weave rks rxs)
    (agree : ∀ b, b ≠ l → b ≠ c → b ≠ kl → b ≠ kc → T b = σ b)
    (tl : T l = some (.list ((xl ++ xr).map El.r))) (tc : T c = some (.list ((pre ++ ([K] ++ post)).map Kd.r))) (t1 : T kl = some (.list ((kxs ++ x :: rxs).map El.r))) (t2 : T kc = some (.list ((kks ++ rks).map Kd.r)))
    (u1 : (kxs ++ x :: rxs).length ≤ 2 * t - 1) (v1 : t - 1 ≤ (kxs ++ x :: rxs).length) (n1 : (kks ++ rks).length = if (h == 0) then 0 else (kxs ++ x :: rxs).length + 1) (hes : weave (kks ++ rks) (kxs ++ x :: rxs) = weave kks kxs ++ x :: weave rks rxs) :
    Nod Z T cr t (h + 1) a l c (xl ++ xr) (pre ++ ([⟨ka, weave (kks ++ rks) (kxs ++ x :: rxs), fpOf ka kl kc (kks ++ rks), (kxs ++ x :: rxs).length⟩] ++ post)) ∧
      Step (fpOf a l c (pre ++ ([K, R] ++ post))) (fpOf a l c (pre ++ ([⟨ka, weave (kks ++ rks) (kxs ++ x :: rxs), fpOf ka kl kc (kks ++ rks), (kxs ++ x :: rxs).length⟩] ++ post))) σ T ∧
      Own Z T cr t h (kxs ++ x :: rxs).length ka (weave (kks ++ rks) (kxs ++ x :: rxs)) (fpOf ka kl kc (kks ++ rks)) := by
  have nd := o.cx.nd
  have hfp : [K, R].flatMap Kd.fp = fpOf ka kl kc kks ++ R.fp := by simp [hK]
  have sub : (fpOf ka kl kc (kks ++ rks)).Sublist (fpOf ka kl kc kks ++ R.fp) := by
    have : fpOf ka kl kc (kks ++ rks) = fpOf ka kl kc kks ++ rks.flatMap Kd.fp := by simp [fpOf]
    rw [this]; exact (List.Sublist.refl _).append rs
  have nd2 : (fpOf ka kl kc kks ++ R.fp).Nodup := by
    rw [← hfp]
    refine nd.sublist (.cons _ (.cons _ (.cons _ ?_)))
    rw [List.flatMap_append, List.flatMap_append]
    exact (List.sublist_append_left _ _).trans (List.sublist_append_right _ _)
  have nd3 : (fpOf ka kl kc (kks ++ rks)).Nodup := nd2.sublist sub
  have hll : l ∉ fpOf ka kl kc kks ++ R.fp ∧ c ∉ fpOf ka kl kc kks ++ R.fp := by
    rw [← hfp]
    simp only [fpOf, List.flatMap_append, List.nodup_cons, List.mem_cons, List.mem_append, not_or] at nd
    exact ⟨nd.2.1.2.2.1, nd.2.2.1.2.1⟩
  obtain ⟨q1, q2, q3⟩ := oK.ne
  have hl3 : l ∉ fpOf ka kl kc (kks ++ rks) ∧ c ∉ fpOf ka kl kc (kks ++ rks) := ⟨fun q => hll.1 (sub.subset q), fun q => hll.2 (sub.subset q)⟩
  have off : ∀ b, b = ka ∨ b ∈ kks.flatMap Kd.fp ∨ b ∈ rks.flatMap Kd.fp → T b = σ b := fun b hb => by
    have nd4 := nd3
    have hl1 := hl3.1
    have hl2 := hl3.2
    simp only [fpOf, List.flatMap_append, List.nodup_cons, List.mem_cons, List.mem_append, List.nodup_append, List.cons_append, not_or] at nd4 hl1 hl2
    refine agree b ?_ ?_ ?_ ?_ <;> rintro rfl <;> clear agree nd3 <;> grind
  have kid : ∀ k ∈ kks ++ rks, KidP Z T cr t h k := fun k hk => by
    rcases List.mem_append.mp hk with m | m
    · exact (oK.nd.kid k m).frame fun b hb => off b (.inr (.inl (List.mem_flatMap.mpr ⟨k, m, hb⟩)))
    · exact (rk k m).frame fun b hb => off b (.inr (.inr (List.mem_flatMap.mpr ⟨k, m, hb⟩)))
  have ownK : Own Z T cr t h (kxs ++ x :: rxs).length ka (weave (kks ++ rks) (kxs ++ x :: rxs)) (fpOf ka kl kc (kks ++ rks)) :=
    Own_iff.mpr ⟨kl, kc, kxs ++ x :: rxs, kks ++ rks, ⟨by rw [off ka (.inl rfl)]; exact oK.nd.node, t1, t2, u1, n1, kid⟩, rfl, rfl, rfl⟩
  have hw : weave (pre ++ ([⟨ka, weave (kks ++ rks) (kxs ++ x :: rxs), fpOf ka kl kc (kks ++ rks), (kxs ++ x :: rxs).length⟩] ++ post)) (xl ++ xr) = weave (pre ++ ([K, R] ++ post)) (xl ++ x :: xr) := by
    rw [weave_pair hpre, weave_one hpre, eK, eR, hes]; simp
  have fin := Nod.turn (σ'' := T) (mid := [K, R]) (mid' := [⟨ka, weave (kks ++ rks) (kxs ++ x :: rxs), fpOf ka kl kc (kks ++ rks), (kxs ++ x :: rxs).length⟩]) (xs' := xl ++ xr) o
    (fun k hk => by rw [List.mem_singleton] at hk; subst hk; exact ⟨v1, .inr ownK⟩) (by simpa using nd3)
    (fun b cb h1 h2 h3 e => by
      rw [hfp] at h1
      simp only [fpOf, List.mem_append, List.mem_cons, not_or] at h1
      rw [agree b h2 h3 h1.1.2.1 h1.1.2.2.1]; exact e)
    (fun b hb => by
      left; rw [hfp]
      exact sub.subset (by simpa using hb))
    tl (by rw [tc]; simp [aK]) (by have := o.nd.hi; simp at this ⊢; omega) (by have := o.nd.num; simp at this ⊢; omega) (by rw [hw]; exact o.cx.els) (by rw [hw]; exact o.cx.ris)
  exact ⟨fin.1, fin.2, ownK⟩
end
end
section
theorem place_inv {key : Int} {xl xr : List El} (hl : ∀ x ∈ xl, x.k < key) (hr : ∀ x r, xr = x :: r → key < x.k) : posOf key (ksOf (xl ++ xr)) = xl.length ∧ isAt key (ksOf (xl ++ xr)) = false := by
  induction xl with
  | nil =>
    cases xr with
    | nil => exact ⟨rfl, rfl⟩
    | cons x r =>
      have := hr x r rfl
      have h1 : ¬ (x.k < key) := by omega
      have h2 : x.k ≠ key := by omega
      constructor
      · simp [ksOf, posOf, h1]
      · simp [isAt, ksOf, posOf, h1, h2]
  | cons x xl ih =>
    have hx := hl x (.head _)
    obtain ⟨i1, i2⟩ := ih fun y hy => hl y (.tail _ hy)
    constructor
    · simp only [ksOf, List.cons_append, List.map_cons, posOf, if_pos hx, List.length_cons] at i1 ⊢
      rw [i1]
    · simp only [isAt, ksOf, List.cons_append, List.map_cons, posOf, if_pos hx] at i2 ⊢
      simpa using i2
theorem weave_hole : ∀ (kids : List Kd) (xl xr : List El), ∃ A B, (∀ e : El, weave kids (xl ++ e :: xr) = A ++ e :: B) ∧ (∀ x ∈ xl, x ∈ A) ∧ (∀ x ∈ xr, x ∈ B)
  | [], xl, xr => ⟨xl, xr, fun _ => rfl, fun _ h => h, fun _ h => h⟩
  | k :: ks, [], xr => ⟨k.es, weave ks xr, fun _ => rfl, fun _ h => (by cases h), fun x h => mem_weave.mpr (.inr h)⟩
  | k :: ks, x :: xl, xr => by
    obtain ⟨A, B, h, h1, h2⟩ := weave_hole ks xl xr
    refine ⟨k.es ++ x :: A, B, fun e => ?_, fun y hy => ?_, h2⟩
    · show k.es ++ x :: weave ks (xl ++ e :: xr) = _
      rw [h]; simp
    · rcases List.mem_cons.mp hy with rfl | hy
      · simp
      · simp [h1 y hy]
section
variable {Z σ T : Store} {cr : Addr} {t h : Nat} {a l c : Addr} {xs xs' : List El} {kids : List Kd}
theorem Nod.setXs (o : Nod Z σ cr t h a l c xs kids) (tl : T l = some (.list (xs'.map El.r))) (agree : ∀ b, b ≠ l → T b = σ b) (hi : xs'.length ≤ 2 * t - 1) (hlen : h = 0 ∨ xs'.length = xs.length) (els : ∀ e ∈ weave kids xs', ElOk Z e) (ris : Rising (ksOf (weave kids xs'))) :
    Nod Z T cr t h a l c xs' kids ∧ Step (fpOf a l c kids) (fpOf a l c kids) σ T := by
  have := Nod.turn (σ'' := T) (pre := kids) (mid := []) (mid' := []) (post := []) (xs' := xs') (by simpa using o) (fun k hk => by cases hk) (by simp) (fun b cb h1 h2 h3 e => by rw [agree b h2]; exact e) (fun b hb => by cases hb) tl
    (by rw [agree c o.ne.2.2.symm, o.nd.ch]; simp) hi (by
      have := o.nd.num
      rcases hlen with rfl | hlen
      · simpa using this
      · rw [hlen]; simpa using this) (by simpa using els) (by simpa using ris)
  simpa using this
theorem Ctx.supStep {fp fp' : List Addr} {es : List El} (o : Ctx Z σ cr t fp es) (st : Step fp fp' σ T) : Sup Z T := fun b cb e => st.keep b cb (fun q => by have := o.out b q; rw [e] at this; cases this) (o.sup b cb e)
end
end
section
theorem delE_app {key : Int} {A B : List El} : delE key (A ++ B) = delE key A ++ delE key B := List.filter_append ..
theorem delE_id {key : Int} {A : List El} (h : ∀ e ∈ A, e.k ≠ key) : delE key A = A := List.filter_eq_self.mpr fun e he => by simpa using h e he
theorem delE_mid {key : Int} {A M B : List El} (ha : ∀ e ∈ A, e.k < key) (hb : ∀ e ∈ B, key < e.k) : delE key (A ++ (M ++ B)) = A ++ (delE key M ++ B) := by
  have h1 : delE key A = A := delE_id fun e he => by have := ha e he; omega
  have h2 : delE key B = B := delE_id fun e he => by have := hb e he; omega
  rw [delE_app, delE_app, h1, h2]
theorem delE_hit {A B : List El} {x : El} (r : Rising (ksOf (A ++ x :: B))) : delE x.k (A ++ x :: B) = A ++ B := by
  have h1 : ∀ e ∈ A, e.k ≠ x.k := fun e he => by have := r.cross he (.head _ : x ∈ x :: B); omega
  have h2 : ∀ e ∈ B, e.k ≠ x.k := fun e he => by have := Rising.cross (A := [x]) r.right (.head _) he; omega
  rw [delE_app, delE_id h1]
  congr 1
  show List.filter _ (x :: B) = B
  rw [List.filter_cons]
  simp only [bne_self_eq_false, Bool.false_eq_true, if_false]
  exact delE_id h2
theorem delE_none {key : Int} {es : List El} (h : look key es = none) : delE key es = es := delE_id fun e he q => by
  have := List.find?_eq_none.mp h e he; simp [q] at this
theorem look_mem {key : Int} {es : List El} {x : El} (h : look key es = some x) : x ∈ es ∧ x.k = key := ⟨List.mem_of_find?_eq_some h, by simpa using List.find?_some h⟩
theorem delE_sub {key : Int} {es : List El} : (delE key es).Sublist es := List.filter_sublist
theorem split_unique {A B A' B' : List El} {x x' : El} (h : A ++ x :: B = A' ++ x' :: B') (r : Rising (ksOf (A ++ x :: B))) (hk : x.k = x'.k) : A = A' ∧ x = x' ∧ B = B' := by
  have r' : Rising (ksOf (A' ++ x' :: B')) := h ▸ r
  induction A generalizing A' with
  | nil =>
    cases A' with
    | nil => simp at h; exact ⟨rfl, h.1, h.2⟩
    | cons y A' =>
      simp at h
      have := r'.cross (A := y :: A') (.head _) (.head _ : x' ∈ x' :: B')
      rw [← h.1] at this; omega
  | cons z A ih =>
    cases A' with
    | nil =>
      simp at h
      have := r.cross (A := z :: A) (.head _) (.head _ : x ∈ x :: B)
      rw [h.1] at this; omega
    | cons y A' =>
      simp at h
      obtain ⟨q1, q2, q3⟩ := ih (A' := A') h.2 (Rising.right (A := [z]) r) (Rising.right (A := [y]) r')
      exact ⟨by rw [h.1, q1], q2, q3⟩
end
section
theorem Sup.of {σ σ' : Store} (h : SubS σ σ') (k : Keeps σ σ') : Sup σ σ' := fun a c e => by
  cases c with
  | pred P => exact k a P e
  | inst C fs => exact h a _ (fun P q => by cases q) e
  | list vs => exact h a _ (fun P q => by cases q) e
  | tup vs => exact h a _ (fun P q => by cases q) e
  | dict D => exact h a _ (fun P q => by cases q) e
  | var v => exact h a _ (fun P q => by cases q) e
  | obj o => exact h a _ (fun P q => by cases q) e
theorem W.keepPred {α : Type} {g : Gl} {x : Fx} {σ : Store} {m : Loc} {E : Value → Heap → Prop} {t : Sem α} {Q : α → Store → Loc → Prop} (h : W g x t σ m Q E) : W g x t σ m (fun v σ' m' => Keeps σ σ' ∧ Q v σ' m') E := by
  intro ok s₀ σ₀ s hs H
  refine wpAny_mono (h ok s₀ σ s ⟨hs.same, Keeps.refl _⟩ H) (fun v s' ⟨σ', m', h1, h2, h3⟩ => ⟨σ', m', ⟨h1.same, fun b P q => h1.keep b P (hs.keep b P q)⟩, h2, h1.keep, h3⟩) fun _ _ e => e
theorem weave_len {k : Kd} : ∀ {kids : List Kd} {xs : List El}, k ∈ kids → k.es.length + xs.length ≤ (weave kids xs).length
  | k' :: ks, [], h => by
    rcases List.mem_cons.mp h with rfl | h
    · simp [weave]
    · have := weave_len (xs := []) h; simp [weave] at this ⊢; omega
  | k' :: ks, x :: xs, h => by
    rcases List.mem_cons.mp h with rfl | h
    · have : xs.length ≤ (weave ks xs).length := xs_weave.length_le
      simp [weave]; omega
    · have := weave_len (xs := xs) h; simp [weave] at this ⊢; omega
theorem Tr.height {S : Store} {t : Nat} (t3 : 3 ≤ t) : ∀ {h n : Nat} {a : Addr} {es : List El}, Tr S t h n a es → (h = 0 ∨ 1 ≤ n) → h ≤ es.length
  | 0, _, _, _, _, _ => Nat.zero_le _
  | h + 1, n, a, es, ⟨cr, l, c, xs, kids, nd, hc, he, hn⟩, ht => by
    have h1 : 1 ≤ xs.length := by rw [← hn]; exact ht.elim (fun q => by omega) id
    have num : kids.length = xs.length + 1 := nd.num
    cases kids with
    | nil => simp at num
    | cons k kids =>
      have hk := nd.kid k (.head _)
      have := Tr.height t3 hk.2 (.inr (by omega))
      have := weave_len (k := k) (xs := xs) (kids := k :: kids) (.head _)
      rw [he]; omega
theorem insE_len {e : El} {es : List El} (r : Rising (ksOf es)) : (insE e es).length = match look e.k es with | some _ => es.length | none => es.length + 1 := by
  induction es with
  | nil => rfl
  | cons x es ih =>
    have h1 := List.pairwise_cons.mp r
    unfold insE look
    rw [List.find?_cons]
    split
    · rename_i q
      rw [show (x.k == e.k) = false by simp; omega]
      have := ih h1.2
      unfold look at this
      simp only [List.length_cons, this]
      cases List.find? (fun e_1 => e_1.k == e.k) es <;> rfl
    · split
      · rename_i q1 q2
        rw [show (x.k == e.k) = true by simpa using q2]
        rfl
      · rename_i q1 q2
        rw [show (x.k == e.k) = false by simpa using q2]
        have hn : List.find? (fun e_1 => e_1.k == e.k) es = none := List.find?_eq_none.mpr fun y hy => by
          have := h1.1 y.k (List.mem_map.mpr ⟨y, hy, rfl⟩)
          simp; omega
        simp only [hn, List.length_cons]
theorem delE_len {key : Int} {es : List El} (r : Rising (ksOf es)) : (match look key es with | some _ => (delE key es).length + 1 | none => (delE key es).length) = es.length := by
  cases h : look key es with
  | none => simp only [delE_none h]
  | some x =>
    obtain ⟨hm, hk⟩ := look_mem h
    obtain ⟨A, B, rfl⟩ := List.append_of_mem hm
    subst hk
    simp only [delE_hit r, List.length_append, List.length_cons]; omega
/-- a tree that may be turned -/
structure TreeSt (Z σ : Store) (ta cr : Addr) (t : Nat) (io : Bool) (es : List El) (fp : List Addr) : Prop where
  cell : ∃ cur root tk st, σ ta = some (treeC (.ref cr) (.bool false) (.ref cur) (.int t tk) (.ref root) (.int es.length st) (.bool io)) ∧ Z cur = some (.list []) ∧
    ∃ h n, (h = 0 ∨ 1 ≤ n) ∧ ((Tr Z t h n root es ∧ fp = []) ∨ Own Z σ cr t h n root es fp)
  out : ta ∉ fp
  zta : Z ta = none
  cx : Ctx Z σ cr t fp es
theorem Ctx.height {Z σ : Store} {cr root : Addr} {t h n : Nat} {es : List El} {fp : List Addr} (cx : Ctx Z σ cr t fp es) (ht : h = 0 ∨ 1 ≤ n) (hr : (Tr Z t h n root es ∧ fp = []) ∨ Own Z σ cr t h n root es fp) : h ≤ es.length :=
  hr.elim (fun q => q.1.height cx.t3 ht) fun q => (q.tr cx.sup cx.crc).height cx.t3 ht
end
-- the walk's own words: one step of the judgement W
-- "nm": a name's kind in the scope; "lk": a local's value; "rf": a closed equation; "rm": room
local macro_rules | `(tactic| walk_at "rf") => `(tactic| first | kernel_rfl! | exact rfl)
local macro_rules | `(tactic| walk_at "nm") => `(tactic| (refine' nm_of ?h ?e; (case h => assumption); (case e => kernel_rfl)))
local macro_rules | `(tactic| walk_at "lk") => `(tactic| first | exact upL_same _ _ _ | (refine upL_ne (by kernel_rfl) ?_; walk_at "lk") | assumption | exact rfl)
local macro_rules | `(tactic| walk_at "asm") => `(tactic| first | assumption | exact rfl)
local macro_rules | `(tactic| walk_at "sz") => `(tactic| first | omega | exact Nat.le_of_ble_eq_true rfl | (simp only [List.length_map, List.length_append, List.length_cons, List.length_nil, List.length_take, List.length_drop, sizeLine_eq]; omega))
local macro_rules | `(tactic| walk_at "ne") => `(tactic| first | with_reducible assumption | (refine Ne.symm ?_; with_reducible assumption))
local macro_rules | `(tactic| walk_at "sg") => `(tactic| first
  | with_reducible assumption
  | exact Store.set_same _ _ _
  | ((with_reducible refine' Store.set_new ?h ?e); (case' h => with_reducible assumption); walk_at "sg")
  | ((with_reducible refine' Store.set_off ?h ?e); (case' h => walk_at "ne"); walk_at "sg")
  | ((with_reducible refine' Sup.get ?h ?e); (case' h => with_reducible assumption); walk_at "sg"))
local macro_rules | `(tactic| walk_at "name") => `(tactic| first
  | ((with_reducible refine' n_MIN ?l ?_); (case' l => walk_at "nm"))
  | ((with_reducible refine' n_MAX ?l ?_); (case' l => walk_at "nm"))
  | ((with_reducible refine' n_Node ?l ?_); (case' l => walk_at "nm"))
  | ((with_reducible refine' n_Creator ?l ?_); (case' l => walk_at "nm"))
  | ((with_reducible refine' n_KV ?l ?_); (case' l => walk_at "nm"))
  | ((with_reducible refine' n_BTree ?l ?_); (case' l => walk_at "nm"))
  | ((with_reducible refine' n_BTreeDict ?l ?_); (case' l => walk_at "nm"))
  | ((with_reducible refine' n_law_walk ?l ?_); (case' l => walk_at "nm"))
  | ((with_reducible refine' n_law_right ?l ?_); (case' l => walk_at "nm"))
  | ((with_reducible refine' n_law_row ?l ?_); (case' l => walk_at "nm"))
  | ((with_reducible refine' n_law_closed ?l ?_); (case' l => walk_at "nm"))
  | ((with_reducible refine' n_law_unlike ?l ?_); (case' l => walk_at "nm"))
  | ((with_reducible refine' n_law_refused ?l ?_); (case' l => walk_at "nm"))
  | ((with_reducible refine' b_len ?l ?_); (case' l => walk_at "nm"))
  | ((with_reducible refine' b_range ?l ?_); (case' l => walk_at "nm"))
  | ((with_reducible refine' b_list ?l ?_); (case' l => walk_at "nm"))
  | ((with_reducible refine' b_sorted ?l ?_); (case' l => walk_at "nm"))
  | ((with_reducible refine' b_enumerate ?l ?_); (case' l => walk_at "nm"))
  | ((with_reducible refine' b_ValueError ?l ?_); (case' l => walk_at "nm"))
  | ((with_reducible refine' b_KeyError ?l ?_); (case' l => walk_at "nm"))
  | ((with_reducible refine' w_local ?v ?l ?d ?_); (case' l => walk_at "nm"); (case' d => kernel_rfl); (case' v => walk_at "lk")))
-- statements
local macro_rules | `(tactic| walk_at "stmt") => `(tactic| first
  | with_reducible refine w_cons ?_
  | with_reducible refine w_nil ?_
  | with_reducible refine w_Return ?_
  | with_reducible refine w_ReturnNone ?_
  | ((with_reducible refine' w_AssignName ?l ?_ ?s); (case' l => walk_at "nm"); (case' s => walk_at "rf"))
  | ((with_reducible refine' w_AssignAttr ?_ ?s); (case' s => walk_at "rf"))
  | ((with_reducible refine' w_AssignSub ?_ ?s ?e); (case' s => walk_at "rf"); (case' e => exact fun _ => rfl))
  | ((with_reducible refine' w_AssignTup ?_ ?s ?w); (case' s => walk_at "rf"); (case' w => walk_at "rf"))
  | with_reducible refine w_If ?_
  | with_reducible refine w_Assert ?_
  | ((with_reducible refine' w_Expr ?_ ?i ?s); (case' i => walk_at "inter"); (case' s => walk_at "rf"))
  | with_reducible refine w_AugAttr ?_
  | with_reducible refine w_Pass ?_
  | with_reducible refine w_Break ?_
  | with_reducible refine w_Continue ?_)
local macro_rules | `(tactic| walk_at "inter") => `(tactic| (refine' inter_of ?h ?e; (case h => assumption); (case e => walk_at "rf")))
local macro_rules | `(tactic| walk_at "unp") => `(tactic| ((with_reducible refine' w_unpack2 ?h ?e ?a ?b ?_); (case' h => assumption); (case' a => walk_at "nm"); (case' b => walk_at "nm"); (case' e => walk_at "sg")))
-- expressions
local macro_rules | `(tactic| walk_at "expr") => `(tactic| first
  | ((with_reducible show W _ _ (eval (Expr.Name _ _) _) _ _ _ _); walk_at "name")
  | ((with_reducible refine w_int ?_); intro _)
  | with_reducible refine w_none ?_
  | with_reducible refine w_bool ?_
  | with_reducible refine w_BinOp ?_
  | ((with_reducible refine' w_Attribute ?_ ?e); (case' e => walk_at "rf"))
  | ((with_reducible refine' w_MethodI ?_ ?e); (case' e => walk_at "rf"))
  | ((with_reducible refine' w_Call ?_ ?e); (case' e => walk_at "rf"))
  | with_reducible refine w_Subscript ?_
  | ((with_reducible refine' w_Compare ?_ ?e); (case' e => walk_at "rf"))
  | with_reducible refine w_IfExp ?_
  | with_reducible refine w_Tuple ?_
  | with_reducible refine w_List ?_
  | with_reducible refine w_UnaryOp ?_
  | ((with_reducible refine w_str ?_); intro _)
  | with_reducible refine w_Slice ?_)
local macro_rules | `(tactic| walk_at "test") => `(tactic| first
  | ((with_reducible refine' w_test_Compare ?_ ?e); (case' e => walk_at "rf"))
  | with_reducible refine w_test_Not ?_
  | with_reducible refine w_test_BoolOp ?_
  | ((with_reducible refine' w_test_value ?_ ?e); (case' e => walk_at "rf")))
local macro_rules | `(tactic| walk_at "args") => `(tactic| first
  | ((with_reducible refine' w_args ?e ?_); (case' e => walk_at "rf"))
  | with_reducible refine w_args0 ?_
  | ((with_reducible refine' w_items_cons ?_ ?e); (case' e => walk_at "rf"))
  | with_reducible refine w_items_nil ?_
  | with_reducible refine w_and_cons ?_
  | with_reducible refine w_or_cons ?_
  | with_reducible refine w_and_nil ?_
  | with_reducible refine w_or_nil ?_
  | ((with_reducible refine' w_argsKw ?a ?e ?_); (case' a => walk_at "rf"); (case' e => walk_at "rf"))
  | ((with_reducible refine' w_argsKw0 ?a ?_); (case' a => walk_at "rf"))
  | with_reducible refine w_kw_cons ?_
  | with_reducible refine w_kw_nil ?_
  | with_reducible refine w_part_none ?_
  | with_reducible refine w_part_some ?_)
local macro_rules | `(tactic| walk_at "ints") => `(tactic| first
  | ((with_reducible refine w_add ?_); intro _)
  | ((with_reducible refine w_sub ?_); intro _)
  | ((with_reducible refine w_iadd ?_); intro _)
  | ((with_reducible refine w_isub ?_); intro _)
  | with_reducible refine w_eq ?_
  | with_reducible refine w_ne ?_
  | with_reducible refine w_lt ?_
  | with_reducible refine w_le ?_
  | with_reducible refine w_gt ?_
  | with_reducible refine w_ge ?_
  | with_reducible refine w_truth_bool ?_
  | with_reducible refine w_truth_none ?_
  | with_reducible refine w_isNone ?_
  | with_reducible refine w_isNotNone ?_
  | ((with_reducible refine w_neg ?_); intro _))
local macro_rules | `(tactic| walk_at "flow") => `(tactic| first
  | with_reducible refine next_next ?_
  | with_reducible refine next_ret ?_
  | with_reducible refine next_brk ?_
  | with_reducible refine next_cont ?_
  | with_reducible refine turn_next ?_
  | with_reducible refine turn_cont ?_
  | with_reducible refine turn_brk ?_
  | with_reducible refine turn_ret ?_
  | with_reducible refine ite_t ?_
  | with_reducible refine ite_f ?_
  | with_reducible refine ite_nt ?_
  | with_reducible refine ite_nz ?_
  | with_reducible refine ite_nz0 ?_
  | with_reducible refine ite_z ?_
  | with_reducible refine ite_z0 ?_
  | with_reducible refine ite_nf ?_)
local macro_rules | `(tactic| walk_at "attr") => `(tactic| first
  | ((with_reducible refine' g_Node_t ?e ?v ?_); (case' e => walk_at "sg"); (case' v => exact rfl))
  | ((with_reducible refine' g_Node_creator ?e ?v ?_); (case' e => walk_at "sg"); (case' v => exact rfl))
  | ((with_reducible refine' g_Node_is_leaf ?e ?v ?_); (case' e => walk_at "sg"); (case' v => exact rfl))
  | ((with_reducible refine' g_Node_elts ?e ?_); (case' e => walk_at "sg"))
  | ((with_reducible refine' g_Node_children ?e ?_); (case' e => walk_at "sg"))
  | ((with_reducible refine' g_KV_key ?e ?v ?_); (case' e => walk_at "sg"); (case' v => exact rfl))
  | ((with_reducible refine' g_KV_value ?e ?v ?_); (case' e => walk_at "sg"); (case' v => exact rfl))
  | ((with_reducible refine' g_Tree_creator ?e ?v ?_); (case' e => walk_at "sg"); (case' v => exact rfl))
  | ((with_reducible refine' g_Tree_immutable ?e ?v ?_); (case' e => walk_at "sg"); (case' v => exact rfl))
  | ((with_reducible refine' g_Tree_cursors ?e ?v ?_); (case' e => walk_at "sg"); (case' v => exact rfl))
  | ((with_reducible refine' g_Tree_t ?e ?v ?_); (case' e => walk_at "sg"); (case' v => exact rfl))
  | ((with_reducible refine' g_Tree_root ?e ?v ?_); (case' e => walk_at "sg"); (case' v => exact rfl))
  | ((with_reducible refine' g_Tree_size ?e ?v ?_); (case' e => walk_at "sg"); (case' v => exact rfl))
  | ((with_reducible refine' g_Tree_in_order ?e ?v ?_); (case' e => walk_at "sg"); (case' v => exact rfl)))
local macro_rules | `(tactic| walk_at "meth") => `(tactic| first
  | ((with_reducible refine' m_Node_is_maximal ?e ?_); (case' e => walk_at "sg"))
  | ((with_reducible refine' m_Node_is_minimal ?e ?_); (case' e => walk_at "sg"))
  | ((with_reducible refine' m_Node_search_in_node ?e ?_); (case' e => walk_at "sg"))
  | ((with_reducible refine' m_Node_maybe_cow_child ?e ?_); (case' e => walk_at "sg"))
  | ((with_reducible refine' m_Node_get_node ?e ?_); (case' e => walk_at "sg"))
  | ((with_reducible refine' m_Node_get ?e ?_); (case' e => walk_at "sg"))
  | ((with_reducible refine' m_Node_optimize_in_order_insertion ?e ?_); (case' e => walk_at "sg"))
  | ((with_reducible refine' m_Node_insert_nonfull ?e ?_); (case' e => walk_at "sg"))
  | ((with_reducible refine' m_Node_split ?e ?_); (case' e => walk_at "sg"))
  | ((with_reducible refine' m_Node_try_left_steal ?e ?_); (case' e => walk_at "sg"))
  | ((with_reducible refine' m_Node_try_right_steal ?e ?_); (case' e => walk_at "sg"))
  | ((with_reducible refine' m_Node_adopt ?e ?_); (case' e => walk_at "sg"))
  | ((with_reducible refine' m_Node_merge ?e ?_); (case' e => walk_at "sg"))
  | ((with_reducible refine' m_Node_minimum ?e ?_); (case' e => walk_at "sg"))
  | ((with_reducible refine' m_Node_balance ?e ?_); (case' e => walk_at "sg"))
  | ((with_reducible refine' m_Node_delete ?e ?_); (case' e => walk_at "sg"))
  | ((with_reducible refine' m_Node_visit_in_order ?e ?_); (case' e => walk_at "sg"))
  | ((with_reducible refine' m_Node_maybe_cow ?e ?_); (case' e => walk_at "sg"))
  | ((with_reducible refine' m_Node_clone ?e ?_); (case' e => walk_at "sg"))
  | ((with_reducible refine' m_KV_key ?e ?_); (case' e => walk_at "sg"))
  | ((with_reducible refine' m_KV_value ?e ?_); (case' e => walk_at "sg"))
  | ((with_reducible refine' m_Tree_make_immutable ?e ?_); (case' e => walk_at "sg"))
  | ((with_reducible refine' m_Tree_check_mutable_and_park ?e ?_); (case' e => walk_at "sg"))
  | ((with_reducible refine' m_Tree_insert_element ?e ?_); (case' e => walk_at "sg"))
  | ((with_reducible refine' m_Tree_get_element ?e ?_); (case' e => walk_at "sg"))
  | ((with_reducible refine' m_Tree_delete ?e ?_); (case' e => walk_at "sg"))
  | ((with_reducible refine' m_Tree_delete_key ?e ?_); (case' e => walk_at "sg"))
  | ((with_reducible refine' m_Tree_delete_exact ?e ?_); (case' e => walk_at "sg"))
  | ((with_reducible refine' m_Tree_visit_in_order ?e ?_); (case' e => walk_at "sg"))
  | ((with_reducible refine' lm_append ?e ?_); (case' e => walk_at "sg"))
  | ((with_reducible refine' lm_insert ?e ?_); (case' e => walk_at "sg"))
  | ((with_reducible refine' lm_pop ?e ?_); (case' e => walk_at "sg"))
  | ((with_reducible refine' lm_extend ?e ?_); (case' e => walk_at "sg")))
local macro_rules | `(tactic| walk_at "callee") => `(tactic| with_reducible first
  | exact k_49
  | exact k_56
  | exact k_91
  | exact k_98
  | exact k_105
  | exact k_112
  | exact k_119
  | exact k_126
  | exact k_133
  | exact k_140
  | exact k_147
  | exact k_154
  | exact k_161
  | exact k_168
  | exact k_175
  | exact k_182
  | exact k_196
  | exact k_203
  | exact k_210
  | exact k_224
  | exact k_231
  | exact k_478
  | exact k_485
  | exact k_365
  | exact k_372
  | exact k_380
  | exact k_387
  | exact k_394
  | exact k_401
  | exact k_408
  | exact k_422
  | exact k_552
  | exact k_557
  | exact k_562
  | exact k_569
  | exact k_576
  | exact k_583
  | exact k_cNode
  | exact k_cCre
  | exact k_cTree
  | exact k_cBase
  | exact k_cKV
  | exact Callee.builtin _
  | exact Callee.type _)
local macro_rules | `(tactic| walk_at "call") => `(tactic| ((with_reducible refine' w_callWith ?k ?_ ?p); (case' k => walk_at "callee"); (case' p => walk_at "rf")))
local macro_rules | `(tactic| walk_at "calls") => `(tactic| first
  | (with_reducible first | refine w_tidy0 ?_ | refine w_tidy1 ?_)
  | ((with_reducible refine' w_len ?e ?z ?_); (case' e => walk_at "sg"); (case' z => walk_at "sz"); intro _))
local macro_rules | `(tactic| walk_at "newl") => `(tactic| ((with_reducible refine' w_newList ?z ?_); (case' z => walk_at "sz")))
local macro_rules | `(tactic| walk_at "newt") => `(tactic| ((with_reducible refine' w_newTuple ?z ?_); (case' z => walk_at "sz")))
local macro_rules | `(tactic| walk_at "seta") => `(tactic| first
  | ((with_reducible refine' i_Node_0 ?e ?_); (case' e => walk_at "sg"))
  | ((with_reducible refine' i_Node_1 ?e ?_); (case' e => walk_at "sg"))
  | ((with_reducible refine' i_Node_2 ?e ?_); (case' e => walk_at "sg"))
  | ((with_reducible refine' i_Node_3 ?e ?_); (case' e => walk_at "sg"))
  | ((with_reducible refine' i_Node_4 ?e ?_); (case' e => walk_at "sg"))
  | ((with_reducible refine' i_KV_0 ?e ?_); (case' e => walk_at "sg"))
  | ((with_reducible refine' i_KV_1 ?e ?_); (case' e => walk_at "sg"))
  | ((with_reducible refine' i_Tree_0 ?e ?_); (case' e => walk_at "sg"))
  | ((with_reducible refine' i_Tree_1 ?e ?_); (case' e => walk_at "sg"))
  | ((with_reducible refine' i_Tree_2 ?e ?_); (case' e => walk_at "sg"))
  | ((with_reducible refine' i_Tree_3 ?e ?_); (case' e => walk_at "sg"))
  | ((with_reducible refine' i_Tree_4 ?e ?_); (case' e => walk_at "sg"))
  | ((with_reducible refine' i_Tree_5 ?e ?_); (case' e => walk_at "sg"))
  | ((with_reducible refine' i_Tree_6 ?e ?_); (case' e => walk_at "sg"))
  | ((with_reducible refine' i_Base_0 ?e ?_); (case' e => walk_at "sg"))
  | ((with_reducible refine' i_Base_1 ?e ?_); (case' e => walk_at "sg"))
  | ((with_reducible refine' i_Base_2 ?e ?_); (case' e => walk_at "sg"))
  | ((with_reducible refine' s_Node_elts ?e ?_); (case' e => walk_at "sg"))
  | ((with_reducible refine' s_Node_children ?e ?_); (case' e => walk_at "sg"))
  | ((with_reducible refine' s_Tree_immutable ?e ?_); (case' e => walk_at "sg"))
  | ((with_reducible refine' s_Tree_root ?e ?_); (case' e => walk_at "sg"))
  | ((with_reducible refine' s_Tree_size ?e ?_); (case' e => walk_at "sg")))
local macro_rules | `(tactic| walk_at "wr") => `(tactic| first
  | ((with_reducible show W _ _ (eval _ _) _ _ _ _); walk_at "expr")
  | ((with_reducible show W _ _ (exec _ _) _ _ _ _); walk_at "stmt")
  | ((with_reducible show W _ _ (execs _ _) _ _ _ _); walk_at "stmt")
  | ((with_reducible show W _ _ (getAttr _ _ _) _ _ _ _); walk_at "attr")
  | ((with_reducible show W _ _ (setAttr _ _ _) _ _ _ _); walk_at "seta")
  | ((with_reducible show W _ _ (newList _) _ _ _ _); walk_at "newl")
  | ((with_reducible show W _ _ (callWith _ _ _ _ _) _ _ _ _); walk_at "call")
  | ((with_reducible show W _ _ (evalArgs _ _ _ _) _ _ _ _); walk_at "args")
  | ((with_reducible show W _ _ (spliced _) _ _ _ _); walk_at "args")
  | ((with_reducible show W _ _ (call _ _ _) _ _ _ _); walk_at "calls")
  | ((with_reducible show W _ _ (PySem.isTrue _ _ _) _ _ _ _); walk_at "test")
  | ((with_reducible show W _ _ (getMethod _ _ _) _ _ _ _); walk_at "meth")
  | ((with_reducible show W _ _ (binaryOp _ _ _) _ _ _ _); walk_at "ints")
  | ((with_reducible show W _ _ (compareOp _ _ _) _ _ _ _); walk_at "ints")
  | ((with_reducible show W _ _ (truthy _) _ _ _ _); walk_at "ints")
  | ((with_reducible show W _ _ (allTrue _ _ _) _ _ _ _); walk_at "args")
  | ((with_reducible show W _ _ (evalAll _) _ _ _ _); walk_at "args")
  | ((with_reducible show W _ _ (valueOrNone _) _ _ _ _); walk_at "args")
  | ((with_reducible show W _ _ (inplaceOp _ _ _) _ _ _ _); walk_at "ints")
  | ((with_reducible show W _ _ (unaryOp _ _) _ _ _ _); walk_at "ints"))
local macro_rules | `(tactic| walk_at "w") => `(tactic| first
  | ((with_reducible show W _ _ _ _ _ _ _); walk_at "wr")
  | walk_at "flow")
local macro_rules | `(tactic| walk_at "go") => `(tactic| repeat (walk_at "w"))
local macro_rules | `(tactic| walk_at "enter") => `(tactic| (intro y hh hr hcs hcn ha hcd hcl; clear hcn ha hcd hcl))

section
variable {g : Gl} {σ : Store} {hp : Option Value → Prop}
theorem spec_isMin {a : Addr} {t : Int} {k : Tok} {cr lf : Value} {es ch : Addr} {vs : List Value} {Q : Value → Store → Prop} (e : σ a = some (nodeC (.int t k) cr lf es ch)) (el : σ es = some (.list vs)) (hle : t - 1 ≤ (vs.length : Int)) (hz : vs.length < 1000) (h : Q (.bool ((vs.length : Int) == t - 1)) σ) : Calls g hp 2 (.ref 98) [.ref a] [] σ Q := by
  refine calls_def [("self", .ref a)] rfl (by rfl) (fun s _ => BindsTo.of_eq rfl) (locs rfl) (by decide) rfl rfl rfl ?_
  walk_at "enter"
  walk_at "go"
  refine w_spec (by assumption) (by assumption) (spec_MIN ?_) (by decide); intro _
  walk_at "go"
  refine ⟨decide_eq_true hle, ?_⟩
  walk_at "go"
  refine w_spec (by assumption) (by assumption) (spec_MIN ?_) (by decide); intro _
  walk_at "go"
  exact h
theorem spec_initNode {a : Addr} {t : Nat} {k : Tok} {cr : Addr} {lf : Bool} {Q : Value → Store → Prop} (e : σ a = some (.inst cNode [])) (ht : 3 ≤ t)
    (h : ∀ σ' l c, σ' a = some (nodeC (.int t k) (.ref cr) (.bool lf) l c) → σ' l = some (.list []) → σ' c = some (.list []) → l ≠ c → σ l = none → σ c = none → (∀ b, b ≠ a → b ≠ l → b ≠ c → σ' b = σ b) → Q .none σ') : Calls g hp 1 (.ref 84) [.ref a, .int t k, .ref cr, .bool lf] [] σ Q := by
  refine calls_def [("self", .ref a), ("t", .int t k), ("creator", .ref cr), ("is_leaf", .bool lf)] rfl (by rfl) (fun s _ => BindsTo.of_eq rfl) (locs rfl) (by decide) rfl rfl rfl ?_
  walk_at "enter"
  walk_at "go"
  refine ⟨decide_eq_true (by omega), ?_⟩
  walk_at "go"
  intro l hl
  walk_at "go"
  intro c hc
  walk_at "go"
  obtain ⟨n1, hc1⟩ := Store.set_none hc
  have n2 := (Store.set_none hc1).1
  have hc2 := (Store.set_none (Store.set_none (Store.set_none (Store.set_none hc1).2).2).2).2
  have n3 := (Store.set_none hl).1
  have hl2 := (Store.set_none (Store.set_none (Store.set_none hl).2).2).2
  refine h _ l c (Store.set_same _ _ _) ?_ ?_ n2.symm hl2 hc2 fun b h1 h2 h3 => ?_
  · simp [Store.set_apply, n2.symm, n3]
  · simp [Store.set_apply, n1]
  · simp [Store.set_apply, h1, h2, h3]
end
theorem w_extend0 {g : Gl} {x : Fx} {σ : Store} {m : Loc} {E : Value → Heap → Prop} {Q : Value → Store → Loc → Prop} {a b : Addr} {us : List Value} (e : σ a = some (.list [])) (eb : σ b = some (.list us)) (hz : us.length ≤ 1000) (h : Q .none (σ.set a (.list us)) m) : W g x (call (.builtin "list.extend") [.ref a, .ref b]) σ m Q E :=
  w_extend e eb (by rw [sizeLine_eq]; simp only [List.length_nil]; omega) (by simpa using h)
/-- a node of its own, fresh -/
structure NewNode (σ σ' : Store) (t : Nat) (cr : Addr) (lf : Bool) (a l c : Addr) (vs ws : List Value) : Prop where
  node : ∃ tk, σ' a = some (nodeC (.int t tk) (.ref cr) (.bool lf) l c)
  el : σ' l = some (.list vs)
  ch : σ' c = some (.list ws)
  fa : σ a = none
  fl : σ l = none
  fc : σ c = none
  al : a ≠ l
  ac : a ≠ c
  lc : l ≠ c
  same : ∀ b, b ≠ a → b ≠ l → b ≠ c → σ' b = σ b
theorem NewNode.sup {σ σ' : Store} {t : Nat} {cr : Addr} {lf : Bool} {a l c : Addr} {vs ws : List Value} (n : NewNode σ σ' t cr lf a l c vs ws) : Sup σ σ' := fun b cb e => by
  rw [n.same b (ne_fresh e n.fa) (ne_fresh e n.fl) (ne_fresh e n.fc)]; exact e
section
variable {g : Gl} {σ : Store} {hp : Option Value → Prop}
theorem spec_newNode {t : Nat} {k : Tok} {cr : Addr} {lf : Bool} {Q : Value → Store → Prop} (ht : 3 ≤ t)
    (h : ∀ σ' a l c, NewNode σ σ' t cr lf a l c [] [] → Q (.ref a) σ') : Calls g hp 2 (.ref 234) [.int t k, .ref cr, .bool lf] [] σ Q := by
  refine calls_new (by kernel_rfl) (by kernel_rfl) (by kernel_rfl) fun a ha => spec_initNode (Store.set_same _ _ _) ht fun σ' l c h1 h2 h3 h4 h5 h6 h7 => ⟨rfl, ?_⟩
  obtain ⟨n1, h5⟩ := Store.set_none h5
  obtain ⟨n2, h6⟩ := Store.set_none h6
  exact h σ' a l c ⟨⟨_, h1⟩, h2, h3, ha, h5, h6, n1.symm, n2.symm, h4, fun b q1 q2 q3 => by rw [h7 b q1 q2 q3, Store.set_ne _ _ q1]⟩
theorem spec_clone {a l c : Addr} {t : Nat} {k : Tok} {cr0 : Value} {cr : Addr} {lf : Bool} {vs ws : List Value} {Q : Value → Store → Prop} (e : σ a = some (nodeC (.int t k) cr0 (.bool lf) l c)) (el : σ l = some (.list vs)) (ec : σ c = some (.list ws)) (hw : lf = true → ws = []) (ht : 3 ≤ t) (hz : vs.length < 1000) (hz' : ws.length < 1000)
    (h : ∀ σ' a' l' c', NewNode σ σ' t cr lf a' l' c' vs ws → Q (.ref a') σ') : Calls g hp 3 (.ref 231) [.ref a, .ref cr] [] σ Q := by
  refine calls_def [("self", .ref a), ("creator", .ref cr)] rfl (by rfl) (fun s _ => BindsTo.of_eq rfl) (locs rfl) (by decide) rfl rfl rfl ?_
  walk_at "enter"
  walk_at "go"
  refine w_spec (by assumption) (by assumption) (spec_newNode ht fun σ' a' l' c' N => ?_) (by decide)
  have hs := N.sup
  obtain ⟨tk, e'⟩ := N.node
  have el' := N.el
  have ec' := N.ch
  walk_at "go"
  refine w_extend0 el' (hs _ _ el) (by omega) ?_
  have n1 := N.al
  have n2 := N.ac
  have n3 := N.lc
  have n4 := ne_fresh e N.fl
  have n5 := ne_fresh e N.fc
  walk_at "go"
  cases lf with
  | true =>
    walk_at "go"
    obtain rfl := hw rfl
    refine h _ a' l' c' ⟨⟨tk, by walk_at "sg"⟩, by walk_at "sg", by walk_at "sg", N.fa, N.fl, N.fc, N.al, N.ac, N.lc, fun b h1 h2 h3 => ?_⟩
    rw [Store.set_ne _ _ h2, N.same b h1 h2 h3]
  | false =>
    walk_at "go"
    have n6 := ne_fresh ec N.fl
    refine w_extend0 (by walk_at "sg") (Store.set_off n6 (hs _ _ ec)) (by omega) ?_
    walk_at "go"
    refine h _ a' l' c' ⟨⟨tk, by walk_at "sg"⟩, by walk_at "sg", by walk_at "sg", N.fa, N.fl, N.fc, N.al, N.ac, N.lc, fun b h1 h2 h3 => ?_⟩
    rw [Store.set_ne _ _ h3, Store.set_ne _ _ h2, N.same b h1 h2 h3]
theorem weave_strip (kids : List Kd) (xs : List El) : weave (kids.map fun k => { k with fp := [] }) xs = weave kids xs := by
  induction kids generalizing xs with
  | nil => rfl
  | cons k kids ih => cases xs <;> simp [weave, ih]
theorem flat_strip (kids : List Kd) : (kids.map fun k => { k with fp := [] }).flatMap Kd.fp = [] := by
  induction kids with
  | nil => rfl
  | cons k kids ih => simp [List.flatMap_cons]
/-- the copy of a node of the still store is a node of one's own -/
theorem NewNode.own {Z σ' : Store} {cr cr0 : Addr} {t h : Nat} {a0 l0 c0 a l c : Addr} {xs : List El} {kids : List Kd} (o : Nd Z t (h == 0) (KidT Z t h) cr0 a0 l0 c0 xs kids)
    (N : NewNode σ σ' t cr (h == 0) a l c (xs.map El.r) (kids.map Kd.r)) : Own Z σ' cr t h xs.length a (weave kids xs) [a, l, c] := by
  refine Own_iff.mpr ⟨l, c, xs, kids.map fun k => { k with fp := [] }, ⟨N.node, N.el, ?_, o.hi, by rw [List.length_map]; exact o.num, fun k hk => ?_⟩, (weave_strip _ _).symm, rfl, ?_⟩
  · rw [N.ch, List.map_map]; rfl
  · obtain ⟨k0, hk0, rfl⟩ := List.mem_map.mp hk
    have := o.kid k0 hk0
    cases h with
    | zero => exact this
    | succ h => exact ⟨this.1, .inl ⟨this.2, rfl⟩⟩
  · show _ = a :: l :: c :: _
    rw [flat_strip]
theorem spec_cowOwn {a cr l c : Addr} {t lf : Value} {Q : Value → Store → Prop} (e : σ a = some (nodeC t (.ref cr) lf l c)) (hc : σ cr = some creC) (h : Q .none σ) : Calls g hp 4 (.ref 224) [.ref a, .ref cr] [] σ Q := by
  refine calls_def [("self", .ref a), ("creator", .ref cr)] rfl (by rfl) (fun s _ => BindsTo.of_eq rfl) (locs rfl) (by decide) rfl rfl rfl ?_
  walk_at "enter"
  walk_at "go"
  refine w_isNot_ref hc hc ?_
  walk_at "go"
  refine ite_bneA (fun q => absurd rfl q) fun _ => ?_
  walk_at "go"
  exact h
theorem spec_cowStill {Z : Store} {cr a : Addr} {t h n : Nat} {es : List El} {Q : Value → Store → Prop} (o : Tr Z t h n a es) (hz : Sup Z σ) (hc : σ cr = some creC) (zc : Z cr = none) (t3 : 3 ≤ t) (t4 : t ≤ 4) (els : ∀ e ∈ es, ElOk Z e) (ris : Rising (ksOf es))
    (hQ : ∀ σ' a' fp, OT Z σ' cr t h n a' es fp → Sup σ σ' → (∀ b ∈ fp, σ b = none) → Q (.ref a') σ') : Calls g hp 4 (.ref 224) [.ref a, .ref cr] [] σ Q := by
  obtain ⟨cr0, l, c, xs, kids, nd, hc0, rfl, rfl⟩ := Tr_iff.mp o
  obtain ⟨tk, e0⟩ := nd.node
  have e := hz _ _ e0
  refine calls_def [("self", .ref a), ("creator", .ref cr)] rfl (by rfl) (fun s _ => BindsTo.of_eq rfl) (locs rfl) (by decide) rfl rfl rfl ?_
  walk_at "enter"
  walk_at "go"
  refine w_isNot_ref (hz _ _ hc0) hc ?_
  walk_at "go"
  refine ite_bneA (fun _ => ?_) fun q => by subst q; rw [hc0] at zc; cases zc
  walk_at "go"
  have hi := nd.hi
  have hn := nd.num
  have hw : (h == 0) = true → kids.map Kd.r = [] := fun q => by rw [q, if_pos rfl] at hn; rw [List.length_eq_zero_iff.mp hn]; rfl
  refine w_spec (by assumption) (by assumption) (spec_clone e (hz _ _ nd.el) (hz _ _ nd.ch) hw t3 (by simp; omega) (by simp; split at hn <;> omega) fun σ' a' l' c' N => ?_) (by decide)
  refine hQ σ' a' _ ⟨N.own nd, t3, t4, hz.trans N.sup, N.sup _ _ hc, zc, by simp [ne_fresh hc N.fa, ne_fresh hc N.fl, ne_fresh hc N.fc], ?_, fun b hb => ?_, els, ris⟩ N.sup fun b hb => ?_
  · simp [N.al, N.ac, N.lc]
  · have : σ b = none := by
      simp at hb; rcases hb with rfl | rfl | rfl
      · exact N.fa
      · exact N.fl
      · exact N.fc
    cases q : Z b with
    | none => rfl
    | some cb => rw [hz _ _ q] at this; cases this
  · simp at hb; rcases hb with rfl | rfl | rfl
    · exact N.fa
    · exact N.fl
    · exact N.fc
end
section
variable {g : Gl} {σ : Store} {hp : Option Value → Prop}
theorem find_Node_bool : findIn g.K (.ref cNode) "__bool__" = some none := by kernel_rfl
theorem find_Node_len : findIn g.K (.ref cNode) "__len__" = some none := by kernel_rfl
theorem kid_get {pre post : List Kd} {K : Kd} : ((pre ++ K :: post).map Kd.r)[pre.length]? = some K.r := by simp
theorem kid_set {pre post : List Kd} {K K' : Kd} : ((pre ++ K :: post).map Kd.r).set pre.length K'.r = (pre ++ K' :: post).map Kd.r := by
  simp
/-- maybe_cow_child -/
theorem spec_cowChild {Z : Store} {cr a l c : Addr} {t h : Nat} {xs : List El} {pre post : List Kd} {K : Kd} {i : Int} {k : Tok} {Q : Value → Store → Prop} (o : Nod Z σ cr t (h + 1) a l c xs (pre ++ K :: post)) (hi : i = pre.length)
    (hQ : ∀ σ' K', Nod Z σ' cr t (h + 1) a l c xs (pre ++ K' :: post) → K'.es = K.es → K'.n = K.n → OT Z σ' cr t h K'.n K'.a K'.es K'.fp → Step (fpOf a l c (pre ++ K :: post)) (fpOf a l c (pre ++ K' :: post)) σ σ' → Q (.ref K'.a) σ') : Calls g hp 5 (.ref 112) [.ref a, .int i k] [] σ Q := by
  subst hi
  obtain ⟨tk, e⟩ := o.nd.node
  have ec := o.nd.ch
  have el := o.nd.el
  have hcr := o.cx.crc
  have num := o.nd.num
  have hhi := o.nd.hi
  have t4 := o.cx.t4
  have hlen : (pre ++ K :: post).length < 10 := by rw [num]; simp; omega
  have hlen2 : pre.length < 10 := by simp at hlen; omega
  refine calls_def [("self", .ref a), ("index", .int pre.length k)] rfl (by rfl) (fun s _ => BindsTo.of_eq rfl) (locs rfl) (by decide) rfl rfl rfl ?_
  walk_at "enter"
  walk_at "go"
  refine ⟨rfl, ?_⟩
  walk_at "go"
  refine w_item ec (k := pre.length) (by omega) (by omega) (v := K.r) (by simp) ?_ rfl
  walk_at "go"
  rcases (o.nd.kid K (by simp)).2 with ⟨q, qf⟩ | q
  · -- a child of the still store
    obtain ⟨cr0, l0, c0, xs0, kids0, nd0, hc0, -, -⟩ := Tr_iff.mp q
    obtain ⟨tk0, e0⟩ := nd0.node
    have e0' := o.cx.sup _ _ e0
    walk_at "go"
    refine w_spec (by assumption) (by assumption) (spec_cowStill q o.cx.sup hcr o.cx.zcr o.cx.t3 o.cx.t4 (fun e he => o.cx.els e (mem_weave.mpr (.inl ⟨K, by simp, he⟩))) (o.cx.ris.sub (sub_weave (by simp))) fun σ' a' fp ot hs hf => ?_) (by decide)
    obtain ⟨l', c', xs', kids', nd', -, -, hfp⟩ := ot.open
    obtain ⟨tk', e'⟩ := nd'.nd.node
    walk_at "go"
    refine w_truth_inst e' find_Node_bool find_Node_len ?_
    walk_at "go"
    have ec' := hs _ _ ec
    have ex := hs _ _ e
    refine w_setItem ec' (by omega) (by simp; omega) (by simp only [List.length_map]; omega) ?_
    walk_at "go"
    let K' : Kd := ⟨a', K.es, fp, K.n⟩
    have hc' : c ∉ fp := fun z => by have := hf c z; rw [ec] at this; cases this
    have nn := Nod.swap (σ'' := σ'.set c (.list (((pre ++ K :: post).map Kd.r).set ((pre.length : Nat) : Int).toNat (.ref a')))) (K' := K') o ot (o.kidN (K := K) (by simp)) (by rw [qf]; exact ⟨fun b cb _ e => hs b cb e, fun b hb => .inr (hf b hb)⟩)
      (by rw [Store.set_same, Int.toNat_natCast]; exact congrArg (fun z => some (Cell.list z)) (kid_set (K := K) (K' := K'))) (fun b hb => Store.set_ne _ _ hb) (by rw [weave_es (K := K) (K' := K') rfl]; exact o.cx.ris)
    refine hQ _ K' nn.1 rfl rfl ⟨ot.own.frame fun b hb => Store.set_ne _ _ fun z => hc' (z ▸ hb), ?_⟩ nn.2
    exact (nn.1.kidOT (K := K') (by simp) (ot.own.frame fun b hb => Store.set_ne _ _ fun z => hc' (z ▸ hb))).cx
  · -- a child of one's own
    have ot := o.kidOT (by simp) q
    obtain ⟨l', c', xs', kids', nd', -, -, hfp⟩ := ot.open
    obtain ⟨tk', e'⟩ := nd'.nd.node
    walk_at "go"
    refine w_spec (by assumption) (by assumption) (spec_cowOwn e' hcr ?_) (by decide)
    walk_at "go"
    exact hQ σ K o rfl rfl ot .refl
end
def refOf : Option El → Value
  | some e => e.r
  | none => .none
section
variable {g : Gl} {t : Nat}
theorem Nd.xlen {S : Store} {lf : Bool} {P : Kd → Prop} {cr a l c : Addr} {xs : List El} {kids : List Kd} (o : Nd S t lf P cr a l c xs kids) (t4 : t ≤ 4) : (xs.map El.r).length < 10 := by
  have := o.hi; rw [List.length_map]; omega
theorem Nd.klen {S : Store} {lf : Bool} {P : Kd → Prop} {cr a l c : Addr} {xs : List El} {kids : List Kd} (o : Nd S t lf P cr a l c xs kids) (t4 : t ≤ 4) : (kids.map Kd.r).length < 10 := by
  have := o.hi; have := o.num; rw [List.length_map]; split at this <;> omega
theorem spec_get {key : Int} {kt : Tok} (t4 : t ≤ 4) : ∀ (h : Nat) {σ : Store} {n : Nat} {a : Addr} {es : List El} {Q : Value → Store → Prop}, Tr σ t h n a es → (∀ e ∈ es, ElOk σ e) → Rising (ksOf es) → (∀ σ', Sup σ σ' → Q (refOf (look key es)) σ') → Calls g hpN (h + 3) (.ref 126) [.ref a, .int key kt] [] σ Q := by
  intro h
  induction h with
  | zero =>
    intro σ n a es Q o els ris hQ
    obtain ⟨cr, l, c, xs, kids, nd, hc, rfl, rfl⟩ := Tr_iff.mp o
    obtain ⟨tk, e⟩ := nd.node
    have e : σ a = some (nodeC (.int t tk) (.ref cr) (.bool true) l c) := e
    have hk : kids = [] := List.length_eq_zero_iff.mp nd.num
    subst hk
    have hl := nd.xlen t4
    have el := nd.el
    have es1 := elts_of (xs := xs) els
    have ris : Rising (ksOf xs) := ris
    obtain ⟨xl, xr, rfl, hp, hlt, hcase⟩ := place key xs
    refine calls_def [("self", .ref a), ("key", .int key kt)] rfl (by rfl) (fun s _ => BindsTo.of_eq rfl) (locs rfl) (by decide) rfl rfl rfl ?_
    walk_at "enter"
    walk_at "go"
    refine w_spec (by assumption) (by assumption) (spec_search e el es1 ris (by omega) fun tp it htp => ?_) (by decide)
    rw [hp]
    rcases hcase with ⟨hb, x, r, rfl, hk⟩ | ⟨hb, hgt⟩
    · rw [hb]
      have hs := Sup.new (.tup [.int xl.length it, .bool true]) htp
      walk_at "go"
      walk_at "unp"
      walk_at "go"
      refine w_item (hs _ _ el) (k := xl.length) (by omega) (by simp at hl; omega) (v := x.r) (by simp) ?_ rfl
      walk_at "go"
      have := hQ _ hs
      have e1 : look key (weave [] (xl ++ x :: r)) = some x := look_hit ris (by simp) hk
      rw [e1] at this; exact this
    · rw [hb]
      have hs := Sup.new (.tup [.int xl.length it, .bool false]) htp
      walk_at "go"
      walk_at "unp"
      walk_at "go"
      have := hQ _ hs
      have e1 : look key (weave [] (xl ++ xr)) = none := look_none hlt (gt_xs (Rising.right ris) hgt)
      rw [e1] at this; exact this
  | succ h ih =>
    intro σ n a es Q o els ris hQ
    obtain ⟨cr, l, c, xs, kids, nd, hc, rfl, rfl⟩ := Tr_iff.mp o
    obtain ⟨tk, e⟩ := nd.node
    have e : σ a = some (nodeC (.int t tk) (.ref cr) (.bool false) l c) := e
    have hl := nd.xlen t4
    have hl2 := nd.klen t4
    have el := nd.el
    have ec := nd.ch
    have num := nd.num
    have es1 := elts_of fun e he => els e (mem_weave.mpr (.inr he))
    have ris1 := ris.sub xs_weave
    obtain ⟨xl, xr, rfl, hp, hlt, hcase⟩ := place key xs
    refine calls_def [("self", .ref a), ("key", .int key kt)] rfl (by rfl) (fun s _ => BindsTo.of_eq rfl) (locs rfl) (by decide) rfl rfl rfl ?_
    walk_at "enter"
    walk_at "go"
    refine w_spec (by assumption) (by assumption) (spec_search e el es1 ris1 (by omega) fun tp it htp => ?_) (by omega)
    rw [hp]
    rcases hcase with ⟨hb, x, r, rfl, hk⟩ | ⟨hb, hgt⟩
    · rw [hb]
      have hs := Sup.new (.tup [.int xl.length it, .bool true]) htp
      walk_at "go"
      walk_at "unp"
      walk_at "go"
      refine w_item (hs _ _ el) (k := xl.length) (by omega) (by simp at hl; omega) (v := x.r) (by simp) ?_ rfl
      walk_at "go"
      have := hQ _ hs
      rw [look_hit ris (x := x) (mem_weave.mpr (.inr (by simp))) hk] at this; exact this
    · rw [hb]
      have hs := Sup.new (.tup [.int xl.length it, .bool false]) htp
      obtain ⟨pre, K, post, rfl, hpre, hpost⟩ := kid_split (by simpa using num)
      obtain ⟨c1, c2⟩ := cut hpre hpost ris hlt hgt
      have hK := (nd.kid K (by simp)).2
      obtain ⟨crK, lK, cK, xsK, kidsK, ndK, -⟩ := Tr_iff.mp hK
      obtain ⟨tkK, eK⟩ := ndK.node
      walk_at "go"
      walk_at "unp"
      walk_at "go"
      refine w_item (hs _ _ ec) (k := xl.length) (by omega) (by simp at hl; omega) (v := K.r) (by simp [hpre]) ?_ rfl
      walk_at "go"
      refine w_spec (by assumption) (by assumption) (ih (hK.sup hs) (fun e he => (els e (mem_weave.mpr (.inl ⟨K, by simp, he⟩))).sup hs) (ris.sub (sub_weave (by simp))) fun σ' hs' => ?_) (by omega)
      walk_at "go"
      have := hQ _ (hs.trans hs')
      rw [weave_mid hpre, look_app c1 c2] at this; exact this
end
theorem Store.set_none_iff {σ : Store} {a l : Addr} {c : Cell} : σ.set a c l = none ↔ l ≠ a ∧ σ l = none := ⟨Store.set_none, fun h => by rw [Store.set_ne _ _ h.1]; exact h.2⟩
theorem Sup.none {σ σ' : Store} {a : Addr} (h : Sup σ σ') (e : σ' a = none) : σ a = none := by
  cases q : σ a with
  | none => rfl
  | some c => rw [h _ _ q] at e; cases e
section
variable {g : Gl} {x : Fx} {σ σ₀ : Store} {m : Loc} {E : Value → Heap → Prop} {Q : Value → Store → Loc → Prop}
theorem w_listCopyA {a : Addr} {vs : List Value} (h0 : Sup σ₀ σ) (e : σ a = some (.list vs)) (hz : vs.length ≤ sizeLine) (h : ∀ l σ', σ₀ l = none → Sup σ₀ σ' → σ' l = some (.list vs) → Q (.ref l) σ' m) : W g x (call (.type "list") [.ref a]) σ m Q E :=
  w_listCopy e hz fun l hl => h l _ (h0.none hl) (h0.trans (Sup.new _ hl)) (Store.set_same _ _ _)
theorem w_newTupleA {vs : List Value} (h0 : Sup σ₀ σ) (hz : vs.length ≤ sizeLine) (h : ∀ l σ', σ₀ l = none → Sup σ₀ σ' → σ' l = some (.tup vs) → Q (.ref l) σ' m) : W g x (newTuple vs) σ m Q E :=
  w_newTuple hz fun l hl => h l _ (h0.none hl) (h0.trans (Sup.new _ hl)) (Store.set_same _ _ _)
theorem w_newListA {vs : List Value} (h0 : Sup σ₀ σ) (hz : vs.length ≤ sizeLine) (h : ∀ l σ', σ₀ l = none → Sup σ₀ σ' → σ' l = some (.list vs) → Q (.ref l) σ' m) : W g x (newList vs) σ m Q E :=
  w_newList hz fun l hl => h l _ (h0.none hl) (h0.trans (Sup.new _ hl)) (Store.set_same _ _ _)
end
theorem weave_two {kl kr : List Kd} {xl xr : List El} {m : El} (h : kl.length = xl.length + 1) : weave (kl ++ kr) (xl ++ m :: xr) = weave kl xl ++ m :: weave kr xr := by
  induction kl generalizing xl with
  | nil => simp at h
  | cons k kl ih =>
    cases xl with
    | nil =>
      have : kl = [] := List.length_eq_zero_iff.mp (by simpa using h)
      subst this
      simp [weave]
    | cons x xl =>
      have := ih (xl := xl) (by simpa using h)
      simp only [List.cons_append, weave, this, List.append_assoc]
theorem nodup_two {P Q : List Addr} {σ : Store} {a d' cl r d crr c : Addr} (hn : (a :: c :: (P ++ Q)).Nodup) (lv : ∀ b ∈ P ++ Q, σ b ≠ none) (ha : σ a ≠ none) (hc : σ c ≠ none) (f1 : σ d' = none) (f2 : σ r = none) (f3 : σ d = none) (f4 : σ crr = none) (fcl : cl = c ∨ σ cl = none)
    (ne : [d', cl, r, d, crr].Nodup) : ((a :: d' :: cl :: P) ++ (r :: d :: crr :: Q)).Nodup := by
  have hx : ∀ b, σ b = none → b ∉ P ∧ b ∉ Q ∧ b ≠ a ∧ b ≠ c := fun b hb => ⟨fun q => lv b (by simp [q]) hb, fun q => lv b (by simp [q]) hb, fun q => ha (q ▸ hb), fun q => hc (q ▸ hb)⟩
  have h1 := hx _ f1
  have h2 := hx _ f2
  have h3 := hx _ f3
  have h4 := hx _ f4
  have h5 : cl ∉ P ∧ cl ∉ Q ∧ cl ≠ a := by
    rcases fcl with rfl | q
    · simp only [List.nodup_cons, List.mem_cons, List.mem_append, not_or] at hn
      exact ⟨hn.2.1.1, hn.2.1.2, Ne.symm hn.1.1⟩
    · have := hx _ q; exact ⟨this.1, this.2.1, this.2.2.1⟩
  clear lv ha hc f1 f2 f3 f4 fcl hx
  simp only [List.nodup_cons, List.mem_cons, List.mem_append, List.nodup_append, List.not_mem_nil, not_or, not_false_iff, and_true, List.nodup_nil, List.cons_append] at hn ne ⊢
  grind
theorem split_fin {Z σ σ' : Store} {cr a l c d' cl r d crr : Addr} {t h : Nat} {xs : List El} {kids : List Kd} (o : Nod Z σ cr t h a l c xs kids) (hm : t - 1 < xs.length) (hx : xs.length = 2 * t - 1)
    (chain : ∀ b cb, b ≠ a → σ b = some cb → σ' b = some cb) (eA : ∃ tk, σ' a = some (nodeC (.int t tk) (.ref cr) (.bool (h == 0)) d' cl)) (e1 : σ' d' = some (.list (List.take (t - 1) (xs.map El.r)))) (e2 : σ' cl = some (.list (List.take t (kids.map Kd.r))))
    (eR : ∃ tk, σ' r = some (nodeC (.int t tk) (.ref cr) (.bool (h == 0)) d crr)) (e3 : σ' d = some (.list (List.drop t (xs.map El.r)))) (e4 : σ' crr = some (.list (List.drop t (kids.map Kd.r))))
    (f1 : σ d' = none) (f2 : σ r = none) (f3 : σ d = none) (f4 : σ crr = none) (fcl : cl = c ∨ σ cl = none) (ne : [d', cl, r, d, crr].Nodup) :
    ∃ L R : Kd, L.a = a ∧ R.a = r ∧ L.n = t - 1 ∧ R.n = t - 1 ∧ L.es ++ xs[t - 1] :: R.es = weave kids xs ∧ Own Z σ' cr t h L.n L.a L.es L.fp ∧ Own Z σ' cr t h R.n R.a R.es R.fp ∧ (L.fp ++ R.fp).Nodup ∧ Step (fpOf a l c kids) (L.fp ++ R.fp) σ σ' := by
  have t3 := o.cx.t3
  have num := o.nd.num
  have hk : ∀ k ∈ kids, KidP Z σ' cr t h k := fun k hk => (o.nd.kid k hk).frame fun b hb => by
    obtain ⟨cb, e⟩ := (o.nd.kid k hk).live b hb
    rw [e]; refine chain b cb (fun q => ?_) e
    subst q
    have := o.cx.nd
    simp only [fpOf, List.nodup_cons, List.mem_cons, not_or, List.mem_flatMap, not_exists, not_and] at this
    exact this.1.2.2 k hk hb
  have hsplit : kids.flatMap Kd.fp = (kids.take t).flatMap Kd.fp ++ (kids.drop t).flatMap Kd.fp := by rw [← List.flatMap_append, List.take_append_drop]
  refine ⟨⟨a, weave (kids.take t) (xs.take (t - 1)), fpOf a d' cl (kids.take t), t - 1⟩, ⟨r, weave (kids.drop t) (xs.drop t), fpOf r d crr (kids.drop t), t - 1⟩, rfl, rfl, rfl, rfl, ?_, ?_, ?_, ?_, ?_⟩
  · have hxs : xs = xs.take (t - 1) ++ xs[t - 1] :: xs.drop t := by
      conv => lhs; rw [← List.take_append_drop (t - 1) xs, List.drop_eq_getElem_cons hm]
      rw [show t - 1 + 1 = t by omega]
    conv => rhs; rw [hxs]
    cases h with
    | zero =>
      have hk0 : kids = [] := List.length_eq_zero_iff.mp num
      subst hk0
      simp [weave]
    | succ h =>
      have hn : kids.length = xs.length + 1 := num
      conv => rhs; rw [← List.take_append_drop t kids]
      rw [weave_two (by simp; omega)]
  · refine Own_iff.mpr ⟨d', cl, xs.take (t - 1), kids.take t, ⟨eA, by rw [e1, List.map_take], by rw [e2, List.map_take], by simp; omega, ?_, fun k q => hk k (List.take_subset _ _ q)⟩, rfl, by simp; omega, rfl⟩
    rw [List.length_take, List.length_take, num]; split <;> omega
  · refine Own_iff.mpr ⟨d, crr, xs.drop t, kids.drop t, ⟨eR, by rw [e3, List.map_drop], by rw [e4, List.map_drop], by simp; omega, ?_, fun k q => hk k (List.drop_subset _ _ q)⟩, rfl, by simp; omega, rfl⟩
    rw [List.length_drop, List.length_drop, num]; split <;> omega
  · refine nodup_two (σ := σ) (c := c) ?_ (fun b hb => ?_) ?_ ?_ f1 f2 f3 f4 fcl ne
    · have := o.cx.nd
      rw [fpOf, hsplit] at this
      exact this.sublist (.cons_cons _ (.cons _ (.refl _)))
    · obtain ⟨cb, e⟩ := o.live b (by rw [fpOf, hsplit]; simp only [List.mem_cons]; exact .inr (.inr (.inr hb)))
      rw [e]; simp
    · obtain ⟨tk, e⟩ := o.nd.node; rw [e]; simp
    · rw [o.nd.ch]; simp
  · refine ⟨fun b cb hb e => chain b cb (fun q => hb (by simp [fpOf, q])) e, fun b hb => ?_⟩
    simp only [fpOf, hsplit, List.mem_append, List.mem_cons] at hb ⊢
    rcases hb with (q | q | q | q) | (q | q | q | q)
    · exact .inl (.inl q)
    · exact .inr (q ▸ f1)
    · rcases fcl with r | r
      · exact .inl (.inr (.inr (.inl (q.trans r))))
      · exact .inr (q ▸ r)
    · exact .inl (.inr (.inr (.inr (.inl q))))
    · exact .inr (q ▸ f2)
    · exact .inr (q ▸ f3)
    · exact .inr (q ▸ f4)
    · exact .inl (.inr (.inr (.inr (.inr q))))
section
variable {g : Gl} {t : Nat} {hp : Option Value → Prop}
theorem spec_min (t3 : 3 ≤ t) (t4 : t ≤ 4) : ∀ (h : Nat) {σ : Store} {n : Nat} {a : Addr} {es : List El} {Q : Value → Store → Prop}, Tr σ t h n a es → 1 ≤ n → (∀ e rest, es = e :: rest → Q e.r σ) → Calls g hp (h + 1) (.ref 182) [.ref a] [] σ Q := by
  intro h
  induction h with
  | zero =>
    intro σ n a es Q o hn hQ
    obtain ⟨cr, l, c, xs, kids, nd, hc, rfl, rfl⟩ := Tr_iff.mp o
    obtain ⟨tk, e⟩ := nd.node
    have e : σ a = some (nodeC (.int t tk) (.ref cr) (.bool true) l c) := e
    have hk : kids = [] := List.length_eq_zero_iff.mp nd.num
    subst hk
    have el := nd.el
    cases xs with
    | nil => simp at hn
    | cons x xs =>
      refine calls_def [("self", .ref a)] rfl (by rfl) (fun s _ => BindsTo.of_eq rfl) (locs rfl) (by decide) rfl rfl rfl ?_
      walk_at "enter"
      walk_at "go"
      refine w_item el (k := 0) (by omega) (by omega) (v := x.r) (by simp) ?_ rfl
      walk_at "go"
      exact hQ x xs rfl
  | succ h ih =>
    intro σ n a es Q o hn hQ
    obtain ⟨cr, l, c, xs, kids, nd, hc, rfl, rfl⟩ := Tr_iff.mp o
    obtain ⟨tk, e⟩ := nd.node
    have e : σ a = some (nodeC (.int t tk) (.ref cr) (.bool false) l c) := e
    have el := nd.el
    have ec := nd.ch
    have num := nd.num
    cases kids with
    | nil => simp at num
    | cons K kids =>
      have hK := nd.kid K (.head _)
      obtain ⟨crK, lK, cK, xsK, kidsK, ndK, -⟩ := Tr_iff.mp hK.2
      obtain ⟨tkK, eK⟩ := ndK.node
      refine calls_def [("self", .ref a)] rfl (by rfl) (fun s _ => BindsTo.of_eq rfl) (locs rfl) (by decide) rfl rfl rfl ?_
      walk_at "enter"
      walk_at "go"
      refine w_item ec (k := 0) (by omega) (by omega) (v := K.r) (by simp) ?_ rfl
      walk_at "go"
      refine w_spec (by assumption) (by assumption) (ih hK.2 (by have := hK.1; omega) fun x rest hx => ?_) (by omega)
      walk_at "go"
      exact hQ x (rest ++ tlW kids xs) (by rw [weave_cons, hx]; rfl)
theorem spec_split {Z σ : Store} {cr a l c : Addr} {h : Nat} {xs : List El} {kids : List Kd} {Q : Value → Store → Prop} (o : Nod Z σ cr t h a l c xs kids) (hx : xs.length = 2 * t - 1)
    (hQ : ∀ (σ' : Store) (tp : Addr) (L R : Kd) (m : El), σ' tp = some (.tup [.ref a, El.r m, .ref R.a]) → L.a = a → L.n = t - 1 → R.n = t - 1 → L.es ++ m :: R.es = weave kids xs → Own Z σ' cr t h L.n L.a L.es L.fp → Own Z σ' cr t h R.n R.a R.es R.fp → (L.fp ++ R.fp).Nodup → Step (fpOf a l c kids) (L.fp ++ R.fp) σ σ' → Q (.ref tp) σ') :
    Calls g hp 3 (.ref 147) [.ref a] [] σ Q := by
  obtain ⟨tk, e⟩ := o.nd.node
  have el := o.nd.el
  have ec := o.nd.ch
  have t3 := o.cx.t3
  have t4 := o.cx.t4
  have num := o.nd.num
  obtain ⟨n1, n2, n3⟩ := o.ne
  refine calls_def [("self", .ref a)] rfl (by rfl) (fun s _ => BindsTo.of_eq rfl) (locs rfl) (by decide) rfl rfl rfl ?_
  walk_at "enter"
  walk_at "go"
  refine w_spec (by assumption) (by assumption) (spec_isMax e el (by simp; omega) (by omega) (by omega) ?_) (by decide)
  rw [show (((xs.map El.r).length : Int) == 2 * (t : Int) - 1) = true by simp; omega]
  walk_at "go"
  refine ⟨rfl, ?_⟩
  walk_at "go"
  refine w_spec (by assumption) (by assumption) (spec_newNode t3 fun σ1 r lr cr1 N => ?_) (by decide)
  have hs := N.sup
  obtain ⟨tkr, er⟩ := N.node
  walk_at "go"
  refine w_spec (by assumption) (by assumption) (spec_MIN fun _ => ?_) (by decide)
  walk_at "go"
  intro s1 hs1
  walk_at "go"
  refine w_sliced (vs := xs.map El.r) (by walk_at "sg") (Store.set_same _ _ _) (.int _ _) .none (by walk_at "sz") rfl fun d1 hd1 => ?_
  rw [slice_from _ _ (by omega), show ((t : Int) - 1 + 1).toNat = t by omega]
  walk_at "go"
  refine w_listCopyA (σ₀ := σ1) ((Sup.new _ hs1).trans (Sup.new _ hd1)) (Store.set_same _ _ _) (by walk_at "sz") fun d σ2 hd S2 ed => ?_
  have nar := ne_fresh e N.fa
  have nal := ne_fresh e N.fl
  have nac := ne_fresh e N.fc
  have ndr := ne_fresh er hd
  have ela := ne_fresh el N.fa
  have eca := ne_fresh ec N.fa
  walk_at "go"
  refine w_spec (by assumption) (by assumption) (spec_MIN fun _ => ?_) (by decide)
  walk_at "go"
  have hm : t - 1 < xs.length := by omega
  refine w_item (vs := xs.map El.r) (k := t - 1) (by walk_at "sg") (by omega) (by omega) (v := El.r xs[t - 1]) (by rw [show ((t : Int) - 1).toNat = t - 1 by omega, List.getElem?_map, List.getElem?_eq_getElem hm]; rfl) ?_ rfl
  walk_at "go"
  refine w_spec (by assumption) (by assumption) (spec_MIN fun _ => ?_) (by decide)
  walk_at "go"
  intro s2 hs2
  walk_at "go"
  refine w_sliced (vs := xs.map El.r) (by walk_at "sg") (Store.set_same _ _ _) .none (.int _ _) (by walk_at "sz") rfl fun d2 hd2 => ?_
  rw [slice_upto _ _ (by omega), show ((t : Int) - 1).toNat = t - 1 by omega]
  walk_at "go"
  refine w_listCopyA ((Sup.new _ hs2).trans (Sup.new _ hd2)) (Store.set_same _ _ _) (by walk_at "sz") fun d' σ3 hd' S3 ed' => ?_
  walk_at "go"
  have nd'r : d' ≠ r := fun q => by subst q; rw [Store.set_same] at hd'; cases hd'
  have fd' : σ2 d' = none := (Store.set_none hd').2
  have nd'a : a ≠ d' := ne_fresh (S2 _ _ (hs _ _ e)) fd'
  have nda : a ≠ d := ne_fresh (hs _ _ e) hd
  cases h with
  | zero =>
    have hk : kids = [] := List.length_eq_zero_iff.mp num
    subst hk
    walk_at "go"
    refine w_newTupleA (Sup.refl _) (Nat.le_of_ble_eq_true rfl) fun tp σ6 htp S6 etp => ?_
    walk_at "go"
    have chain : ∀ b cb, b ≠ a → σ b = some cb → σ6 b = some cb := fun b cb hb q => S6 _ _ (Store.set_off hb (S3 _ _ (Store.set_off (ne_fresh q N.fa) (S2 _ _ (hs _ _ q)))))
    have hne : [d', c, r, d, cr1].Nodup := by
      have q1 := ne_fresh ec (hs.none (S2.none fd'))
      have q2 : d ≠ d' := ne_fresh ed fd'
      have q3 : cr1 ≠ d' := ne_fresh (S2 _ _ N.ch) fd'
      have q4 := ne_fresh ec (hs.none hd)
      have q5 := ne_fresh ec N.fc
      have q6 := N.ac
      have q7 := ne_fresh N.ch hd
      simp only [List.nodup_cons, List.mem_cons, List.not_mem_nil, not_or, not_false_iff, and_true, List.nodup_nil]
      exact ⟨⟨q1.symm, nd'r, q2.symm, q3.symm⟩, ⟨eca, q4, q5⟩, ⟨ndr, q6⟩, q7.symm⟩
    obtain ⟨L, R, h1, h2, h3, h4, h5, h6, h7, h8, h9⟩ := split_fin (σ' := σ6) (d' := d') (cl := c) (r := r) (d := d) (crr := cr1) o hm hx chain ⟨_, S6 _ _ (Store.set_same _ _ _)⟩ (S6 _ _ (Store.set_off nd'a.symm ed')) (by simpa using chain _ _ n2.symm ec)
      ⟨_, S6 _ _ (Store.set_off nar.symm (S3 _ _ (Store.set_same _ _ _)))⟩ (S6 _ _ (Store.set_off nda.symm (S3 _ _ (Store.set_off ndr.symm ed)))) (by simpa using S6 _ _ (Store.set_off nac.symm (S3 _ _ (Store.set_off N.ac.symm (S2 _ _ N.ch)))))
      (hs.none (S2.none fd')) N.fa (hs.none hd) N.fc (.inl rfl) hne
    exact hQ σ6 tp L R _ (by rw [h2]; exact etp) h1 h3 h4 h5 h6 h7 h8 h9
  | succ h =>
    have hn : kids.length = xs.length + 1 := num
    walk_at "go"
    refine w_spec (by assumption) (by assumption) (spec_MIN fun _ => ?_) (by decide)
    walk_at "go"
    intro s3 hs3
    have nca : c ≠ a := n2.symm
    walk_at "go"
    refine w_sliced (vs := kids.map Kd.r) (by walk_at "sg") (Store.set_same _ _ _) (.int _ _) .none (by walk_at "sz") rfl fun d3 hd3 => ?_
    rw [slice_from _ _ (by omega), show ((t : Int) - 1 + 1).toNat = t by omega]
    walk_at "go"
    refine w_listCopyA ((Sup.new _ hs3).trans (Sup.new _ hd3)) (Store.set_same _ _ _) (by walk_at "sz") fun d4 σ4 hd4 S4 ed4 => ?_
    walk_at "go"
    refine w_spec (by assumption) (by assumption) (spec_MIN fun _ => ?_) (by decide)
    walk_at "go"
    intro s4 hs4
    walk_at "go"
    refine w_sliced (vs := kids.map Kd.r) (by walk_at "sg") (Store.set_same _ _ _) .none (.int _ _) (by walk_at "sz") rfl fun d5 hd5 => ?_
    rw [slice_upto _ _ (by omega), show ((t : Int) - 1 + 1).toNat = t by omega]
    walk_at "go"
    refine w_listCopyA ((Sup.new _ hs4).trans (Sup.new _ hd5)) (Store.set_same _ _ _) (by walk_at "sz") fun d6 σ5 hd6 S5 ed6 => ?_
    walk_at "go"
    refine w_newTupleA (Sup.refl _) (Nat.le_of_ble_eq_true rfl) fun tp σ6 htp S6 etp => ?_
    walk_at "go"
    have chain : ∀ b cb, b ≠ a → σ b = some cb → σ6 b = some cb := fun b cb hb q =>
      have hr := ne_fresh q N.fa
      S6 _ _ (Store.set_off hb (S5 _ _ (Store.set_off hr (S4 _ _ (Store.set_off hb (S3 _ _ (Store.set_off hr (S2 _ _ (hs _ _ q)))))))))
    obtain ⟨m1, k1⟩ := Store.set_none hd4
    obtain ⟨m2, k2⟩ := Store.set_none (S3.none k1)
    obtain ⟨m3, k3⟩ := Store.set_none hd6
    obtain ⟨m4, k4⟩ := Store.set_none (S4.none k3)
    have k5 := (Store.set_none (S3.none k4)).2
    have hne : [d', d6, r, d, d4].Nodup := by
      have q1 := ne_fresh ed' k4
      have q2 : d ≠ d' := ne_fresh ed fd'
      have q3 := ne_fresh ed' k1
      have q4 := ne_fresh ed k5
      have q5 := ne_fresh ed4 k3
      have q7 := ne_fresh ed k2
      simp only [List.nodup_cons, List.mem_cons, List.not_mem_nil, not_or, not_false_iff, and_true, List.nodup_nil]
      exact ⟨⟨q1, nd'r, q2.symm, q3⟩, ⟨m3, q4.symm, q5.symm⟩, ⟨ndr, m2.symm⟩, q7⟩
    have up : ∀ b cb, b ≠ a → b ≠ r → σ3 b = some cb → σ6 b = some cb := fun b cb hb hr q => S6 _ _ (Store.set_off hb (S5 _ _ (Store.set_off hr (S4 _ _ (Store.set_off hb q)))))
    obtain ⟨L, R, h1, h2, h3, h4, h5, h6, h7, h8, h9⟩ := split_fin (σ' := σ6) (d' := d') (cl := d6) (r := r) (d := d) (crr := d4) o hm hx chain ⟨_, S6 _ _ (Store.set_same _ _ _)⟩ (up _ _ nd'a.symm nd'r ed') (S6 _ _ (Store.set_off m4 ed6))
      ⟨_, S6 _ _ (Store.set_off nar.symm (S5 _ _ (Store.set_same _ _ _)))⟩ (up _ _ nda.symm ndr.symm (S3 _ _ (Store.set_off ndr.symm ed))) (S6 _ _ (Store.set_off m1 (S5 _ _ (Store.set_off m2 ed4))))
      (hs.none (S2.none fd')) N.fa (hs.none hd) (hs.none (S2.none k2)) (.inr (hs.none (S2.none k5))) hne
    exact hQ σ6 tp L R _ (by rw [h2]; exact etp) h1 h3 h4 h5 h6 h7 h8 h9
end
section
variable {g : Gl} {t : Nat}
theorem spec_adopt {σ : Store} {a l c ra : Addr} {tk : Tok} {cr : Value} {xs : List El} {pre post : List Kd} {K : Kd} {m : El} {fs : List (Str × Value)} {Q : Value → Store → Prop} (t3 : 3 ≤ t) (t4 : t ≤ 4) (e : σ a = some (nodeC (.int t tk) cr (.bool false) l c)) (el : σ l = some (.list (xs.map El.r))) (ec : σ c = some (.list ((pre ++ K :: post).map Kd.r))) (hlc : l ≠ c)
    (hx : xs.length < 2 * t - 1) (hk : (pre ++ K :: post).length = xs.length + 1) (els : ∀ x ∈ xs, ElOk σ x) (ris : Rising (ksOf xs)) (hm : ElOk σ m) (hp : posOf m.k (ksOf xs) = pre.length) (hb : isAt m.k (ksOf xs) = false) (eK : σ K.a = some (.inst cNode fs))
    (hQ : ∀ σ', σ' l = some (.list ((xs.take pre.length ++ m :: xs.drop pre.length).map El.r)) → σ' c = some (.list (pre.map Kd.r ++ K.r :: .ref ra :: post.map Kd.r)) → (∀ b cb, b ≠ l → b ≠ c → σ b = some cb → σ' b = some cb) → Q .none σ') :
    Calls g hpN 3 (.ref 168) [.ref a, .ref K.a, El.r m, .ref ra] [] σ Q := by
  obtain ⟨mk, mv, em⟩ := hm
  have es1 := elts_of els
  have nal : a ≠ l := ne_cell e el (fun q => by cases q)
  have nac : a ≠ c := ne_cell e ec (fun q => by cases q)
  have nKl : K.a ≠ l := ne_cell eK el (fun q => by cases q)
  have nKc : K.a ≠ c := ne_cell eK ec (fun q => by cases q)
  have hk' : pre.length + post.length = xs.length := by simp at hk; omega
  refine calls_def [("self", .ref a), ("left", .ref K.a), ("middle", El.r m), ("right", .ref ra)] rfl (by rfl) (fun s _ => BindsTo.of_eq rfl) (locs rfl) (by decide) rfl rfl rfl ?_
  walk_at "enter"
  walk_at "go"
  refine w_spec (by assumption) (by assumption) (spec_isMax e el (by simp; omega) (by omega) (by omega) ?_) (by decide)
  rw [show (((xs.map El.r).length : Int) == 2 * (t : Int) - 1) = false by simp; omega]
  walk_at "go"
  refine ⟨rfl, ?_⟩
  walk_at "go"
  refine ⟨rfl, ?_⟩
  walk_at "go"
  refine w_spec (by assumption) (by assumption) (spec_key em rfl ?_) (by decide)
  walk_at "go"
  refine w_spec (by assumption) (by assumption) (spec_search e el es1 ris (by simp; omega) fun tp it htp => ?_) (by decide)
  rw [hp, hb]
  have hs := Sup.new (.tup [.int pre.length it, .bool false]) htp
  walk_at "go"
  walk_at "unp"
  walk_at "go"
  refine ⟨rfl, ?_⟩
  walk_at "go"
  refine w_insert (vs := xs.map El.r) (by walk_at "sg") (by omega) (by simp; omega) (by walk_at "sz") ?_
  walk_at "go"
  rw [show (((pre ++ K :: post).map Kd.r).length : Int) = (pre.length + post.length + 1 : Nat) by simp; omega]
  refine ite_beq (fun q => by omega) fun _ => ?_
  walk_at "go"
  refine w_item (vs := (pre ++ K :: post).map Kd.r) (k := pre.length) (by walk_at "sg") (by omega) (by omega) (v := K.r) (by simp) ?_ rfl
  walk_at "go"
  refine w_eqSame cmp_Node (by walk_at "sg") ?_
  walk_at "go"
  refine ⟨rfl, ?_⟩
  walk_at "go"
  refine w_insert (vs := (pre ++ K :: post).map Kd.r) (by walk_at "sg") (by omega) (by simp; omega) (by walk_at "sz") ?_
  walk_at "go"
  refine hQ _ ?_ ?_ fun b cb h1 h2 q => Store.set_off h2 (Store.set_off h1 (hs _ _ q))
  · refine Store.set_off hlc ?_
    rw [Store.set_same]; simp
  · rw [Store.set_same, show ((pre.length : Int) + 1).toNat = pre.length + 1 by omega, show (pre ++ K :: post).map Kd.r = (pre.map Kd.r ++ [K.r]) ++ post.map Kd.r by simp, List.take_left' (by simp), List.drop_left' (by simp)]; simp

/-- adopt of a new root -/
theorem spec_adopt0 {σ : Store} {a l c la ra : Addr} {tk : Tok} {cr : Value} {m : El} {Q : Value → Store → Prop} (t3 : 3 ≤ t) (t4 : t ≤ 4) (e : σ a = some (nodeC (.int t tk) cr (.bool false) l c)) (el : σ l = some (.list [])) (ec : σ c = some (.list [])) (hlc : l ≠ c) (hm : ElOk σ m)
    (hQ : ∀ σ' c', σ c' = none → σ' a = some (nodeC (.int t tk) cr (.bool false) l c') → σ' l = some (.list [m.r]) → σ' c' = some (.list [.ref la, .ref ra]) → (∀ b cb, b ≠ a → b ≠ l → σ b = some cb → σ' b = some cb) → Q .none σ') :
    Calls g hpN 3 (.ref 168) [.ref a, .ref la, El.r m, .ref ra] [] σ Q := by
  obtain ⟨mk, mv, em⟩ := hm
  have nal : a ≠ l := ne_cell e el (fun q => by cases q)
  have nac : a ≠ c := ne_cell e ec (fun q => by cases q)
  refine calls_def [("self", .ref a), ("left", .ref la), ("middle", El.r m), ("right", .ref ra)] rfl (by rfl) (fun s _ => BindsTo.of_eq rfl) (locs rfl) (by decide) rfl rfl rfl ?_
  walk_at "enter"
  walk_at "go"
  refine w_spec (by assumption) (by assumption) (spec_isMax e el (by simp; omega) (by omega) (by omega) ?_) (by decide)
  rw [show ((([] : List Value).length : Int) == 2 * (t : Int) - 1) = false by simp; omega]
  walk_at "go"
  refine ⟨rfl, ?_⟩
  walk_at "go"
  refine ⟨rfl, ?_⟩
  walk_at "go"
  refine w_spec (by assumption) (by assumption) (spec_key em rfl ?_) (by decide)
  walk_at "go"
  refine w_spec (by assumption) (by assumption) (spec_search (ks := []) e el trivial (List.Pairwise.nil) (by simp) fun tp it htp => ?_) (by decide)
  rw [show posOf m.k [] = 0 from rfl, show isAt m.k [] = false from rfl]
  have hs := Sup.new (.tup [.int (0 : Nat) it, .bool false]) htp
  walk_at "go"
  walk_at "unp"
  walk_at "go"
  refine ⟨rfl, ?_⟩
  walk_at "go"
  refine w_insert (vs := []) (by walk_at "sg") (by omega) (by simp) (by walk_at "sz") ?_
  walk_at "go"
  refine ite_beq (fun _ => ?_) fun q => absurd rfl q
  walk_at "go"
  intro c' hc'
  walk_at "go"
  obtain ⟨q1, q2⟩ := Store.set_none hc'
  have q3 := hs.none q2
  have q4 := ne_fresh e q3
  refine hQ _ c' q3 (Store.set_same _ _ _) (Store.set_off nal.symm (Store.set_off q1.symm (Store.set_same _ _ _))) (Store.set_off q4.symm (Store.set_same _ _ _)) fun b cb h1 h2 q => ?_
  exact Store.set_off h1 (Store.set_off (ne_fresh q q3) (Store.set_off h2 (hs _ _ q)))
end
section
variable {g : Gl} {t : Nat} {Z σ : Store} {cr a l c : Addr} {h : Nat}
theorem KidP.own {k : Kd} (q : KidP Z σ cr t (h + 1) k) (hf : k.fp ≠ []) : Own Z σ cr t h k.n k.a k.es k.fp := q.2.elim (fun q => absurd q.2 hf) id
theorem Own.fpne {n : Nat} {es : List El} {fp : List Addr} (q : Own Z σ cr t h n a es fp) : fp ≠ [] := by
  obtain ⟨l, c, xs, kids, h1, h2, h3, h4⟩ := Own_iff.mp q
  rw [h4]; exact List.cons_ne_nil _ _
/-- what can be read of a child -/
theorem Nod.kidRead {xs : List El} {kids : List Kd} (o : Nod Z σ cr t (h + 1) a l c xs kids) {k : Kd} (hk : k ∈ kids) : ∃ tk cr0 lk ck kx kk, σ k.a = some (nodeC (.int t tk) (.ref cr0) (.bool (h == 0)) lk ck) ∧ σ lk = some (.list (List.map El.r kx)) ∧ σ ck = some (.list (List.map Kd.r kk)) ∧ kx.length = k.n ∧ k.n ≤ 2 * t - 1 ∧ t - 1 ≤ k.n := by
  have q := (o.nd.kid k hk).tr o.cx.sup o.cx.crc
  obtain ⟨cr0, lk, ck, kx, kk, nd, -, -, hn⟩ := Tr_iff.mp q.2
  obtain ⟨tk, e⟩ := nd.node
  exact ⟨tk, cr0, lk, ck, kx, kk, e, nd.el, nd.ch, hn.symm, hn ▸ nd.hi, q.1⟩
theorem six {xs : List El} {pre post kks rks : List Kd} {K R : Kd} {ka kl kc ra rl rc : Addr} (o : Nod Z σ cr t (h + 1) a l c xs (pre ++ ([K, R] ++ post))) (hK : K.fp = fpOf ka kl kc kks) (hR : R.fp = fpOf ra rl rc rks) :
    (l ≠ c ∧ l ≠ kl ∧ l ≠ kc ∧ l ≠ rl ∧ l ≠ rc) ∧ (c ≠ kl ∧ c ≠ kc ∧ c ≠ rl ∧ c ≠ rc) ∧ (kl ≠ kc ∧ kl ≠ rl ∧ kl ≠ rc) ∧ (kc ≠ rl ∧ kc ≠ rc) ∧ rl ≠ rc := by
  have nd := o.cx.nd
  have nd2 : (l :: c :: (fpOf ka kl kc kks ++ fpOf ra rl rc rks)).Nodup := by
    have hfp : fpOf ka kl kc kks ++ fpOf ra rl rc rks = [K, R].flatMap Kd.fp := by simp [hK, hR]
    rw [hfp]
    refine nd.sublist (.cons _ (.cons_cons _ (.cons_cons _ ?_)))
    rw [List.flatMap_append, List.flatMap_append]
    exact (List.sublist_append_left _ _).trans (List.sublist_append_right _ _)
  simp only [fpOf, List.nodup_cons, List.mem_cons, List.mem_append, List.cons_append, List.nodup_append, not_or] at nd2
  grind
theorem spec_rsteal {xs : List El} {pre rest : List Kd} {K : Kd} {i : Int} {it : Tok} {Q : Value → Store → Prop} (o : Nod Z σ cr t (h + 1) a l c xs (pre ++ K :: rest)) (hf : K.fp ≠ []) (hn : K.n < 2 * t - 1) (hi : i = pre.length)
    (hF : (rest = [] ∨ ∃ R post, rest = R :: post ∧ R.n = t - 1) → Q (.bool false) σ)
    (hT : ∀ (σ' : Store) (K' R' R : Kd) (post : List Kd) (x y : El) (xl xr : List El), rest = R :: post → xs = xl ++ x :: xr → pre.length = xl.length → Nod Z σ' cr t (h + 1) a l c (xl ++ y :: xr) (pre ++ ([K', R'] ++ post)) →
      Step (fpOf a l c (pre ++ K :: rest)) (fpOf a l c (pre ++ ([K', R'] ++ post))) σ σ' → K'.a = K.a → K'.n = K.n + 1 → R'.n + 1 = R.n → K'.es ++ y :: R'.es = K.es ++ x :: R.es → y ∈ R.es → Own Z σ' cr t h K'.n K'.a K'.es K'.fp → Q (.bool true) σ') :
    Calls g hpN 6 (.ref 161) [.ref K.a, .ref a, .int i it] [] σ Q := by
  subst hi
  obtain ⟨tk, e⟩ := o.nd.node
  have e : σ a = some (nodeC (.int t tk) (.ref cr) (.bool false) l c) := e
  have ec := o.nd.ch
  have el := o.nd.el
  have num : (pre ++ K :: rest).length = xs.length + 1 := o.nd.num
  have hhi := o.nd.hi
  have t3 := o.cx.t3
  have t4 := o.cx.t4
  have hlen : pre.length + rest.length = xs.length := by simp at num; omega
  refine calls_def [("self", .ref K.a), ("parent", .ref a), ("index", .int pre.length it)] rfl (by rfl) (fun s _ => BindsTo.of_eq rfl) (locs rfl) (by decide) rfl rfl rfl ?_
  walk_at "enter"
  walk_at "go"
  refine ite_dec (fun q => ?_) fun q => ?_
  · cases rest with
    | nil => simp at q
    | cons R post =>
      obtain ⟨xl, x, xr, rfl, hxl⟩ : ∃ xl x xr, xs = xl ++ x :: xr ∧ pre.length = xl.length := by
        have hx : pre.length < xs.length := by simp at hlen; omega
        exact ⟨xs.take pre.length, xs[pre.length], xs.drop (pre.length + 1), by rw [← List.drop_eq_getElem_cons hx, List.take_append_drop], by simp; omega⟩
      have hh7 : xl.length + xr.length + 1 ≤ 7 := by simp at hhi; omega
      obtain ⟨tR, crR, lR, cR, Rx, Rk, eR, elR, ecR, hRn, hRn2, hRn3⟩ := o.kidRead (k := R) (by simp)
      walk_at "go"
      refine w_item (vs := (pre ++ K :: R :: post).map Kd.r) (k := pre.length + 1) ec (by omega) (by omega) (v := R.r) (by rw [show ((pre.length : Int) + 1).toNat = pre.length + 1 by omega]; simp) ?_ rfl
      walk_at "go"
      refine w_spec (by assumption) (by assumption) (spec_isMin eR elR (by simp; omega) (by simp; omega) ?_) (by decide)
      by_cases hmin : R.n = t - 1
      · rw [show (((Rx.map El.r).length : Int) == (t : Int) - 1) = true by simp; omega]
        walk_at "go"
        exact hF (.inr ⟨R, post, rfl, hmin⟩)
      · rw [show (((Rx.map El.r).length : Int) == (t : Int) - 1) = false by simp; omega]
        walk_at "go"
        have o1 : Nod Z σ cr t (h + 1) a l c (xl ++ x :: xr) ((pre ++ [K]) ++ R :: post) := by simpa using o
        refine w_spec (by assumption) (by assumption) (spec_cowChild o1 (by simp) fun σ1 R1 o2 q1 q2 q3 st => ?_) (by decide)
        have o3 : Nod Z σ1 cr t (h + 1) a l c (xl ++ x :: xr) (pre ++ ([K, R1] ++ post)) := by simpa using o2
        have st1 : Step (fpOf a l c (pre ++ K :: R :: post)) (fpOf a l c (pre ++ ([K, R1] ++ post))) σ σ1 := by simpa using st
        have ot := o3.kidOT (K := K) (by simp) ((o3.nd.kid K (by simp)).own hf)
        obtain ⟨kl, kc, kxs, kks, oK, eK, nK, fK⟩ := ot.open
        obtain ⟨rl, rc, rxs, rks, oR, eR1, nR, fR⟩ := q3.open
        obtain ⟨⟨d1, d2, d3, d4, d5⟩, ⟨d6, d7, d8, d9⟩, ⟨d10, d11, d12⟩, ⟨d13, d14⟩, d15⟩ := six o3 fK fR
        obtain ⟨tk1, e1⟩ := o3.nd.node
        have e1 : σ1 a = some (nodeC (.int t tk1) (.ref cr) (.bool false) l c) := e1
        have el1 := o3.nd.el
        have ec1 := o3.nd.ch
        obtain ⟨tkK, eKn⟩ := oK.nd.node
        have elK := oK.nd.el
        have ecK := oK.nd.ch
        obtain ⟨tkR, eRn⟩ := oR.nd.node
        have elR1 := oR.nd.el
        have ecR1 := oR.nd.ch
        cases rxs with
        | nil => simp at nR; omega
        | cons y rxs' =>
          have w1 := ne_cell e1 elR1 (fun q => by cases q)
          have w2 := ne_cell e1 el1 (fun q => by cases q)
          have w3 := ne_cell eKn elR1 (fun q => by cases q)
          have w4 := ne_cell eKn el1 (fun q => by cases q)
          have w5 := ne_cell eKn elK (fun q => by cases q)
          have w6 := ne_cell eRn elK (fun q => by cases q)
          have w7 := ne_cell eRn elR1 (fun q => by cases q)
          have w8 := ne_cell eRn el1 (fun q => by cases q)
          have w9 := ne_cell eKn ecR1 (fun q => by cases q)
          walk_at "go"
          refine w_item (vs := (xl ++ x :: xr).map El.r) (k := pre.length) el1 (by omega) (by omega) (v := x.r) (by simp [hxl]) ?_ rfl
          walk_at "go"
          refine w_popAt (p := []) (q := rxs'.map El.r) (v := y.r) elR1 rfl (by simp at nR ⊢; rw [sizeLine_eq]; omega) ?_
          walk_at "go"
          refine w_setItem (vs := (xl ++ x :: xr).map El.r) (by walk_at "sg") (by omega) (by simp; omega) (by simp; omega) ?_
          rw [show ((xl ++ x :: xr).map El.r).set ((pre.length : Nat) : Int).toNat y.r = (xl ++ y :: xr).map El.r by simp [hxl]]
          walk_at "go"
          refine w_append (vs := kxs.map El.r) (by walk_at "sg") (by simp; rw [sizeLine_eq]; omega) ?_
          walk_at "go"
          have hyR : y ∈ R.es := by rw [← q1, eR1]; exact mem_weave.mpr (.inr (.head _))
          have hxs1 : kxs.map El.r ++ [x.r] = (kxs ++ [x]).map El.r := by simp
          rw [hxs1]
          cases h with
          | zero =>
            have hk0 : kks = [] := List.length_eq_zero_iff.mp oK.nd.num
            have hr0 : rks = [] := List.length_eq_zero_iff.mp oR.nd.num
            subst hk0 hr0
            walk_at "go"
            obtain ⟨f1, f2, f3, f4⟩ := pair_fin (kxs' := kxs ++ [x]) (rxs' := rxs') (kks' := []) (rks' := []) (y := y) (T := ((σ1.set rl (.list ([] ++ rxs'.map El.r))).set l (.list ((xl ++ y :: xr).map El.r))).set kl (.list ((kxs ++ [x]).map El.r))) o3 hxl oK eK fK rfl oR eR1 fR rfl
              (fun b h1 h2 h3 h4 h5 => by rw [Store.set_ne _ _ h2, Store.set_ne _ _ h1, Store.set_ne _ _ h4]) (by walk_at "sg") (Store.set_same _ _ _) (by walk_at "sg") (by walk_at "sg") (by walk_at "sg") (List.Perm.refl _) (by simp at nK ⊢; omega) (by simp at nR; omega) (by have := o3.kidN (K := K) (by simp); simp at nK ⊢; omega) (by simp at nR; omega) rfl rfl (by simp [weave])
            exact hT _ _ _ R post x y xl xr rfl rfl hxl f1 (st1.trans f2) rfl (by simp at nK ⊢; omega) (by simp at nR ⊢; omega) (by rw [← q1, eK, eR1]; simp [weave]) hyR f3
          | succ h =>
            have hk1 : kks.length = kxs.length + 1 := oK.nd.num
            have hr1 : rks.length = rxs'.length + 1 + 1 := oR.nd.num
            cases rks with
            | nil => simp at hr1
            | cons G rks' =>
              have w10 := ne_cell eRn ecR1 (fun q => by cases q)
              walk_at "go"
              refine ⟨rfl, ?_⟩
              walk_at "go"
              have ecR2 : σ1 rc = some (.list (G.r :: rks'.map Kd.r)) := ecR1
              refine w_popAt (p := []) (q := rks'.map Kd.r) (v := G.r) (show _ = some (Cell.list (G.r :: rks'.map Kd.r)) by walk_at "sg") rfl (by simp at hr1 nR ⊢; rw [sizeLine_eq]; omega) ?_
              walk_at "go"
              refine w_append (vs := kks.map Kd.r) (by walk_at "sg") (by simp; rw [sizeLine_eq]; omega) ?_
              walk_at "go"
              rw [show kks.map Kd.r ++ [G.r] = (kks ++ [G]).map Kd.r by simp]
              obtain ⟨f1, f2, f3, f4⟩ := pair_fin (kxs' := kxs ++ [x]) (rxs' := rxs') (kks' := kks ++ [G]) (rks' := rks') (y := y) (T := ((((σ1.set rl (.list ([] ++ rxs'.map El.r))).set l (.list ((xl ++ y :: xr).map El.r))).set kl (.list ((kxs ++ [x]).map El.r))).set rc (.list ([] ++ rks'.map Kd.r))).set kc (.list ((kks ++ [G]).map Kd.r))) o3 hxl oK eK fK rfl oR eR1 fR rfl
                (fun b h1 h2 h3 h4 h5 => by rw [Store.set_ne _ _ h3, Store.set_ne _ _ h5, Store.set_ne _ _ h2, Store.set_ne _ _ h1, Store.set_ne _ _ h4]) (by walk_at "sg") (by walk_at "sg") (Store.set_same _ _ _) (by walk_at "sg") (by walk_at "sg") (by simp) (by simp at nK ⊢; omega) (by simp at nR; omega) (by have := o3.kidN (K := K) (by simp); simp at nK ⊢; omega) (by simp at nR; omega)
                (by show _ = _ + 1; simp; omega) (by show _ = _ + 1; simp at hr1; omega) (by rw [weave_two hk1]; simp [weave])
              exact hT _ _ _ R post x y xl xr rfl rfl hxl f1 (st1.trans f2) rfl (by simp at nK ⊢; omega) (by simp at nR ⊢; omega) (by rw [← q1, eK, eR1, weave_two hk1]; simp [weave]) hyR f3
  · walk_at "go"
    refine hF (.inl ?_)
    cases rest with
    | nil => rfl
    | cons R post => exact absurd (by simp; omega) q
end
theorem ite_bne {a b : Int} {A B : Prop} (ha : a ≠ b → A) (hb : a = b → B) : if (a != b) then A else B := by
  by_cases h : a = b
  · rw [if_neg (by simp [h])]; exact hb h
  · rw [if_pos (by simp [h])]; exact ha h
section
variable {g : Gl} {t : Nat} {Z σ : Store} {cr a l c : Addr} {h : Nat}
theorem spec_lsteal {xs : List El} {pre0 post : List Kd} {K : Kd} {i : Int} {it : Tok} {Q : Value → Store → Prop} (o : Nod Z σ cr t (h + 1) a l c xs (pre0 ++ K :: post)) (hf : K.fp ≠ []) (hn : K.n < 2 * t - 1) (hi : i = pre0.length)
    (hF : (pre0 = [] ∨ ∃ pre L, pre0 = pre ++ [L] ∧ L.n = t - 1) → Q (.bool false) σ)
    (hT : ∀ (σ' : Store) (L' K' L : Kd) (pre : List Kd) (x y : El) (xl xr : List El), pre0 = pre ++ [L] → xs = xl ++ x :: xr → pre.length = xl.length → Nod Z σ' cr t (h + 1) a l c (xl ++ y :: xr) (pre ++ ([L', K'] ++ post)) →
      Step (fpOf a l c (pre0 ++ K :: post)) (fpOf a l c (pre ++ ([L', K'] ++ post))) σ σ' → K'.a = K.a → K'.n = K.n + 1 → L'.es ++ y :: K'.es = L.es ++ x :: K.es → y ∈ L.es → Own Z σ' cr t h K'.n K'.a K'.es K'.fp → Q (.bool true) σ') :
    Calls g hpN 6 (.ref 154) [.ref K.a, .ref a, .int i it] [] σ Q := by
  subst hi
  obtain ⟨tk, e⟩ := o.nd.node
  have e : σ a = some (nodeC (.int t tk) (.ref cr) (.bool false) l c) := e
  have ec := o.nd.ch
  have el := o.nd.el
  have num : (pre0 ++ K :: post).length = xs.length + 1 := o.nd.num
  have hhi := o.nd.hi
  have t3 := o.cx.t3
  have t4 := o.cx.t4
  have hlen : pre0.length + post.length = xs.length := by simp at num; omega
  refine calls_def [("self", .ref K.a), ("parent", .ref a), ("index", .int pre0.length it)] rfl (by rfl) (fun s _ => BindsTo.of_eq rfl) (locs rfl) (by decide) rfl rfl rfl ?_
  walk_at "enter"
  walk_at "go"
  refine ite_bne (fun q => ?_) fun q => ?_
  · rcases List.eq_nil_or_concat pre0 with rfl | ⟨pre, L, rfl⟩
    · simp at q
    · simp only [List.concat_eq_append] at *
      rw [show ((pre ++ [L]).length : Int) = (pre.length : Int) + 1 by simp]
      have hlen : pre.length + 1 + post.length = xs.length := by simpa using hlen
      obtain ⟨xl, x, xr, rfl, hxl⟩ : ∃ xl x xr, xs = xl ++ x :: xr ∧ pre.length = xl.length := by
        have hx : pre.length < xs.length := by omega
        exact ⟨xs.take pre.length, xs[pre.length], xs.drop (pre.length + 1), by rw [← List.drop_eq_getElem_cons hx, List.take_append_drop], by simp; omega⟩
      have hh7 : xl.length + xr.length + 1 ≤ 7 := by simp at hhi; omega
      obtain ⟨tR, crR, lR, cR, Rx, Rk, eR, elR, ecR, hRn, hRn2, hRn3⟩ := o.kidRead (k := L) (by simp)
      walk_at "go"
      refine w_item (vs := ((pre ++ [L]) ++ K :: post).map Kd.r) (k := (pre.length : Int) + 1 - 1) ec (by omega) (by omega) (v := L.r) (by rw [show ((pre.length : Int) + 1 - 1).toNat = pre.length by omega]; simp) ?_ rfl
      walk_at "go"
      refine w_spec (by assumption) (by assumption) (spec_isMin eR elR (by simp; omega) (by simp; omega) ?_) (by decide)
      by_cases hmin : L.n = t - 1
      · rw [show (((Rx.map El.r).length : Int) == (t : Int) - 1) = true by simp; omega]
        walk_at "go"
        exact hF (.inr ⟨pre, L, rfl, hmin⟩)
      · rw [show (((Rx.map El.r).length : Int) == (t : Int) - 1) = false by simp; omega]
        walk_at "go"
        have o1 : Nod Z σ cr t (h + 1) a l c (xl ++ x :: xr) (pre ++ L :: (K :: post)) := by simpa using o
        refine w_spec (by assumption) (by assumption) (spec_cowChild o1 (by omega) fun σ1 R1 o2 q1 q2 q3 st => ?_) (by decide)
        have o3 : Nod Z σ1 cr t (h + 1) a l c (xl ++ x :: xr) (pre ++ ([R1, K] ++ post)) := by simpa using o2
        have st1 : Step (fpOf a l c ((pre ++ [L]) ++ K :: post)) (fpOf a l c (pre ++ ([R1, K] ++ post))) σ σ1 := by simpa using st
        have ot := o3.kidOT (K := K) (by simp) ((o3.nd.kid K (by simp)).own hf)
        obtain ⟨kl, kc, kxs, kks, oK, eK, nK, fK⟩ := ot.open
        obtain ⟨rl, rc, rxs, rks, oR, eR1, nR, fR⟩ := q3.open
        obtain ⟨⟨d1, d2, d3, d4, d5⟩, ⟨d6, d7, d8, d9⟩, ⟨d10, d11, d12⟩, ⟨d13, d14⟩, d15⟩ := six o3 fR fK
        obtain ⟨tk1, e1⟩ := o3.nd.node
        have e1 : σ1 a = some (nodeC (.int t tk1) (.ref cr) (.bool false) l c) := e1
        have el1 := o3.nd.el
        have ec1 := o3.nd.ch
        obtain ⟨tkK, eKn⟩ := oK.nd.node
        have elK := oK.nd.el
        have ecK := oK.nd.ch
        obtain ⟨tkR, eRn⟩ := oR.nd.node
        have elR1 := oR.nd.el
        have ecR1 := oR.nd.ch
        have w1 := ne_cell e1 elR1 (fun q => by cases q)
        have w2 := ne_cell e1 el1 (fun q => by cases q)
        have w3 := ne_cell eKn elR1 (fun q => by cases q)
        have w4 := ne_cell eKn el1 (fun q => by cases q)
        have w5 := ne_cell eKn elK (fun q => by cases q)
        have w6 := ne_cell eRn elK (fun q => by cases q)
        have w7 := ne_cell eRn elR1 (fun q => by cases q)
        have w8 := ne_cell eRn el1 (fun q => by cases q)
        have w9 := ne_cell eKn ecR1 (fun q => by cases q)
        rcases List.eq_nil_or_concat rxs with rfl | ⟨rxs', y, rfl⟩
        · simp at nR; omega
        · simp only [List.concat_eq_append] at *
          have elR2 : σ1 rl = some (.list (rxs'.map El.r ++ [y.r])) := by rw [elR1]; simp
          walk_at "go"
          refine w_item (vs := (xl ++ x :: xr).map El.r) (k := (pre.length : Int) + 1 - 1) el1 (by omega) (by omega) (v := x.r) (by rw [show ((pre.length : Int) + 1 - 1).toNat = pre.length by omega]; simp [hxl]) ?_ rfl
          walk_at "go"
          refine w_pop (vs := rxs'.map El.r) (v := y.r) elR2 (by simp at nR ⊢; rw [sizeLine_eq]; omega) ?_
          walk_at "go"
          refine w_setItem (vs := (xl ++ x :: xr).map El.r) (by walk_at "sg") (by omega) (by simp; omega) (by simp; omega) ?_
          rw [show ((xl ++ x :: xr).map El.r).set ((pre.length : Int) + 1 - 1).toNat y.r = (xl ++ y :: xr).map El.r by rw [show ((pre.length : Int) + 1 - 1).toNat = pre.length by omega]; simp [hxl]]
          walk_at "go"
          refine w_insert (vs := kxs.map El.r) (by walk_at "sg") (by omega) (by omega) (by simp; rw [sizeLine_eq]; omega) ?_
          walk_at "go"
          have hyR : y ∈ L.es := by rw [← q1, eR1]; exact mem_weave.mpr (.inr (by simp))
          have hxs1 : (kxs.map El.r).take (0 : Int).toNat ++ x.r :: (kxs.map El.r).drop (0 : Int).toNat = (x :: kxs).map El.r := by simp
          rw [hxs1]
          cases h with
          | zero =>
            have hk0 : kks = [] := List.length_eq_zero_iff.mp oK.nd.num
            have hr0 : rks = [] := List.length_eq_zero_iff.mp oR.nd.num
            subst hk0 hr0
            walk_at "go"
            obtain ⟨f1, f2, f3, f4⟩ := pair_fin (kxs' := rxs') (rxs' := x :: kxs) (kks' := []) (rks' := []) (y := y) (T := ((σ1.set rl (.list (rxs'.map El.r))).set l (.list ((xl ++ y :: xr).map El.r))).set kl (.list ((x :: kxs).map El.r))) o3 hxl oR eR1 fR rfl oK eK fK rfl
              (fun b h1 h2 h3 h4 h5 => by rw [Store.set_ne _ _ h4, Store.set_ne _ _ h1, Store.set_ne _ _ h2]) (by walk_at "sg") (by walk_at "sg") (by walk_at "sg") (Store.set_same _ _ _) (by walk_at "sg") (List.Perm.refl _) (by simp at nR; omega) (by simp at nK ⊢; omega) (by simp at nR; omega) (by have := o3.kidN (K := K) (by simp); simp at nK ⊢; omega) rfl rfl (by simp [weave])
            exact hT _ _ _ L pre x y xl xr rfl rfl hxl f1 (st1.trans f2) rfl (by simp at nK ⊢; omega) (by rw [← q1, eK, eR1]; simp [weave]) hyR f4
          | succ h =>
            have hk1 : kks.length = kxs.length + 1 := oK.nd.num
            have hr1 : rks.length = (rxs' ++ [y]).length + 1 := oR.nd.num
            rcases List.eq_nil_or_concat rks with rfl | ⟨rks', G, rfl⟩
            · simp at hr1
            · simp only [List.concat_eq_append] at *
              have hr2 : rks'.length = rxs'.length + 1 := by simpa using hr1
              have ecR2 : σ1 rc = some (.list (rks'.map Kd.r ++ [G.r])) := by rw [ecR1]; simp
              have w10 := ne_cell eRn ecR1 (fun q => by cases q)
              walk_at "go"
              refine ⟨rfl, ?_⟩
              walk_at "go"
              refine w_pop (vs := rks'.map Kd.r) (v := G.r) (by walk_at "sg") (by simp at nR ⊢; rw [sizeLine_eq]; omega) ?_
              walk_at "go"
              refine w_insert (vs := kks.map Kd.r) (by walk_at "sg") (by omega) (by omega) (by simp; rw [sizeLine_eq]; omega) ?_
              walk_at "go"
              have hxs2 : (kks.map Kd.r).take (0 : Int).toNat ++ G.r :: (kks.map Kd.r).drop (0 : Int).toNat = (G :: kks).map Kd.r := by simp
              rw [hxs2]
              obtain ⟨f1, f2, f3, f4⟩ := pair_fin (kxs' := rxs') (rxs' := x :: kxs) (kks' := rks') (rks' := G :: kks) (y := y) (T := ((((σ1.set rl (.list (rxs'.map El.r))).set l (.list ((xl ++ y :: xr).map El.r))).set kl (.list ((x :: kxs).map El.r))).set rc (.list (rks'.map Kd.r))).set kc (.list ((G :: kks).map Kd.r))) o3 hxl oR eR1 fR rfl oK eK fK rfl
                (fun b h1 h2 h3 h4 h5 => by rw [Store.set_ne _ _ h5, Store.set_ne _ _ h3, Store.set_ne _ _ h4, Store.set_ne _ _ h1, Store.set_ne _ _ h2]) (by walk_at "sg") (by walk_at "sg") (by walk_at "sg") (by walk_at "sg") (Store.set_same _ _ _) (by simp) (by simp at nR; omega) (by simp at nK ⊢; omega) (by simp at nR; omega) (by have := o3.kidN (K := K) (by simp); simp at nK ⊢; omega)
                (by show _ = _ + 1; exact hr2) (by show _ = _ + 1; simp; omega) (by rw [weave_two hr2]; simp [weave])
              exact hT _ _ _ L pre x y xl xr rfl rfl hxl f1 (st1.trans f2) rfl (by simp at nK ⊢; omega) (by rw [← q1, eK, eR1, weave_two hr2]; simp [weave]) hyR f4
  · walk_at "go"
    refine hF (.inl ?_)
    cases pre0 with
    | nil => rfl
    | cons R post => simp at q; omega
end
section
variable {g : Gl} {t : Nat} {Z σ : Store} {cr a l c : Addr} {h : Nat}
/-- a child, opened for reading, with what its own children are -/
theorem Nod.kidOpen {xs : List El} {kids : List Kd} (o : Nod Z σ cr t (h + 1) a l c xs kids) {k : Kd} (hk : k ∈ kids) : ∃ tk cr0 lk ck kx kk, σ k.a = some (nodeC (.int t tk) (.ref cr0) (.bool (h == 0)) lk ck) ∧ σ lk = some (.list (List.map El.r kx)) ∧ σ ck = some (.list (List.map Kd.r kk)) ∧ kx.length = k.n ∧ k.n ≤ 2 * t - 1 ∧ t - 1 ≤ k.n ∧
    (∀ q ∈ kk, KidP Z σ cr t h q) ∧ (kk.flatMap Kd.fp).Sublist k.fp ∧ k.es = weave kk kx ∧ kk.length = (if (h == 0) then 0 else kx.length + 1) ∧ (lk ∈ k.fp ∨ ∃ cb, Z lk = some cb) ∧ (ck ∈ k.fp ∨ ∃ cb, Z ck = some cb) := by
  obtain ⟨hn, q⟩ := o.nd.kid k hk
  rcases q with ⟨q, qf⟩ | q
  · obtain ⟨cr0, lk, ck, kx, kk, nd, -, he, hn2⟩ := Tr_iff.mp q
    obtain ⟨tk, e⟩ := nd.node
    refine ⟨tk, cr0, lk, ck, kx, kk.map fun k => { k with fp := [] }, o.cx.sup _ _ e, o.cx.sup _ _ nd.el, ?_, hn2.symm, hn2 ▸ nd.hi, hn, fun r hr => ?_, ?_, ?_, ?_, .inr ⟨_, nd.el⟩, .inr ⟨_, nd.ch⟩⟩
    · rw [o.cx.sup _ _ nd.ch, List.map_map]; rfl
    · obtain ⟨r0, hr0, rfl⟩ := List.mem_map.mp hr
      have := nd.kid r0 hr0
      cases h with
      | zero => exact this
      | succ h => exact ⟨this.1, .inl ⟨this.2, rfl⟩⟩
    · rw [flat_strip]; exact List.nil_sublist _
    · rw [weave_strip]; exact he
    · rw [List.length_map]; exact nd.num
  · obtain ⟨lk, ck, kx, kk, nd, he, hn2, hf⟩ := Own_iff.mp q
    obtain ⟨tk, e⟩ := nd.node
    exact ⟨tk, cr, lk, ck, kx, kk, e, nd.el, nd.ch, hn2.symm, hn2 ▸ nd.hi, hn, nd.kid, by rw [hf]; exact .cons _ (.cons _ (.cons _ (.refl _))), he, nd.num, .inl (by simp [hf]), .inl (by simp [hf])⟩
theorem spec_merge {xl xr : List El} {x : El} {pre post : List Kd} {K R : Kd} {i : Int} {it : Tok} {Q : Value → Store → Prop} (o : Nod Z σ cr t (h + 1) a l c (xl ++ x :: xr) (pre ++ ([K, R] ++ post))) (hf : K.fp ≠ []) (hpre : pre.length = xl.length) (hn : K.n + R.n + 1 ≤ 2 * t - 1) (hi : i = pre.length)
    (hQ : ∀ (σ' : Store) (K' : Kd), Nod Z σ' cr t (h + 1) a l c (xl ++ xr) (pre ++ ([K'] ++ post)) → Step (fpOf a l c (pre ++ ([K, R] ++ post))) (fpOf a l c (pre ++ ([K'] ++ post))) σ σ' → K'.a = K.a → K'.n = K.n + R.n + 1 → K'.es = K.es ++ x :: R.es → Own Z σ' cr t h K'.n K'.a K'.es K'.fp → Q .none σ') :
    Calls g hpN 3 (.ref 175) [.ref K.a, .ref a, .int i it] [] σ Q := by
  subst hi
  obtain ⟨tk, e⟩ := o.nd.node
  have e : σ a = some (nodeC (.int t tk) (.ref cr) (.bool false) l c) := e
  have ec := o.nd.ch
  have el := o.nd.el
  have t3 := o.cx.t3
  have t4 := o.cx.t4
  have hhi := o.nd.hi
  have num : (pre ++ ([K, R] ++ post)).length = (xl ++ x :: xr).length + 1 := o.nd.num
  have hh7 : xl.length + xr.length + 1 ≤ 7 := by simp at hhi; omega
  have hpp : post.length = xr.length := by simp at num; omega
  have ot := o.kidOT (K := K) (by simp) ((o.nd.kid K (by simp)).own hf)
  obtain ⟨kl, kc, kxs, kks, oK, eK, nK, fK⟩ := ot.open
  obtain ⟨tkR, crR, rl, rc, rxs, rks, eRn, elR, ecR, hRn, hRn2, hRn3, rk, rs, eR, rnum, zl, zc⟩ := o.kidOpen (k := R) (by simp)
  obtain ⟨tkK, eKn⟩ := oK.nd.node
  have elK := oK.nd.el
  have ecK := oK.nd.ch
  have hk := o.kidN (K := K) (by simp)
  have nd := o.cx.nd
  obtain ⟨d1, d2, d3, d4, d5⟩ : l ≠ c ∧ l ≠ kl ∧ l ≠ kc ∧ c ≠ kl ∧ c ≠ kc := by
    have nd2 : (l :: c :: fpOf K.a kl kc kks).Nodup := by
      refine nd.sublist (.cons _ (.cons_cons _ (.cons_cons _ ?_)))
      rw [List.flatMap_append, List.flatMap_append, ← fK]
      refine List.Sublist.trans ?_ (List.sublist_append_right _ _)
      refine List.Sublist.trans ?_ (List.sublist_append_left _ _)
      simp
    simp only [fpOf, List.nodup_cons, List.mem_cons, not_or] at nd2
    exact ⟨nd2.1.1, nd2.1.2.2.1, nd2.1.2.2.2.1, nd2.2.1.2.1, nd2.2.1.2.2.1⟩
  have d6 := oK.ne.2.2
  have hR : l ∉ R.fp ∧ c ∉ R.fp ∧ kl ∉ R.fp ∧ kc ∉ R.fp := by
    have nd2 : (l :: c :: (fpOf K.a kl kc kks ++ R.fp)).Nodup := by
      refine nd.sublist (.cons _ (.cons_cons _ (.cons_cons _ ?_)))
      rw [List.flatMap_append, List.flatMap_append, ← fK]
      refine List.Sublist.trans ?_ (List.sublist_append_right _ _)
      refine List.Sublist.trans ?_ (List.sublist_append_left _ _)
      simp
    simp only [fpOf, List.nodup_cons, List.mem_cons, List.mem_append, List.cons_append, not_or] at nd2
    exact ⟨nd2.1.2.2.2.2.2, nd2.2.1.2.2.2.2, nd2.2.2.2.1.2.2, nd2.2.2.2.2.1.2⟩
  have hz : Z l = none ∧ Z c = none ∧ Z kl = none ∧ Z kc = none := ⟨o.cx.out l (by simp), o.cx.out c (by simp), oK.cx.out kl (by simp), oK.cx.out kc (by simp)⟩
  have far : ∀ b b', (b ∈ R.fp ∨ ∃ cb, Z b = some cb) → b' ∉ R.fp → Z b' = none → b ≠ b' := fun b b' h1 h2 h3 q => by
    subst q; rcases h1 with h1 | ⟨cb, h1⟩
    · exact h2 h1
    · rw [h3] at h1; cases h1
  have g1 := far rl l zl hR.1 hz.1
  have g2 := far rl c zl hR.2.1 hz.2.1
  have g3 := far rl kl zl hR.2.2.1 hz.2.2.1
  have g4 := far rl kc zl hR.2.2.2 hz.2.2.2
  have g5 := far rc l zc hR.1 hz.1
  have g6 := far rc c zc hR.2.1 hz.2.1
  have g7 := far rc kl zc hR.2.2.1 hz.2.2.1
  have g8 := far rc kc zc hR.2.2.2 hz.2.2.2
  have w1 := ne_cell e el (fun q => by cases q)
  have w2 := ne_cell e ec (fun q => by cases q)
  have w3 := ne_cell eKn el (fun q => by cases q)
  have w4 := ne_cell eKn ec (fun q => by cases q)
  have w5 := ne_cell eKn elK (fun q => by cases q)
  have w6 := ne_cell eRn el (fun q => by cases q)
  have w7 := ne_cell eRn ec (fun q => by cases q)
  have w8 := ne_cell eRn elK (fun q => by cases q)
  have ec0 : σ c = some (.list ((pre ++ [K]).map Kd.r ++ R.r :: post.map Kd.r)) := by rw [ec]; simp
  have el0 : σ l = some (.list (xl.map El.r ++ x.r :: xr.map El.r)) := by rw [el]; simp
  refine calls_def [("self", .ref K.a), ("parent", .ref a), ("index", .int pre.length it)] rfl (by rfl) (fun s _ => BindsTo.of_eq rfl) (locs rfl) (by decide) rfl rfl rfl ?_
  walk_at "enter"
  walk_at "go"
  refine w_popAt (p := (pre ++ [K]).map Kd.r) (q := post.map Kd.r) (v := R.r) ec0 (by simp) (by simp; rw [sizeLine_eq]; omega) ?_
  walk_at "go"
  refine w_popAt (p := xl.map El.r) (q := xr.map El.r) (v := x.r) (by walk_at "sg") (by simp; omega) (by simp; rw [sizeLine_eq]; omega) ?_
  walk_at "go"
  refine w_append (vs := kxs.map El.r) (by walk_at "sg") (by simp; rw [sizeLine_eq]; omega) ?_
  walk_at "go"
  refine w_extend (vs := kxs.map El.r ++ [x.r]) (us := rxs.map El.r) (by walk_at "sg") (by walk_at "sg") (by simp; rw [sizeLine_eq]; omega) ?_
  walk_at "go"
  have r1 : kxs.map El.r ++ [x.r] ++ rxs.map El.r = (kxs ++ x :: rxs).map El.r := by simp
  have r2 : (pre ++ [K]).map Kd.r ++ post.map Kd.r = (pre ++ ([K] ++ post)).map Kd.r := by simp
  have r3 : xl.map El.r ++ xr.map El.r = (xl ++ xr).map El.r := by simp
  rw [r1, r2, r3]
  cases h with
  | zero =>
    have hk0 : kks = [] := List.length_eq_zero_iff.mp oK.nd.num
    have hr0 : rks = [] := List.length_eq_zero_iff.mp rnum
    subst hk0 hr0
    walk_at "go"
    obtain ⟨f1, f2, f3⟩ := merge_fin (T := ((((σ.set c (.list ((pre ++ ([K] ++ post)).map Kd.r))).set l (.list ((xl ++ xr).map El.r))).set kl (.list (kxs.map El.r ++ [x.r]))).set kl (.list ((kxs ++ x :: rxs).map El.r)))) (kks := []) (rks := []) o hpre oK eK fK rfl rk rs eR
      (fun b h1 h2 h3 h4 => by rw [Store.set_ne _ _ h3, Store.set_ne _ _ h3, Store.set_ne _ _ h1, Store.set_ne _ _ h2]) (by walk_at "sg") (by walk_at "sg") (Store.set_same _ _ _) (show _ = some (Cell.list (List.map Kd.r [])) by walk_at "sg") (by simp; omega) (by simp; omega) rfl (by simp [weave])
    exact hQ _ _ f1 f2 rfl (by simp; omega) (by rw [eK, eR]; simp [weave]) f3
  | succ h =>
    have hk1 : kks.length = kxs.length + 1 := oK.nd.num
    have hr1 : rks.length = rxs.length + 1 := rnum
    walk_at "go"
    refine w_extend (vs := kks.map Kd.r) (us := rks.map Kd.r) (by walk_at "sg") (by walk_at "sg") (by simp; rw [sizeLine_eq]; omega) ?_
    walk_at "go"
    rw [show kks.map Kd.r ++ rks.map Kd.r = (kks ++ rks).map Kd.r by simp]
    obtain ⟨f1, f2, f3⟩ := merge_fin (T := (((((σ.set c (.list ((pre ++ ([K] ++ post)).map Kd.r))).set l (.list ((xl ++ xr).map El.r))).set kl (.list (kxs.map El.r ++ [x.r]))).set kl (.list ((kxs ++ x :: rxs).map El.r)))).set kc (.list ((kks ++ rks).map Kd.r))) o hpre oK eK fK rfl rk rs eR
      (fun b h1 h2 h3 h4 => by rw [Store.set_ne _ _ h4, Store.set_ne _ _ h3, Store.set_ne _ _ h3, Store.set_ne _ _ h1, Store.set_ne _ _ h2]) (by walk_at "sg") (by walk_at "sg") (by walk_at "sg") (Store.set_same _ _ _) (by simp; omega) (by simp; omega) (by show _ = _ + 1; simp; omega) (weave_two hk1)
    exact hQ _ _ f1 f2 rfl (by simp; omega) (by rw [eK, eR, weave_two hk1]) f3
end
theorem app_len {α : Type} {a b c d : List α} (h : a ++ b = c ++ d) (hl : a.length = c.length) : a = c ∧ b = d := List.append_inj h hl
theorem mem_tlW {e : El} {k : Kd} {post : List Kd} {xr : List El} : (k ∈ post → e ∈ k.es → e ∈ tlW post xr) ∧ (e ∈ xr → e ∈ tlW post xr) := by
  cases xr with
  | nil => exact ⟨fun h1 h2 => mem_weave.mpr (.inl ⟨k, h1, h2⟩), fun h => by cases h⟩
  | cons x xr => exact ⟨fun h1 h2 => .tail _ (mem_weave.mpr (.inl ⟨k, h1, h2⟩)), fun h => by
      rcases List.mem_cons.mp h with rfl | h
      · exact .head _
      · exact .tail _ (mem_weave.mpr (.inr h))⟩
section
variable {g : Gl} {t : Nat} {Z σ : Store} {cr a l c : Addr} {h : Nat}
theorem spec_balance {xl xr : List El} {pre0 rest : List Kd} {K : Kd} {i key : Int} {it : Tok} {Q : Value → Store → Prop} (o : Nod Z σ cr t (h + 1) a l c (xl ++ xr) (pre0 ++ K :: rest)) (hf : K.fp ≠ []) (hn : K.n = t - 1) (hi : i = pre0.length) (hpre : pre0.length = xl.length) (hne : xl ++ xr ≠ [])
    (hl : ∀ x ∈ xl, x.k < key) (hr : ∀ x r, xr = x :: r → key < x.k)
    (hQ : ∀ (σ' : Store) (xl' xr' : List El) (pre' post' : List Kd) (K' : Kd), Nod Z σ' cr t (h + 1) a l c (xl' ++ xr') (pre' ++ K' :: post') → pre'.length = xl'.length → (∀ x ∈ xl', x.k < key) → (∀ x r, xr' = x :: r → key < x.k) →
      t ≤ K'.n → Own Z σ' cr t h K'.n K'.a K'.es K'.fp → weave (pre' ++ K' :: post') (xl' ++ xr') = weave (pre0 ++ K :: rest) (xl ++ xr) → (xl ++ xr).length ≤ (xl' ++ xr').length + 1 → Step (fpOf a l c (pre0 ++ K :: rest)) (fpOf a l c (pre' ++ K' :: post')) σ σ' → Q .none σ') :
    Calls g hpN 7 (.ref 196) [.ref K.a, .ref a, .int i it] [] σ Q := by
  subst hi
  obtain ⟨tk, e⟩ := o.nd.node
  have e : σ a = some (nodeC (.int t tk) (.ref cr) (.bool false) l c) := e
  have t3 := o.cx.t3
  have num : (pre0 ++ K :: rest).length = (xl ++ xr).length + 1 := o.nd.num
  have hpost : rest.length = xr.length := by simp at num; omega
  obtain ⟨c1, c2⟩ := cut hpre hpost o.cx.ris hl hr
  have ot := o.kidOT (K := K) (by simp) ((o.nd.kid K (by simp)).own hf)
  obtain ⟨kl, kc, kxs, kks, oK, eK, nK, fK⟩ := ot.open
  obtain ⟨tkK, eKn⟩ := oK.nd.node
  refine calls_def [("self", .ref K.a), ("parent", .ref a), ("index", .int pre0.length it)] rfl (by rfl) (fun s _ => BindsTo.of_eq rfl) (locs rfl) (by decide) rfl rfl rfl ?_
  walk_at "enter"
  walk_at "go"
  refine ⟨rfl, ?_⟩
  walk_at "go"
  refine w_spec (by assumption) (by assumption) (spec_lsteal o hf (by omega) rfl (fun hF1 => ?_) fun σ' L' K' L pre x y xl2 xr2 q1 q2 q3 q4 q5 q6 q7 q8 q9 q10 => ?_) (by decide)
  · walk_at "go"
    refine w_spec (by assumption) (by assumption) (spec_rsteal o hf (by omega) rfl (fun hF2 => ?_) fun σ' K' R' R post x y xl2 xr2 q1 q2 q3 q4 q5 q6 q7 q8 q9 q10 q11 => ?_) (by decide)
    · walk_at "go"
      rcases hF1 with rfl | ⟨pre, L, rfl, hL⟩
      · refine ite_beq (fun _ => ?_) fun q => absurd rfl q
        have hxl : xl = [] := List.length_eq_zero_iff.mp hpre.symm
        subst hxl
        rcases hF2 with rfl | ⟨R, post, rfl, hR⟩
        · exact absurd (List.length_eq_zero_iff.mp hpost.symm) hne
        · cases xr with
          | nil => simp at hpost
          | cons x xr2 =>
            walk_at "go"
            refine w_spec (by assumption) (by assumption) (spec_merge (xl := []) (pre := []) (post := post) (K := K) (R := R) o hf rfl (by omega) rfl fun σ' K' p1 p2 p3 p4 p5 p6 => ?_) (by decide)
            walk_at "go"
            refine hQ σ' [] xr2 [] post K' p1 rfl (by simp) (fun x' r q => c2 x' (mem_tlW (k := K).2 (by simp [q]))) (by omega) p6 ?_ (by simp) p2
            rw [List.nil_append, List.nil_append, List.nil_append, List.nil_append, weave_cons, weave_cons, p5]
            simp [tlW, weave_cons]
      · refine ite_beq (fun q => by simp at q; omega) fun _ => ?_
        have hlen : ((pre ++ [L]).length : Int) = (pre.length : Int) + 1 := by simp
        rw [hlen]
        rcases List.eq_nil_or_concat xl with rfl | ⟨xl2, x, rfl⟩
        · simp at hpre
        · simp only [List.concat_eq_append] at *
          have hpre2 : pre.length = xl2.length := by simpa using hpre
          have o1 : Nod Z σ cr t (h + 1) a l c (xl2 ++ x :: xr) (pre ++ L :: (K :: rest)) := by simpa using o
          walk_at "go"
          refine w_spec (by assumption) (by assumption) (spec_cowChild o1 (by omega) fun σ1 L1 o2 p1 p2 p3 st => ?_) (by decide)
          obtain ⟨ll, lc, lxs, lks, oL, eL, nL, fL⟩ := p3.open
          obtain ⟨tkL, eLn⟩ := oL.nd.node
          walk_at "go"
          refine w_spec (by assumption) (by assumption) (spec_merge (xl := xl2) (pre := pre) (post := rest) (K := L1) (R := K) o2 p3.own.fpne hpre2 (by omega) (by omega) fun σ' K' r1 r2 r3 r4 r5 r6 => ?_) (by decide)
          walk_at "go"
          refine hQ σ' xl2 xr pre rest K' r1 hpre2 (fun z hz => hl z (by simp [hz])) hr (by omega) r6 ?_ (by simp only [List.length_append, List.length_cons, List.length_nil]; omega) ?_
          · have w1 := weave_pair (x := x) (K := L) (R := K) (post := rest) (xr := xr) hpre2
            have w2 := weave_one (K := K') (post := rest) (xr := xr) hpre2
            simp only [List.cons_append, List.nil_append, List.append_assoc] at w1 w2 ⊢
            rw [w1, w2, r5, p1]; simp
          · have := st.trans r2; simpa using this
    · subst q1
      obtain ⟨rfl, rfl⟩ := app_len q2 (by omega)
      walk_at "go"
      refine hQ σ' xl (y :: xr2) pre0 (R' :: post) K' (by simpa using q4) hpre hl (fun z r q => by cases q; exact c2 y ((mem_tlW (k := R)).1 (.head _) q10)) (by omega) q11 ?_ (by simp) (by simpa using q5)
      have w1 := weave_pair (x := x) (K := K) (R := R) (post := post) (xr := xr2) hpre
      have w2 := weave_pair (x := y) (K := K') (R := R') (post := post) (xr := xr2) hpre
      simp only [List.cons_append, List.nil_append] at w1 w2
      rw [w1, w2]
      have hA : ∀ (A B C : List El) (z : El), A ++ z :: (B ++ C) = (A ++ z :: B) ++ C := fun A B C z => by simp
      rw [hA, hA, q9]
  · subst q1
    have q2' : xl ++ xr = (xl2 ++ [x]) ++ xr2 := by rw [q2]; simp
    obtain ⟨rfl, rfl⟩ := app_len q2' (by simp at hpre ⊢; omega)
    walk_at "go"
    refine hQ σ' (xl2 ++ [y]) xr (pre ++ [L']) rest K' (by simpa using q4) (by simp; omega) (fun z hz => ?_) hr (by omega) q10 ?_ (by simp) (by simpa using q5)
    · rcases List.mem_append.mp hz with m | m
      · exact hl z (by simp [m])
      · rw [List.mem_singleton] at m; subst m
        exact c1 z (mem_weave.mpr (.inl ⟨L, by simp, q9⟩))
    · have w1 := weave_pair (x := x) (K := L) (R := K) (post := rest) (xr := xr) q3
      have w2 := weave_pair (x := y) (K := L') (R := K') (post := rest) (xr := xr) q3
      simp only [List.cons_append, List.nil_append, List.append_assoc] at w1 w2 ⊢
      rw [w1, w2]
      have hA : ∀ (A B C : List El) (z : El), A ++ z :: (B ++ C) = (A ++ z :: B) ++ C := fun A B C z => by simp
      rw [hA, hA, q8]
end
theorem kid_at {kids : List Kd} {j : Nat} (h : j < kids.length) : ∃ pre K post, kids = pre ++ K :: post ∧ pre.length = j :=
  ⟨kids.take j, kids[j], kids.drop (j + 1), by rw [← List.drop_eq_getElem_cons h, List.take_append_drop], by simp; omega⟩
section
variable {g : Gl} {t : Nat} {Z σ : Store} {cr a l c : Addr} {h : Nat}
theorem spec_opt {xs : List El} {kids : List Kd} {i : Int} {j : Nat} {it : Tok} {Q : Value → Store → Prop} (o : Nod Z σ cr t (h + 1) a l c xs kids) (hi : i = j) (hj : j < kids.length)
    (hQ : ∀ (σ' : Store) (xs' : List El) (kids' : List Kd), Nod Z σ' cr t (h + 1) a l c xs' kids' → weave kids' xs' = weave kids xs → xs'.length = xs.length → Step (fpOf a l c kids) (fpOf a l c kids') σ σ' → Q .none σ') :
    Calls g hpN 7 (.ref 133) [.ref a, .int i it] [] σ Q := by
  subst hi
  obtain ⟨tk, e⟩ := o.nd.node
  have e : σ a = some (nodeC (.int t tk) (.ref cr) (.bool false) l c) := e
  have t3 := o.cx.t3
  have t4 := o.cx.t4
  have num : kids.length = xs.length + 1 := o.nd.num
  have hhi := o.nd.hi
  have ec := o.nd.ch
  refine calls_def [("self", .ref a), ("index", .int j it)] rfl (by rfl) (fun s _ => BindsTo.of_eq rfl) (locs rfl) (by decide) rfl rfl rfl ?_
  walk_at "enter"
  walk_at "go"
  refine ite_beq (fun q => ?_) fun q => ?_
  · walk_at "go"
    exact hQ σ xs kids o rfl rfl .refl
  · obtain ⟨pre, L, rest, rfl, hp⟩ := kid_at (j := j - 1) (by omega : j - 1 < kids.length)
    have hj1 : (j : Int) - 1 = (pre.length : Nat) := by omega
    obtain ⟨tR, crR, lR, cR, Rx, Rk, eR, elR, ecR, hRn, hRn2, hRn3⟩ := o.kidRead (k := L) (by simp)
    walk_at "go"
    refine w_item (vs := (pre ++ L :: rest).map Kd.r) (k := (j : Int) - 1) ec (by omega) (by omega) (v := L.r) (by rw [hj1]; simp) ?_ rfl
    walk_at "go"
    refine w_spec (by assumption) (by assumption) (spec_MAX (by omega) (by omega) fun _ => ?_) (by decide)
    walk_at "go"
    refine ite_beq (fun q => ?_) fun q2 => ?_
    · walk_at "go"
      exact hQ σ xs _ o rfl rfl .refl
    · walk_at "go"
      refine w_spec (by assumption) (by assumption) (spec_cowChild o hj1 fun σ1 L1 o2 p1 p2 p3 st => ?_) (by decide)
      walk_at "go"
      refine w_While (fun k σ' m => ∃ xs' pre' L' rest', m "self" = some (.ref a) ∧ (∃ it', m "index" = some (.int j it')) ∧ m "left" = some (.ref L'.a) ∧ Nod Z σ' cr t (h + 1) a l c xs' (pre' ++ L' :: rest') ∧ L'.fp ≠ [] ∧ pre'.length = pre.length ∧ weave (pre' ++ L' :: rest') xs' = weave (pre ++ L :: rest) xs ∧ xs'.length = xs.length ∧
        Step (fpOf a l c (pre ++ L :: rest)) (fpOf a l c (pre' ++ L' :: rest')) σ σ' ∧ k = 2 * t - 1 - L'.n ∧ L'.n ≤ 2 * t - 1) (2 * t - 1 - L1.n)
        ⟨xs, pre, L1, rest, by walk_at "lk", ⟨it, by walk_at "lk"⟩, by walk_at "lk", o2, p3.own.fpne, rfl, weave_es p1 xs, rfl, st, rfl, by omega⟩ ?_
      rintro n σ2 m ⟨xs', pre', L', rest', hm1, ⟨it', hm2⟩, hm3, o3, hf, hp', hw, hx, st2, hn, hL⟩
      obtain ⟨tk2, e2⟩ := o3.nd.node
      have e2 : σ2 a = some (nodeC (.int t tk2) (.ref cr) (.bool false) l c) := e2
      have ot := o3.kidOT (K := L') (by simp) ((o3.nd.kid L' (by simp)).own hf)
      obtain ⟨kl, kc, kxs, kks, oK, eK, nK, fK⟩ := ot.open
      obtain ⟨tkK, eKn⟩ := oK.nd.node
      have elK := oK.nd.el
      have hkhi := oK.nd.hi
      walk_at "go"
      refine w_spec (by assumption) (by assumption) (spec_MAX (by omega) (by omega) fun _ => ?_) (by decide)
      walk_at "go"
      refine ite_dec (fun q3 => ?_) fun q3 => ?_
      · have hlt : L'.n < 2 * t - 1 := by simp at q3; omega
        walk_at "go"
        refine w_spec (by assumption) (by assumption) (spec_rsteal o3 hf hlt (by omega) (fun hF => ?_) fun σ' K' R' R post x y xl2 xr2 r1 r2 r3 r4 r5 r6 r7 r8 r9 r10 r11 => ?_) (by decide)
        · walk_at "go"
          exact hQ σ2 xs' _ o3 hw hx st2
        · walk_at "go"
          subst r1 r2
          refine ⟨2 * t - 1 - K'.n, by omega, xl2 ++ y :: xr2, pre', K', R' :: post, hm1, ⟨it', hm2⟩, by rw [r6]; exact hm3, by simpa using r4, r11.fpne, hp', ?_, by simpa using hx, st2.trans (by simpa using r5), rfl, by omega⟩
          rw [← hw]
          have w1 := weave_pair (x := x) (K := L') (R := R) (post := post) (xr := xr2) r3
          have w2 := weave_pair (x := y) (K := K') (R := R') (post := post) (xr := xr2) r3
          simp only [List.cons_append, List.nil_append] at w1 w2
          rw [w1, w2]
          have hA : ∀ (A B C : List El) (z : El), A ++ z :: (B ++ C) = (A ++ z :: B) ++ C := fun A B C z => by simp
          rw [hA, hA, r9]
      · walk_at "go"
        exact hQ σ2 xs' _ o3 hw hx st2
end
section
variable {g : Gl} {t : Nat} {Z : Store} {cr : Addr}
theorem Nod.disj {σ : Store} {h : Nat} {a l c : Addr} {xs : List El} {pre post : List Kd} {K : Kd} (o : Nod Z σ cr t h a l c xs (pre ++ K :: post)) : a ∉ K.fp ∧ l ∉ K.fp ∧ c ∉ K.fp := by
  have nd := o.cx.nd
  rw [fpOf_split] at nd
  simp only [List.cons_append, List.nodup_cons, List.mem_append, List.mem_cons, not_or] at nd
  exact ⟨nd.1.2.2.2.1, nd.2.1.2.2.1, nd.2.2.1.2.1⟩
/-- a full child is split, and the node takes the halves -/
theorem spec_grow {σ : Store} {h : Nat} {a l c : Addr} {xl xr : List El} {pre post : List Kd} {K : Kd} {x : Fx} {mm : Loc} {pos p1 : Pos} {e : Expr} {q0 : Addr} {Q : Value → Store → Loc → Prop} {E : Value → Heap → Prop} (o : Nod Z σ cr t (h + 1) a l c (xl ++ xr) (pre ++ K :: post)) (hpre : pre.length = xl.length) (hx : (xl ++ xr).length < 2 * t - 1) (hK : K.n = 2 * t - 1) (hf : K.fp ≠ [])
    (hhd : x.hd = none) (hroom : Room x 3) (eq0 : σ q0 = some (.raw (methodObj (.ref 168) (.ref a))))
    (he : ∀ (Q : Value → Store → Loc → Prop), W g x (call (.ref 147) [.ref K.a]) σ mm Q E → W g x (eval e x.env) σ mm Q E)
    (hQ : ∀ (σ' : Store) (L R : Kd) (m : El), Nod Z σ' cr t (h + 1) a l c (xl ++ m :: xr) (pre ++ ([L, R] ++ post)) → L.n = t - 1 → R.n = t - 1 → L.es ++ m :: R.es = K.es → Step (fpOf a l c (pre ++ K :: post)) (fpOf a l c (pre ++ ([L, R] ++ post))) σ σ' → Q .none σ' mm) :
    W g x (callWith pos (.ref q0) [] (backTo pos (starEach [.Starred e p1] x.env)) (backToKw pos (keywordEach [] x.env))) σ mm Q E := by
  have t3 := o.cx.t3
  have t4 := o.cx.t4
  have num : (pre ++ K :: post).length = (xl ++ xr).length + 1 := o.nd.num
  have hpost : post.length = xr.length := by simp at num; omega
  have ot := o.kidOT (K := K) (by simp) ((o.nd.kid K (by simp)).own hf)
  obtain ⟨kl, kc, kxs, kks, oK, eK, nK, fK⟩ := ot.open
  refine w_starBound (hp := hpN) (f := 168) (self := .ref a) (k := 3) (by kernel_rfl) hhd hroom eq0 (he _ ?_)
  refine w_spec (hp := hpN) hroom hhd (spec_split oK (by omega) fun σ2 tp L R m etp aL nL nR hes oL oR hnd st => ?_) (by omega)
  refine ⟨tp, _, rfl, etp, by simp, ?_⟩
  rw [← fK] at st
  rw [← eK] at hes
  obtain ⟨da, dl, dc⟩ := o.disj
  obtain ⟨n1, n2, n3⟩ := o.ne
  obtain ⟨tk, e1⟩ := o.nd.node
  have e2 := st.keep a _ da e1
  have el2 := st.keep l _ dl o.nd.el
  have ec2 := st.keep c _ dc o.nd.ch
  have hz2 := ot.cx.supStep st
  have hmK : m ∈ K.es := by rw [← hes]; simp
  have hw := weave_mid (K := K) (post := post) (xr := xr) hpre
  have hr1 := o.cx.ris
  rw [hw] at hr1
  have hlm : ∀ y ∈ xl, y.k < m.k := fun y hy => hr1.cross (mem_weave.mpr (.inr hy)) (by simp [hmK])
  have hrm : ∀ y r, xr = y :: r → m.k < y.k := fun y r q => hr1.right.cross hmK ((mem_tlW (k := K)).2 (by simp [q]))
  obtain ⟨hp1, hp2⟩ := place_inv hlm hrm
  obtain ⟨lL, cL, Lxs, Lks, ndL, -, -, -⟩ := Own_iff.mp oL
  obtain ⟨tL, eL⟩ := ndL.node
  have hmOk := (ot.cx.els m hmK).sup hz2
  rw [← hpre] at hp1
  have key := spec_adopt (g := g) (σ := σ2) (K := L) (ra := R.a) (pre := pre) (post := post) (m := m) (Q := fun v σ' => Q v σ' mm) t3 t4 e2 el2 (by rw [ec2]; simp [aL, (show (kks : List Kd) = kks from rfl)]) n3 hx (by simpa using num) (fun y hy => (o.xsOk y hy).sup hz2) o.xsRis hmOk hp1 hp2 eL (fun σ3 hl3 hc3 k3 => ?_)
  · rw [aL] at key; exact key
  · have live : ∀ b ∈ L.fp ++ R.fp, ∃ cb, σ2 b = some cb := fun b hb => (List.mem_append.mp hb).elim (oL.live b) (oR.live b)
    have nl : l ∉ L.fp ++ R.fp := fun q => (st.new l q).elim dl fun z => by rw [o.nd.el] at z; cases z
    have nc : c ∉ L.fp ++ R.fp := fun q => (st.new c q).elim dc fun z => by rw [o.nd.ch] at z; cases z
    have fr : ∀ b ∈ L.fp ++ R.fp, σ3 b = σ2 b := fun b hb => by
      obtain ⟨cb, e⟩ := live b hb
      rw [e]; exact k3 b cb (fun q => nl (q ▸ hb)) (fun q => nc (q ▸ hb)) e
    have hww : weave (pre ++ ([L, R] ++ post)) (xl ++ m :: xr) = weave (pre ++ K :: post) (xl ++ xr) := by
      rw [weave_pair hpre, hw, ← hes]; simp
    have fin := Nod.turn (σ'' := σ3) (mid := [K]) (mid' := [L, R]) (xs' := xl ++ m :: xr) (pre := pre) (post := post) o
      (fun k hk => by
        rcases List.mem_cons.mp hk with rfl | hk
        · exact ⟨by omega, .inr (oL.frame fun b hb => fr b (by simp [hb]))⟩
        · rw [List.mem_singleton] at hk; subst hk
          exact ⟨by omega, .inr (oR.frame fun b hb => fr b (by simp [hb]))⟩) (by simpa using hnd)
      (fun b cb h1 h2 h3 e => k3 b cb h2 h3 (st.keep b cb (by simpa using h1) e)) (fun b hb => by
        have := st.new b (by simpa using hb)
        simpa using this)
      (by rw [hl3, hpre]; simp) (by rw [hc3]; simp) (by simp at hx ⊢; omega) (by simp at num ⊢; omega) (by rw [hww]; exact o.cx.els) (by rw [hww]; exact o.cx.ris)
    exact hQ σ3 L R m fin.1 nL nR hes fin.2
end
theorem posOf_app {key : Int} {xl ys : List El} (hl : ∀ x ∈ xl, x.k < key) : posOf key (ksOf (xl ++ ys)) = xl.length + posOf key (ksOf ys) := by
  induction xl with
  | nil => simp
  | cons x xl ih =>
    have := ih fun y hy => hl y (.tail _ hy)
    simp only [ksOf, List.cons_append, List.map_cons, posOf, if_pos (hl x (.head _)), List.length_cons] at this ⊢
    omega
theorem pos_half {key : Int} {xl xr : List El} {m : El} (hl : ∀ x ∈ xl, x.k < key) (hr : ∀ x r, xr = x :: r → key < x.k) : posOf key (ksOf (xl ++ m :: xr)) = xl.length ∨ posOf key (ksOf (xl ++ m :: xr)) = xl.length + 1 := by
  rw [posOf_app hl]
  have h0 : posOf key (ksOf xr) = 0 := by
    cases xr with
    | nil => rfl
    | cons x r => have := hr x r rfl; simp only [ksOf, List.map_cons, posOf]; rw [if_neg (by omega)]
  simp only [ksOf, List.map_cons, posOf] at h0 ⊢
  split
  · right; omega
  · left; rfl
section
variable {g : Gl} {t : Nat} {Z : Store} {cr : Addr}
set_option maxHeartbeats 2000000 in
theorem spec_insert {b : Bool} (el : El) (hel : ElOk Z el) : ∀ (h : Nat) {σ : Store} {a l c : Addr} {xs : List El} {kids : List Kd} {Q : Value → Store → Prop}, Nod Z σ cr t h a l c xs kids → xs.length < 2 * t - 1 →
    (∀ (σ' : Store) (n : Nat) (fp : List Addr), OT Z σ' cr t h n a (insE el (weave kids xs)) fp → xs.length ≤ n → Step (fpOf a l c kids) fp σ σ' → Q (refOf (look el.k (weave kids xs))) σ') →
    Calls g hpN (h + 9) (.ref 140) [.ref a, el.r, .bool b] [] σ Q := by
  intro h
  obtain ⟨mk, mv, em⟩ := hel
  have hel : ElOk Z el := ⟨mk, mv, em⟩
  induction h with
  | zero =>
    intro σ a l c xs kids Q o hx hQ
    obtain ⟨tk, e⟩ := o.nd.node
    have e : σ a = some (nodeC (.int t tk) (.ref cr) (.bool true) l c) := e
    have hk : kids = [] := List.length_eq_zero_iff.mp o.nd.num
    subst hk
    have t3 := o.cx.t3
    have t4 := o.cx.t4
    have el1 := o.nd.el
    have em1 := o.cx.sup _ _ em
    have es1 := elts_of fun e he => (o.xsOk e he).sup o.cx.sup
    have ris1 := o.xsRis
    obtain ⟨xl, xr, rfl, hp, hlt, hcase⟩ := place el.k xs
    refine calls_def [("self", .ref a), ("element", el.r), ("in_order", .bool b)] rfl (by rfl) (fun s _ => BindsTo.of_eq rfl) (locs rfl) (by decide) rfl rfl rfl ?_
    walk_at "enter"
    walk_at "go"
    refine w_spec (by assumption) (by assumption) (spec_isMax e el1 (by simp only [List.length_map]; omega) (by omega) (by omega) ?_) (by decide)
    rw [show ((((xl ++ xr).map El.r).length : Int) == 2 * (t : Int) - 1) = false by simp only [List.length_map, beq_eq_false_iff_ne]; omega]
    walk_at "go"
    refine ⟨rfl, ?_⟩
    walk_at "go"
    refine w_While (fun k σ' m => σ' = σ ∧ m "self" = some (.ref a) ∧ m "element" = some el.r ∧ m "in_order" = some (.bool b)) 0 ⟨rfl, by walk_at "lk", by walk_at "lk", by walk_at "lk"⟩ ?_
    rintro n σ' m ⟨rfl, hm1, hm2, hm3⟩
    walk_at "go"
    refine w_spec (by assumption) (by assumption) (spec_key em1 rfl ?_) (by decide)
    walk_at "go"
    refine w_spec (by assumption) (by assumption) (spec_search e el1 es1 ris1 (by simp only [List.length_map]; omega) fun tp it htp => ?_) (by decide)
    rw [hp]
    rcases hcase with ⟨hb, x, r, rfl, hk⟩ | ⟨hb, hgt⟩
    · rw [hb]
      have hs := Sup.new (.tup [.int xl.length it, .bool true]) htp
      walk_at "go"
      walk_at "unp"
      walk_at "go"
      refine w_item (vs := (xl ++ x :: r).map El.r) (k := xl.length) (hs _ _ el1) (by omega) (by simp at hx; omega) (v := x.r) (by simp) ?_ rfl
      walk_at "go"
      refine w_setItem (vs := (xl ++ x :: r).map El.r) (by walk_at "sg") (by omega) (by simp; omega) (by simp at hx ⊢; omega) ?_
      walk_at "go"
      rw [show ((xl ++ x :: r).map El.r).set ((xl.length : Nat) : Int).toNat el.r = (xl ++ el :: r).map El.r by simp]
      have ie : insE el (weave [] (xl ++ x :: r)) = weave [] (xl ++ el :: r) := insE_hit hlt hk
      have o1 := o.sup hs
      have fin := o1.setXs (T := (σ'.set tp (.tup [.int xl.length it, .bool true])).set l (.list ((xl ++ el :: r).map El.r))) (Store.set_same _ _ _) (fun b' hb' => Store.set_ne _ _ hb') (by simp at hx ⊢; omega) (.inr (by simp)) (fun y hy => by
        rw [← ie] at hy
        exact (mem_insE hy).elim (fun q => q ▸ hel) (o.cx.els y)) (by rw [← ie]; exact insE_ris o.cx.ris)
      have := hQ _ _ _ (ie ▸ fin.1.shut) (by simp) ((Step.sup hs).trans fin.2)
      have lk : look el.k (weave [] (xl ++ x :: r)) = some x := look_hit o.cx.ris (by show x ∈ xl ++ x :: r; simp) hk
      rw [lk] at this
      exact this
    · rw [hb]
      have hs := Sup.new (.tup [.int xl.length it, .bool false]) htp
      walk_at "go"
      walk_at "unp"
      walk_at "go"
      refine w_insert (vs := (xl ++ xr).map El.r) (by walk_at "sg") (by omega) (by simp; omega) (by simp at hx ⊢; rw [sizeLine_eq]; omega) ?_
      walk_at "go"
      rw [show List.take ((xl.length : Nat) : Int).toNat ((xl ++ xr).map El.r) ++ el.r :: List.drop ((xl.length : Nat) : Int).toNat ((xl ++ xr).map El.r) = (xl ++ el :: xr).map El.r by simp]
      have ris2 : Rising (ksOf (xl ++ xr)) := o.cx.ris
      have ie : insE el (weave [] (xl ++ xr)) = weave [] (xl ++ el :: xr) := insE_new hlt (gt_xs ris2.right hgt)
      have o1 := o.sup hs
      have fin := o1.setXs (T := (σ'.set tp (.tup [.int xl.length it, .bool false])).set l (.list ((xl ++ el :: xr).map El.r))) (Store.set_same _ _ _) (fun b' hb' => Store.set_ne _ _ hb') (by simp at hx ⊢; omega) (.inl rfl) (fun y hy => by
        rw [← ie] at hy
        exact (mem_insE hy).elim (fun q => q ▸ hel) (o.cx.els y)) (by rw [← ie]; exact insE_ris o.cx.ris)
      have := hQ _ _ _ (ie ▸ fin.1.shut) (by simp only [List.length_append, List.length_cons]; omega) ((Step.sup hs).trans fin.2)
      have lk : look el.k (weave [] (xl ++ xr)) = none := look_none hlt (gt_xs ris2.right hgt)
      rw [lk] at this
      exact this
  | succ h ih =>
    intro σ a l c xs kids Q o hx hQ
    obtain ⟨tk, e⟩ := o.nd.node
    have e : σ a = some (nodeC (.int t tk) (.ref cr) (.bool false) l c) := e
    have t3 := o.cx.t3
    have t4 := o.cx.t4
    have el0 := o.nd.el
    refine calls_def [("self", .ref a), ("element", el.r), ("in_order", .bool b)] rfl (by rfl) (fun s _ => BindsTo.of_eq rfl) (locs rfl) (by decide) rfl rfl rfl ?_
    intro y hh hr hcs hcn ha hcd hcl
    clear hcn ha hcd hcl
    walk_at "go"
    refine w_spec (by assumption) (by assumption) (spec_isMax e el0 (by simp only [List.length_map]; omega) (by omega) (by omega) ?_) (by omega)
    rw [show (((xs.map El.r).length : Int) == 2 * (t : Int) - 1) = false by simp only [List.length_map, beq_eq_false_iff_ne]; omega]
    walk_at "go"
    refine ⟨rfl, ?_⟩
    walk_at "go"
    refine w_While (fun k σ' m => m "self" = some (.ref a) ∧ m "element" = some el.r ∧ m "in_order" = some (.bool b) ∧ ∃ xs' kids', Nod Z σ' cr t (h + 1) a l c xs' kids' ∧ weave kids' xs' = weave kids xs ∧ xs.length ≤ xs'.length ∧ Step (fpOf a l c kids) (fpOf a l c kids') σ σ' ∧
        ((k = 1 ∧ xs'.length < 2 * t - 1) ∨ (k = 0 ∧ ∀ pre K post, kids' = pre ++ K :: post → pre.length = posOf el.k (ksOf xs') → K.n < 2 * t - 1))) 1
      ⟨by walk_at "lk", by walk_at "lk", by walk_at "lk", xs, kids, o, rfl, Nat.le_refl _, .refl, .inl ⟨rfl, hx⟩⟩ ?_
    rintro n σ1 m ⟨hm1, hm2, hm3, xs, kids, o1, hw, hxs1, st1, hst⟩
    rw [← hw] at hQ
    clear e el0
    obtain ⟨tk, e⟩ := o1.nd.node
    have e : σ1 a = some (nodeC (.int t tk) (.ref cr) (.bool false) l c) := e
    have el1 := o1.nd.el
    have em1 := o1.cx.sup _ _ em
    have es1 := elts_of fun e he => (o1.xsOk e he).sup o1.cx.sup
    have ris1 := o1.xsRis
    have num : kids.length = xs.length + 1 := o1.nd.num
    have hhi := o1.nd.hi
    obtain ⟨xl, xr, rfl, hp, hlt, hcase⟩ := place el.k xs
    have hhi2 : xl.length + xr.length ≤ 7 := by simp at hhi; omega
    walk_at "go"
    refine w_spec (by assumption) (by assumption) (spec_key em1 rfl ?_) (by omega)
    walk_at "go"
    refine w_spec (by assumption) (by assumption) (spec_search e el1 es1 ris1 (by simp only [List.length_map]; omega) fun tp it htp => ?_) (by omega)
    rw [hp]
    rcases hcase with ⟨hb, x, r, rfl, hk⟩ | ⟨hb, hgt⟩
    · rw [hb]
      have hs := Sup.new (.tup [.int xl.length it, .bool true]) htp
      walk_at "go"
      walk_at "unp"
      walk_at "go"
      refine w_item (vs := (xl ++ x :: r).map El.r) (k := xl.length) (hs _ _ el1) (by omega) (by omega) (v := x.r) (by simp) ?_ rfl
      walk_at "go"
      refine w_setItem (vs := (xl ++ x :: r).map El.r) (by walk_at "sg") (by omega) (by simp; omega) (by simp at hhi ⊢; omega) ?_
      walk_at "go"
      rw [show ((xl ++ x :: r).map El.r).set ((xl.length : Nat) : Int).toNat el.r = (xl ++ el :: r).map El.r by simp]
      obtain ⟨A, B, hA, hA1, hA2⟩ := weave_hole kids xl r
      have hris := o1.cx.ris
      rw [hA] at hris
      have ie : insE el (weave kids (xl ++ x :: r)) = weave kids (xl ++ el :: r) := by
        rw [hA, hA]
        exact insE_hit (fun y hy => by have := hris.cross hy (.head _); omega) hk
      have o2 := o1.sup hs
      have fin := o2.setXs (T := (σ1.set tp (.tup [.int xl.length it, .bool true])).set l (.list ((xl ++ el :: r).map El.r))) (Store.set_same _ _ _) (fun b' hb' => Store.set_ne _ _ hb') (by simp at hhi ⊢; omega) (.inr (by simp)) (fun y hy => by
        rw [← ie] at hy
        exact (mem_insE hy).elim (fun q => q ▸ hel) (o1.cx.els y)) (by rw [← ie]; exact insE_ris o1.cx.ris)
      have := hQ _ _ _ (ie ▸ fin.1.shut) (by simp at hxs1 ⊢; omega) (st1.trans ((Step.sup hs).trans fin.2))
      have lk : look el.k (weave kids (xl ++ x :: r)) = some x := look_hit o1.cx.ris (mem_weave.mpr (.inr (by simp))) hk
      rw [lk] at this
      exact this
    · rw [hb]
      have hs := Sup.new (.tup [.int xl.length it, .bool false]) htp
      obtain ⟨pre, K, post, rfl, hpre, hpost⟩ := kid_split (by simpa using num)
      have o2 := o1.sup hs
      have st2 := st1.trans (Step.sup hs)
      walk_at "go"
      walk_at "unp"
      walk_at "go"
      refine w_spec (by assumption) (by assumption) (spec_cowChild o2 (by omega) fun σ3 K1 o3 q1 q2 q3 st3 => ?_) (by omega)
      obtain ⟨tk3, e3⟩ := o3.nd.node
      have e3 : σ3 a = some (nodeC (.int t tk3) (.ref cr) (.bool false) l c) := e3
      obtain ⟨kl, kc, kxs, kks, oK, eK, nK, fK⟩ := q3.open
      obtain ⟨tkK, eKn⟩ := oK.nd.node
      have hki := oK.nd.hi
      have st4 := st2.trans st3
      have hw3 := weave_es (K := K) (K' := K1) (pre := pre) (post := post) q1 (xl ++ xr)
      walk_at "go"
      refine w_spec (by assumption) (by assumption) (spec_isMax eKn oK.nd.el (by simp only [List.length_map]; omega) (by omega) (by omega) ?_) (by omega)
      by_cases hmax : K1.n = 2 * t - 1
      · rw [show (((kxs.map El.r).length : Int) == 2 * (t : Int) - 1) = true by simp only [List.length_map, beq_iff_eq]; omega]
        have hn1 : n = 1 ∧ (xl ++ xr).length < 2 * t - 1 := by
          rcases hst with q | ⟨q, q'⟩
          · exact q
          · have := q' pre K post rfl (by rw [hp, hpre]); omega
        walk_at "go"
        refine w_MethodStar ?_ rfl
        walk_at "go"
        refine bound_adopt e3 fun q0 hq0 => ?_
        have hs0 := Sup.new (.raw (methodObj (.ref 168) (.ref a))) hq0
        have eK0 := hs0 _ _ eKn
        refine spec_grow (o3.sup hs0) hpre hn1.2 hmax q3.own.fpne hh (hr.le (by omega)) (Store.set_same _ _ _) (fun Q hq => ?_) fun σ4 L R m4 o4 nL nR hes st5 => ?_
        · walk_at "go"
          exact hq
        · walk_at "go"
          have w1 := weave_pair (x := m4) (K := L) (R := R) (post := post) (xr := xr) hpre
          have w2 := weave_mid (K := K1) (post := post) (xr := xr) hpre
          refine ⟨0, by omega, by walk_at "lk", by walk_at "lk", by walk_at "lk", xl ++ m4 :: xr, pre ++ ([L, R] ++ post), o4, ?_, by simp at hxs1 ⊢; omega, (st4.trans (Step.sup hs0)).trans st5, .inr ⟨rfl, fun pre' K' post' e1 e2 => ?_⟩⟩
          · rw [← hw, ← hw3, w1, w2, ← hes]; simp
          · rcases pos_half (m := m4) hlt hgt with e3 | e3
            · obtain ⟨-, e4⟩ := app_len e1 (by omega)
              cases e4; omega
            · rw [show pre ++ ([L, R] ++ post) = (pre ++ [L]) ++ R :: post by simp] at e1
              obtain ⟨-, e4⟩ := app_len e1 (by simp; omega)
              cases e4; omega
      · rw [show (((kxs.map El.r).length : Int) == 2 * (t : Int) - 1) = false by simp only [List.length_map, beq_eq_false_iff_ne]; omega]
        walk_at "go"
        refine w_spec (by assumption) (by assumption) (ih oK (by omega) fun σ4 n4 fp4 ot4 hn4 st5 => ?_) (by omega)
        obtain ⟨c1, c2⟩ := cut hpre hpost o3.cx.ris hlt hgt
        rw [← fK] at st5
        rw [← eK] at ot4 ⊢
        obtain ⟨da, dl, dc⟩ := o3.disj
        have hc4 := st5.keep c _ dc o3.nd.ch
        have hwn : weave (pre ++ (⟨K1.a, insE el K1.es, fp4, n4⟩ : Kd) :: post) (xl ++ xr) = insE el (weave (pre ++ K :: post) (xl ++ xr)) := by
          rw [← hw3, weave_mid hpre, weave_mid hpre, insE_mid c1 c2]
        have fin := Nod.swap (K' := ⟨K1.a, insE el K1.es, fp4, n4⟩) (σ'' := σ4) o3 ot4 (by have := o3.kidN (K := K1) (by simp); show t - 1 ≤ n4; omega) st5 (by rw [hc4]; simp) (fun _ _ => rfl) (by rw [hwn]; exact insE_ris o1.cx.ris)
        obtain ⟨o5, st6⟩ := fin
        have st7 := st4.trans st6
        have hlook : look el.k (weave (pre ++ K :: post) (xl ++ xr)) = look el.k K1.es := by rw [← hw3, weave_mid hpre, look_app c1 c2]
        obtain ⟨tk5, e5⟩ := o5.nd.node
        have e5 : σ4 a = some (nodeC (.int t tk5) (.ref cr) (.bool false) l c) := e5
        walk_at "go"
        refine ite_both (fun hb => ?_) fun hb => ?_
        · walk_at "go"
          refine w_spec (by assumption) (by assumption) (spec_opt (j := xl.length) o5 rfl (by simp; omega) fun σ6 xs6 kids6 o6 hw6 hl6 st8 => ?_) (by omega)
          walk_at "go"
          rw [← hlook]
          exact hQ σ6 _ _ (by rw [← hwn, ← hw6]; exact o6.shut) (by rw [hl6]; exact hxs1) (st7.trans st8)
        · walk_at "go"
          rw [← hlook]
          exact hQ σ4 _ _ (by rw [← hwn]; exact o5.shut) hxs1 st7
end
section
variable {g : Gl} {t : Nat} {Z : Store} {cr : Addr}
theorem spec_getNode {key : Int} {kt : Tok} (e0 : El) : ∀ (h : Nat) {σ : Store} {a l c : Addr} {xs : List El} {kids : List Kd} {A B : List El} {Q : Value → Store → Prop}, Nod Z σ cr t h a l c xs kids → weave kids xs = A ++ e0 :: B → e0.k = key →
    (∀ (σ' : Store) (tp n0 l0 c0 : Addr) (i0 : Nat) (it tk : Tok) (lf : Bool) (xs0 : List El) (fp : List Addr), σ' tp = some (.tup [.ref n0, .int i0 it]) → σ' n0 = some (nodeC (.int t tk) (.ref cr) (.bool lf) l0 c0) → σ' l0 = some (.list (xs0.map El.r)) → xs0[i0]? = some e0 → xs0.length ≤ 2 * t - 1 → Step (fpOf a l c kids) fp σ σ' →
      (∀ (e' : El) (T : Store), ElOk Z e' → Rising (ksOf (A ++ e' :: B)) → T l0 = some (.list ((xs0.set i0 e').map El.r)) → (∀ b, b ≠ l0 → T b = σ' b) → OT Z T cr t h xs.length a (A ++ e' :: B) fp ∧ Step fp fp σ' T) → Q (.ref tp) σ') →
    Calls g hpN (h + 6) (.ref 119) [.ref a, .int key kt] [] σ Q := by
  intro h
  induction h with
  | zero =>
    intro σ a l c xs kids A B Q o hAB hk hQ
    obtain ⟨tk, e⟩ := o.nd.node
    have e : σ a = some (nodeC (.int t tk) (.ref cr) (.bool true) l c) := e
    have hk0 : kids = [] := List.length_eq_zero_iff.mp o.nd.num
    subst hk0
    have t3 := o.cx.t3
    have t4 := o.cx.t4
    have el1 := o.nd.el
    have es1 := elts_of fun e he => (o.xsOk e he).sup o.cx.sup
    have ris1 := o.xsRis
    have hhi := o.nd.hi
    have hAB : xs = A ++ e0 :: B := hAB
    subst hAB
    have ris2 : Rising (ksOf (A ++ e0 :: B)) := o.cx.ris
    obtain ⟨xl, xr, hxx, hp, hlt, hcase⟩ := place key (A ++ e0 :: B)
    rcases hcase with ⟨hb, x, r, rfl, hkx⟩ | ⟨hb, hgt⟩
    · obtain ⟨rfl, rfl, rfl⟩ := split_unique hxx ris2 (by omega)
      refine calls_def [("self", .ref a), ("key", .int key kt)] rfl (by rfl) (fun s _ => BindsTo.of_eq rfl) (locs rfl) (by decide) rfl rfl rfl ?_
      walk_at "enter"
      walk_at "go"
      refine w_spec (by assumption) (by assumption) (spec_search e el1 es1 ris1 (by simp only [List.length_map]; omega) fun tp it htp => ?_) (by decide)
      rw [hp, hb]
      have hs := Sup.new (.tup [.int A.length it, .bool true]) htp
      walk_at "go"
      walk_at "unp"
      walk_at "go"
      refine w_newTupleA (Sup.refl _) (Nat.le_of_ble_eq_true rfl) fun tp2 σ2 htp2 S2 etp2 => ?_
      walk_at "go"
      have hs2 := hs.trans S2
      have o2 := o.sup hs2
      refine hQ σ2 tp2 a l c A.length it tk true (A ++ e0 :: B) (fpOf a l c []) etp2 (hs2 _ _ e) (hs2 _ _ el1) (by simp) hhi (.sup hs2) fun e' T he' hr' h1 h2 => ?_
      have hset : (A ++ e0 :: B).set A.length e' = A ++ e' :: B := by simp
      rw [hset] at h1
      have fin := o2.setXs (xs' := A ++ e' :: B) h1 h2 (by simp at hhi ⊢; omega) (.inl rfl) (fun y hy => by
        have hy : y ∈ A ++ e' :: B := hy
        rcases List.mem_append.mp hy with m | m
        · exact o.xsOk y (by simp [m])
        · rcases List.mem_cons.mp m with rfl | m
          · exact he'
          · exact o.xsOk y (by simp [m])) hr'
      have := fin.1.shut
      rw [show (A ++ e' :: B).length = (A ++ e0 :: B).length by simp] at this
      exact ⟨this, fin.2⟩
    · exfalso
      have := look_none hlt (gt_xs (Rising.right (hxx ▸ ris2)) hgt)
      rw [← hxx, look_hit ris2 (x := e0) (by simp) hk] at this; cases this
  | succ h ih =>
    intro σ a l c xs kids A B Q o hAB hk hQ
    obtain ⟨tk, e⟩ := o.nd.node
    have e : σ a = some (nodeC (.int t tk) (.ref cr) (.bool false) l c) := e
    have t3 := o.cx.t3
    have t4 := o.cx.t4
    have el1 := o.nd.el
    have es1 := elts_of fun e he => (o.xsOk e he).sup o.cx.sup
    have ris1 := o.xsRis
    have hhi := o.nd.hi
    have num : kids.length = xs.length + 1 := o.nd.num
    have ris2 := o.cx.ris
    obtain ⟨xl, xr, rfl, hp, hlt, hcase⟩ := place key xs
    have hhi2 : xl.length + xr.length ≤ 7 := by simp at hhi; omega
    refine calls_def [("self", .ref a), ("key", .int key kt)] rfl (by rfl) (fun s _ => BindsTo.of_eq rfl) (locs rfl) (by decide) rfl rfl rfl ?_
    walk_at "enter"
    walk_at "go"
    refine w_spec (by assumption) (by assumption) (spec_search e el1 es1 ris1 (by simp only [List.length_map]; omega) fun tp it htp => ?_) (by omega)
    rw [hp]
    rcases hcase with ⟨hb, x, r, rfl, hkx⟩ | ⟨hb, hgt⟩
    · rw [hb]
      have hs := Sup.new (.tup [.int xl.length it, .bool true]) htp
      walk_at "go"
      walk_at "unp"
      walk_at "go"
      refine w_newTupleA (Sup.refl _) (Nat.le_of_ble_eq_true rfl) fun tp2 σ2 htp2 S2 etp2 => ?_
      walk_at "go"
      obtain ⟨A2, B2, hA, hA1, hA2⟩ := weave_hole kids xl r
      have hris := o.cx.ris
      rw [hA] at hris hAB
      obtain ⟨rfl, rfl, rfl⟩ := split_unique hAB hris (by omega)
      have hs2 := hs.trans S2
      have o2 := o.sup hs2
      refine hQ σ2 tp2 a l c xl.length it tk false (xl ++ x :: r) (fpOf a l c kids) etp2 (hs2 _ _ e) (hs2 _ _ el1) (by simp) hhi (.sup hs2) fun e' T he' hr' h1 h2 => ?_
      have hset : (xl ++ x :: r).set xl.length e' = xl ++ e' :: r := by simp
      rw [hset] at h1
      have fin := o2.setXs (xs' := xl ++ e' :: r) h1 h2 (by simp at hhi ⊢; omega) (.inr (by simp)) (fun y hy => by
        rw [hA] at hy
        have hm : ∀ y, y ∈ A2 ∨ y ∈ B2 → ElOk Z y := fun y q => o.cx.els y (by rw [hA]; simp; grind)
        rcases List.mem_append.mp hy with m | m
        · exact hm y (.inl m)
        · rcases List.mem_cons.mp m with rfl | m
          · exact he'
          · exact hm y (.inr m)) (by rw [hA]; exact hr')
      have := fin.1.shut
      rw [show (xl ++ e' :: r).length = (xl ++ x :: r).length by simp, hA] at this
      exact ⟨this, fin.2⟩
    · rw [hb]
      have hs := Sup.new (.tup [.int xl.length it, .bool false]) htp
      obtain ⟨pre, K, post, rfl, hpre, hpost⟩ := kid_split (by simpa using num)
      have o2 := o.sup hs
      walk_at "go"
      walk_at "unp"
      walk_at "go"
      refine w_spec (by assumption) (by assumption) (spec_cowChild o2 (by omega) fun σ3 K1 o3 q1 q2 q3 st3 => ?_) (by omega)
      obtain ⟨kl, kc, kxs, kks, oK, eK, nK, fK⟩ := q3.open
      obtain ⟨tkK, eKn⟩ := oK.nd.node
      have hw3 := weave_es (K := K) (K' := K1) (pre := pre) (post := post) q1 (xl ++ xr)
      obtain ⟨c1, c2⟩ := cut hpre hpost o3.cx.ris hlt hgt
      have hlk : look key K1.es = some e0 := by
        have := look_hit o.cx.ris (x := e0) (by rw [hAB]; simp) hk
        rwa [← hw3, weave_mid hpre, look_app c1 c2] at this
      obtain ⟨A2, B2, hAB2⟩ := List.append_of_mem (look_mem hlk).1
      have hww : weave (pre ++ K :: post) (xl ++ xr) = (weave pre xl ++ A2) ++ e0 :: (B2 ++ tlW post xr) := by rw [← hw3, weave_mid hpre, hAB2]; simp
      have ris3 := o.cx.ris
      rw [hww] at hAB ris3
      obtain ⟨rfl, -, rfl⟩ := split_unique hAB ris3 rfl
      walk_at "go"
      refine w_spec (by assumption) (by assumption) (ih oK (A := A2) (B := B2) (by rw [← eK]; exact hAB2) hk fun σ4 tp4 n0 l0 c0 i0 it4 tk4 lf4 xs0 fp4 z1 z2 z3 z4 z5 st4 z6 => ?_) (by omega)
      walk_at "go"
      rw [← fK] at st4
      obtain ⟨da, dl, dc⟩ := o3.disj
      have stp : Step (fpOf a l c (pre ++ K1 :: post)) (fpOf a l c (pre ++ (⟨K1.a, [], fp4, 0⟩ : Kd) :: post)) σ3 σ4 := by
        rw [fpOf_split, fpOf_split]; exact st4.part
      refine hQ σ4 tp4 n0 l0 c0 i0 it4 tk4 lf4 xs0 (fpOf a l c (pre ++ (⟨K1.a, [], fp4, 0⟩ : Kd) :: post)) z1 z2 z3 z4 z5 (((Step.sup hs).trans st3).trans stp) fun e' T he' hr' h1 h2 => ?_
      have hr2 : Rising (ksOf (A2 ++ e' :: B2)) := hr'.sub (by
        have : (weave pre xl ++ A2) ++ e' :: (B2 ++ tlW post xr) = weave pre xl ++ ((A2 ++ e' :: B2) ++ tlW post xr) := by simp
        rw [this]; exact (List.sublist_append_left _ _).trans (List.sublist_append_right _ _))
      obtain ⟨ot5, st5⟩ := z6 e' T he' hr2 h1 h2
      have st6 := st4.trans st5
      have hc5 := st6.keep c _ dc o3.nd.ch
      have hwn : weave (pre ++ (⟨K1.a, A2 ++ e' :: B2, fp4, kxs.length⟩ : Kd) :: post) (xl ++ xr) = (weave pre xl ++ A2) ++ e' :: (B2 ++ tlW post xr) := by rw [weave_mid hpre]; simp
      have fin := Nod.swap (K' := ⟨K1.a, A2 ++ e' :: B2, fp4, kxs.length⟩) (σ'' := T) o3 ot5 (by have := o3.kidN (K := K1) (by simp); show t - 1 ≤ kxs.length; omega) st6 (by rw [hc5]; simp) (fun _ _ => rfl) (by rw [hwn]; exact hr')
      have fs := fin.1.shut
      rw [hwn] at fs
      refine ⟨by simpa [fpOf] using fs, ?_⟩
      have st7 : Step (fpOf a l c (pre ++ (⟨K1.a, [], fp4, 0⟩ : Kd) :: post)) (fpOf a l c (pre ++ (⟨K1.a, [], fp4, 0⟩ : Kd) :: post)) σ4 T := by
        rw [fpOf_split]; exact st5.part
      exact st7
end
theorem ite_nn {A B : Prop} (h : B) : if (!(Value.none == Value.none)) then A else B := h
theorem ite_nr {a : Addr} {A B : Prop} (h : A) : if (!(Value.ref a == Value.none)) then A else B := h
theorem ite_ni {a : Int} {k : Tok} {A B : Prop} (h : A) : if (!(Value.int a k == Value.none)) then A else B := h
theorem ite_yn {A B : Prop} (h : A) : if (Value.none == Value.none) then A else B := h
theorem ite_yr {a : Addr} {A B : Prop} (h : B) : if (Value.ref a == Value.none) then A else B := h
theorem ite_yi {a : Int} {k : Tok} {A B : Prop} (h : B) : if (Value.int a k == Value.none) then A else B := h
theorem ite_bneS {a : Addr} {A B : Prop} (h : B) : if (a != a) then A else B := by simpa using h
local macro_rules | `(tactic| walk_at "flow") => `(tactic| first
  | with_reducible refine ite_nn ?_
  | with_reducible refine ite_nr ?_
  | with_reducible refine ite_ni ?_
  | with_reducible refine ite_yn ?_
  | with_reducible refine ite_yr ?_
  | with_reducible refine ite_yi ?_
  | with_reducible refine ite_bneS ?_)
theorem ite_cut {g : Gl} {x : Fx} {c : Bool} {t1 t2 : Sem Flow} {σ : Store} {m : Loc} {E : Value → Heap → Prop} {P K : Flow → Store → Loc → Prop} (h : if c then W g x t1 σ m P E else W g x t2 σ m P E) (k : ∀ f σ' m', P f σ' m' → K f σ' m') : if c then W g x t1 σ m K E else W g x t2 σ m K E := by
  cases c
  · exact W.mono h k
  · exact W.mono h k
section
variable {g : Gl} {t : Nat} {Z : Store} {cr : Addr}
theorem spec_delete0 {key : Int} {kt : Tok} {pv xv : Value} {σ : Store} {a l c : Addr} {xs : List El} {kids : List Kd} {Q : Value → Store → Prop} (o : Nod Z σ cr t 0 a l c xs kids) (hpv : pv = .none ∨ ((∃ p, pv = .ref p) ∧ t ≤ xs.length)) (hxv : xv = .none ∨ ∃ e0, look key (weave kids xs) = some e0 ∧ xv = e0.r)
    (hQ : ∀ (σ' : Store) (n : Nat) (fp : List Addr), OT Z σ' cr t 0 n a (delE key (weave kids xs)) fp → xs.length ≤ n + 1 → Step (fpOf a l c kids) fp σ σ' → Q (refOf (look key (weave kids xs))) σ') :
    Calls g hpN 3 (.ref 203) [.ref a, .int key kt, pv, xv] [] σ Q := by
  obtain ⟨tk, e⟩ := o.nd.node
  have e : σ a = some (nodeC (.int t tk) (.ref cr) (.bool true) l c) := e
  have hk0 : kids = [] := List.length_eq_zero_iff.mp o.nd.num
  subst hk0
  have t3 := o.cx.t3
  have t4 := o.cx.t4
  have el1 := o.nd.el
  have es1 := elts_of fun e he => (o.xsOk e he).sup o.cx.sup
  have ris1 := o.xsRis
  have hhi := o.nd.hi
  obtain ⟨xl, xr, rfl, hp, hlt, hcase⟩ := place key xs
  have ris2 : Rising (ksOf (xl ++ xr)) := o.cx.ris
  have hxv : xv = .none ∨ ∃ e0, look key (xl ++ xr) = some e0 ∧ xv = e0.r := hxv
  refine calls_def [("self", .ref a), ("key", .int key kt), ("parent", pv), ("exact", xv)] rfl (by rfl) (fun s _ => BindsTo.of_eq rfl) (locs rfl) (by decide) rfl rfl rfl ?_
  intro y hh hr hcs hcn ha hcd hcl
  clear hcn ha hcd hcl
  refine w_cons (W.mono (P := fun f σ' m' => f = .next ∧ σ' = σ ∧ m' "self" = some (.ref a) ∧ m' "key" = some (.int key kt) ∧ m' "exact" = some xv) ?_ ?_)
  · walk_at "go"
    rcases hpv with rfl | ⟨⟨p, rfl⟩, hlen⟩
    · walk_at "go"
      exact ⟨rfl, rfl, rfl, by walk_at "lk", by walk_at "lk", by walk_at "lk"⟩
    · walk_at "go"
      refine w_spec (by assumption) (by assumption) (spec_isMin e el1 (by simp only [List.length_map]; omega) (by simp only [List.length_map]; omega) ?_) (by omega)
      rw [show ((((xl ++ xr).map El.r).length : Int) == (t : Int) - 1) = false by simp only [List.length_map, beq_eq_false_iff_ne]; omega]
      walk_at "go"
      exact ⟨rfl, rfl, rfl, by walk_at "lk", by walk_at "lk", by walk_at "lk"⟩
  · rintro f σ' m ⟨rfl, rfl, hm1, hm2, hm3⟩
    refine next_next ?_
    walk_at "go"
    refine w_spec (by assumption) (by assumption) (spec_search e el1 es1 ris1 (by simp only [List.length_map]; omega) fun tp it htp => ?_) (by omega)
    rw [hp]
    rcases hcase with ⟨hb, x, r, rfl, hkx⟩ | ⟨hb, hgt⟩
    · rw [hb]
      have hs := Sup.new (.tup [.int xl.length it, .bool true]) htp
      have hlk : look key (xl ++ x :: r) = some x := look_hit ris2 (by simp) hkx
      obtain ⟨xk, xvv, ex⟩ := (o.xsOk x (by simp)).sup o.cx.sup
      have ex' := hs _ _ ex
      have fin : ∀ T : Store, T l = some (.list ((xl ++ r).map El.r)) → (∀ b, b ≠ l → T b = (σ'.set tp (.tup [.int xl.length it, .bool true])) b) → Q x.r T := fun T h1 h2 => by
        have o1 := o.sup hs
        have hde : delE key (xl ++ x :: r) = xl ++ r := by rw [← hkx]; exact delE_hit ris2
        have fin := o1.setXs (xs' := xl ++ r) h1 h2 (by simp at hhi ⊢; omega) (.inl rfl) (fun z hz => o.xsOk z (show z ∈ xl ++ x :: r from by
          rcases List.mem_append.mp (show z ∈ xl ++ r from hz) with q | q
          · exact List.mem_append.mpr (.inl q)
          · exact List.mem_append.mpr (.inr (.tail _ q)))) (ris2.sub (List.Sublist.append (.refl _) (.cons _ (.refl _))))
        have := hQ T _ _ (show OT Z T cr t 0 _ a (delE key (xl ++ x :: r)) _ by rw [hde]; exact fin.1.shut) (by simp only [List.length_append, List.length_cons]; omega) ((Step.sup hs).trans fin.2)
        rw [show look key (weave [] (xl ++ x :: r)) = some x from hlk] at this
        exact this
      have el2 : (σ'.set tp (.tup [.int xl.length it, .bool true])) l = some (.list (xl.map El.r ++ x.r :: r.map El.r)) := by rw [hs _ _ el1]; simp
      walk_at "go"
      walk_at "unp"
      walk_at "go"
      rcases hxv with rfl | ⟨e0, h0, rfl⟩
      · walk_at "go"
        refine w_popAt (p := xl.map El.r) (q := r.map El.r) (v := x.r) el2 (by simp) (by simp at hhi ⊢; rw [sizeLine_eq]; omega) ?_
        walk_at "go"
        exact fin _ (by rw [Store.set_same]; simp) fun b hb => Store.set_ne _ _ hb
      · obtain rfl : e0 = x := by rw [hlk] at h0; exact (Option.some.inj h0).symm
        walk_at "go"
        refine w_item (vs := (xl ++ e0 :: r).map El.r) (k := xl.length) (hs _ _ el1) (by omega) (by simp at hhi; omega) (v := e0.r) (by simp) ?_ rfl
        walk_at "go"
        refine w_isNot_ref ex' ex' ?_
        walk_at "go"
        refine w_popAt (p := xl.map El.r) (q := r.map El.r) (v := e0.r) el2 (by simp) (by simp at hhi ⊢; rw [sizeLine_eq]; omega) ?_
        walk_at "go"
        exact fin _ (by rw [Store.set_same]; simp) fun b hb => Store.set_ne _ _ hb
    · rw [hb]
      have hs := Sup.new (.tup [.int xl.length it, .bool false]) htp
      have hlk : look key (xl ++ xr) = none := look_none hlt (gt_xs ris2.right hgt)
      obtain rfl : xv = .none := hxv.elim id fun ⟨e0, h0, _⟩ => by rw [hlk] at h0; cases h0
      walk_at "go"
      walk_at "unp"
      walk_at "go"
      have := hQ _ _ _ (show OT Z _ cr t 0 _ a (delE key (xl ++ xr)) _ by rw [delE_none hlk]; exact (o.sup hs).shut) (by omega) (Step.sup hs)
      rw [show look key (weave [] (xl ++ xr)) = none from hlk] at this
      exact this
end
section
variable {g : Gl} {t : Nat} {Z : Store} {cr : Addr}
set_option maxHeartbeats 4000000 in
theorem spec_delete : ∀ (h : Nat) {key : Int} {kt : Tok} {pv xv : Value} {σ : Store} {a l c : Addr} {xs : List El} {kids : List Kd} {Q : Value → Store → Prop}, Nod Z σ cr t h a l c xs kids → (pv = .none ∨ ((∃ p, pv = .ref p) ∧ t ≤ xs.length)) → (h = 0 ∨ 1 ≤ xs.length) → (xv = .none ∨ ∃ e0, look key (weave kids xs) = some e0 ∧ xv = e0.r) →
    (∀ (σ' : Store) (n : Nat) (fp : List Addr), OT Z σ' cr t h n a (delE key (weave kids xs)) fp → xs.length ≤ n + 1 → Step (fpOf a l c kids) fp σ σ' → Q (refOf (look key (weave kids xs))) σ') →
    Calls g hpN (h + 12) (.ref 203) [.ref a, .int key kt, pv, xv] [] σ Q := by
  intro h
  induction h with
  | zero => intro key kt pv xv σ a l c xs kids Q o hpv _ hxv hQ; exact (spec_delete0 o hpv hxv hQ).le (by omega)
  | succ h ih =>
    intro key kt pv xv σ a l c xs kids Q o hpv hne hxv hQ
    have hne : 1 ≤ xs.length := hne.elim (fun q => by omega) id
    obtain ⟨tk, e⟩ := o.nd.node
    have e : σ a = some (nodeC (.int t tk) (.ref cr) (.bool false) l c) := e
    have t3 := o.cx.t3
    have t4 := o.cx.t4
    have el1 := o.nd.el
    have es1 := elts_of fun e he => (o.xsOk e he).sup o.cx.sup
    have ris1 := o.xsRis
    have ris2 := o.cx.ris
    have hhi := o.nd.hi
    have num : kids.length = xs.length + 1 := o.nd.num
    obtain ⟨xl, xr, rfl, hp, hlt, hcase⟩ := place key xs
    have hhi2 : xl.length + xr.length ≤ 7 := by simp at hhi; omega
    refine calls_def [("self", .ref a), ("key", .int key kt), ("parent", pv), ("exact", xv)] rfl (by rfl) (fun s _ => BindsTo.of_eq rfl) (locs rfl) (by decide) rfl rfl rfl ?_
    intro y hh hr hcs hcn ha hcd hcl
    clear hcn ha hcd hcl
    refine w_cons (W.mono (P := fun f σ' m' => f = .next ∧ σ' = σ ∧ m' "self" = some (.ref a) ∧ m' "key" = some (.int key kt) ∧ m' "exact" = some xv) ?_ ?_)
    · walk_at "go"
      rcases hpv with rfl | ⟨⟨p, rfl⟩, hlen⟩
      · walk_at "go"
        exact ⟨rfl, rfl, rfl, by walk_at "lk", by walk_at "lk", by walk_at "lk"⟩
      · walk_at "go"
        refine w_spec (by assumption) (by assumption) (spec_isMin e el1 (by simp only [List.length_map]; omega) (by simp only [List.length_map]; omega) ?_) (by omega)
        rw [show ((((xl ++ xr).map El.r).length : Int) == (t : Int) - 1) = false by simp only [List.length_map, beq_eq_false_iff_ne]; omega]
        walk_at "go"
        exact ⟨rfl, rfl, rfl, by walk_at "lk", by walk_at "lk", by walk_at "lk"⟩
    · rintro f σ' m ⟨rfl, rfl, hm1, hm2, hm3⟩
      refine next_next ?_
      walk_at "go"
      refine w_spec (by assumption) (by assumption) (spec_search e el1 es1 ris1 (by simp only [List.length_map]; omega) fun tp it htp => ?_) (by omega)
      rw [hp]
      have hs := Sup.new (.tup [.int xl.length it, .bool (isAt key (ksOf (xl ++ xr)))]) htp
      generalize hσ1 : σ'.set tp (.tup [.int xl.length it, .bool (isAt key (ksOf (xl ++ xr)))]) = σ1 at hs ⊢
      have etp : σ1 tp = some (.tup [.int xl.length it, .bool (isAt key (ksOf (xl ++ xr)))]) := by rw [← hσ1]; exact Store.set_same _ _ _
      clear hσ1 htp
      have o1 := o.sup hs
      have el2 := hs _ _ el1
      have e2 := hs _ _ e
      walk_at "go"
      walk_at "unp"
      walk_at "go"
      refine ite_cut (P := fun f σ' m' => f = .next ∧ σ' = σ1 ∧ ∃ (key' : Int) (kt' it' : Tok) (ov xv' : Value) (xl' xr' : List El), xl ++ xr = xl' ++ xr' ∧ (∀ x ∈ xl', x.k < key') ∧ (∀ x r, xr' = x :: r → key' < x.k) ∧
        m' "self" = some (.ref a) ∧ m' "key" = some (.int key' kt') ∧ m' "i" = some (.int xl'.length it') ∧ m' "exact" = some xv' ∧ m' "original_key" = some ov ∧
        ((ov = .none ∧ key' = key ∧ xv' = xv) ∨ (∃ kt2, ov = .int key kt2 ∧ xv' = .none ∧ ∃ A x z B, weave kids (xl ++ xr) = A ++ x :: z :: B ∧ x.k = key ∧ z.k = key'))) ?_ ?_
      · rcases hcase with ⟨hb, x, r, rfl, hkx⟩ | ⟨hb, hgt⟩
        · rw [hb]
          have hlk : look key (weave kids (xl ++ x :: r)) = some x := look_hit ris2 (mem_weave.mpr (.inr (by simp))) hkx
          obtain ⟨xk, xvv, ex⟩ := (o1.xsOk x (by simp)).sup o1.cx.sup
          obtain ⟨pre, K, post2, rfl, hpre, hpost⟩ := kid_split (kids := kids) (xl := xl) (xr := x :: r) (by simpa using num)
          obtain ⟨S, post, rfl⟩ : ∃ S post, post2 = S :: post := by
            cases post2 with
            | nil => simp at hpost
            | cons S post => exact ⟨S, post, rfl⟩
          have ec2 : σ1 c = _ := o1.nd.ch
          have hw := weave_pair (x := x) (K := K) (R := S) (post := post) (xr := r) hpre
          simp only [List.cons_append, List.nil_append] at hw
          have hr3 := ris2
          rw [hw] at hr3
          have hkid := (o1.nd.kid S (by simp)).tr o1.cx.sup o1.cx.crc
          obtain ⟨tS, crS, lS, cS, Sx, Sk, eS, elS, ecS, hSn, hSn2, hSn3⟩ := o1.kidRead (k := S) (by simp)
          refine ite_t ?_
          refine w_cons (W.mono (P := fun f s2 m2 => f = .next ∧ s2 = σ1 ∧ m2 "self" = some (.ref a) ∧ m2 "key" = some (.int key kt) ∧ m2 "i" = some (.int xl.length it)) ?_ ?_)
          · walk_at "go"
            rcases hxv with rfl | ⟨e0, h0, rfl⟩
            · walk_at "go"
              exact ⟨rfl, rfl, by walk_at "lk", by walk_at "lk", by walk_at "lk"⟩
            · obtain rfl : e0 = x := by rw [hlk] at h0; exact (Option.some.inj h0).symm
              walk_at "go"
              refine w_item (vs := (xl ++ e0 :: r).map El.r) (k := xl.length) el2 (by omega) (by omega) (v := e0.r) (by simp) ?_ rfl
              walk_at "go"
              refine w_isNot_ref ex ex ?_
              walk_at "go"
              exact ⟨rfl, rfl, by walk_at "lk", by walk_at "lk", by walk_at "lk"⟩
          · rintro f s2 m2 ⟨rfl, rfl, hm1, hm2, hm3⟩
            refine next_next ?_
            walk_at "go"
            refine w_item (vs := (pre ++ K :: S :: post).map Kd.r) (k := (xl.length : Int) + 1) ec2 (by omega) (by omega) (v := S.r) (by rw [show ((xl.length : Int) + 1).toNat = pre.length + 1 by omega]; simp) ?_ rfl
            walk_at "go"
            refine w_spec (by assumption) (by assumption) (spec_min t3 t4 h hkid.2 (by omega) fun z rest hz => ?_) (by omega)
            obtain ⟨zk, zv, ez⟩ := (o1.cx.els z (mem_weave.mpr (.inl ⟨S, by simp, by rw [hz]; simp⟩))).sup o1.cx.sup
            walk_at "go"
            refine w_spec (by assumption) (by assumption) (spec_key ez rfl ?_) (by omega)
            walk_at "go"
            have hxz : x.k < z.k := Rising.cross (A := [x]) (B := S.es ++ tlW post r) (by have := hr3.right.right; simpa using this) (by simp) (by rw [hz]; simp)
            refine ⟨rfl, rfl, z.k, zk, _, .int key kt, .none, xl ++ [x], r, by simp, fun q hq => ?_, fun q r' e => ?_, by walk_at "lk", by walk_at "lk", (by rw [show ((xl ++ [x]).length : Int) = (xl.length : Int) + 1 by simp]; walk_at "lk"), by walk_at "lk", by walk_at "lk", .inr ⟨kt, rfl, rfl, weave pre xl ++ K.es, x, z, rest ++ tlW post r, ?_, hkx, rfl⟩⟩
            · rcases List.mem_append.mp hq with m | m
              · have := hlt q m; omega
              · rw [List.mem_singleton] at m; subst m; exact hxz
            · have hr4 : Rising (ksOf (S.es ++ tlW post r)) := by have := hr3.right.right; exact Rising.right (A := [x]) (by simpa using this)
              exact hr4.cross (by rw [hz]; simp) ((mem_tlW (k := K)).2 (by simp [e]))
            · rw [hw, hz]; simp
        · rw [hb]
          walk_at "go"
          exact ⟨rfl, rfl, key, kt, it, .none, xv, xl, xr, rfl, hlt, hgt, by walk_at "lk", by walk_at "lk", by walk_at "lk", by walk_at "lk", by walk_at "lk", .inl ⟨rfl, rfl, rfl⟩⟩
      · rintro f σ'' m ⟨rfl, rfl, key', kt', it', ov, xv', xl', xr', hxx, hlt', hgt', hm1, hm2, hm4, hm3, hm5, hcond⟩
        have hcond : Unit → _ := fun _ => hcond
        have hxv : Unit → _ := fun _ => hxv
        clear hcase hpv
        obtain ⟨pre, K, post, rfl, hpre, hpost⟩ := kid_split (kids := kids) (xl := xl') (xr := xr') (by rw [← hxx]; exact num)
        have hlen' : (xl ++ xr).length = xl'.length + xr'.length := by rw [hxx, List.length_append]
        have hxl2 : xl'.length + xr'.length ≤ 7 := by rw [← hlen', List.length_append]; exact hhi2
        rw [hxx] at o1 hQ
        have hne' : 1 ≤ xl'.length + xr'.length := by omega
        refine next_next ?_
        walk_at "go"
        refine w_spec (by assumption) (by assumption) (spec_cowChild o1 (by omega) fun σ3 K1 o3 q1 q2 q3 st3 => ?_) (by omega)
        obtain ⟨tk3, e3⟩ := o3.nd.node
        have e3 : σ3 a = some (nodeC (.int t tk3) (.ref cr) (.bool false) l c) := e3
        obtain ⟨kl, kc, kxs, kks, oK, eK, nK, fK⟩ := q3.open
        obtain ⟨tkK, eKn⟩ := oK.nd.node
        have elK := oK.nd.el
        have hK3 := o3.kidN (K := K1) (by simp)
        have st4 := (Step.sup hs).trans st3
        have hw3 := weave_es (K := K) (K' := K1) (pre := pre) (post := post) q1 (xl' ++ xr')
        walk_at "go"
        refine w_spec (by assumption) (by assumption) (spec_isMin eKn elK (by simp only [List.length_map]; omega) (by simp only [List.length_map]; have := oK.nd.hi; omega) ?_) (by omega)
        walk_at "go"
        refine ite_cut (P := fun f s2 m2 => f = .next ∧ ∃ (xl4 xr4 : List El) (pre4 post4 : List Kd) (K4 : Kd), Nod Z s2 cr t (h + 1) a l c (xl4 ++ xr4) (pre4 ++ K4 :: post4) ∧ pre4.length = xl4.length ∧ (∀ x ∈ xl4, x.k < key') ∧ (∀ x r, xr4 = x :: r → key' < x.k) ∧ t ≤ K4.n ∧ K4.fp ≠ [] ∧
          weave (pre4 ++ K4 :: post4) (xl4 ++ xr4) = weave (pre ++ K :: post) (xl' ++ xr') ∧ xl'.length + xr'.length ≤ (xl4 ++ xr4).length + 1 ∧ Step (fpOf a l c (pre ++ K :: post)) (fpOf a l c (pre4 ++ K4 :: post4)) σ' s2 ∧
          m2 "self" = some (.ref a) ∧ m2 "key" = some (.int key' kt') ∧ m2 "child" = some (.ref K4.a) ∧ m2 "exact" = some xv' ∧ m2 "original_key" = some ov) ?_ ?_
        · by_cases hmin : K1.n = t - 1
          · rw [show (((kxs.map El.r).length : Int) == (t : Int) - 1) = true by simp only [List.length_map, beq_iff_eq]; omega]
            walk_at "go"
            refine w_spec (by assumption) (by assumption) (spec_balance o3 q3.own.fpne hmin (by omega) hpre (by intro q; simp [List.append_eq_nil_iff] at q; simp [q] at hne') hlt' hgt' fun σ4 xl4 xr4 pre4 post4 K4 o4 hp4 hl4 hr4 hn4 oK4 hw4 hlen4 st5 => ?_) (by omega)
            obtain ⟨tk4, e4⟩ := o4.nd.node
            have e4 : σ4 a = some (nodeC (.int t tk4) (.ref cr) (.bool false) l c) := e4
            have el4 := o4.nd.el
            have es4 := elts_of fun e he => (o4.xsOk e he).sup o4.cx.sup
            have hhi4 := o4.nd.hi
            obtain ⟨hp5, hb5⟩ := place_inv hl4 hr4
            walk_at "go"
            refine w_spec (by assumption) (by assumption) (spec_search e4 el4 es4 o4.xsRis (by simp only [List.length_map]; omega) fun tp5 it5 htp5 => ?_) (by omega)
            rw [hp5, hb5]
            have hs5 := Sup.new (.tup [.int xl4.length it5, .bool false]) htp5
            have o5 := o4.sup hs5
            have ec5 := o5.nd.ch
            have num4 : (pre4 ++ K4 :: post4).length = (xl4 ++ xr4).length + 1 := o4.nd.num
            obtain ⟨t6, cr6, l6, c6, x6, k6, e6, el6, ec6, hn6, hn62, hn63⟩ := o5.kidRead (k := K4) (by simp)
            walk_at "go"
            walk_at "unp"
            walk_at "go"
            refine ⟨rfl, ?_⟩
            walk_at "go"
            refine w_item (vs := (pre4 ++ K4 :: post4).map Kd.r) (k := xl4.length) ec5 (by omega) (by simp at hhi4; omega) (v := K4.r) (by rw [← hp4]; simp) ?_ rfl
            walk_at "go"
            refine w_spec (by assumption) (by assumption) (spec_isMin e6 el6 (by simp only [List.length_map]; omega) (by simp only [List.length_map]; omega) ?_) (by omega)
            rw [show (((x6.map El.r).length : Int) == (t : Int) - 1) = false by simp only [List.length_map, beq_eq_false_iff_ne]; omega]
            walk_at "go"
            refine ⟨rfl, ?_⟩
            walk_at "go"
            exact ⟨rfl, xl4, xr4, pre4, post4, K4, o5, hp4, hl4, hr4, hn4, oK4.fpne, by rw [hw4, hw3], by rw [← List.length_append]; exact hlen4, st4.trans (st5.trans (.sup hs5)), by walk_at "lk", by walk_at "lk", by walk_at "lk", by walk_at "lk", by walk_at "lk"⟩
          · rw [show (((kxs.map El.r).length : Int) == (t : Int) - 1) = false by simp only [List.length_map, beq_eq_false_iff_ne]; omega]
            walk_at "go"
            exact ⟨rfl, xl', xr', pre, post, K1, o3, hpre, hlt', hgt', by omega, q3.own.fpne, hw3, by simp only [List.length_append]; omega, st4, by walk_at "lk", by walk_at "lk", by walk_at "lk", by walk_at "lk", by walk_at "lk"⟩
        · rintro f s2 m2 ⟨rfl, xl4, xr4, pre4, post4, K4, o4, hp4, hl4, hr4, hn4, hf4, hw4, hlen4, st5, hm1, hm2, hm3, hm4, hm5⟩
          refine next_next ?_
          have num4 : (pre4 ++ K4 :: post4).length = (xl4 ++ xr4).length + 1 := o4.nd.num
          have hpost4 : post4.length = xr4.length := by simp at num4; omega
          obtain ⟨c1, c2⟩ := cut hp4 hpost4 o4.cx.ris hl4 hr4
          have ot4 := o4.kidOT (K := K4) (by simp) ((o4.nd.kid K4 (by simp)).own hf4)
          obtain ⟨kl4, kc4, kx4, kk4, oK4, eK4, nK4, fK4⟩ := ot4.open
          obtain ⟨tkK4, eKn4⟩ := oK4.nd.node
          have hlook : look key' (weave (pre ++ K :: post) (xl' ++ xr')) = look key' K4.es := by rw [← hw4, weave_mid hp4, look_app c1 c2]
          walk_at "go"
          refine w_spec (by assumption) (by assumption) (ih (pv := .ref a) (xv := xv') oK4 (.inr ⟨⟨a, rfl⟩, by omega⟩) (.inr (by omega)) ?_ fun σ6 n6 fp6 ot6 hn6 st6 => ?_) (by omega)
          · rw [← eK4, ← hlook]
            rcases hcond () with ⟨-, rfl, rfl⟩ | ⟨_, -, rfl, -⟩
            · have := hxv (); rw [hxx] at this; exact this
            · exact .inl rfl
          · rw [← fK4] at st6
            rw [← eK4] at ot6 ⊢
            obtain ⟨da, dl, dc⟩ := o4.disj
            have hc6 := st6.keep c _ dc o4.nd.ch
            have hwn : weave (pre4 ++ (⟨K4.a, delE key' K4.es, fp6, n6⟩ : Kd) :: post4) (xl4 ++ xr4) = delE key' (weave (pre ++ K :: post) (xl' ++ xr')) := by
              rw [← hw4, weave_mid hp4, weave_mid hp4, delE_mid c1 c2]
            obtain ⟨o7, st7⟩ := Nod.swap (K' := ⟨K4.a, delE key' K4.es, fp6, n6⟩) (σ'' := σ6) o4 ot6 (by show t - 1 ≤ n6; omega) st6 (by rw [hc6]; simp) (fun _ _ => rfl) (by rw [hwn]; exact o1.cx.ris.sub delE_sub)
            have st8 := st5.trans st7
            have hl7 : (xl ++ xr).length ≤ (xl4 ++ xr4).length + 1 := by omega
            have hhi4 := o4.nd.hi
            rcases hcond () with ⟨rfl, rfl, rfl⟩ | ⟨kt2, rfl, rfl, A, x, z, B, hAB, hxk, hzk⟩
            · walk_at "go"
              rw [← hlook]
              exact hQ σ6 _ _ (by rw [← hwn]; exact o7.shut) (by simp only [List.length_append] at hlen4 ⊢; omega) st8
            · rw [hxx] at hAB
              have r0 := o1.cx.ris
              have els0 := o1.cx.els
              rw [hAB] at r0 els0
              have hz2 : delE key' (A ++ x :: z :: B) = A ++ x :: B := by
                have := delE_hit (A := A ++ [x]) (x := z) (B := B) (by simpa using r0)
                rw [hzk] at this; simpa using this
              have hx2 : delE key (A ++ x :: z :: B) = A ++ z :: B := by
                have := delE_hit (A := A) (x := x) (B := z :: B) r0
                rw [hxk] at this; exact this
              have hlz : look key' K4.es = some z := by rw [← hlook, hAB]; exact look_hit r0 (by simp) hzk
              have hlx : look key (weave (pre ++ K :: post) (xl' ++ xr')) = some x := by rw [hAB]; exact look_hit r0 (by simp) hxk
              have hrz : refOf (look key' K4.es) = z.r := by rw [hlz]; rfl
              rw [hAB, hz2] at hwn
              obtain ⟨tk7, e7⟩ := o7.nd.node
              have e7 : σ6 a = some (nodeC (.int t tk7) (.ref cr) (.bool false) l c) := e7
              rw [hrz]
              walk_at "go"
              refine w_spec (by assumption) (by assumption) (spec_getNode x (h + 1) o7 hwn hxk fun σ8 tp8 n0 l0 c0 i0 it8 tk8 lf8 xs0 fp8 z1 z2 z3 z4 z5 st9 z6 => ?_) (by omega)
              have hi0 : i0 < xs0.length := by
                rcases Nat.lt_or_ge i0 xs0.length with q | q
                · exact q
                · rw [List.getElem?_eq_none q] at z4; cases z4
              walk_at "go"
              walk_at "unp"
              walk_at "go"
              refine ⟨rfl, ?_⟩
              walk_at "go"
              refine ⟨rfl, ?_⟩
              walk_at "go"
              refine w_item (vs := xs0.map El.r) (k := i0) z3 (by omega) (by omega) (v := x.r) (by rw [Int.toNat_natCast, List.getElem?_map, z4]; rfl) ?_ rfl
              walk_at "go"
              refine w_setItem (vs := xs0.map El.r) z3 (by omega) (by simp only [List.length_map]; omega) (by simp only [List.length_map]; omega) ?_
              walk_at "go"
              have hzOk := els0 z (by simp)
              obtain ⟨f1, f2⟩ := z6 z _ hzOk (r0.sub (List.Sublist.append (.refl _) (.cons _ (.refl _)))) (show (σ8.set l0 (.list ((xs0.map El.r).set ((i0 : Nat) : Int).toNat z.r))) l0 = _ by rw [Store.set_same, Int.toNat_natCast, List.map_set]) (fun b hb => Store.set_ne _ _ hb)
              have := hQ _ _ _ (by rw [hAB, hx2]; exact f1) (by simp only [List.length_append] at hlen4 ⊢; omega) ((st8.trans st9).trans f2)
              rw [hlx] at this
              exact this
end
section
variable {g : Gl} {t : Nat} {Z : Store}
theorem spec_check {σ : Store} {ta cur : Addr} {cr tv root size io : Value} {Q : Value → Store → Prop} (e : σ ta = some (treeC cr (.bool false) (.ref cur) tv root size io)) (ec : σ cur = some (.list [])) (hQ : ∀ σ', Sup σ σ' → Q .none σ') : Calls g hpN 2 (.ref 372) [.ref ta] [] σ Q := by
  refine calls_def [("self", .ref ta)] rfl (by rfl) (fun s _ => BindsTo.of_eq rfl) (locs rfl) (by decide) rfl rfl rfl ?_
  intro y hh hr hcs hcn ha hcd hcl
  clear hcn ha hcd hcl
  walk_at "go"
  refine W.mono (W.keepPred (Q := fun f σ' m' => f = .next ∧ SubS σ σ') ?_) ?_
  · refine w_For_list hh ?_ (fun _ _ => rfl) fun _ => rfl
    walk_at "go"
    refine ⟨cur, [], rfl, ec, fun _ σ' m' => SubS σ σ', SubS.refl _, fun _ _ σ1 σ2 h1 h2 => SubS.trans h2 h1, fun _ σ1 _ h => h _ _ (fun P q => by cases q) ec, fun i v σ1 m1 hi => by simp at hi, fun σ1 m1 h1 => ?_⟩
    walk_at "go"
    exact ⟨rfl, h1⟩
  · rintro f σ' m' ⟨hk, rfl, hs⟩
    walk_at "go"
    exact hQ σ' (Sup.of hs hk)
end
section
variable {g : Gl} {t : Nat} {Z : Store} {cr : Addr}
theorem OT.set {σ : Store} {h n : Nat} {a b : Addr} {c c' : Cell} {es : List El} {fp : List Addr} (o : OT Z σ cr t h n a es fp) (hb : b ∉ fp) (zb : Z b = none) (e : σ b = some c') (hne : c' ≠ creC) : OT Z (σ.set b c) cr t h n a es fp := by
  have hcr : cr ≠ b := ne_cell o.cx.crc e (Ne.symm hne)
  refine ⟨o.own.frame fun q hq => Store.set_ne _ _ fun z => hb (z ▸ hq), o.cx.t3, o.cx.t4, fun q cq eq => ?_, ?_, o.cx.zcr, o.cx.crf, o.cx.nd, o.cx.out, o.cx.els, o.cx.ris⟩
  · have hq : q ≠ b := fun z => by rw [z, zb] at eq; cases eq
    rw [Store.set_ne _ _ hq]; exact o.cx.sup q cq eq
  · rw [Store.set_ne _ _ hcr]; exact o.cx.crc
/-- a root of two halves -/
theorem root_fin {σ σ' : Store} {h : Nat} {a l c : Addr} {m : El} {L R : Kd} {es : List El} {fp : List Addr} {tk : Tok} (cx : Ctx Z σ cr t fp es) (hes : L.es ++ m :: R.es = es) (nL : t - 1 ≤ L.n) (nR : t - 1 ≤ R.n) (oL : Own Z σ' cr t h L.n L.a L.es L.fp) (oR : Own Z σ' cr t h R.n R.a R.es R.fp)
    (hnd : (L.fp ++ R.fp).Nodup) (st : Step fp (a :: l :: c :: (L.fp ++ R.fp)) σ σ') (al : a ≠ l) (ac : a ≠ c) (lc : l ≠ c) (hd : ∀ b ∈ L.fp ++ R.fp, b ≠ a ∧ b ≠ l ∧ b ≠ c)
    (e1 : σ' a = some (nodeC (.int t tk) (.ref cr) (.bool false) l c)) (e2 : σ' l = some (.list [m.r])) (e3 : σ' c = some (.list [L.r, R.r])) : Nod Z σ' cr t (h + 1) a l c [m] [L, R] := by
  have t3 := cx.t3
  have hw : weave [L, R] [m] = es := by rw [← hes]; simp [weave]
  refine ⟨⟨⟨tk, e1⟩, e2, e3, by simp; omega, rfl, fun k hk => ?_⟩, cx.t3, cx.t4, cx.supStep st, ?_, cx.zcr, ?_, ?_, ?_, by rw [hw]; exact cx.els, by rw [hw]; exact cx.ris⟩
  · rcases List.mem_cons.mp hk with rfl | hk
    · exact ⟨nL, .inr oL⟩
    · rw [List.mem_singleton] at hk; subst hk; exact ⟨nR, .inr oR⟩
  · exact st.keep cr _ cx.crf cx.crc
  · intro q
    have q' : cr ∈ a :: l :: c :: (L.fp ++ R.fp) := by simpa [fpOf] using q
    rcases st.new cr q' with z | z
    · exact cx.crf z
    · rw [cx.crc] at z; cases z
  · have : (a :: l :: c :: (L.fp ++ R.fp)).Nodup := by
      simp only [List.nodup_cons, List.mem_cons, not_or]
      exact ⟨⟨al, ac, fun q => (hd a q).1 rfl⟩, ⟨lc, fun q => (hd l q).2.1 rfl⟩, fun q => (hd c q).2.2 rfl, hnd⟩
    simpa [fpOf] using this
  · intro b hb
    have hb' : b ∈ a :: l :: c :: (L.fp ++ R.fp) := by simpa [fpOf] using hb
    rcases st.new b hb' with z | z
    · exact cx.out b z
    · cases q : Z b with
      | none => rfl
      | some cb => rw [cx.sup b cb q] at z; cases z
set_option maxHeartbeats 4000000 in
theorem spec_insertElement {σ : Store} {ta : Addr} {io b : Bool} {es : List El} {fp : List Addr} {el : El} {Q : Value → Store → Prop} (T : TreeSt Z σ ta cr t io es fp) (hel : ElOk Z el) (hlen : es.length ≤ 70)
    (hQ : ∀ (σ' : Store) (fp' : List Addr), TreeSt Z σ' ta cr t io (insE el es) fp' → Step (ta :: fp) (ta :: fp') σ σ' → Q (refOf (look el.k es)) σ') :
    Calls g hpN 90 (.ref 380) [.ref ta, el.r, .bool b] [] σ Q := by
  obtain ⟨⟨cur, root, tkT, stT, eT, eCur, h, n, ht, hr⟩, hout, zta, cx⟩ := T
  have t3 := cx.t3
  have t4 := cx.t4
  have hh70 := cx.height ht hr
  refine calls_def [("self", .ref ta), ("elt", el.r), ("in_order", .bool b)] rfl (by rfl) (fun s X => binds_K X rfl (by rfl) rfl rfl rfl) (locs rfl) (by decide) rfl rfl rfl ?_
  intro y hh hroom hcs hcn ha hcd hcl
  clear hcn ha hcd hcl
  walk_at "go"
  refine w_spec (by assumption) (by assumption) (spec_check eT (cx.sup _ _ eCur) fun σ1 hs1 => ?_) (by omega)
  have eT1 := hs1 _ _ eT
  have cx1 := cx.sup' hs1
  have hr1 : (Tr Z t h n root es ∧ fp = []) ∨ Own Z σ1 cr t h n root es fp := hr.imp id fun q => q.sup hs1
  refine next_next ?_
  refine w_cons (W.mono (P := fun f σ' m' => f = .next ∧ m' "self" = some (.ref ta) ∧ m' "elt" = some el.r ∧ m' "in_order" = some (.bool b) ∧ ∃ cv, m' "cloned" = some cv ∧
    ((cv = .none ∧ σ' = σ1 ∧ Own Z σ1 cr t h n root es fp) ∨ (∃ a' fp', cv = .ref a' ∧ OT Z σ' cr t h n a' es fp' ∧ Sup σ1 σ' ∧ (∀ q ∈ fp', σ1 q = none) ∧ fp = []))) ?_ ?_)
  · rcases hr1 with ⟨q, rfl⟩ | q
    · obtain ⟨cr0, l0, c0, xs0, kids0, nd0, hc0, -, -⟩ := Tr_iff.mp q
      obtain ⟨tk0, e0⟩ := nd0.node
      have e0' := cx1.sup _ _ e0
      walk_at "go"
      refine w_spec (by assumption) (by assumption) (spec_cowStill q cx1.sup cx1.crc cx1.zcr t3 t4 cx1.els cx1.ris fun σ' a' fp' ot hs hf => ?_) (by omega)
      walk_at "go"
      exact ⟨rfl, by walk_at "lk", by walk_at "lk", by walk_at "lk", _, upL_same _ _ _, .inr ⟨a', fp', rfl, ot, hs, hf, rfl⟩⟩
    · obtain ⟨l0, c0, xs0, kids0, nd0, -, -, -⟩ := Own_iff.mp q
      obtain ⟨tk0, e0⟩ := nd0.node
      walk_at "go"
      refine w_spec (by assumption) (by assumption) (spec_cowOwn e0 cx1.crc ?_) (by omega)
      walk_at "go"
      exact ⟨rfl, by walk_at "lk", by walk_at "lk", by walk_at "lk", _, upL_same _ _ _, .inl ⟨rfl, rfl, q⟩⟩
  · rintro f σ' m ⟨rfl, hm1, hm2, hm3, cv, hm4, hcv⟩
    refine next_next ?_
    refine w_cons (W.mono (P := fun f σ2 m' => f = .next ∧ m' "self" = some (.ref ta) ∧ m' "elt" = some el.r ∧ m' "in_order" = some (.bool b) ∧ ∃ r2 fp2, σ2 ta = some (treeC (.ref cr) (.bool false) (.ref cur) (.int t tkT) (.ref r2) (.int es.length stT) (.bool io)) ∧
      OT Z σ2 cr t h n r2 es fp2 ∧ ta ∉ fp2 ∧ Step (ta :: fp) (ta :: fp2) σ σ2) ?_ ?_)
    · rcases hcv with ⟨rfl, rfl, q⟩ | ⟨a', fp', rfl, ot, hs2, hf, rfl⟩
      · walk_at "go"
        exact ⟨rfl, hm1, hm2, hm3, root, fp, eT1, ⟨q, cx1⟩, hout, .sup hs1⟩
      · obtain ⟨l', c', xs', kids', nd', -, -, -⟩ := ot.open
        obtain ⟨tk', e'⟩ := nd'.nd.node
        have eT2 := hs2 _ _ eT1
        walk_at "go"
        refine w_truth_inst e' find_Node_bool find_Node_len ?_
        walk_at "go"
        have hto : ta ∉ fp' := fun q => by have := hf ta q; rw [eT1] at this; cases this
        have hset : ∀ q ∈ fp', (σ'.set ta (treeC (.ref cr) (.bool false) (.ref cur) (.int t tkT) (.ref a') (.int es.length stT) (.bool io))) q = σ' q := fun q hq => Store.set_ne _ _ fun z => hto (z ▸ hq)
        have hcrta : cr ≠ ta := ne_cell ot.cx.crc eT2 (fun q => by cases q)
        refine ⟨rfl, hm1, hm2, hm3, a', fp', Store.set_same _ _ _, ⟨ot.own.frame hset, ot.cx.t3, ot.cx.t4, fun q cq e => ?_, ?_, ot.cx.zcr, ot.cx.crf, ot.cx.nd, ot.cx.out, ot.cx.els, ot.cx.ris⟩, hto, ⟨fun q cq hq e => ?_, fun q hq => ?_⟩⟩
        · rw [Store.set_ne _ _ fun z => by subst z; rw [zta] at e; cases e]; exact ot.cx.sup q cq e
        · rw [Store.set_ne _ _ hcrta]; exact ot.cx.crc
        · rw [Store.set_ne _ _ fun z => hq (by simp [z])]; exact hs2 _ _ (hs1 _ _ e)
        · rcases List.mem_cons.mp hq with rfl | hq
          · exact .inl (.head _)
          · exact .inr (hs1.none (hf q hq))
    · rintro f σ2 m ⟨rfl, hm1, hm2, hm3, r2, fp2, eT2, ot2, hto, st2⟩
      refine next_next ?_
      refine w_cons (W.mono (P := fun f σ3 m' => f = .next ∧ m' "self" = some (.ref ta) ∧ m' "elt" = some el.r ∧ m' "in_order" = some (.bool b) ∧ ∃ h' a' l' c' xs' kids', σ3 ta = some (treeC (.ref cr) (.bool false) (.ref cur) (.int t tkT) (.ref a') (.int es.length stT) (.bool io)) ∧
        Nod Z σ3 cr t h' a' l' c' xs' kids' ∧ xs'.length < 2 * t - 1 ∧ weave kids' xs' = es ∧ (h' = 0 ∨ 1 ≤ xs'.length) ∧ ta ∉ fpOf a' l' c' kids' ∧ Step (ta :: fp) (ta :: fpOf a' l' c' kids') σ σ3 ∧ h' ≤ h + 1) ?_ ?_)
      · obtain ⟨l2, c2, xs2, kids2, o2, hes2, hn2, hfp2⟩ := ot2.open
        obtain ⟨tk2, e2⟩ := o2.nd.node
        have el2 := o2.nd.el
        have hhi2 := o2.nd.hi
        walk_at "go"
        refine w_spec (by assumption) (by assumption) (spec_isMax e2 el2 (by simp only [List.length_map]; omega) (by omega) (by omega) ?_) (by omega)
        by_cases hmax : xs2.length = 2 * t - 1
        · rw [show (((xs2.map El.r).length : Int) == 2 * (t : Int) - 1) = true by simp only [List.length_map, beq_iff_eq]; omega]
          walk_at "go"
          refine w_spec (by assumption) (by assumption) (spec_newNode t3 fun σ4 a3 l3 c3 N => ?_) (by omega)
          have hs4 := N.sup
          have eT4 := hs4 _ _ eT2
          obtain ⟨tk3, e3⟩ := N.node
          have w1 := ne_fresh eT2 N.fa
          have w2 := ne_fresh eT2 N.fl
          have w3 := ne_fresh eT2 N.fc
          walk_at "go"
          refine w_MethodStar ?_ rfl
          walk_at "go"
          refine bound_adopt (by walk_at "sg") fun q0 hq0 => ?_
          refine w_starBound (hp := hpN) (f := 168) (self := .ref a3) (k := 3) (by kernel_rfl) hh (hroom.le (by omega)) (Store.set_same _ _ _) ?_
          have ot5 := ((ot2.sup hs4).set (c := treeC (.ref cr) (.bool false) (.ref cur) (.int t tkT) (.ref a3) (.int es.length stT) (.bool io)) hto zta eT4 (fun q => by cases q)).sup (Sup.new (.raw (methodObj (.ref 168) (.ref a3))) hq0)
          obtain ⟨l5, c5, xs5, kids5, o5, hes5, hn5, hfp5⟩ := ot5.open
          obtain ⟨tk5, e5⟩ := o5.nd.node
          walk_at "go"
          refine w_spec (by assumption) (by assumption) (spec_split o5 (by omega) fun σ6 tp L R mm etp aL nL nR hesLR oL oR hnd st6 => ?_) (by omega)
          walk_at "go"
          refine ⟨tp, _, rfl, etp, by simp, ?_⟩
          have fresh2 : ∀ q, σ2 q = none → q ∉ fpOf r2 l5 c5 kids5 := fun q hq z => by
            rw [← hfp5] at z
            obtain ⟨cq, eq⟩ := ot2.own.live q z
            rw [hq] at eq; cases eq
          have up6 : ∀ q cq, q ∉ fpOf r2 l5 c5 kids5 → q ≠ ta → σ4 q = some cq → σ6 q = some cq := fun q cq h1 h2 h3 => st6.keep q cq h1 (Sup.new _ hq0 _ _ (Store.set_off h2 h3))
          have eT6 : σ6 ta = some (treeC (.ref cr) (.bool false) (.ref cur) (.int t tkT) (.ref a3) (.int es.length stT) (.bool io)) := st6.keep ta _ (by rw [← hfp5]; exact hto) (Sup.new _ hq0 _ _ (Store.set_same _ _ _))
          have e36 := up6 a3 _ (fresh2 a3 N.fa) w1.symm e3
          have el36 := up6 l3 _ (fresh2 l3 N.fl) w2.symm N.el
          have ec36 := up6 c3 _ (fresh2 c3 N.fc) w3.symm N.ch
          have hmmE : mm ∈ es := by rw [hes5, ← hesLR]; simp
          rw [← aL]
          refine spec_adopt0 t3 t4 e36 el36 ec36 N.lc ((cx.els mm hmmE).sup (o5.cx.supStep st6)) (fun σ7 c7 f1 f2 f3 f4 f5 => ?_)
          refine next_next ?_
          walk_at "go"
          have ot2S := ot2.set (c := treeC (.ref cr) (.bool false) (.ref cur) (.int t tkT) (.ref a3) (.int es.length stT) (.bool io)) hto zta eT2 (fun q => by cases q)
          have s21 : ∀ q cq, (σ2.set ta (treeC (.ref cr) (.bool false) (.ref cur) (.int t tkT) (.ref a3) (.int es.length stT) (.bool io))) q = some cq → ((σ4.set ta (treeC (.ref cr) (.bool false) (.ref cur) (.int t tkT) (.ref a3) (.int es.length stT) (.bool io))).set q0 (.raw (methodObj (.ref 168) (.ref a3)))) q = some cq := fun q cq h1 => by
            refine Sup.new _ hq0 _ _ ?_
            by_cases hq : q = ta
            · subst hq; rw [Store.set_same] at h1 ⊢; exact h1
            · rw [Store.set_ne _ _ hq] at h1 ⊢; exact hs4 _ _ h1
          have s14 : ∀ q cq, q ≠ ta → σ4 q = some cq → ((σ4.set ta (treeC (.ref cr) (.bool false) (.ref cur) (.int t tkT) (.ref a3) (.int es.length stT) (.bool io))).set q0 (.raw (methodObj (.ref 168) (.ref a3)))) q = some cq := fun q cq h1 h2 => Sup.new _ hq0 _ _ (Store.set_off h1 h2)
          have liveLR : ∀ q ∈ L.fp ++ R.fp, ∃ cq, σ6 q = some cq := fun q hq => (List.mem_append.mp hq).elim (oL.live q) (oR.live q)
          have notLR : ∀ q cq, q ∉ fpOf r2 l5 c5 kids5 → q ≠ ta → σ4 q = some cq → q ∉ L.fp ++ R.fp := fun q cq h1 h2 h3 hq => (st6.new q hq).elim h1 fun z => by rw [s14 q cq h2 h3] at z; cases z
          have na3 := notLR a3 _ (fresh2 a3 N.fa) w1.symm e3
          have nl3 := notLR l3 _ (fresh2 l3 N.fl) w2.symm N.el
          have nc7 : c7 ∉ L.fp ++ R.fp := fun q => by obtain ⟨cq, eq⟩ := liveLR c7 q; rw [f1] at eq; cases eq
          have nta : ta ∉ L.fp ++ R.fp := fun q => (st6.new ta q).elim (by rw [← hfp5]; exact hto) fun z => by
            rw [Sup.new _ hq0 _ _ (Store.set_same _ _ _)] at z; cases z
          have fr : ∀ q ∈ L.fp ++ R.fp, σ7 q = σ6 q := fun q hq => by
            obtain ⟨cq, eq⟩ := liveLR q hq
            rw [eq]; exact f5 q cq (fun z => na3 (z ▸ hq)) (fun z => nl3 (z ▸ hq)) eq
          have k7 : ∀ q cq, q ∉ fp2 → (σ2.set ta (treeC (.ref cr) (.bool false) (.ref cur) (.int t tkT) (.ref a3) (.int es.length stT) (.bool io))) q = some cq → σ6 q = some cq := fun q cq h1 h2 => st6.keep q cq (by rw [← hfp5]; exact h1) (s21 q cq h2)
          have n2a : (σ2.set ta (treeC (.ref cr) (.bool false) (.ref cur) (.int t tkT) (.ref a3) (.int es.length stT) (.bool io))) a3 = none := by rw [Store.set_ne _ _ w1.symm]; exact N.fa
          have n2l : (σ2.set ta (treeC (.ref cr) (.bool false) (.ref cur) (.int t tkT) (.ref a3) (.int es.length stT) (.bool io))) l3 = none := by rw [Store.set_ne _ _ w2.symm]; exact N.fl
          have st7 : Step fp2 (a3 :: l3 :: c7 :: (L.fp ++ R.fp)) (σ2.set ta (treeC (.ref cr) (.bool false) (.ref cur) (.int t tkT) (.ref a3) (.int es.length stT) (.bool io))) σ7 := by
            refine ⟨fun q cq h1 h2 => f5 q cq (ne_fresh h2 n2a) (ne_fresh h2 n2l) (k7 q cq h1 h2), fun q hq => ?_⟩
            simp only [List.mem_cons] at hq
            rcases hq with rfl | rfl | rfl | hq
            · exact .inr n2a
            · exact .inr n2l
            · by_cases hq : q ∈ fp2
              · exact .inl hq
              · right
                cases eq : (σ2.set ta (treeC (.ref cr) (.bool false) (.ref cur) (.int t tkT) (.ref a3) (.int es.length stT) (.bool io))) q with
                | none => rfl
                | some cq => rw [k7 q cq hq eq] at f1; cases f1
            · rcases st6.new q hq with z | z
              · left; rw [hfp5]; exact z
              · right
                cases eq : (σ2.set ta (treeC (.ref cr) (.bool false) (.ref cur) (.int t tkT) (.ref a3) (.int es.length stT) (.bool io))) q with
                | none => rfl
                | some cq => rw [s21 q cq eq] at z; cases z
          have al7 := ne_cell f2 f3 (fun q => by cases q)
          have nod := root_fin (es := es) (fp := fp2) ot2S.cx (by rw [hesLR]; exact hes5.symm) (by omega) (by omega) (oL.frame fun q hq => fr q (by simp [hq])) (oR.frame fun q hq => fr q (by simp [hq])) hnd st7 al7 (ne_cell f2 f4 (fun q => by cases q)) (ne_cell f3 f4 (fun q => by simp at q)) (fun q hq => ⟨fun z => na3 (z ▸ hq), fun z => nl3 (z ▸ hq), fun z => nc7 (z ▸ hq)⟩) f2 f3 f4
          have hto7 : ta ∉ fpOf a3 l3 c7 [L, R] := by
            have : ta ≠ c7 := ne_fresh eT6 f1
            simp only [fpOf, List.mem_cons, List.flatMap_cons, List.flatMap_nil, List.append_nil, not_or]
            exact ⟨w1, w2, this, nta⟩
          exact ⟨rfl, by walk_at "lk", by walk_at "lk", by walk_at "lk", h + 1, a3, l3, c7, [mm], [L, R], f5 ta _ w1 w2 eT6, nod, by simp; omega, by rw [hes5, ← hesLR]; simp [weave], .inr (by simp), hto7, st2.trans ⟨fun q cq hq e => st7.keep q cq (fun z => hq (by simp [z])) (Store.set_off (fun z => hq (by simp [z])) e), fun q hq => by
            rcases List.mem_cons.mp hq with rfl | hq
            · exact .inl (.head _)
            · rcases st7.new q (by simpa [fpOf] using hq) with z | z
              · exact .inl (.tail _ z)
              · right
                by_cases hqt : q = ta
                · subst hqt; rw [Store.set_same] at z; cases z
                · rw [Store.set_ne _ _ hqt] at z; exact z⟩, by omega⟩
        · rw [show (((xs2.map El.r).length : Int) == 2 * (t : Int) - 1) = false by simp only [List.length_map, beq_eq_false_iff_ne]; omega]
          walk_at "go"
          exact ⟨rfl, hm1, hm2, hm3, h, r2, l2, c2, xs2, kids2, eT2, o2, by omega, hes2.symm, by rw [← hn2]; exact ht, by rw [← hfp2]; exact hto, by rw [← hfp2]; exact st2, by omega⟩
      · rintro f σ3 m ⟨rfl, hm1, hm2, hm3, h', a', l', c', xs', kids', eT3, o3, hx3, hw3, ht3, hto3, st3, hh'⟩
        refine next_next ?_
        obtain ⟨tk3, e3⟩ := o3.nd.node
        walk_at "go"
        refine w_spec (by assumption) (by assumption) (spec_insert el hel h' o3 hx3 fun σ4 n4 fp4 ot4 hn4 st4 => ?_) (by omega)
        rw [hw3] at ot4 ⊢
        have eT4 := st4.keep ta _ hto3 eT3
        have hto4 : ta ∉ fp4 := fun q => (st4.new ta q).elim hto3 fun z => by rw [eT3] at z; cases z
        have st5 : Step (ta :: fp) (ta :: fp4) σ σ4 := st3.trans (by
          have := st4.part (A := [ta]) (B := [])
          simpa using this)
        have hlen2 := insE_len (e := el) (es := es) cx.ris
        cases hl : look el.k es with
        | none =>
          rw [hl] at hQ hlen2
          generalize hrv : refOf none = rv at hQ ⊢
          obtain rfl : rv = .none := hrv.symm
          walk_at "go"
          refine hQ _ fp4 ⟨⟨cur, a', tkT, _, (by rw [Store.set_same]; simp only [hlen2, Int.natCast_add, Int.natCast_one]; rfl), eCur, h', n4, ht3.imp id (fun q => by omega), .inr (ot4.set hto4 zta eT4 (fun q => by cases q)).own⟩, hto4, zta, (ot4.set hto4 zta eT4 (fun q => by cases q)).cx⟩ (st5.trans ⟨fun q cq hq e => by rw [Store.set_ne _ _ fun z => hq (by simp [z])]; exact e, fun q hq => .inl hq⟩)
        | some e0 =>
          rw [hl] at hQ hlen2
          generalize hrv : refOf (some e0) = rv at hQ ⊢
          obtain rfl : rv = .ref e0.a := hrv.symm
          walk_at "go"
          exact hQ σ4 fp4 ⟨⟨cur, a', tkT, stT, by rw [hlen2]; exact eT4, eCur, h', n4, ht3.imp id (fun q => by omega), .inr ot4.own⟩, hto4, zta, ot4.cx⟩ st5
end
section
variable {g : Gl} {t : Nat} {Z : Store} {cr : Addr}
set_option maxHeartbeats 4000000 in
theorem spec_deleteT {σ : Store} {ta : Addr} {io : Bool} {es : List El} {fp : List Addr} {key : Int} {kt : Tok} {xv : Value} {e0 : El} {Q : Value → Store → Prop} (T : TreeSt Z σ ta cr t io es fp) (hlook : look key es = some e0) (hxv : xv = .none ∨ xv = e0.r) (hlen : es.length ≤ 70)
    (hQ : ∀ (σ' : Store) (fp' : List Addr), TreeSt Z σ' ta cr t io (delE key es) fp' → Step (ta :: fp) (ta :: fp') σ σ' → Q e0.r σ') :
    Calls g hpN 100 (.ref 394) [.ref ta, .int key kt, xv] [] σ Q := by
  obtain ⟨⟨cur, root, tkT, stT, eT, eCur, h, n, ht, hr⟩, hout, zta, cx⟩ := T
  have t3 := cx.t3
  have t4 := cx.t4
  have hh70 := cx.height ht hr
  refine calls_def [("self", .ref ta), ("key", .int key kt), ("exact", xv)] rfl (by rfl) (fun s _ => BindsTo.of_eq rfl) (locs rfl) (by decide) rfl rfl rfl ?_
  intro y hh hroom hcs hcn ha hcd hcl
  clear hcn ha hcd hcl
  walk_at "go"
  refine w_spec (by assumption) (by assumption) (spec_check eT (cx.sup _ _ eCur) fun σ1 hs1 => ?_) (by omega)
  have eT1 := hs1 _ _ eT
  have cx1 := cx.sup' hs1
  have hr1 : (Tr Z t h n root es ∧ fp = []) ∨ Own Z σ1 cr t h n root es fp := hr.imp id fun q => q.sup hs1
  refine next_next ?_
  refine w_cons (W.mono (P := fun f σ' m' => f = .next ∧ m' "self" = some (.ref ta) ∧ m' "key" = some (.int key kt) ∧ m' "exact" = some xv ∧ ∃ cv, m' "cloned" = some cv ∧
    ((cv = .none ∧ σ' = σ1 ∧ Own Z σ1 cr t h n root es fp) ∨ (∃ a' fp', cv = .ref a' ∧ OT Z σ' cr t h n a' es fp' ∧ Sup σ1 σ' ∧ (∀ q ∈ fp', σ1 q = none) ∧ fp = []))) ?_ ?_)
  · rcases hr1 with ⟨q, rfl⟩ | q
    · obtain ⟨cr0, l0, c0, xs0, kids0, nd0, hc0, -, -⟩ := Tr_iff.mp q
      obtain ⟨tk0, e0⟩ := nd0.node
      have e0' := cx1.sup _ _ e0
      walk_at "go"
      refine w_spec (by assumption) (by assumption) (spec_cowStill q cx1.sup cx1.crc cx1.zcr t3 t4 cx1.els cx1.ris fun σ' a' fp' ot hs hf => ?_) (by omega)
      walk_at "go"
      exact ⟨rfl, by walk_at "lk", by walk_at "lk", by walk_at "lk", _, upL_same _ _ _, .inr ⟨a', fp', rfl, ot, hs, hf, rfl⟩⟩
    · obtain ⟨l0, c0, xs0, kids0, nd0, -, -, -⟩ := Own_iff.mp q
      obtain ⟨tk0, e0⟩ := nd0.node
      walk_at "go"
      refine w_spec (by assumption) (by assumption) (spec_cowOwn e0 cx1.crc ?_) (by omega)
      walk_at "go"
      exact ⟨rfl, by walk_at "lk", by walk_at "lk", by walk_at "lk", _, upL_same _ _ _, .inl ⟨rfl, rfl, q⟩⟩
  · rintro f σ' m ⟨rfl, hm1, hm2, hm3, cv, hm4, hcv⟩
    refine next_next ?_
    refine w_cons (W.mono (P := fun f σ2 m' => f = .next ∧ m' "self" = some (.ref ta) ∧ m' "key" = some (.int key kt) ∧ m' "exact" = some xv ∧ ∃ r2 fp2, σ2 ta = some (treeC (.ref cr) (.bool false) (.ref cur) (.int t tkT) (.ref r2) (.int es.length stT) (.bool io)) ∧
      OT Z σ2 cr t h n r2 es fp2 ∧ ta ∉ fp2 ∧ Step (ta :: fp) (ta :: fp2) σ σ2) ?_ ?_)
    · rcases hcv with ⟨rfl, rfl, q⟩ | ⟨a', fp', rfl, ot, hs2, hf, rfl⟩
      · walk_at "go"
        exact ⟨rfl, hm1, hm2, hm3, root, fp, eT1, ⟨q, cx1⟩, hout, .sup hs1⟩
      · obtain ⟨l', c', xs', kids', nd', -, -, -⟩ := ot.open
        obtain ⟨tk', e'⟩ := nd'.nd.node
        have eT2 := hs2 _ _ eT1
        walk_at "go"
        refine w_truth_inst e' find_Node_bool find_Node_len ?_
        walk_at "go"
        have hto : ta ∉ fp' := fun q => by have := hf ta q; rw [eT1] at this; cases this
        have hset : ∀ q ∈ fp', (σ'.set ta (treeC (.ref cr) (.bool false) (.ref cur) (.int t tkT) (.ref a') (.int es.length stT) (.bool io))) q = σ' q := fun q hq => Store.set_ne _ _ fun z => hto (z ▸ hq)
        have hcrta : cr ≠ ta := ne_cell ot.cx.crc eT2 (fun q => by cases q)
        refine ⟨rfl, hm1, hm2, hm3, a', fp', Store.set_same _ _ _, ⟨ot.own.frame hset, ot.cx.t3, ot.cx.t4, fun q cq e => ?_, ?_, ot.cx.zcr, ot.cx.crf, ot.cx.nd, ot.cx.out, ot.cx.els, ot.cx.ris⟩, hto, ⟨fun q cq hq e => ?_, fun q hq => ?_⟩⟩
        · rw [Store.set_ne _ _ fun z => by subst z; rw [zta] at e; cases e]; exact ot.cx.sup q cq e
        · rw [Store.set_ne _ _ hcrta]; exact ot.cx.crc
        · rw [Store.set_ne _ _ fun z => hq (by simp [z])]; exact hs2 _ _ (hs1 _ _ e)
        · rcases List.mem_cons.mp hq with rfl | hq
          · exact .inl (.head _)
          · exact .inr (hs1.none (hf q hq))
    · rintro f σ2 m ⟨rfl, hm1, hm2, hm3, r2, fp2, eT2, ot2, hto, st2⟩
      refine next_next ?_
      obtain ⟨l2, c2, xs2, kids2, o2, hes2, hn2, hfp2⟩ := ot2.open
      obtain ⟨tk2, e2⟩ := o2.nd.node
      walk_at "go"
      refine w_spec (by assumption) (by assumption) (spec_delete h o2 (.inl rfl) (by rw [← hn2]; exact ht) (hxv.imp id fun q => ⟨e0, by rw [← hes2]; exact hlook, q⟩) fun σ4 n4 fp4 ot4 hn4 st4 => ?_) (by omega)
      rw [← hes2] at ot4 ⊢
      rw [← hfp2] at st4
      rw [hlook]
      have hdl := delE_len (key := key) (es := es) cx.ris
      rw [hlook] at hdl
      generalize hrv : refOf (some e0) = rv
      obtain rfl : rv = .ref e0.a := hrv.symm
      have eT4 := st4.keep ta _ hto eT2
      have hto4 : ta ∉ fp4 := fun q => (st4.new ta q).elim hto fun z => by rw [eT2] at z; cases z
      have st5 : Step (ta :: fp) (ta :: fp4) σ σ4 := st2.trans (by
        have := st4.part (A := [ta]) (B := [])
        simpa using this)
      obtain ⟨l4, c4, xs4, kids4, o4, hes4, hn44, hfp4⟩ := ot4.open
      obtain ⟨tk4, e4⟩ := o4.nd.node
      have el4 := o4.nd.el
      have w1 := ne_cell e4 eT4 (fun q => by cases q)
      have w2 := ne_cell el4 eT4 (fun q => by cases q)
      have hhi4 := o4.nd.hi
      have ec4 := o4.nd.ch
      have w3 := ne_cell ec4 eT4 (fun q => by cases q)
      have num4 := o4.nd.num
      have hdl : (delE key es).length + 1 = es.length := hdl
      have hsz : (es.length : Int) - 1 = ((delE key es).length : Nat) := by omega
      have fin : ∀ (rt : Addr) (tk' : Tok) (h' n' : Nat) (fp' : List Addr) (T' : Store), T' ta = some (treeC (.ref cr) (.bool false) (.ref cur) (.int t tkT) (.ref rt) (.int ((es.length : Int) - 1) tk') (.bool io)) → (∀ q, q ≠ ta → T' q = σ4 q) → fp'.Sublist fp4 → (h' = 0 ∨ 1 ≤ n') →
          ((Tr Z t h' n' rt (delE key es) ∧ fp' = []) ∨ Own Z σ4 cr t h' n' rt (delE key es) fp') → Q (.ref e0.a) T' := fun rt tk' h' n' fp' T' q1 q2 q3 q4 q5 => by
        have hcr : cr ≠ ta := ne_cell ot4.cx.crc eT4 (fun q => by cases q)
        have hto' : ta ∉ fp' := fun q => hto4 (q3.subset q)
        refine hQ T' fp' ⟨⟨cur, rt, tkT, tk', by rw [q1, hsz], eCur, h', n', q4, q5.imp id fun q => q.frame fun b hb => q2 b fun z => hto' (z ▸ hb)⟩, hto', zta, ot4.cx.t3, ot4.cx.t4, fun q cq eq => ?_, by rw [q2 cr hcr]; exact ot4.cx.crc, ot4.cx.zcr, fun q => ot4.cx.crf (q3.subset q), ot4.cx.nd.sublist q3, fun q hq => ot4.cx.out q (q3.subset hq), ot4.cx.els, ot4.cx.ris⟩
          (st5.trans ⟨fun q cq hq e => by rw [q2 q fun z => hq (by simp [z])]; exact e, fun q hq => .inl ?_⟩)
        · have hq : q ≠ ta := fun z => by rw [z, zta] at eq; cases eq
          rw [q2 q hq]; exact ot4.cx.sup q cq eq
        · rcases List.mem_cons.mp hq with rfl | hq
          · exact .head _
          · exact .tail _ (q3.subset hq)
      walk_at "go"
      refine ite_beq (fun q => ?_) fun q => ?_
      · have hx0 : xs4 = [] := by
          cases xs4 with
          | nil => rfl
          | cons x r => simp at q; omega
        subst hx0
        cases h with
        | zero =>
          walk_at "go"
          exact fin r2 _ 0 n4 fp4 _ (Store.set_same _ _ _) (fun q hq => Store.set_ne _ _ hq) (.refl _) (.inl rfl) (.inr ot4.own)
        | succ h =>
          have hn4 : kids4.length = 0 + 1 := num4
          obtain ⟨K, rfl⟩ : ∃ K, kids4 = [K] := List.length_eq_one_iff.mp hn4
          walk_at "go"
          refine ⟨rfl, ?_⟩
          walk_at "go"
          refine w_item (vs := [K].map Kd.r) (k := 0) (by walk_at "sg") (by omega) (by omega) (v := K.r) (by simp) ?_ rfl
          walk_at "go"
          have hkk := o4.nd.kid K (.head _)
          have hes : K.es = delE key es := by rw [hes4]; simp [weave]
          refine fin K.a _ h K.n K.fp _ (Store.set_same _ _ _) (fun q hq => by rw [Store.set_ne _ _ hq, Store.set_ne _ _ hq]) (by rw [hfp4]; simp only [fpOf, List.flatMap_cons, List.flatMap_nil, List.append_nil]; exact .cons _ (.cons _ (.cons _ (.refl _)))) (.inr (by have := hkk.1; omega)) ?_
          rw [← hes]
          exact hkk.2
      · walk_at "go"
        have hx1 : 1 ≤ n4 := by
          rw [hn44]
          cases xs4 with
          | nil => simp at q
          | cons x r => simp
        exact fin r2 _ h n4 fp4 _ (Store.set_same _ _ _) (fun q hq => Store.set_ne _ _ hq) (.refl _) (.inr hx1) (.inr ot4.own)
end
section
variable {g : Gl} {t : Nat} {Z : Store} {cr : Addr}
theorem spec_getElement {σ : Store} {ta root : Addr} {cr imm cur tv size io : Value} {h n : Nat} {es : List El} {key : Int} {kt : Tok} {Q : Value → Store → Prop} (e : σ ta = some (treeC cr imm cur tv (.ref root) size io)) (o : Tr σ t h n root es) (t4 : t ≤ 4) (els : ∀ e ∈ es, ElOk σ e) (ris : Rising (ksOf es)) (hh70 : h ≤ 70)
    (hQ : ∀ σ', Sup σ σ' → Q (refOf (look key es)) σ') : Calls g hpN 80 (.ref 387) [.ref ta, .int key kt] [] σ Q := by
  obtain ⟨cr0, l0, c0, xs0, kids0, nd0, -, -, -⟩ := Tr_iff.mp o
  obtain ⟨tk0, e0⟩ := nd0.node
  refine calls_def [("self", .ref ta), ("key", .int key kt)] rfl (by rfl) (fun s _ => BindsTo.of_eq rfl) (locs rfl) (by decide) rfl rfl rfl ?_
  walk_at "enter"
  walk_at "go"
  refine w_spec (by assumption) (by assumption) (spec_get t4 h o els ris fun σ' hs => ?_) (by omega)
  walk_at "go"
  exact hQ σ' hs
theorem spec_lenTree {σ : Store} {ta : Addr} {cr imm cur tv root io : Value} {k : Int} {kt : Tok} {hp : Option Value → Prop} {Q : Value → Store → Prop} (e : σ ta = some (treeC cr imm cur tv root (.int k kt) io)) (hQ : Q (.int k kt) σ) : Calls g hp 1 (.ref 415) [.ref ta] [] σ Q := by
  refine calls_def [("self", .ref ta)] rfl (by rfl) (fun s _ => BindsTo.of_eq rfl) (locs rfl) (by decide) rfl rfl rfl ?_
  walk_at "enter"
  walk_at "go"
  exact hQ
theorem spec_makeImm {σ : Store} {ta : Addr} {cr cur tv root size io : Value} {Q : Value → Store → Prop} (e : σ ta = some (treeC cr (.bool false) cur tv root size io)) (hQ : Q .none (σ.set ta (treeC cr (.bool true) cur tv root size io))) : Calls g hpN 1 (.ref 365) [.ref ta] [] σ Q := by
  refine calls_def [("self", .ref ta)] rfl (by rfl) (fun s _ => BindsTo.of_eq rfl) (locs rfl) (by decide) rfl rfl rfl ?_
  walk_at "enter"
  walk_at "go"
  exact hQ
theorem spec_deleteKey {σ : Store} {ta : Addr} {io : Bool} {es : List El} {fp : List Addr} {key : Int} {kt : Tok} {e0 : El} {Q : Value → Store → Prop} (T : TreeSt Z σ ta cr t io es fp) (hlook : look key es = some e0) (hlen : es.length ≤ 70)
    (hQ : ∀ (σ' : Store) (fp' : List Addr), TreeSt Z σ' ta cr t io (delE key es) fp' → Step (ta :: fp) (ta :: fp') σ σ' → Q e0.r σ') :
    Calls g hpN 101 (.ref 401) [.ref ta, .int key kt] [] σ Q := by
  obtain ⟨cur, root, tk, st, e, -⟩ := T.cell
  refine calls_def [("self", .ref ta), ("key", .int key kt)] rfl (by rfl) (fun s _ => BindsTo.of_eq rfl) (locs rfl) (by decide) rfl rfl rfl ?_
  walk_at "enter"
  walk_at "go"
  refine w_spec (by assumption) (by assumption) (spec_deleteT T hlook (.inl rfl) hlen fun σ' fp' T' st => ?_) (by omega)
  walk_at "go"
  exact hQ σ' fp' T' st
theorem spec_deleteExact {σ : Store} {ta : Addr} {io : Bool} {es : List El} {fp : List Addr} {key : Int} {e0 : El} {Q : Value → Store → Prop} (T : TreeSt Z σ ta cr t io es fp) (hlook : look key es = some e0) (hlen : es.length ≤ 70)
    (hQ : ∀ (σ' : Store) (fp' : List Addr), TreeSt Z σ' ta cr t io (delE key es) fp' → Step (ta :: fp) (ta :: fp') σ σ' → Q e0.r σ') :
    Calls g hpN 101 (.ref 408) [.ref ta, e0.r] [] σ Q := by
  obtain ⟨cur, root, tk, st, e, -⟩ := T.cell
  obtain ⟨hm, hk⟩ := look_mem hlook
  obtain ⟨kt, vt, ek⟩ := T.cx.els e0 hm
  have ek1 := T.cx.sup _ _ ek
  refine calls_def [("self", .ref ta), ("element", e0.r)] rfl (by rfl) (fun s _ => BindsTo.of_eq rfl) (locs rfl) (by decide) rfl rfl rfl ?_
  walk_at "enter"
  walk_at "go"
  refine w_spec (by assumption) (by assumption) (spec_key ek1 rfl ?_) (by omega)
  walk_at "go"
  refine w_spec (by assumption) (by assumption) (spec_deleteT T (by rw [hk]; exact hlook) (.inr rfl) hlen fun σ' fp' T' st => ?_) (by omega)
  have ek2 := T'.cx.sup _ _ ek
  walk_at "go"
  refine w_is_ref ek2 ek2 ?_
  walk_at "go"
  refine ⟨by simp, ?_⟩
  walk_at "go"
  rw [hk] at T'
  exact hQ σ' fp' T' st
end
section
variable {g : Gl} {t : Nat} {Z : Store} {cr : Addr}
theorem spec_newKV {σ : Store} {k v : Int} {kt vt : Tok} {hp : Option Value → Prop} {Q : Value → Store → Prop} (h : ∀ (σ' : Store) (a : Addr), σ a = none → σ' a = some (kvC (.int k kt) (.int v vt)) → (∀ b, b ≠ a → σ' b = σ b) → Q (.ref a) σ') : Calls g hp 2 (.ref 502) [.int k kt, .int v vt] [] σ Q := by
  refine calls_new (fI := 471) (by kernel_rfl) (by kernel_rfl) (by kernel_rfl) fun a ha => ?_
  refine calls_def [("self", .ref a), ("key", .int k kt), ("value", .int v vt)] rfl (by rfl) (fun s _ => BindsTo.of_eq rfl) (locs rfl) (by decide) rfl rfl rfl ?_
  walk_at "enter"
  walk_at "go"
  refine ⟨rfl, h _ a ha (Store.set_same _ _ _) fun b hb => ?_⟩
  rw [Store.set_ne _ _ hb, Store.set_ne _ _ hb, Store.set_ne _ _ hb]
theorem Ctx.grow {σ σ' : Store} {fp : List Addr} {es : List El} {a : Addr} {c : Cell} (x : Ctx Z σ cr t fp es) (ha : σ a = none) (hs : Sup σ σ') (e : σ' a = some c) (hf : a ∉ fp) : Ctx (Z.set a c) σ' cr t fp es := by
  have za : Z a = none := by
    cases q : Z a with
    | none => rfl
    | some cq => rw [x.sup _ _ q] at ha; cases ha
  have hz : Sup Z (Z.set a c) := Sup.new _ za
  refine ⟨x.t3, x.t4, fun b cb q => ?_, hs _ _ x.crc, ?_, x.crf, x.nd, fun b hb => ?_, fun e he => (x.els e he).sup hz, x.ris⟩
  · by_cases hb : b = a
    · subst hb; rw [Store.set_same] at q; rw [e]; exact q
    · rw [Store.set_ne _ _ hb] at q; exact hs _ _ (x.sup _ _ q)
  · rw [Store.set_ne _ _ (ne_fresh x.crc ha)]; exact x.zcr
  · have hne : b ≠ a := fun z => hf (by rw [← z]; exact hb)
    rw [Store.set_ne _ _ hne]; exact x.out b hb
theorem TreeSt.live {σ : Store} {ta : Addr} {io : Bool} {es : List El} {fp : List Addr} (T : TreeSt Z σ ta cr t io es fp) : ∀ b ∈ fp, ∃ cb, σ b = some cb := fun b hb => by
  obtain ⟨cur, root, tk, st, e, ec, h, n, ht, hr⟩ := T.cell
  rcases hr with ⟨-, rfl⟩ | q
  · cases hb
  · exact q.live b hb
theorem TreeSt.grow {σ σ' : Store} {ta a : Addr} {io : Bool} {es : List El} {fp : List Addr} {c : Cell} (T : TreeSt Z σ ta cr t io es fp) (ha : σ a = none) (hs : Sup σ σ') (e : σ' a = some c) : TreeSt (Z.set a c) σ' ta cr t io es fp := by
  have za : Z a = none := by
    cases q : Z a with
    | none => rfl
    | some cq => rw [T.cx.sup _ _ q] at ha; cases ha
  have hz : Sup Z (Z.set a c) := Sup.new _ za
  have hf : a ∉ fp := fun q => by obtain ⟨cb, eb⟩ := T.live a q; rw [ha] at eb; cases eb
  have hx := T.cx.grow ha hs e hf
  obtain ⟨cur, root, tk, st, eT, ec, h, n, ht, hr⟩ := T.cell
  refine ⟨⟨cur, root, tk, st, hs _ _ eT, hz _ _ ec, h, n, ht, hr.imp (fun q => ⟨q.1.sup hz, q.2⟩) fun q => (q.sup hs).monoZ hz⟩, T.out, ?_, hx⟩
  rw [Store.set_ne _ _ (ne_fresh eT ha)]; exact T.zta
theorem TreeSt.sup {σ σ' : Store} {ta : Addr} {io : Bool} {es : List El} {fp : List Addr} (T : TreeSt Z σ ta cr t io es fp) (hs : Sup σ σ') : TreeSt Z σ' ta cr t io es fp := by
  obtain ⟨cur, root, tk, st, eT, ec, h, n, ht, hr⟩ := T.cell
  exact ⟨⟨cur, root, tk, st, hs _ _ eT, ec, h, n, ht, hr.imp id fun q => q.sup hs⟩, T.out, T.zta, T.cx.sup' hs⟩
/-- tree[key] = value -/
theorem spec_setItemT {σ : Store} {ta : Addr} {io : Bool} {es : List El} {fp : List Addr} {k v : Int} {kt vt : Tok} {Q : Value → Store → Prop} (T : TreeSt Z σ ta cr t io es fp) (hlen : es.length ≤ 70)
    (hQ : ∀ (σ' : Store) (fp' : List Addr) (a : Addr), σ a = none → TreeSt (Z.set a (kvC (.int k kt) (.int v vt))) σ' ta cr t io (insE ⟨a, k, v⟩ es) fp' → Step (ta :: fp) (ta :: fp') σ σ' → Q .none σ') :
    Calls g hpN 91 (.ref 535) [.ref ta, .int k kt, .int v vt] [] σ Q := by
  refine calls_def [("self", .ref ta), ("key", .int k kt), ("value", .int v vt)] rfl (by rfl) (fun s _ => BindsTo.of_eq rfl) (locs rfl) (by decide) rfl rfl rfl ?_
  walk_at "enter"
  walk_at "go"
  refine w_spec (by assumption) (by assumption) (spec_newKV fun σ1 a ha ea hb => ?_) (by omega)
  have hs : Sup σ σ1 := fun b cb e => by rw [hb b (ne_fresh e ha)]; exact e
  have T1 := T.grow ha hs ea
  obtain ⟨cur, root, tk, st, eT, -⟩ := T1.cell
  walk_at "go"
  refine w_spec (by assumption) (by assumption) (spec_insertElement (el := ⟨a, k, v⟩) T1 ⟨kt, vt, Store.set_same _ _ _⟩ hlen fun σ' fp' T' st => ?_) (by omega)
  walk_at "go"
  exact hQ σ' fp' a ha T' ((Step.sup hs).trans st)
theorem spec_delItemT {σ : Store} {ta : Addr} {io : Bool} {es : List El} {fp : List Addr} {key : Int} {kt : Tok} {e0 : El} {Q : Value → Store → Prop} (T : TreeSt Z σ ta cr t io es fp) (hlook : look key es = some e0) (hlen : es.length ≤ 70)
    (hQ : ∀ (σ' : Store) (fp' : List Addr), TreeSt Z σ' ta cr t io (delE key es) fp' → Step (ta :: fp) (ta :: fp') σ σ' → Q .none σ') :
    Calls g hpN 102 (.ref 542) [.ref ta, .int key kt] [] σ Q := by
  obtain ⟨cur, root, tk, st, e, -⟩ := T.cell
  refine calls_def [("self", .ref ta), ("key", .int key kt)] rfl (by rfl) (fun s _ => BindsTo.of_eq rfl) (locs rfl) (by decide) rfl rfl rfl ?_
  walk_at "enter"
  walk_at "go"
  refine w_spec (by assumption) (by assumption) (spec_deleteKey T hlook hlen fun σ' fp' T' st => ?_) (by omega)
  walk_at "go"
  exact hQ σ' fp' T' st
theorem spec_getItemT {σ : Store} {ta root : Addr} {cr imm cur tv size io : Value} {h n : Nat} {es : List El} {key : Int} {kt : Tok} {e0 : El} {Q : Value → Store → Prop} (e : σ ta = some (treeC cr imm cur tv (.ref root) size io)) (o : Tr σ t h n root es) (t4 : t ≤ 4) (els : ∀ e ∈ es, ElOk σ e) (ris : Rising (ksOf es)) (hh70 : h ≤ 70) (hlook : look key es = some e0)
    (hQ : ∀ σ' vt, Sup σ σ' → Q (.int e0.v vt) σ') : Calls g hpN 81 (.ref 528) [.ref ta, .int key kt] [] σ Q := by
  obtain ⟨hm, hk⟩ := look_mem hlook
  obtain ⟨k1, v1, ek⟩ := els e0 hm
  refine calls_def [("self", .ref ta), ("key", .int key kt)] rfl (by rfl) (fun s _ => BindsTo.of_eq rfl) (locs rfl) (by decide) rfl rfl rfl ?_
  walk_at "enter"
  walk_at "go"
  refine w_spec (by assumption) (by assumption) (spec_getElement e o t4 els ris hh70 fun σ' hs => ?_) (by omega)
  rw [hlook]
  generalize hrv : refOf (some e0) = rv
  obtain rfl : rv = .ref e0.a := hrv.symm
  have ek1 := hs _ _ ek
  walk_at "go"
  refine w_spec (by assumption) (by assumption) (spec_value ek1 rfl ?_) (by omega)
  walk_at "go"
  exact hQ σ' v1 hs
end
section
variable {g : Gl} {t : Nat} {Z : Store} {cr : Addr}
theorem none6 {σ : Store} {a ta l b : Addr} {c1 c2 c3 c4 c5 c6 : Cell} (h : ((((((σ.set a c1).set ta c2).set ta c3).set l c4).set ta c5).set ta c6) b = none) : b ≠ ta ∧ b ≠ l ∧ b ≠ a ∧ σ b = none := by
  obtain ⟨h1, h⟩ := Store.set_none h
  obtain ⟨_, h⟩ := Store.set_none h
  obtain ⟨h2, h⟩ := Store.set_none h
  obtain ⟨_, h⟩ := Store.set_none h
  obtain ⟨_, h⟩ := Store.set_none h
  obtain ⟨h3, h⟩ := Store.set_none h
  exact ⟨h1, h2, h3, h⟩
theorem calls_creator {σ : Store} {hp : Option Value → Prop} {Q : Value → Store → Prop} (h : ∀ a, σ a = none → Q (.ref a) (σ.set a creC)) : Calls g hp 1 (.ref 66) [] [] σ Q :=
  calls_new0 (by kernel_rfl) (by kernel_rfl) h
theorem spec_initBase {σ : Store} {ta : Addr} {tk : Tok} {Q : Value → Store → Prop} (e : σ ta = some (.inst cTree [])) (t3 : 3 ≤ t)
    (hQ : ∀ (σ' : Store) (a l r lr c : Addr) (k1 k2 : Tok), σ' ta = some (.inst cTree [("creator", .ref a), ("_immutable", .bool false), ("cursors", .ref l), ("t", .int t tk), ("root", .ref r), ("size", .int 0 k1)]) → σ' a = some creC → σ' l = some (.list []) → σ' r = some (nodeC (.int t k2) (.ref a) (.bool true) lr c) → σ' lr = some (.list []) → σ' c = some (.list []) →
      σ a = none → σ l = none → σ r = none → σ lr = none → σ c = none → [a, l, r, lr, c].Nodup → (∀ b cb, b ≠ ta → σ b = some cb → σ' b = some cb) → Q .none σ') : Calls g hpN 20 (.ref 358) [.ref ta] [("t", .int t tk), ("original", .none)] σ Q := by
  refine calls_def [("self", .ref ta), ("t", .int t tk), ("original", .none)] rfl (by rfl) (fun s X => kp_binds X (fun _ => by kernel_rfl)) (locs rfl) (by decide) rfl rfl rfl ?_
  walk_at "enter"
  walk_at "go"
  refine w_spec (by assumption) (by assumption) (calls_creator fun a ha => ?_) (by omega)
  walk_at "go"
  intro l hl
  walk_at "go"
  refine ite_decF (by omega) ?_
  walk_at "go"
  refine w_getAttr (attr := none) (v := .int t tk) (Store.set_same _ _ _) (by rfl) (pg_Tree _) hd_Tree fi_Tree_t rfl rfl ?_
  walk_at "go"
  refine w_getAttr (attr := none) (v := .ref a) (Store.set_same _ _ _) (by rfl) (pg_Tree _) hd_Tree fi_Tree_creator rfl rfl ?_
  walk_at "go"
  have na := ne_fresh e ha
  obtain ⟨nl1, hl⟩ := Store.set_none hl
  obtain ⟨nl2, hl⟩ := Store.set_none hl
  obtain ⟨nl3, hl⟩ := Store.set_none hl
  refine w_spec (by assumption) (by assumption) (spec_newNode t3 fun σ4 r lr c N => ?_) (by omega)
  obtain ⟨tkr, er⟩ := N.node
  obtain ⟨r1, r2, r3, fa⟩ := none6 N.fa
  obtain ⟨p1, p2, p3, fl⟩ := none6 N.fl
  obtain ⟨q1, q2, q3, fc⟩ := none6 N.fc
  have eT4 := N.sup _ _ (Store.set_same _ _ _)
  walk_at "go"
  refine hQ _ a l r lr c _ tkr (Store.set_same _ _ _) ?_ ?_ ?_ ?_ ?_ ha hl fa fl fc ?_ fun b cb hb q => ?_
  · exact Store.set_off na.symm (Store.set_off na.symm (N.sup _ _ (by rw [Store.set_ne _ _ na.symm, Store.set_ne _ _ na.symm, Store.set_ne _ _ nl3.symm, Store.set_ne _ _ na.symm, Store.set_ne _ _ na.symm, Store.set_same])))
  · exact Store.set_off nl1 (Store.set_off nl1 (N.sup _ _ (by rw [Store.set_ne _ _ nl1, Store.set_ne _ _ nl1, Store.set_same])))
  · exact Store.set_off r1 (Store.set_off r1 er)
  · exact Store.set_off p1 (Store.set_off p1 N.el)
  · exact Store.set_off q1 (Store.set_off q1 N.ch)
  · simp only [List.nodup_cons, List.mem_cons, List.not_mem_nil, not_or, not_false_iff, and_true, List.nodup_nil]
    exact ⟨⟨nl3.symm, r3.symm, p3.symm, q3.symm⟩, ⟨r2.symm, p2.symm, q2.symm⟩, ⟨N.al, N.ac⟩, N.lc⟩
  · refine Store.set_off hb (Store.set_off hb (N.sup _ _ ?_))
    rw [Store.set_ne _ _ hb, Store.set_ne _ _ hb, Store.set_ne _ _ (ne_fresh q hl), Store.set_ne _ _ hb, Store.set_ne _ _ hb, Store.set_ne _ _ (ne_fresh q ha)]
    exact q
theorem spec_initBase2 {σ : Store} {ta od : Addr} {tt : Int} {tk tk2 : Tok} {cr0 cu0 ro sz io0 : Value} {t2 : Int} {Q : Value → Store → Prop} (e : σ ta = some (.inst cTree [])) (eo : σ od = some (treeC cr0 (.bool true) cu0 (.int t2 tk2) ro sz io0)) (h1 : handedIn ro = true) (h2 : handedIn sz = true)
    (hQ : ∀ (σ' : Store) (a l : Addr), σ' ta = some (.inst cTree [("creator", .ref a), ("_immutable", .bool false), ("cursors", .ref l), ("t", .int t2 tk2), ("root", ro), ("size", sz)]) → σ' a = some creC → σ' l = some (.list []) → σ a = none → σ l = none → a ≠ l → (∀ b cb, b ≠ ta → σ b = some cb → σ' b = some cb) → Q .none σ') :
    Calls g hpN 20 (.ref 358) [.ref ta] [("t", .int tt tk), ("original", .ref od)] σ Q := by
  have nod : od ≠ ta := ne_cell eo e (fun q => by cases q)
  refine calls_def [("self", .ref ta), ("t", .int tt tk), ("original", .ref od)] rfl (by rfl) (fun s X => kp_binds X (fun _ => by kernel_rfl)) (locs rfl) (by decide) rfl rfl rfl ?_
  walk_at "enter"
  walk_at "go"
  refine w_spec (by assumption) (by assumption) (calls_creator fun a ha => ?_) (by omega)
  have noa := ne_fresh eo ha
  walk_at "go"
  intro l hl
  have na := ne_fresh e ha
  obtain ⟨nl1, hl1⟩ := Store.set_none hl
  obtain ⟨nl2, hl1⟩ := Store.set_none hl1
  obtain ⟨nl3, hl1⟩ := Store.set_none hl1
  have nol := ne_fresh eo hl1
  clear hl
  walk_at "go"
  refine g_Tree_root (show _ = some (treeC cr0 (.bool true) cu0 (.int t2 tk2) ro sz io0) by walk_at "sg") h1 ?_
  walk_at "go"
  refine g_Tree_size (show _ = some (treeC cr0 (.bool true) cu0 (.int t2 tk2) ro sz io0) by walk_at "sg") h2 ?_
  walk_at "go"
  refine hQ _ a l (Store.set_same _ _ _) ?_ ?_ ha hl1 nl3.symm fun b cb hb q => ?_
  · simp [Store.set_apply, na.symm, nl3.symm]
  · simp [Store.set_apply, nl1]
  · have hbl := ne_fresh q hl1
    have hba := ne_fresh q ha
    simp [Store.set_apply, hb, hbl, hba, q]
end
section
variable {g : Gl} {t : Nat} {Z : Store} {cr : Addr}
theorem CallsE.mono {σ : Store} {hp : Option Value → Prop} {n : Nat} {f : Value} {args : List Value} {kw : List (Str × Value)} {P Q R R' : Value → Store → Prop} (h : CallsE g hp n f args kw σ P R) (k : ∀ v σ', P v σ' → Q v σ') (kr : ∀ c σ', R c σ' → R' c σ') : CallsE g hp n f args kw σ Q R' :=
  fun x m hh hr ok s₀ σ₀ s hs H => codeAny_mono (h x m hh hr ok s₀ σ₀ s hs H) fun r s' z => by
    rcases r with e | (v | _ | _ | _)
    · exact ⟨z.1, z.2.mono fun _ _ _ q => ⟨kr _ _ q.1, q.2⟩⟩
    · exact z.elim
    · exact z.elim
    · exact z.elim
    · obtain ⟨σ', a, b, c⟩ := z; exact ⟨σ', a, b, k _ _ c⟩
theorem spec_initTree {σ : Store} {ta : Addr} {kw : List (Str × Value)} {tv ov io : Value} {Q R : Value → Store → Prop} (e : σ ta = some (.inst cTree []))
    (hkw : (kw = ([("t", tv), ("in_order", io)] : List (Str × Value)) ∧ ov = .none) ∨ (kw = ([("original", ov), ("in_order", io)] : List (Str × Value)) ∧ tv = .int 127 196) ∨ (kw = ([("original", ov)] : List (Str × Value)) ∧ tv = .int 127 196 ∧ io = .bool false))
    (hI : ∀ σ₂, Sup σ σ₂ → CallsE g hpN 20 (.ref 358) [.ref ta] [("t", tv), ("original", ov)] σ₂ (fun v σ' => ∃ v0 v1 v2 v3 v4 v5, σ' ta = some (.inst cTree [("creator", v0), ("_immutable", v1), ("cursors", v2), ("t", v3), ("root", v4), ("size", v5)]) ∧ Q .none (σ'.set ta (treeC v0 v1 v2 v3 v4 v5 io))) R) :
    CallsE g hpN 30 (.ref 521) [.ref ta] kw σ Q R := by
  refine CallsE.le (n := 26) ?_ (by omega)
  refine calls_superE [("self", .ref ta), ("t", tv), ("original", ov), ("in_order", io)] rfl (by rfl) ?_ (locs rfl) (by decide) rfl rfl rfl ?_
  · rcases hkw with ⟨rfl, rfl⟩ | ⟨rfl, rfl⟩ | ⟨rfl, rfl, rfl⟩
    · exact fun s X => kp_binds X (fun _ => by kernel_rfl)
    · exact fun s X => kp_binds X (fun _ => by kernel_rfl)
    · exact fun s X => kp_binds X (fun _ => by kernel_rfl)
  · intro y hh hr ok hcs hcn ha hcd hcl s₀ σ₀ s hs H
    obtain ⟨hd, dp, un, gd, outer, A₀, base, h₀, L, cn, cs, a, ccd, cl⟩ := y
    obtain rfl : cs = _ := hcs
    obtain rfl : cn = _ := hcn
    obtain rfl : a = _ := ha
    obtain rfl : ccd = _ := hcd
    obtain rfl : cl = _ := hcl
    obtain ⟨F, news, dx, RN⟩ := id H
    obtain ⟨k1, es, k, k2, k3⟩ := RN.cells ta _ e
    have I := InstAt.of_news RN.N k1 k2
    refine ks_wpAt_execs_cons (ks_wpAt_Expr_any (at_MethodCallKW (pl := _) ?_ rfl))
    refine ks_node (x := ta) (C := cTree) (D := 545) (cc := 508) (cda := 520) (f := 521) F ok.X RN.N ok.T (by rfl) rfl (by rfl) I (by rfl) rfl (by rfl) (by rfl) (by rfl) (by kernel_rfl) (by kernel_rfl) (by decide) (by kernel_rfl) (by kernel_rfl) (by kernel_rfl) rfl (by kernel_rfl) (by kernel_rfl) fun so h2 F2 N2 l2 => ?_
    have R2 := RN.new (l := so) (c := .raw (ks_superObj 545 ta cTree)) l2 (fun _ _ q => by cases q) N2 fun _ hm => ⟨_, hm, rfl⟩
    have fso : σ so = none := RN.fresh l2
    have H2 : At g _ _ _ h2 := ⟨F2, _, _, R2⟩
    clear F RN k1 k2 k3 I F2 N2 R2
    generalize hY : Fx.mk hd dp un gd outer A₀ base h₀ L _ _ _ _ _ = y at H2 ok hr hh ⊢
    have hcs := congrArg Fx.cs hY.symm
    dsimp only at hcs
    clear hY H
    have eta : (σ.set so (.raw (ks_superObj 545 ta cTree))) ta = some (.inst cTree []) := by rw [Store.set_ne _ _ (ne_fresh e fso)]; exact e
    refine W.use (w_superMethod (D := 545) (C := cTree) (f2 := 358) (Q := fun fx σ' m' => W g y (callWith _ fx.1 fx.2 _ _) σ' m' (fun _ σ' m' => W g y (execs _ y.env) σ' m' (fun fl σ'' _ => Q (match fl with | .ret v => v | _ => .none) σ'') (Up g y (fun c σ _ => R c σ))) (Up g y (fun c σ _ => R c σ))) eta (Store.set_same _ _ _) (by kernel_rfl) (by kernel_rfl) (by kernel_rfl) (by decide) fun q hq => ?_) ok ((hs.mk' h2 _).new _ fso) H2 fun fx s2 σ2 m2 hs3 H3 h3 => W.use h3 ok hs3 H3 fun v s3 σ3 m3 hs4 H4 h4 => _root_.PySem.wpAt_of_wpAny (h4 ok s₀ σ₀ s3 hs4 H4)
    refine w_callWithBound (by kernel_rfl) (Store.set_same _ _ _) ?_ rfl
    walk_at "go"
    have sp : Sup σ ((σ.set so (.raw (ks_superObj 545 ta cTree))).set q (.raw (methodObj (.ref 358) (.ref ta)))) := (Sup.new _ fso).trans (Sup.new _ hq)
    refine w_callBoundE (k := 20) (Store.set_same _ _ _) hh (hr.le (by omega)) ?_ fun e h u => (u.mono fun _ _ _ z => z.1).up
    refine CallsE.mono (show CallsE g hpN 20 (.ref 358) [.ref ta] [("t", tv), ("original", ov)] _ _ _ from hI _ sp) (fun v σ' hq => ?_) fun _ _ r => r
    obtain ⟨v0, v1, v2, v3, v4, v5, e6, hQ⟩ := hq
    walk_at "go"
    exact hQ
end
section
variable {g : Gl} {t : Nat} {Z : Store} {cr : Addr}
/-- all but sl, and but what is told by a word, stays -/
def SubMv (sl : Addr) (σ σ' : Store) : Prop := ∀ b c, b ≠ sl → (∀ P, c ≠ .pred P) → σ b = some c → σ' b = some c
theorem SubMv.refl {sl : Addr} {σ : Store} : SubMv sl σ σ := fun _ _ _ _ e => e
theorem SubMv.trans {sl : Addr} {σ σ' σ'' : Store} (a : SubMv sl σ σ') (b : SubMv sl σ' σ'') : SubMv sl σ σ'' := fun q c h1 h2 e => b q c h1 h2 (a q c h1 h2 e)
theorem SubMv.sub {sl : Addr} {Z0 σ σ' : Store} (h : SubS Z0 σ) (hz : Z0 sl = none) (a : SubMv sl σ σ') : SubS Z0 σ' := fun b c hc e => a b c (fun q => by rw [q, hz] at e; cases e) hc (h b c hc e)
theorem SubS.mv {sl : Addr} {σ σ' : Store} (h : SubS σ σ') : SubMv sl σ σ' := fun b c _ hc e => h b c hc e
def noPred (S : Store) : Store := fun a => match S a with | some (.pred _) => none | c => c
theorem noPred.some {S : Store} {a : Addr} {c : Cell} (e : S a = some c) (hc : ∀ P, c ≠ .pred P) : noPred S a = some c := by
  unfold noPred; rw [e]; cases c <;> first | rfl | exact absurd rfl (hc _)
theorem noPred.sup {S S' : Store} (h : SubS S S') : Sup (noPred S) S' := fun a c e => by
  unfold noPred at e
  split at e
  · cases e
  · rename_i q
    exact h a c (fun P z => by subst z; exact q P e) e
theorem Nd.noPred {S : Store} {lf : Bool} {P P' : Kd → Prop} {cr a l c : Addr} {xs : List El} {kids : List Kd} (h : Nd S t lf P cr a l c xs kids) (hk : ∀ k ∈ kids, P k → P' k) : Nd (noPred S) t lf P' cr a l c xs kids :=
  ⟨by obtain ⟨tk, e⟩ := h.node; exact ⟨tk, noPred.some e (fun _ q => by cases q)⟩, noPred.some h.el (fun _ q => by cases q), noPred.some h.ch (fun _ q => by cases q), h.hi, h.num, fun k m => hk k m (h.kid k m)⟩
theorem Tr.noPred {S : Store} : ∀ {h n : Nat} {a : Addr} {es : List El}, Tr S t h n a es → Tr (noPred S) t h n a es
  | 0, _, _, _, ⟨cr, l, c, xs, kids, h1, h2, h3, h4⟩ => ⟨cr, l, c, xs, kids, h1.noPred fun _ _ q => q, noPred.some h2 (fun _ q => by cases q), h3, h4⟩
  | h + 1, _, _, _, ⟨cr, l, c, xs, kids, h1, h2, h3, h4⟩ => ⟨cr, l, c, xs, kids, h1.noPred fun _ _ q => ⟨q.1, Tr.noPred q.2⟩, noPred.some h2 (fun _ q => by cases q), h3, h4⟩
theorem Tr.subS {S S' : Store} (hs : SubS S S') {h n : Nat} {a : Addr} {es : List El} (T : Tr S t h n a es) : Tr S' t h n a es := T.noPred.sup (noPred.sup hs)
theorem ElOk.subS {S S' : Store} (hs : SubS S S') {e : El} (T : ElOk S e) : ElOk S' e := by
  obtain ⟨k, v, q⟩ := T; exact ⟨k, v, hs _ _ (fun _ q => by cases q) q⟩
def kvOf (es : List El) : List (Int × Int) := es.map fun e => (e.k, e.v)
theorem kvOf_app (A B : List El) : kvOf (A ++ B) = kvOf A ++ kvOf B := List.map_append ..
theorem weave_bound {kids : List Kd} {xs : List El} {i : Nat} {K : Kd} (hK : kids[i]? = some K) (hi : i ≤ xs.length) (num : kids.length = xs.length + 1) : (weave (kids.take i) (xs.take i)).length + K.es.length + (xs.length - i) ≤ (weave kids xs).length := by
  have hw := weave_mid (pre := kids.take i) (post := kids.drop (i + 1)) (K := K) (xl := xs.take i) (xr := xs.drop i) (by simp only [List.length_take]; omega)
  have hk2 : kids.take i ++ K :: kids.drop (i + 1) = kids := by
    have := List.take_append_drop i kids
    rw [List.drop_eq_getElem_cons (by omega : i < kids.length)] at this
    have q : kids[i]'(by omega) = K := by have := hK; rw [List.getElem?_eq_getElem (by omega)] at this; exact Option.some.inj this
    rw [q] at this; exact this
  rw [hk2, List.take_append_drop] at hw
  rw [hw]
  have hx : ∀ (post : List Kd) (xr : List El), xr.length ≤ (tlW post xr).length := by
    intro post xr
    cases xr with
    | nil => simp
    | cons x r =>
      have : r.length ≤ (weave post r).length := xs_weave.length_le
      simp [tlW]; omega
  have := hx (kids.drop (i + 1)) (xs.drop i)
  simp only [List.length_append, List.length_drop] at this ⊢
  omega
/-- a function of the store that is called for each element -/
structure Visitor (g : Gl) (f sl : Addr) (I : Store → List (Int × Int) → Prop) : Prop where
  fn : ∀ σ ps, I σ ps → ∃ c' nm ctv name qual params body scope clos, σ f = some (lamC nm name qual params body scope clos c' ctv)
  mono : ∀ σ σ' ps, SubS σ σ' → I σ ps → I σ' ps
  call : ∀ σ ps (e : El) (Q : Value → Store → Prop), I σ ps → ps.length < 1000 → ElOk σ e → (∀ σ', SubMv sl σ σ' → I σ' (ps ++ [(e.k, e.v)]) → Q .none σ') → Calls g hpN 8 (.ref f) [e.r] [] σ Q
variable {f sl : Addr} {I : Store → List (Int × Int) → Prop}
set_option maxHeartbeats 4000000 in
theorem spec_visit (V : Visitor g f sl I) (t4 : t ≤ 4) : ∀ (h : Nat) {n : Nat} {a : Addr} {es : List El} {Z0 σ : Store} {ps : List (Int × Int)} {Q : Value → Store → Prop}, Tr Z0 t h n a es → SubS Z0 σ → Z0 sl = none → (∀ e ∈ es, ElOk Z0 e) → I σ ps → ps.length + es.length ≤ 1000 →
    (∀ σ', SubMv sl σ σ' → I σ' (ps ++ kvOf es) → Q .none σ') → Calls g hpN (h + 12) (.ref 210) [.ref a, .ref f] [] σ Q := by
  intro h
  induction h with
  | zero =>
    intro n a es Z0 σ ps Q T hZ hsl hel hI hps hQ
    obtain ⟨cr0, l, c, xs, kids, nd, -, rfl, rfl⟩ := T
    obtain rfl : kids = [] := List.length_eq_zero_iff.mp nd.num
    obtain ⟨tk, e⟩ := nd.node
    have el := nd.el
    have hhi := nd.hi
    have e1 := hZ _ _ (fun _ q => by cases q) e
    have el1 := hZ _ _ (fun _ q => by cases q) el
    have hw : weave [] xs = xs := by simp [weave]
    rw [hw] at hel hps hQ
    refine (calls_def (n := 11) [("self", .ref a), ("visit", .ref f)] rfl (by rfl) (fun s _ => BindsTo.of_eq rfl) (locs rfl) (by decide) rfl rfl rfl ?_)
    intro y hh hr hcs hcn ha hcd hcl
    clear hcn ha hcd hcl
    refine w_cons (W.mono (P := fun fl σ' m' => fl = .next ∧ SubMv sl σ σ' ∧ I σ' (ps ++ kvOf xs) ∧ m' "self" = some (.ref a)) ?_ ?_)
    · refine w_For_enum hh (by walk_at "nm") (by walk_at "nm") ?_ fun _ => rfl
      walk_at "go"
      refine w_enumerate el1 fun ee it oi fe fi hei hic hid => ?_
      have s1 : SubS σ ((σ.set it (.raw oi)).set ee (.raw (enumO it 0 .none))) := (SubS.new _ fi).trans (SubS.new _ (by rw [Store.set_ne _ _ hei]; exact fe))
      refine ⟨ee, it, oi, l, xs.map El.r, rfl, fe, fi, hei, hic, hid, by rw [Store.set_ne _ _ hei.symm]; exact Store.set_same _ _ _, Store.set_same _ _ _, s1 _ _ (fun _ q => by cases q) el1,
        fun i σ' m' => SubMv sl σ σ' ∧ I σ' (ps ++ kvOf (xs.take i)) ∧ m' "self" = some (.ref a) ∧ m' "visit" = some (.ref f), ⟨s1.mv, by simpa [kvOf] using V.mono _ _ _ s1 hI, by walk_at "lk", by walk_at "lk"⟩,
        fun i m' σ' σ'' hs h1 => ⟨h1.1.trans hs.mv, V.mono _ _ _ hs h1.2.1, h1.2.2⟩, fun i σ' m' h1 => (h1.1.sub hZ hsl) _ _ (fun _ q => by cases q) el, ?_, ?_⟩
      · rintro i v it2 σ' m' hi hv ⟨h1, h2, h3, h4⟩
        have hZ2 := h1.sub hZ hsl
        obtain ⟨x, hx, rfl⟩ : ∃ x, xs[i]? = some x ∧ v = x.r := by
          rw [List.getElem?_map] at hv
          cases q : xs[i]? with
          | none => rw [q] at hv; cases hv
          | some x => rw [q] at hv; exact ⟨x, rfl, (Option.some.inj hv).symm⟩
        have e2 := hZ2 _ _ (fun _ q => by cases q) e
        walk_at "go"
        refine w_callWithF ?_ rfl
        walk_at "go"
        refine ⟨V.fn _ _ h2, ?_⟩
        refine w_spec (by assumption) (by assumption) (V.call _ _ x _ h2 (by rw [List.length_map] at hi; simp only [kvOf, List.length_append, List.length_map, List.length_take]; omega) ((hel x (List.mem_of_getElem? hx)).subS hZ2) fun σ3 h5 h6 => ?_) (by omega)
        walk_at "go"
        refine ⟨h1.trans h5, ?_, by walk_at "lk", by walk_at "lk"⟩
        have : xs.take (i + 1) = xs.take i ++ [x] := by rw [List.take_add_one, hx]; rfl
        rw [this, kvOf_app, ← List.append_assoc]
        exact h6
      · rintro σ' m' ⟨h1, h2, h3, h4⟩
        walk_at "go"
        refine ⟨rfl, h1, ?_, h3⟩
        rw [List.take_of_length_le (by simp)] at h2
        exact h2
    · rintro fl σ' m' ⟨rfl, h1, h2, h3⟩
      refine next_next ?_
      have e2 := (h1.sub hZ hsl) _ _ (fun _ q => by cases q) e
      walk_at "go"
      exact hQ σ' h1 h2
  | succ h ih =>
    intro n a es Z0 σ ps Q T hZ hsl hel hI hps hQ
    obtain ⟨cr0, l, c, xs, kids, nd, -, rfl, rfl⟩ := T
    obtain ⟨tk, e⟩ := nd.node
    have el := nd.el
    have ech := nd.ch
    have hhi := nd.hi
    have num : kids.length = xs.length + 1 := nd.num
    have e1 := hZ _ _ (fun _ q => by cases q) e
    have el1 := hZ _ _ (fun _ q => by cases q) el
    have kidT : ∀ (i : Nat) (K : Kd), kids[i]? = some K → Tr Z0 t h K.n K.a K.es ∧ ∀ e ∈ K.es, ElOk Z0 e := fun i K hK => ⟨(nd.kid K (List.mem_of_getElem? hK)).2, fun e he => hel e (mem_weave.mpr (.inl ⟨K, List.mem_of_getElem? hK, he⟩))⟩
    refine (calls_def (n := h + 12) [("self", .ref a), ("visit", .ref f)] rfl (by rfl) (fun s _ => BindsTo.of_eq rfl) (locs rfl) (by decide) rfl rfl rfl ?_)
    intro y hh hr hcs hcn ha hcd hcl
    clear hcn ha hcd hcl
    refine w_cons (W.mono (P := fun fl σ' m' => fl = .next ∧ SubMv sl σ σ' ∧ I σ' (ps ++ kvOf (weave (kids.take xs.length) xs)) ∧ m' "self" = some (.ref a) ∧ m' "visit" = some (.ref f)) ?_ ?_)
    · refine w_For_enum hh (by walk_at "nm") (by walk_at "nm") ?_ fun _ => rfl
      walk_at "go"
      refine w_enumerate el1 fun ee it oi fe fi hei hic hid => ?_
      have s1 : SubS σ ((σ.set it (.raw oi)).set ee (.raw (enumO it 0 .none))) := (SubS.new _ fi).trans (SubS.new _ (by rw [Store.set_ne _ _ hei]; exact fe))
      refine ⟨ee, it, oi, l, xs.map El.r, rfl, fe, fi, hei, hic, hid, by rw [Store.set_ne _ _ hei.symm]; exact Store.set_same _ _ _, Store.set_same _ _ _, s1 _ _ (fun _ q => by cases q) el1,
        fun i σ' m' => SubMv sl σ σ' ∧ I σ' (ps ++ kvOf (weave (kids.take i) (xs.take i))) ∧ m' "self" = some (.ref a) ∧ m' "visit" = some (.ref f), ⟨s1.mv, by simpa [kvOf, weave] using V.mono _ _ _ s1 hI, by walk_at "lk", by walk_at "lk"⟩,
        fun i m' σ' σ'' hs h1 => ⟨h1.1.trans hs.mv, V.mono _ _ _ hs h1.2.1, h1.2.2⟩, fun i σ' m' h1 => (h1.1.sub hZ hsl) _ _ (fun _ q => by cases q) el, ?_, ?_⟩
      · rintro i v it2 σ' m' hi hv ⟨h1, h2, h3, h4⟩
        rw [List.length_map] at hi
        have hZ2 := h1.sub hZ hsl
        obtain ⟨x, hx, rfl⟩ : ∃ x, xs[i]? = some x ∧ v = x.r := by
          rw [List.getElem?_map] at hv
          cases q : xs[i]? with
          | none => rw [q] at hv; cases hv
          | some x => rw [q] at hv; exact ⟨x, rfl, (Option.some.inj hv).symm⟩
        obtain ⟨K, hK⟩ : ∃ K, kids[i]? = some K := ⟨kids[i]'(by omega), List.getElem?_eq_getElem _⟩
        obtain ⟨hT, hE⟩ := kidT i K hK
        have hb := weave_bound hK (by omega : i ≤ xs.length) num
        have e2 := hZ2 _ _ (fun _ q => by cases q) e
        have ec2 := hZ2 _ _ (fun _ q => by cases q) ech
        obtain ⟨crK, lK, cK, xK, kK, ndK, -⟩ := Tr_iff.mp hT
        obtain ⟨tkK, eK⟩ := ndK.node
        have eK2 := hZ2 _ _ (fun _ q => by cases q) eK
        refine w_cons (W.mono (P := fun fl σ3 m3 => fl = .next ∧ SubMv sl σ' σ3 ∧ I σ3 (ps ++ kvOf (weave (kids.take i) (xs.take i)) ++ kvOf K.es) ∧ m3 "self" = some (.ref a) ∧ m3 "visit" = some (.ref f) ∧ m3 "elt" = some x.r) ?_ ?_)
        · walk_at "go"
          refine w_item (vs := kids.map Kd.r) (k := i) ec2 (by omega) (by omega) (v := K.r) (by rw [Int.toNat_natCast, List.getElem?_map, hK]; rfl) ?_ rfl
          walk_at "go"
          refine w_spec (by assumption) (by assumption) (ih hT hZ2 hsl hE h2 (by simp only [kvOf, List.length_append, List.length_map]; omega) fun σ3 h5 h6 => ?_) (by omega)
          walk_at "go"
          exact ⟨rfl, h5, h6, by walk_at "lk", by walk_at "lk", by walk_at "lk"⟩
        · rintro fl σ3 m3 ⟨rfl, h5, h6, h7, h8, h9⟩
          refine next_next ?_
          have hZ3 := h5.sub hZ2 hsl
          walk_at "go"
          refine w_callWithF ?_ rfl
          walk_at "go"
          refine ⟨V.fn _ _ h6, ?_⟩
          refine w_spec (by assumption) (by assumption) (V.call _ _ x _ h6 (by simp only [kvOf, List.length_append, List.length_map]; omega) ((hel x (mem_weave.mpr (.inr (List.mem_of_getElem? hx)))).subS hZ3) fun σ4 h10 h11 => ?_) (by omega)
          walk_at "go"
          refine ⟨(h1.trans h5).trans h10, ?_, by walk_at "lk", by walk_at "lk"⟩
          have q1 : xs.take (i + 1) = xs.take i ++ [x] := by rw [List.take_add_one, hx]; rfl
          have q2 : kids.take (i + 1) = kids.take i ++ [K] := by rw [List.take_add_one, hK]; rfl
          rw [q1, q2, weave_snoc (by simp only [List.length_take]; omega), kvOf_app, kvOf_app]
          simpa [List.append_assoc, kvOf] using h11
      · rintro σ' m' ⟨h1, h2, h3, h4⟩
        rw [List.length_map, List.take_length] at h2
        walk_at "go"
        exact ⟨rfl, h1, h2, h3, h4⟩
    · rintro fl σ' m' ⟨rfl, h1, h2, h3, h4⟩
      refine next_next ?_
      have hZ2 := h1.sub hZ hsl
      have e2 := hZ2 _ _ (fun _ q => by cases q) e
      have ec2 := hZ2 _ _ (fun _ q => by cases q) ech
      obtain ⟨K, hK⟩ : ∃ K, kids[xs.length]? = some K := ⟨kids[xs.length]'(by omega), List.getElem?_eq_getElem _⟩
      obtain ⟨hT, hE⟩ := kidT _ K hK
      have hb := weave_bound hK (Nat.le_refl _) num
      rw [List.take_length] at hb
      obtain ⟨crK, lK, cK, xK, kK, ndK, -⟩ := Tr_iff.mp hT
      obtain ⟨tkK, eK⟩ := ndK.node
      have eK2 := hZ2 _ _ (fun _ q => by cases q) eK
      walk_at "go"
      refine w_item_neg (vs := kids.map Kd.r) (k := -1) ec2 (by omega) (by omega) (by simp only [List.length_map]; omega) (v := K.r) (by simp only [List.length_map]; rw [show ((-1 : Int) + (kids.length : Int)).toNat = xs.length by omega, List.getElem?_map, hK]; rfl) ?_ rfl
      walk_at "go"
      refine w_spec (by assumption) (by assumption) (ih hT hZ2 hsl hE h2 (by simp only [kvOf, List.length_append, List.length_map]; omega) fun σ3 h5 h6 => ?_) (by omega)
      walk_at "go"
      refine hQ σ3 (h1.trans h5) ?_
      have q2 : kids = kids.take xs.length ++ [K] := by
        have : kids.take (xs.length + 1) = kids := List.take_of_length_le (by omega)
        rw [List.take_add_one, hK] at this
        exact this.symm
      have hw : weave kids xs = weave (kids.take xs.length) xs ++ K.es := by
        have := weave_mid (pre := kids.take xs.length) (post := []) (K := K) (xl := xs) (xr := []) (by simp only [List.length_take]; omega)
        rw [← q2, List.append_nil] at this
        rw [this]; simp [tlW, weave]
      rw [hw, kvOf_app, ← List.append_assoc]
      exact h6
end
local macro_rules | `(tactic| walk_at "ints") => `(tactic| first
  | ((with_reducible refine' w_fmod ?b ?_); (case' b => decide); intro _)
  | ((with_reducible refine' w_fdiv ?b ?p ?_); (case' b => decide); (case' p => exact PyProof.noPylong_small (by decide)); intro _))
theorem nocl {y : Fx} {n : Str} {c : Addr} {cl : List (Str × Addr)} (h : y.cl = cl) (e : cl.lookup n = some c) : y.cl.lookup n = some c := h ▸ e
local macro_rules | `(tactic| walk_at "cl") => `(tactic| (refine' nocl ?h ?e; (case h => assumption); (case e => exact rfl)))
local macro_rules | `(tactic| walk_at "stmt") => `(tactic| ((with_reducible refine' w_AssignCell ?hc ?hl ?_ ?s); (case' hc => walk_at "cl"); (case' hl => walk_at "nm"); (case' s => exact rfl)))
local macro_rules | `(tactic| walk_at "name") => `(tactic| ((with_reducible refine' w_cell ?hc ?e ?l ?d ?_); (case' hc => walk_at "cl"); (case' l => walk_at "nm"); (case' d => kernel_rfl); (case' e => walk_at "sg")))
section
variable {g : Gl} {t : Nat} {Z : Store} {cr : Addr} {f sl : Addr} {I : Store → List (Int × Int) → Prop}
theorem spec_visitT {σ Z0 : Store} {ta root : Addr} {cr imm cur tv size io : Value} {h n : Nat} {es : List El} {ps : List (Int × Int)} {Q : Value → Store → Prop} (V : Visitor g f sl I) (t4 : t ≤ 4) (hh70 : h ≤ 70) (e : σ ta = some (treeC cr imm cur tv (.ref root) size io)) (T : Tr Z0 t h n root es) (hZ : SubS Z0 σ) (hsl : Z0 sl = none) (hel : ∀ e ∈ es, ElOk Z0 e) (hI : I σ ps) (hps : ps.length + es.length ≤ 1000)
    (hQ : ∀ σ', SubMv sl σ σ' → I σ' (ps ++ kvOf es) → Q .none σ') : Calls g hpN 90 (.ref 422) [.ref ta, .ref f] [] σ Q := by
  obtain ⟨cr0, l0, c0, xs0, kids0, nd0, -, -, -⟩ := Tr_iff.mp T
  obtain ⟨tk0, e0⟩ := nd0.node
  have e1 := hZ _ _ (fun _ q => by cases q) e0
  refine calls_def [("self", .ref ta), ("visit", .ref f)] rfl (by rfl) (fun s _ => BindsTo.of_eq rfl) (locs rfl) (by decide) rfl rfl rfl ?_
  walk_at "enter"
  walk_at "go"
  refine w_spec (by assumption) (by assumption) (spec_visit V t4 h T hZ hsl hel hI hps fun σ' h1 h2 => ?_) (by omega)
  walk_at "go"
  exact hQ σ' h1 h2
theorem ints_snoc {ys : List Value} {ns : List Int} {n : Int} {t : Tok} (h : IntsAre ys ns) : IntsAre (ys ++ [.int n t]) (ns ++ [n]) := by
  induction h with
  | nil => exact .cons n t .nil
  | cons a b _ ih => exact .cons a b ih
theorem step_of (kk : Int) (t1 t2 t3 t4 : Tok) (h0 : 0 ≤ kk) (h1 : kk < 4) : ∃ st ts, [(.int 1 t1 : Value), .int 63 t2, .int 37 t3, .int 7 t4][kk.toNat]? = some (.int st ts) ∧ ∀ a, IntMulOk a st := by
  obtain rfl | rfl | rfl | rfl : kk = 0 ∨ kk = 1 ∨ kk = 2 ∨ kk = 3 := by omega
  · exact ⟨1, t1, rfl, fun a => IntMulOk.of_right (by decide)⟩
  · exact ⟨63, t2, rfl, fun a => IntMulOk.of_right (by decide)⟩
  · exact ⟨37, t3, rfl, fun a => IntMulOk.of_right (by decide)⟩
  · exact ⟨7, t4, rfl, fun a => IntMulOk.of_right (by decide)⟩
theorem spec_row {σ : Store} {r : Int} {tk : Tok} {Q : Value → Store → Prop} (hQ : ∀ (σ' : Store) (l : Addr) (vs : List Value) (ns : List Int), σ l = none → Sup σ σ' → σ' l = some (.list vs) → IntsAre vs ns → ns.length ≤ 9 → (∀ n ∈ ns, 0 ≤ n ∧ n < 64) → Q (.ref l) σ') :
    Calls g hpN 8 (.ref 562) [.int r tk] [] σ Q := by
  refine calls_defC2 [("rest", .int r tk)] "start" "step" (upL (fun _ => none) "rest" (.int r tk)) none none rfl (by rfl) (fun s _ => BindsTo.of_eq rfl) (by rfl) (fun _ => rfl) (by decide) (fun _ => rfl) (fun _ => rfl) (fun _ => rfl) rfl rfl rfl ?_
  intro y c1 c2 hh hr hcs hcn ha hcd hcl f1 f2 hne
  refine W.mono (W.keepPred (Q := fun fl σ' _ => ∃ l vs ns, fl = .ret (.ref l) ∧ (∀ c, (∀ P, c ≠ .pred P) → σ l ≠ some c) ∧ SubS σ σ' ∧ σ' l = some (.list vs) ∧ IntsAre vs ns ∧ ns.length ≤ 9 ∧ ∀ n ∈ ns, 0 ≤ n ∧ n < 64) ?_) ?_
  · walk_at "go"
    refine ⟨none, by walk_at "sg", ?_⟩
    walk_at "go"
    intro l hl
    walk_at "go"
    have b9 : 0 ≤ r.fmod 9 ∧ r.fmod 9 < 9 := ⟨Int.fmod_nonneg_of_pos _ (by decide), Int.fmod_lt_of_pos _ (by decide)⟩
    have b4 : 0 ≤ (r.fdiv 576).fmod 4 ∧ (r.fdiv 576).fmod 4 < 4 := ⟨Int.fmod_nonneg_of_pos _ (by decide), Int.fmod_lt_of_pos _ (by decide)⟩
    generalize (r.fdiv 576).fmod 4 = kk at b4 ⊢
    generalize (r.fdiv 9).fmod 64 = start at hl ⊢
    obtain ⟨many, hmany⟩ : ∃ many : Nat, 1 + r.fmod 9 = many := ⟨(1 + r.fmod 9).toNat, by omega⟩
    have hm9 : many ≤ 9 := by omega
    rw [hmany]
    generalize hL : [(Value.int 1 _), Value.int 63 _, Value.int 37 _, Value.int 7 _] = L
    obtain ⟨st, ts, hst, hmul⟩ : ∃ st ts, L[kk.toNat]? = some (.int st ts) ∧ ∀ a, IntMulOk a st := by rw [← hL]; exact step_of kk _ _ _ _ b4.1 b4.2
    clear hL
    refine w_item (vs := L) (k := kk) (Store.set_same _ _ _) b4.1 (by omega) hst ?_ rfl
    have l2 := hl
    obtain ⟨nl1, l2⟩ := Store.set_none l2
    obtain ⟨nl2, l2⟩ := Store.set_none l2
    obtain ⟨nl3, l2⟩ := Store.set_none l2
    walk_at "go"
    refine ⟨none, ?_, ?_⟩
    · rw [Store.set_ne _ _ nl2.symm, Store.set_ne _ _ hne.symm]; exact Store.set_same _ _ _
    walk_at "go"
    refine w_ListCompR hh (show closureFor _ (envX y.cn y.cs y.L y.a y.ccd y.cl) = _ by rw [hcl]; rfl) (by decide) rfl (by decide) rfl ?_ fun _ => rfl
    walk_at "go"
    refine w_range1 fun rg hrg => ?_
    have hs1 : ∀ tq, SubS σ ((((((σ.set c1 (.var none)).set c2 (.var none)).set c1 (.var (some (.int start tq)))).set l (.list L)).set c2 (.var (some (.int st ts)))).set rg (rangeC 0 many)) := fun tq b cb _ e => by
      have b1 := ne_fresh e f1
      have b2 := ne_fresh e f2
      have b3 := ne_fresh e l2
      have b4 : b ≠ rg := fun z => by
        subst z
        simp [Store.set_apply, b1, b2, b3, e] at hrg
      simp [Store.set_apply, b1, b2, b3, b4, e]
    have rc1 : rg ≠ c1 := fun z => by subst z; simp [Store.set_apply, hne, nl1.symm] at hrg
    have rc2 : rg ≠ c2 := fun z => by subst z; simp [Store.set_apply] at hrg
    refine ⟨rfl, rg, 0, many, rfl, by rw [Int.zero_add]; exact Store.set_same _ _ _, by omega, by omega, by rw [sizeLine_eq]; omega,
      fun i ys σ' => SubS σ σ' ∧ (∃ t, σ' c1 = some (.var (some (.int start t)))) ∧ σ' c2 = some (.var (some (.int st ts))) ∧ ∃ ns, IntsAre ys ns ∧ ns.length = i ∧ ∀ n ∈ ns, 0 ≤ n ∧ n < 64,
      ⟨hs1 _, ⟨_, by simp [Store.set_apply, rc1.symm, hne, nl1.symm]; rfl⟩, by simp [Store.set_apply, rc2.symm], [], .nil, rfl, by simp⟩, ?_, ?_, ?_⟩
    · rintro i ys σ' σ'' hs ⟨h1, ⟨t, h2⟩, h3, h4⟩
      exact ⟨h1.trans hs, ⟨t, hs _ _ (fun _ q => by cases q) h2⟩, hs _ _ (fun _ q => by cases q) h3, h4⟩
    · rintro i tk2 ys σ' C oC mC hi ⟨h1, ⟨t, h2⟩, h3, ns, h4, h5, h6⟩ eC hC hk
      rw [Int.zero_add] at hk
      refine e_BinOp (e_BinOp ?_)
      refine w_compCell (c := c1) rfl h2 rfl (by show (relabel _ (envX y.cn y.cs y.L y.a y.ccd y.cl)).names.lookup _ = _; rw [hcs]; rfl) (by decide) ?_
      refine e_BinOp (w_compLocal eC hC hk rfl rfl (by decide) (w_compCell (c := c2) rfl h3 rfl (by show (relabel _ (envX y.cn y.cs y.L y.a y.ccd y.cl)).names.lookup _ = _; rw [hcs]; rfl) (by decide) ?_))
      refine w_mul (hmul _) fun _ => w_add fun _ => e_int fun _ => w_fmod (by decide) fun _ => ?_
      exact ⟨rfl, h1, ⟨t, h2⟩, h3, _, ints_snoc h4, by simp [h5], fun n hn => by
        rcases List.mem_append.mp hn with q | q
        · exact h6 n q
        · rw [List.mem_singleton.mp q]; exact ⟨Int.fmod_nonneg_of_pos _ (by decide), Int.fmod_lt_of_pos _ (by decide)⟩⟩
    · rintro ys σ' ⟨h1, ⟨t, h2⟩, h3, ns, h4, h5, h6⟩ d hd
      exact ⟨d, ys, ns, rfl, fun c hc q => (by rw [h1 _ _ hc q] at hd; cases hd), h1.trans (SubS.new _ hd), Store.set_same _ _ _, h4, by omega, h6⟩
  · rintro fl σ' m' ⟨hk, l, vs, ns, rfl, hfr, hs, h2, h3, h4, h5⟩
    have kp : Keeps σ σ' := fun b P q => hk b P (by
      have b1 := ne_fresh q f1
      have b2 := ne_fresh q f2
      simp [Store.set_apply, b1, b2, q])
    refine hQ σ' l vs ns ?_ (Sup.of hs kp) h2 h3 h4 h5
    cases q : σ l with
    | none => rfl
    | some c =>
      by_cases hc : ∀ P, c ≠ .pred P
      · exact absurd q (hfr c hc)
      · obtain ⟨P, hP⟩ := Classical.not_forall.mp hc
        rw [Classical.not_not.mp hP] at q
        rw [kp _ _ q] at h2; cases h2
end
section
variable {g : Gl} {t : Nat} {Z : Store} {cr : Addr}
theorem e_test_Compare {x : Fx} {σ : Store} {m : Loc} {E : Value → Heap → Prop} {env : Env} {l r : Expr} {op : CmpOp} {pos : Pos} {whole : Sem Value} {Q : Bool → Store → Loc → Prop}
    (h : W g x (eval l env) σ m (fun a σ m => W g x (eval r env) σ m (fun b σ m => W g x (compareOp op a b) σ m (fun c σ m => W g x (truthy c) σ m Q E) E) E) E) (hm : behindInMarks op r = false) :
    W g x (isTrue (.Compare l [op] [r] pos) env whole) σ m Q E :=
  fun ok _ _ _ hs H => wpAny_isTrue_Compare1 (h.use ok hs H fun _ _ _ _ hs H h => h.use ok hs H fun _ _ _ _ hs H h => h.use ok hs H fun _ _ _ _ hs H h => h ok _ _ _ hs H) hm
/-- no cell of σ but one told by a word -/
def Fresh (σ : Store) (a : Addr) : Prop := ∀ c, (∀ P, c ≠ .pred P) → σ a ≠ some c
theorem Fresh.of {σ σ' : Store} {a : Addr} (h : SubS σ σ') (e : σ' a = none) : Fresh σ a := fun c hc q => by rw [h _ _ hc q] at e; cases e
theorem SubS.mut {σ σ' : Store} {a : Addr} {c : Cell} (h : SubS σ σ') (hf : Fresh σ a) : SubS σ (σ'.set a c) := fun b cb hc q => by
  have hb : b ≠ a := fun z => by subst z; exact hf cb hc q
  rw [Store.set_ne _ _ hb]; exact h b cb hc q
theorem ite_bneF {a b : Int} {A B : Prop} (h : a = b) (hb : B) : if (a != b) then A else B := by rw [if_neg (by simp [h])]; exact hb
theorem rep_at {ds : List Value} {n : Nat} {h : Int} (hi : IntsAre ds (List.replicate n h)) {i : Nat} {v : Value} (hv : ds[i]? = some v) : ∃ t, v = .int h t := by
  induction n generalizing ds i with
  | zero =>
    cases hi; simp at hv
  | succ n ih =>
    rw [List.replicate_succ] at hi
    cases hi with
    | cons _ t r =>
      cases i with
      | zero => exact ⟨t, by simpa using hv.symm⟩
      | succ i => exact ih r (by simpa using hv)
theorem ints_app {ys zs : List Value} {ns ms : List Int} (h : IntsAre ys ns) (k : IntsAre zs ms) : IntsAre (ys ++ zs) (ns ++ ms) := by
  induction h with
  | nil => exact k
  | cons a b _ ih => exact .cons a b ih
theorem ksOf_app (A B : List El) : ksOf (A ++ B) = ksOf A ++ ksOf B := List.map_append ..
set_option maxHeartbeats 4000000 in
theorem spec_walk (t3 : 3 ≤ t) (t4 : t ≤ 4) : ∀ (h : Nat) {n : Nat} {a : Addr} {es : List El} {Z0 σ : Store} {top : Bool} {tk1 tk2 : Tok} {Q : Value → Store → Prop}, Tr Z0 t h n a es → SubS Z0 σ → (∀ e ∈ es, ElOk Z0 e) → es.length ≤ 400 → ((top = true ∧ (h = 0 ∨ 1 ≤ n)) ∨ t - 1 ≤ n) →
    (∀ (σ' : Store) (tp kl : Addr) (vs : List Value) (tk : Tok), SubS σ σ' → σ' tp = some (.tup [.ref kl, .int h tk]) → σ' kl = some (.list vs) → IntsAre vs (ksOf es) → Q (.ref tp) σ') →
    Calls g hpN (h + 12) (.ref 552) [.ref a, .int ((t - 1 : Nat) : Int) tk1, .int ((2 * t - 1 : Nat) : Int) tk2, .bool top] [] σ Q := by
  intro h
  induction h with
  | zero =>
    intro n a es Z0 σ top tk1 tk2 Q T hZ hel hlen htop hQ
    obtain ⟨cr0, l, c, xs, kids, nd, -, rfl, rfl⟩ := T
    obtain rfl : kids = [] := List.length_eq_zero_iff.mp nd.num
    obtain ⟨tk, e⟩ := nd.node
    have el := nd.el
    have ech := nd.ch
    have hhi := nd.hi
    have e1 := hZ _ _ (fun _ q => by cases q) e
    have el1 := hZ _ _ (fun _ q => by cases q) el
    have ec1 := hZ _ _ (fun _ q => by cases q) ech
    have hw : weave [] xs = xs := by simp [weave]
    rw [hw] at hel hQ
    refine calls_defC1 (n := 11) [("node", .ref a), ("least", .int ((t - 1 : Nat) : Int) tk1), ("most", .int ((2 * t - 1 : Nat) : Int) tk2), ("top", .bool top)] "depths" (upL (upL (upL (upL (fun _ => none) "node" (.ref a)) "least" (.int ((t - 1 : Nat) : Int) tk1)) "most" (.int ((2 * t - 1 : Nat) : Int) tk2)) "top" (.bool top)) none rfl (by rfl) (fun s _ => BindsTo.of_eq rfl) (by rfl) (fun _ => rfl) (by decide) (fun _ => rfl) (fun _ => rfl) rfl rfl rfl ?_
    intro y c1 hh hr hcs hcn ha hcd hcl f1
    have ne1 := ne_fresh e1 f1
    have ne2 := ne_fresh el1 f1
    have ne3 := ne_fresh ec1 f1
    have s1 := SubS.new (.var none) f1
    generalize hσ : σ.set c1 (.var none) = σ1 at s1
    have e2 := s1 _ _ (fun _ q => by cases q) e1
    have el2 := s1 _ _ (fun _ q => by cases q) el1
    have ec2 := s1 _ _ (fun _ q => by cases q) ec1
    refine w_cons (W.mono (P := fun f σ' m' => f = .next ∧ σ' = σ1 ∧ m' "node" = some (.ref a) ∧ m' "least" = some (.int ((t - 1 : Nat) : Int) tk1) ∧ m' "most" = some (.int ((2 * t - 1 : Nat) : Int) tk2) ∧ m' "top" = some (.bool top) ∧ ∃ tk, m' "count" = some (.int xs.length tk)) ?_ ?_)
    · walk_at "go"
      exact ⟨rfl, rfl, by walk_at "lk", by walk_at "lk", by walk_at "lk", by walk_at "lk", _, by rw [List.length_map]; walk_at "lk"⟩
    rintro f σ' m' ⟨rfl, rfl, hm1, hm2, hm3, hm4, tkc, hm5⟩
    refine next_next ?_
    refine w_cons (W.mono (P := fun f σ2 m2 => f = .next ∧ σ2 = σ' ∧ m2 = m') ?_ ?_)
    · walk_at "go"
      refine ite_decF (by omega) ?_
      walk_at "go"
      rcases htop with ⟨rfl, _⟩ | hn
      · refine ite_both (fun _ => ?_) (fun _ => ?_)
        · walk_at "go"
          exact ⟨rfl, rfl, rfl⟩
        · walk_at "go"
          exact ⟨rfl, rfl, rfl⟩
      · refine ite_decF (by omega) ?_
        walk_at "go"
        exact ⟨rfl, rfl, rfl⟩
    rintro f σ2 m2 ⟨rfl, rfl, rfl⟩
    refine next_next ?_
    walk_at "go"
    intro l2 hl2
    have s2 := SubS.new (.list []) hl2
    refine w_eqInts (hr.le (by omega)) (s2 _ _ (fun _ q => by cases q) ec2) (Store.set_same _ _ _) .nil .nil ?_
    generalize σ2.set l2 (.list []) = σ3 at s2
    walk_at "go"
    refine ite_decT rfl ?_
    walk_at "go"
    refine w_ListComp hh rfl (by decide) rfl (by decide) rfl ?_ fun _ => rfl
    have e3 := s2 _ _ (fun _ q => by cases q) e2
    have el3 := s2 _ _ (fun _ q => by cases q) el2
    walk_at "go"
    refine ⟨rfl, l, xs.map El.r, rfl, el3, by rw [List.length_map, sizeLine_eq]; omega, fun i ys σ' => SubS σ3 σ' ∧ IntsAre ys (ksOf (xs.take i)), ⟨SubS.refl _, by simpa [ksOf] using IntsAre.nil⟩, fun i ys σ' σ'' hs q => ⟨q.1.trans hs, q.2⟩, fun i ys σ' q => q.1 _ _ (fun _ q => by cases q) el3, ?_, ?_⟩
    · rintro i v ys σ' C oC mC hi hv ⟨h1, h2⟩ eC hC hk
      obtain ⟨x, hx, rfl⟩ : ∃ x, xs[i]? = some x ∧ v = x.r := by
        rw [List.getElem?_map] at hv
        cases q : xs[i]? with
        | none => rw [q] at hv; cases hv
        | some x => rw [q] at hv; exact ⟨x, rfl, (Option.some.inj hv).symm⟩
      obtain ⟨xk, xv, ex⟩ := ((((hel x (List.mem_of_getElem? hx)).subS hZ).subS s1).subS s2).subS h1
      refine e_Method (pl := _) ?_ rfl
      refine w_compLocal eC hC hk rfl rfl (by decide) ?_
      refine m_KV_key ex ?_
      walk_at "call"
      refine e_args0 ?_
      refine w_tidy1 ?_
      refine w_spec (by assumption) (by assumption) (spec_key ex rfl ?_) (by omega)
      have : xs.take (i + 1) = xs.take i ++ [x] := by rw [List.take_add_one, hx]; rfl
      exact ⟨rfl, h1, by rw [this, ksOf_app]; exact ints_snoc h2⟩
    · rintro ys σ' ⟨h1, h2⟩ d hd
      rw [List.take_of_length_le (by simp)] at h2
      have s4 := SubS.new (.list ys) hd
      walk_at "go"
      refine w_newTuple (by rw [sizeLine_eq]; exact Nat.le_of_ble_eq_true rfl) fun tp htp => ?_
      walk_at "go"
      refine hQ _ tp d ys _ (((s1.trans s2).trans h1).trans (s4.trans (SubS.new _ htp))) (Store.set_same _ _ _) ?_ h2
      rw [Store.set_ne _ _ (ne_fresh (Store.set_same _ _ _) htp)]; exact Store.set_same _ _ _
  | succ h ih =>
    intro n a es Z0 σ top tk1 tk2 Q T hZ hel hlen htop hQ
    obtain ⟨cr0, l, c, xs, kids, nd, -, rfl, rfl⟩ := T
    obtain ⟨tk, e⟩ := nd.node
    have el := nd.el
    have ech := nd.ch
    have hhi := nd.hi
    have num : kids.length = xs.length + 1 := nd.num
    have hxs1 : 1 ≤ xs.length := by rcases htop with ⟨_, q | q⟩ | q <;> omega
    have e1 := hZ _ _ (fun _ q => by cases q) e
    have el1 := hZ _ _ (fun _ q => by cases q) el
    have ec1 := hZ _ _ (fun _ q => by cases q) ech
    refine calls_defC1 (n := h + 12) [("node", .ref a), ("least", .int ((t - 1 : Nat) : Int) tk1), ("most", .int ((2 * t - 1 : Nat) : Int) tk2), ("top", .bool top)] "depths" (upL (upL (upL (upL (fun _ => none) "node" (.ref a)) "least" (.int ((t - 1 : Nat) : Int) tk1)) "most" (.int ((2 * t - 1 : Nat) : Int) tk2)) "top" (.bool top)) none rfl (by rfl) (fun s _ => BindsTo.of_eq rfl) (by rfl) (fun _ => rfl) (by decide) (fun _ => rfl) (fun _ => rfl) rfl rfl rfl ?_
    intro y c1 hh hr hcs hcn ha hcd hcl f1
    have ne1 := ne_fresh e1 f1
    have ne2 := ne_fresh el1 f1
    have ne3 := ne_fresh ec1 f1
    have s1 := SubS.new (.var none) f1
    have ec1' : (σ.set c1 (.var none)) c1 = some (.var none) := Store.set_same _ _ _
    generalize hσ : σ.set c1 (.var none) = σ1 at s1 ec1'
    have e2 := s1 _ _ (fun _ q => by cases q) e1
    have el2 := s1 _ _ (fun _ q => by cases q) el1
    have ec2 := s1 _ _ (fun _ q => by cases q) ec1
    refine w_cons (W.mono (P := fun f σ' m' => f = .next ∧ σ' = σ1 ∧ m' "node" = some (.ref a) ∧ m' "least" = some (.int ((t - 1 : Nat) : Int) tk1) ∧ m' "most" = some (.int ((2 * t - 1 : Nat) : Int) tk2) ∧ m' "top" = some (.bool top) ∧ ∃ tk, m' "count" = some (.int xs.length tk)) ?_ ?_)
    · walk_at "go"
      exact ⟨rfl, rfl, by walk_at "lk", by walk_at "lk", by walk_at "lk", by walk_at "lk", _, by rw [List.length_map]; walk_at "lk"⟩
    rintro f σ' m' ⟨rfl, rfl, hm1, hm2, hm3, hm4, tkc, hm5⟩
    refine next_next ?_
    refine w_cons (W.mono (P := fun f σ2 m2 => f = .next ∧ σ2 = σ' ∧ m2 = m') ?_ ?_)
    · walk_at "go"
      refine ite_decF (by omega) ?_
      walk_at "go"
      rcases htop with ⟨rfl, _⟩ | hn
      · refine ite_both (fun _ => ?_) (fun _ => ?_)
        · walk_at "go"
          exact ⟨rfl, rfl, rfl⟩
        · walk_at "go"
          exact ⟨rfl, rfl, rfl⟩
      · refine ite_decF (by omega) ?_
        walk_at "go"
        exact ⟨rfl, rfl, rfl⟩
    rintro f σ2 m2 ⟨rfl, rfl, rfl⟩
    refine next_next ?_
    walk_at "go"
    refine ite_beq (fun q => absurd q (by omega)) fun _ => ?_
    walk_at "go"
    refine ite_bneF (by rw [List.length_map]; omega) ?_
    walk_at "go"
    intro kl hkl
    walk_at "go"
    intro dl hdl
    have s2 := SubS.new (.list []) hkl
    have s3 := SubS.new (.list []) hdl
    have hkd : kl ≠ dl := ne_fresh (Store.set_same _ _ _) hdl
    refine ⟨none, (s2.trans s3) _ _ (fun _ q => by cases q) ec1', ?_⟩
    have ncd : c1 ≠ dl := ne_fresh (s2 _ _ (fun _ q => by cases q) ec1') hdl
    have nck : c1 ≠ kl := ne_fresh ec1' hkl
    -- from here the store is told by what it bears
    have b0 : SubS σ ((((σ2.set kl (.list [])).set dl (.list [])).set c1 (.var (some (.ref dl))))) := fun b cb hc q => by
      have n1 := ne_fresh q f1
      have q2 := s1 _ _ hc q
      have n2 := ne_fresh q2 hkl
      have n3 := ne_fresh (s2 _ _ hc q2) hdl
      rw [Store.set_ne _ _ n1]
      exact (s2.trans s3) _ _ hc q2
    have b1 : (((σ2.set kl (.list [])).set dl (.list [])).set c1 (.var (some (.ref dl)))) c1 = some (.var (some (.ref dl))) := Store.set_same _ _ _
    have b2 : (((σ2.set kl (.list [])).set dl (.list [])).set c1 (.var (some (.ref dl)))) dl = some (.list []) := by rw [Store.set_ne _ _ ncd.symm]; exact Store.set_same _ _ _
    have b3 : (((σ2.set kl (.list [])).set dl (.list [])).set c1 (.var (some (.ref dl)))) kl = some (.list []) := by rw [Store.set_ne _ _ nck.symm, Store.set_ne _ _ hkd]; exact Store.set_same _ _ _
    generalize ((σ2.set kl (.list [])).set dl (.list [])).set c1 (.var (some (.ref dl))) = σ4 at b0 b1 b2 b3
    have fk : Fresh σ kl := Fresh.of s1 hkl
    have fd : Fresh σ dl := Fresh.of (s1.trans s2) hdl
    refine next_next ?_
    refine w_cons (W.mono (P := fun f σ' m' => f = .next ∧ SubS σ σ' ∧ σ' c1 = some (.var (some (.ref dl))) ∧ (∃ ds, σ' dl = some (.list ds) ∧ IntsAre ds (List.replicate (xs.length + 1) (h : Int))) ∧ ∃ kl vs, m' "keys" = some (.ref kl) ∧ σ' kl = some (.list vs) ∧ IntsAre vs (ksOf (weave kids xs))) ?_ ?_)
    · refine w_For_range hh ?_ (fun _ _ => rfl) fun _ => rfl
      walk_at "go"
      refine w_range1 fun rg hrg => ?_
      have s5 := SubS.new (rangeC 0 ((xs.length : Int) + 1)) hrg
      refine ⟨rg, 0, xs.length + 1, rfl, by rw [Store.set_same]; congr 2; omega, by omega, by omega,
        fun k σ' m' => SubS σ σ' ∧ σ' c1 = some (.var (some (.ref dl))) ∧ (∃ ds, σ' dl = some (.list ds) ∧ IntsAre ds (List.replicate k (h : Int))) ∧ (∃ kl vs, m' "keys" = some (.ref kl) ∧ σ' kl = some (.list vs) ∧ IntsAre vs (ksOf (weave (kids.take k) (xs.take k))) ∧ Fresh σ kl ∧ kl ≠ dl) ∧
          m' "node" = some (.ref a) ∧ m' "least" = some (.int ((t - 1 : Nat) : Int) tk1) ∧ m' "most" = some (.int ((2 * t - 1 : Nat) : Int) tk2) ∧ m' "count" = some (.int xs.length tkc),
        ⟨b0.trans s5, s5 _ _ (fun _ q => by cases q) b1, ⟨[], s5 _ _ (fun _ q => by cases q) b2, .nil⟩, ⟨kl, [], by walk_at "lk", s5 _ _ (fun _ q => by cases q) b3, by simpa [weave, ksOf] using IntsAre.nil, fk, hkd⟩, by walk_at "lk", by walk_at "lk", by walk_at "lk", by walk_at "lk"⟩, ?_, ?_, ?_⟩
      · rintro k m' σ' σ'' hs ⟨h1, h2, ⟨ds, h3, h4⟩, ⟨kl, vs, h5, h6, h7, h8, h9⟩, h10⟩
        exact ⟨h1.trans hs, hs _ _ (fun _ q => by cases q) h2, ⟨ds, hs _ _ (fun _ q => by cases q) h3, h4⟩, ⟨kl, vs, h5, hs _ _ (fun _ q => by cases q) h6, h7, h8, h9⟩, h10⟩
      · rintro k kt σ' m' hk ⟨h1, h2, ⟨ds, h3, h4⟩, ⟨kl, vs, h5, h6, h7, h8, h9⟩, hm1, hm2, hm3, hm5⟩
        refine w_assignName (by walk_at "nm") ?_
        rw [Int.zero_add]
        obtain ⟨K, hK⟩ : ∃ K, kids[k]? = some K := ⟨kids[k]'(by omega), List.getElem?_eq_getElem _⟩
        have hKm := List.mem_of_getElem? hK
        obtain ⟨hKn, hKt⟩ := nd.kid K hKm
        have hZ2 := hZ.trans h1
        have e3 := hZ2 _ _ (fun _ q => by cases q) e
        have ech3 := hZ2 _ _ (fun _ q => by cases q) ech
        have el3 := hZ2 _ _ (fun _ q => by cases q) el
        have hlenK : K.es.length ≤ 400 := Nat.le_trans (sub_weave hKm).length_le hlen
        have hvl : vs.length ≤ 400 := by
          have q1 := h7.length
          have q2 : (weave (kids.take k) (xs.take k)).length ≤ (weave kids xs).length := by
            have hw := weave_mid (pre := kids.take k) (post := kids.drop (k + 1)) (K := K) (xl := xs.take k) (xr := xs.drop k) (by simp only [List.length_take]; omega)
            have hk2 : kids.take k ++ K :: kids.drop (k + 1) = kids := by
              have := List.take_append_drop k kids
              rw [List.drop_eq_getElem_cons (by omega : k < kids.length)] at this
              have q : kids[k]'(by omega) = K := by have := hK; rw [List.getElem?_eq_getElem (by omega)] at this; exact Option.some.inj this
              rw [q] at this; exact this
            rw [hk2, List.take_append_drop] at hw
            rw [hw]; simp
          simp only [ksOf, List.length_map] at q1
          omega
        walk_at "go"
        refine w_item (vs := kids.map Kd.r) (k := k) ech3 (by omega) (by omega) (v := K.r) (by rw [Int.toNat_natCast, List.getElem?_map, hK]; rfl) ?_ rfl
        walk_at "go"
        refine w_spec (by assumption) (by assumption) (ih (top := false) hKt hZ2 (fun e he => hel e (mem_weave.mpr (.inl ⟨K, hKm, he⟩))) hlenK (.inr hKn) fun σ5 tp kl2 vs2 tkd h11 h12 h13 h14 => ?_) (by omega)
        have hZ5 := hZ2.trans h11
        have g1 := h1.trans h11
        have g2 := h11 _ _ (fun _ q => by cases q) h2
        have g3 := h11 _ _ (fun _ q => by cases q) h3
        have g6 := h11 _ _ (fun _ q => by cases q) h6
        have hl2 := h14.length
        simp only [ksOf, List.length_map] at hl2
        walk_at "go"
        refine w_item_tup (j := 0) h12 (by omega) (by omega) rfl rfl ?_ rfl
        walk_at "go"
        refine w_addLists g6 h13 (by omega) fun kl3 hkl3 => ?_
        have s6 := SubS.new (.list (vs ++ vs2)) hkl3
        have f3 := Fresh.of g1 hkl3
        have ne3 := (ne_fresh g3 hkl3).symm
        have q2 := s6 _ _ (fun _ q => by cases q) g2
        have q3 := s6 _ _ (fun _ q => by cases q) g3
        have q12 := s6 _ _ (fun _ q => by cases q) h12
        have q1 := g1.trans s6
        have q6 : (σ5.set kl3 (.list (vs ++ vs2))) kl3 = some (.list (vs ++ vs2)) := Store.set_same _ _ _
        generalize σ5.set kl3 (.list (vs ++ vs2)) = σ6 at s6 q1 q2 q3 q12 q6
        have hi := ints_app h7 h14
        walk_at "go"
        refine w_item_tup (j := 1) q12 (by omega) (by omega) rfl rfl ?_ rfl
        walk_at "go"
        have hdl := h4.length
        rw [List.length_replicate] at hdl
        refine w_append q3 (by rw [sizeLine_eq]; omega) ?_
        have nc3 : c1 ≠ kl3 := fun z => by rw [z, q6] at q2; cases q2
        have ncd3 : c1 ≠ dl := fun z => by rw [z, q3] at q2; cases q2
        have r1 := q1.mut (c := .list (ds ++ [.int (h : Nat) tkd])) fd
        have r2 : (σ6.set dl (.list (ds ++ [.int (h : Nat) tkd]))) c1 = _ := (Store.set_ne _ _ ncd3).trans q2
        have r3 : (σ6.set dl (.list (ds ++ [.int (h : Nat) tkd]))) dl = _ := Store.set_same _ _ _
        have r6 : (σ6.set dl (.list (ds ++ [.int (h : Nat) tkd]))) kl3 = _ := (Store.set_ne _ _ ne3).trans q6
        generalize σ6.set dl (.list (ds ++ [.int (h : Nat) tkd])) = σ7 at r1 r2 r3 r6
        have hdn : IntsAre (ds ++ [.int (h : Nat) tkd]) (List.replicate (k + 1) (h : Int)) := by rw [List.replicate_succ']; exact ints_snoc h4
        walk_at "go"
        have hkt : kids.take (k + 1) = kids.take k ++ [K] := by rw [List.take_add_one, hK]; rfl
        refine ite_dec (fun hlt => ?_) (fun hge => ?_)
        · have hlt' : k < xs.length := by omega
          obtain ⟨x, hx⟩ : ∃ x, xs[k]? = some x := ⟨xs[k], List.getElem?_eq_getElem hlt'⟩
          have hZ7 := hZ.trans r1
          have e7 := hZ7 _ _ (fun _ q => by cases q) e
          have el7 := hZ7 _ _ (fun _ q => by cases q) el
          obtain ⟨xk, xv, ex⟩ := (hel x (mem_weave.mpr (.inr (List.mem_of_getElem? hx)))).subS hZ7
          walk_at "go"
          refine w_item (vs := xs.map El.r) (k := k) el7 (by omega) (by omega) (v := x.r) (by rw [Int.toNat_natCast, List.getElem?_map, hx]; rfl) ?_ rfl
          walk_at "go"
          refine w_spec (by assumption) (by assumption) (spec_key ex rfl ?_) (by omega)
          walk_at "go"
          refine w_append r6 (by rw [List.length_append, sizeLine_eq]; omega) ?_
          walk_at "go"
          refine ⟨r1.mut f3, (Store.set_ne _ _ nc3).trans r2, ⟨_, (Store.set_ne _ _ ne3.symm).trans r3, hdn⟩, ⟨kl3, _, by walk_at "lk", Store.set_same _ _ _, ?_, f3, ne3⟩, by walk_at "lk", by walk_at "lk", by walk_at "lk", by walk_at "lk"⟩
          have hxt : xs.take (k + 1) = xs.take k ++ [x] := by rw [List.take_add_one, hx]; rfl
          rw [hkt, hxt, weave_snoc (by simp only [List.length_take]; omega), ksOf_app, ksOf_app, ← List.append_assoc]
          exact ints_snoc hi
        · have hke : k = xs.length := by omega
          walk_at "go"
          refine ⟨r1, r2, ⟨_, r3, hdn⟩, ⟨kl3, _, by walk_at "lk", r6, ?_, f3, ne3⟩, by walk_at "lk", by walk_at "lk", by walk_at "lk", by walk_at "lk"⟩
          rw [hkt, List.take_of_length_le (by omega : xs.length ≤ k + 1)]
          rw [List.take_of_length_le (by omega : xs.length ≤ k)] at hi
          have := weave_mid (pre := kids.take k) (post := []) (K := K) (xl := xs) (xr := []) (by simp only [List.length_take]; omega)
          rw [List.append_nil] at this
          rw [this, ksOf_app]
          simpa [tlW, weave] using hi
      · rintro σ' m' ⟨h1, h2, ⟨ds, h3, h4⟩, ⟨kl, vs, h5, h6, h7, h8, h9⟩, hm⟩
        walk_at "go"
        rw [List.take_of_length_le (by omega), List.take_of_length_le (by omega)] at h7
        exact ⟨rfl, h1, h2, ⟨ds, h3, h4⟩, kl, vs, h5, h6, h7⟩
    · rintro f σ' m' ⟨rfl, h1, h2, ⟨ds, h3, h4⟩, kl2, vs, h5, h6, h7⟩
      refine next_next ?_
      have hdl := h4.length
      rw [List.length_replicate] at hdl
      walk_at "go"
      refine w_ListCompN hh (show closureFor _ (envX y.cn y.cs y.L y.a y.ccd y.cl) = _ by rw [hcl]; rfl) (by decide) rfl (by decide) rfl ?_ fun _ => rfl
      walk_at "go"
      refine ⟨rfl, dl, ds, rfl, h3, by rw [sizeLine_eq]; omega, fun i σ3 => SubS σ' σ3, SubS.refl _, fun i σ3 σ4 hs q => q.trans hs, fun i σ3 q => q _ _ (fun _ q => by cases q) h3, ?_, ?_⟩
      · rintro i v σ3 C oC mC hi hv q eC hC hk
        have q2 := q _ _ (fun _ q => by cases q) h2
        have q3 := q _ _ (fun _ q => by cases q) h3
        obtain ⟨tv, rfl⟩ := rep_at h4 hv
        obtain ⟨t0, hv0⟩ : ∃ t0, ds[0]? = some (.int (h : Nat) t0) := by
          have : ds[0]? = some (ds[0]'(by omega)) := List.getElem?_eq_getElem _
          obtain ⟨t0, e⟩ := rep_at h4 this
          exact ⟨t0, by rw [this, e]⟩
        refine e_test_Compare ?_ rfl
        refine w_compLocal eC hC hk rfl rfl (by decide) ?_
        refine e_Subscript ?_
        refine w_compCell (c := c1) rfl q2 rfl (by show (relabel _ (envX y.cn y.cs y.L y.a y.ccd y.cl)).names.lookup _ = _; rw [hcs]; rfl) (by decide) ?_
        refine e_int fun _ => ?_
        refine w_item (vs := ds) (k := 0) q3 (by omega) (by omega) hv0 ?_ rfl
        walk_at "go"
        exact ⟨rfl, by simp, q⟩
      · rintro σ3 q d hd
        have q2 := q _ _ (fun _ q => by cases q) h2
        have q3 := q _ _ (fun _ q => by cases q) h3
        have q6 := q _ _ (fun _ q => by cases q) h6
        have s8 := SubS.new (.list []) hd
        have z1 : (σ3.set d (.list [])) d = some (.list []) := Store.set_same _ _ _
        generalize σ3.set d (.list []) = σ4 at s8 z1
        walk_at "go"
        intro d2 hd2
        have s9 := SubS.new (.list []) hd2
        refine w_eqInts (hr.le (by omega)) (s9 _ _ (fun _ q => by cases q) z1) (Store.set_same _ _ _) .nil .nil ?_
        generalize σ4.set d2 (.list []) = σ5 at s9
        have w2 := s9 _ _ (fun _ q => by cases q) (s8 _ _ (fun _ q => by cases q) q2)
        have w3 := s9 _ _ (fun _ q => by cases q) (s8 _ _ (fun _ q => by cases q) q3)
        have w6 := s9 _ _ (fun _ q => by cases q) (s8 _ _ (fun _ q => by cases q) q6)
        obtain ⟨t0, hv0⟩ : ∃ t0, ds[0]? = some (.int (h : Nat) t0) := by
          have : ds[0]? = some (ds[0]'(by omega)) := List.getElem?_eq_getElem _
          obtain ⟨t0, e⟩ := rep_at h4 this
          exact ⟨t0, by rw [this, e]⟩
        walk_at "go"
        refine ite_decT rfl ?_
        walk_at "go"
        refine w_item (vs := ds) (k := 0) w3 (by omega) (by omega) hv0 ?_ rfl
        walk_at "go"
        refine w_newTuple (by rw [sizeLine_eq]; exact Nat.le_of_ble_eq_true rfl) fun tp htp => ?_
        walk_at "go"
        refine hQ _ tp kl2 vs _ ((((h1.trans q).trans s8).trans s9).trans (SubS.new _ htp)) (Store.set_same _ _ _) ?_ h7
        rw [Store.set_ne _ _ (ne_fresh w6 htp)]; exact w6
end
section
variable {g : Gl} {t : Nat} {Z : Store} {cr : Addr}
theorem w_specR {x : Fx} {σ : Store} {m : Loc} {E : Value → Heap → Prop} {hp : Option Value → Prop} {k n : Nat} {f : Value} {args : List Value} {kw : List (Str × Value)} {Q : Value → Store → Loc → Prop} {R : Value → Store → Prop} (hr : Room x n) (hh : hp x.hd) (h : CallsE g hp k f args kw σ (fun _ _ => False) R) (hk : k ≤ n)
    (hE : ∀ e h, UpF g x (fun c σ m' => R c σ ∧ m' = m) e h → E e h) : W g x (call f args kw) σ m Q E := w_specE hr hh (h.mono (fun _ _ z => z.elim) fun _ _ z => z) hk hE
abbrev cImm : Value := .ref 340
/-! ### a closed tree refuses -/
theorem spec_checkR {σ : Store} {ta : Addr} {cr cur tv root size io : Value} {R : Value → Store → Prop} (e : σ ta = some (treeC cr (.bool true) cur tv root size io)) (hR : R cImm σ) : CallsE g hpN 2 (.ref 372) [.ref ta] [] σ (fun _ _ => False) R := by
  refine calls_defE (n := 1) [("self", .ref ta)] rfl (by rfl) (fun s _ => BindsTo.of_eq rfl) (locs rfl) (by decide) rfl rfl rfl ?_
  walk_at "enter"
  walk_at "go"
  refine w_raiseImm (by assumption) (by walk_at "nm") hR
theorem spec_insertR {σ : Store} {ta : Addr} {ev : Value} {cr cur tv root size io : Value} {args : List Value} {R : Value → Store → Prop} (hargs : args = [.ref ta, ev] ∨ ∃ b, args = [.ref ta, ev, .bool b]) (e : σ ta = some (treeC cr (.bool true) cur tv root size io)) (hR : R cImm σ) : CallsE g hpN 4 (.ref 380) args [] σ (fun _ _ => False) R := by
  obtain ⟨b, hb⟩ : ∃ b : Bool, (args = [.ref ta, ev] ∧ b = false) ∨ args = [.ref ta, ev, .bool b] := by
    rcases hargs with h | ⟨b, h⟩
    · exact ⟨false, .inl ⟨h, rfl⟩⟩
    · exact ⟨b, .inr h⟩
  refine calls_defE (n := 3) [("self", .ref ta), ("elt", ev), ("in_order", .bool b)] rfl (by rfl) ?_ (locs rfl) (by decide) rfl rfl rfl ?_
  · rcases hb with ⟨rfl, rfl⟩ | rfl
    · exact fun s X => binds_K X rfl (by rfl) rfl rfl rfl
    · exact fun s X => binds_K X rfl (by rfl) rfl rfl rfl
  · walk_at "enter"
    walk_at "go"
    exact w_specR (by assumption) (by assumption) (spec_checkR (R := R) e hR) (by omega) fun e h u => (u.mono fun _ _ _ z => z.1).up
theorem spec_deleteTR {σ : Store} {ta : Addr} {kv xv : Value} {cr cur tv root size io : Value} {R : Value → Store → Prop} (e : σ ta = some (treeC cr (.bool true) cur tv root size io)) (hR : R cImm σ) : CallsE g hpN 4 (.ref 394) [.ref ta, kv, xv] [] σ (fun _ _ => False) R := by
  refine calls_defE (n := 3) [("self", .ref ta), ("key", kv), ("exact", xv)] rfl (by rfl) (fun s _ => BindsTo.of_eq rfl) (locs rfl) (by decide) rfl rfl rfl ?_
  walk_at "enter"
  walk_at "go"
  exact w_specR (by assumption) (by assumption) (spec_checkR (R := R) e hR) (by omega) fun e h u => (u.mono fun _ _ _ z => z.1).up
theorem spec_deleteKeyR {σ : Store} {ta : Addr} {kv : Value} {cr cur tv root size io : Value} {R : Value → Store → Prop} (e : σ ta = some (treeC cr (.bool true) cur tv root size io)) (hR : R cImm σ) : CallsE g hpN 5 (.ref 401) [.ref ta, kv] [] σ (fun _ _ => False) R := by
  refine calls_defE (n := 4) [("self", .ref ta), ("key", kv)] rfl (by rfl) (fun s _ => BindsTo.of_eq rfl) (locs rfl) (by decide) rfl rfl rfl ?_
  walk_at "enter"
  walk_at "go"
  exact w_specR (by assumption) (by assumption) (spec_deleteTR (R := R) e hR) (by omega) fun e h u => (u.mono fun _ _ _ z => z.1).up
theorem spec_setItemR {σ : Store} {ta : Addr} {k v : Int} {kt vt : Tok} {cr cur tv root size : Value} {io : Bool} {R : Value → Store → Prop} (e : σ ta = some (treeC cr (.bool true) cur tv root size (.bool io))) (hR : ∀ σ', Sup σ σ' → R cImm σ') : CallsE g hpN 7 (.ref 535) [.ref ta, .int k kt, .int v vt] [] σ (fun _ _ => False) R := by
  refine calls_defE (n := 6) [("self", .ref ta), ("key", .int k kt), ("value", .int v vt)] rfl (by rfl) (fun s _ => BindsTo.of_eq rfl) (locs rfl) (by decide) rfl rfl rfl ?_
  walk_at "enter"
  walk_at "go"
  refine w_spec (by assumption) (by assumption) (spec_newKV fun σ1 a ha ea hb => ?_) (by omega)
  have hs : Sup σ σ1 := fun b cb e => by rw [hb b (ne_fresh e ha)]; exact e
  have e1 := hs _ _ e
  walk_at "go"
  exact w_specR (by assumption) (by assumption) (spec_insertR (R := R) (.inr ⟨io, rfl⟩) e1 (hR _ hs)) (by omega) fun e h u => (u.mono fun _ _ _ z => z.1).up
/-! ### a key that is not there -/
theorem spec_getItemR {σ : Store} {ta root : Addr} {cr imm cur tv size io : Value} {h n : Nat} {es : List El} {key : Int} {kt : Tok} {R : Value → Store → Prop} (e : σ ta = some (treeC cr imm cur tv (.ref root) size io)) (o : Tr σ t h n root es) (t4 : t ≤ 4) (els : ∀ e ∈ es, ElOk σ e) (ris : Rising (ksOf es)) (hh70 : h ≤ 70) (hlook : look key es = none)
    (hR : ∀ σ', Sup σ σ' → R (.type "KeyError") σ') : CallsE g hpN 81 (.ref 528) [.ref ta, .int key kt] [] σ (fun _ _ => False) R := by
  refine calls_defE (n := 80) [("self", .ref ta), ("key", .int key kt)] rfl (by rfl) (fun s _ => BindsTo.of_eq rfl) (locs rfl) (by decide) rfl rfl rfl ?_
  walk_at "enter"
  walk_at "go"
  refine w_spec (by assumption) (by assumption) (spec_getElement e o t4 els ris hh70 fun σ' hs => ?_) (by omega)
  rw [hlook]
  generalize hrv : refOf (none : Option El) = rv
  obtain rfl : rv = .none := hrv.symm
  walk_at "go"
  exact w_raiseKE (by assumption) (by walk_at "nm") (hR _ hs)
/-! ### BTree.__init__ refuses -/
theorem spec_initR {σ : Store} {ta od : Addr} {C : Addr} {tv : Value} {cr0 cu0 tvo ro sz io0 : Value} {R : Value → Store → Prop} (e : σ ta = some (.inst cTree [])) (eo : σ od = some (treeC cr0 (.bool false) cu0 tvo ro sz io0)) (hR : ∀ σ', (∀ b c, b ≠ ta → σ b = some c → σ' b = some c) → R (.type "ValueError") σ') :
    CallsE g hpN 20 (.ref 358) [.ref ta] [("t", tv), ("original", .ref od)] σ (fun _ _ => False) R := by
  refine calls_defE (n := 19) [("self", .ref ta), ("t", tv), ("original", .ref od)] rfl (by rfl) (fun s X => kp_binds X (fun _ => by kernel_rfl)) (locs rfl) (by decide) rfl rfl rfl ?_
  walk_at "enter"
  walk_at "go"
  refine w_spec (by assumption) (by assumption) (calls_creator fun a ha => ?_) (by omega)
  have noa := ne_fresh eo ha
  have nod : od ≠ ta := ne_cell eo e (fun q => by cases q)
  walk_at "go"
  intro l hl
  have na := ne_fresh e ha
  obtain ⟨nl1, hl1⟩ := Store.set_none hl
  obtain ⟨nl2, hl1⟩ := Store.set_none hl1
  obtain ⟨nl3, hl1⟩ := Store.set_none hl1
  have nol := ne_fresh eo hl1
  clear hl
  walk_at "go"
  refine w_raiseVE (by assumption) (by walk_at "nm") (hR _ fun b c hb q => ?_)
  have hbl := ne_fresh q hl1
  have hba := ne_fresh q ha
  simp [Store.set_apply, hb, hbl, hba, q]
theorem spec_initR2 {σ : Store} {ta : Addr} {tk : Tok} {R : Value → Store → Prop} (e : σ ta = some (.inst cBase [])) (hR : ∀ σ', (∀ b c, b ≠ ta → σ b = some c → σ' b = some c) → R (.type "ValueError") σ') :
    CallsE g hpN 20 (.ref 358) [.ref ta] [("t", .int 2 tk)] σ (fun _ _ => False) R := by
  refine calls_defE (n := 19) [("self", .ref ta), ("t", .int 2 tk), ("original", .none)] rfl (by rfl) (fun s X => kp_binds X (fun _ => by kernel_rfl)) (locs rfl) (by decide) rfl rfl rfl ?_
  walk_at "enter"
  walk_at "go"
  refine w_spec (by assumption) (by assumption) (calls_creator fun a ha => ?_) (by omega)
  walk_at "go"
  intro l hl
  have na := ne_fresh e ha
  obtain ⟨nl1, hl1⟩ := Store.set_none hl
  obtain ⟨nl2, hl1⟩ := Store.set_none hl1
  obtain ⟨nl3, hl1⟩ := Store.set_none hl1
  clear hl
  walk_at "go"
  refine ite_decT (by omega) ?_
  walk_at "go"
  refine w_raiseVE (by assumption) (by walk_at "nm") (hR _ fun b c hb q => ?_)
  have hbl := ne_fresh q hl1
  have hba := ne_fresh q ha
  simp [Store.set_apply, hb, hbl, hba, q]
end
section
variable {g : Gl} {t : Nat} {Z : Store} {cr : Addr}
theorem treeC_root {a b c d e f g a' b' c' d' e' f' g' : Value} (h : treeC a b c d e f g = treeC a' b' c' d' e' f' g') : e = e' := by
  simp only [treeC, Cell.inst.injEq, List.cons.injEq, Prod.mk.injEq, true_and, and_true] at h; exact h.2.2.2.2.1
theorem nodeC_leaf {a b c a' b' c' : Value} {l l' k k' : Addr} (h : nodeC a b c l k = nodeC a' b' c' l' k') : c = c' := by
  simp only [nodeC, Cell.inst.injEq, List.cons.injEq, Prod.mk.injEq, true_and, and_true] at h; exact h.2.2.1
/-- a like element is not the element: a leaf refuses -/
theorem spec_delete0R {key : Int} {kt : Tok} {xa : Addr} {xk xv : Value} {e0 : El} {σ : Store} {a l c : Addr} {xs : List El} {kids : List Kd} {R : Value → Store → Prop} (o : Nod Z σ cr t 0 a l c xs kids) (hx : σ xa = some (kvC xk xv)) (hl : look key (weave kids xs) = some e0) (hne : e0.a ≠ xa)
    (hR : ∀ σ', Sup σ σ' → R (.type "ValueError") σ') :
    CallsE g hpN 3 (.ref 203) [.ref a, .int key kt, .none, .ref xa] [] σ (fun _ _ => False) R := by
  obtain ⟨tk, e⟩ := o.nd.node
  have e : σ a = some (nodeC (.int t tk) (.ref cr) (.bool true) l c) := e
  have hk0 : kids = [] := List.length_eq_zero_iff.mp o.nd.num
  subst hk0
  have t3 := o.cx.t3
  have t4 := o.cx.t4
  have el1 := o.nd.el
  have es1 := elts_of fun e he => (o.xsOk e he).sup o.cx.sup
  have ris1 := o.xsRis
  have hhi := o.nd.hi
  obtain ⟨xl, xr, rfl, hp, hlt, hcase⟩ := place key xs
  have ris2 : Rising (ksOf (xl ++ xr)) := o.cx.ris
  have hl : look key (xl ++ xr) = some e0 := hl
  refine calls_defE (n := 2) [("self", .ref a), ("key", .int key kt), ("parent", .none), ("exact", .ref xa)] rfl (by rfl) (fun s _ => BindsTo.of_eq rfl) (locs rfl) (by decide) rfl rfl rfl ?_
  intro y hh hr hcs hcn ha hcd hcl
  clear hcn ha hcd hcl
  walk_at "go"
  refine ⟨rfl, ?_⟩
  refine next_next ?_
  walk_at "go"
  refine w_spec (by assumption) (by assumption) (spec_search e el1 es1 ris1 (by simp only [List.length_map]; omega) fun tp it htp => ?_) (by omega)
  rw [hp]
  rcases hcase with ⟨hb, x, r, rfl, hkx⟩ | ⟨hb, hgt⟩
  · rw [hb]
    have hs := Sup.new (.tup [.int xl.length it, .bool true]) htp
    have hlk : look key (xl ++ x :: r) = some x := look_hit ris2 (by simp) hkx
    obtain rfl : e0 = x := by rw [hlk] at hl; exact (Option.some.inj hl).symm
    obtain ⟨xk, xvv, ex⟩ := (o.xsOk e0 (by simp)).sup o.cx.sup
    have ex' := hs _ _ ex
    have hx' := hs _ _ hx
    walk_at "go"
    walk_at "unp"
    walk_at "go"
    refine w_item (vs := (xl ++ e0 :: r).map El.r) (k := xl.length) (hs _ _ el1) (by omega) (by simp at hhi; omega) (v := e0.r) (by simp) ?_ rfl
    walk_at "go"
    refine w_isNot_ref ex' hx' ?_
    rw [show (e0.a != xa) = true by simpa using hne]
    walk_at "go"
    exact w_raiseVE (by assumption) (by walk_at "nm") (hR _ hs)
  · have hlk : look key (xl ++ xr) = none := look_none hlt (gt_xs ris2.right hgt)
    rw [hlk] at hl; cases hl
def LeafAt (σ : Store) (ta : Addr) : Prop := ∃ A B C D F G H I root l c, σ ta = some (treeC A B C D (.ref root) F G) ∧ σ root = some (nodeC H I (.bool true) l c)
theorem TreeSt.leafN {σ : Store} {ta : Addr} {io : Bool} {es : List El} {fp : List Addr} (T : TreeSt Z σ ta cr t io es fp) (L : LeafAt σ ta) :
    ∃ cur root tk st n, σ ta = some (treeC (.ref cr) (.bool false) (.ref cur) (.int t tk) (.ref root) (.int es.length st) (.bool io)) ∧ Z cur = some (.list []) ∧ ((Tr Z t 0 n root es ∧ fp = []) ∨ Own Z σ cr t 0 n root es fp) := by
  obtain ⟨⟨cur, root, tkT, stT, eT, eCur, h, n, ht, hr⟩, hout, zta, cx⟩ := T
  obtain ⟨A', B', C', D', F, G', H, I, rt0, l0', c0', hrt, hlf⟩ := L
  obtain rfl : rt0 = root := by
    rw [eT] at hrt
    exact (Value.ref.inj (treeC_root (Option.some.inj hrt))).symm
  have h0 : h = 0 := by
    have : ∃ T1 C1 l1 c1, σ rt0 = some (nodeC T1 C1 (.bool (h == 0)) l1 c1) := by
      rcases hr with ⟨q, -⟩ | q
      · obtain ⟨cr0, l0, c0, xs0, kids0, nd0, -, -, -⟩ := Tr_iff.mp q
        obtain ⟨tk0, e0⟩ := nd0.node
        exact ⟨_, _, _, _, cx.sup _ _ e0⟩
      · obtain ⟨l0, c0, xs0, kids0, nd0, -, -, -⟩ := Own_iff.mp q
        obtain ⟨tk0, e0⟩ := nd0.node
        exact ⟨_, _, _, _, e0⟩
    obtain ⟨T1, C1, l1, c1, e1⟩ := this
    rw [hlf] at e1
    have : true = (h == 0) := Value.bool.inj (nodeC_leaf (Option.some.inj e1))
    exact beq_iff_eq.mp this.symm
  subst h0
  exact ⟨cur, rt0, tkT, stT, n, eT, eCur, hr⟩
set_option maxHeartbeats 4000000 in
theorem spec_deleteTR2 {σ : Store} {ta : Addr} {io : Bool} {es : List El} {fp : List Addr} {key : Int} {kt : Tok} {xa : Addr} {xk xv : Value} {e0 : El} {R : Value → Store → Prop} (T : TreeSt Z σ ta cr t io es fp) (hlook : look key es = some e0) (hx : σ xa = some (kvC xk xv)) (hne : e0.a ≠ xa) (hlf : LeafAt σ ta)
    (hR : ∀ (σ' : Store) (fp' : List Addr), TreeSt Z σ' ta cr t io es fp' → LeafAt σ' ta → Step (ta :: fp) (ta :: fp') σ σ' → R (.type "ValueError") σ') :
    CallsE g hpN 100 (.ref 394) [.ref ta, .int key kt, .ref xa] [] σ (fun _ _ => False) R := by
  obtain ⟨cur, rt0, tkT, stT, n, eT, eCur, hr⟩ := T.leafN hlf
  obtain ⟨-, hout, zta, cx⟩ := T
  have t3 := cx.t3
  have t4 := cx.t4
  refine calls_defE (n := 99) [("self", .ref ta), ("key", .int key kt), ("exact", .ref xa)] rfl (by rfl) (fun s _ => BindsTo.of_eq rfl) (locs rfl) (by decide) rfl rfl rfl ?_
  intro y hh hroom hcs hcn ha hcd hcl
  clear hcn ha hcd hcl
  walk_at "go"
  refine w_spec (by assumption) (by assumption) (spec_check eT (cx.sup _ _ eCur) fun σ1 hs1 => ?_) (by omega)
  have eT1 := hs1 _ _ eT
  have cx1 := cx.sup' hs1
  have hr1 : (Tr Z t 0 n rt0 es ∧ fp = []) ∨ Own Z σ1 cr t 0 n rt0 es fp := hr.imp id fun q => q.sup hs1
  refine next_next ?_
  refine w_cons (W.mono (P := fun f σ' m' => f = .next ∧ m' "self" = some (.ref ta) ∧ m' "key" = some (.int key kt) ∧ m' "exact" = some (.ref xa) ∧ ∃ cv, m' "cloned" = some cv ∧
    ((cv = .none ∧ σ' = σ1 ∧ Own Z σ1 cr t 0 n rt0 es fp) ∨ (∃ a' fp', cv = .ref a' ∧ OT Z σ' cr t 0 n a' es fp' ∧ Sup σ1 σ' ∧ (∀ q ∈ fp', σ1 q = none) ∧ fp = []))) ?_ ?_)
  · rcases hr1 with ⟨q, rfl⟩ | q
    · obtain ⟨cr0, l0, c0, xs0, kids0, nd0, hc0, -, -⟩ := Tr_iff.mp q
      obtain ⟨tk0, e0⟩ := nd0.node
      have e0' := cx1.sup _ _ e0
      walk_at "go"
      refine w_spec (by assumption) (by assumption) (spec_cowStill q cx1.sup cx1.crc cx1.zcr t3 t4 cx1.els cx1.ris fun σ' a' fp' ot hs hf => ?_) (by omega)
      walk_at "go"
      exact ⟨rfl, by walk_at "lk", by walk_at "lk", by walk_at "lk", _, upL_same _ _ _, .inr ⟨a', fp', rfl, ot, hs, hf, rfl⟩⟩
    · obtain ⟨l0, c0, xs0, kids0, nd0, -, -, -⟩ := Own_iff.mp q
      obtain ⟨tk0, e0⟩ := nd0.node
      walk_at "go"
      refine w_spec (by assumption) (by assumption) (spec_cowOwn e0 cx1.crc ?_) (by omega)
      walk_at "go"
      exact ⟨rfl, by walk_at "lk", by walk_at "lk", by walk_at "lk", _, upL_same _ _ _, .inl ⟨rfl, rfl, q⟩⟩
  · rintro f σ' m ⟨rfl, hm1, hm2, hm3, cv, hm4, hcv⟩
    refine next_next ?_
    refine w_cons (W.mono (P := fun f σ2 m' => f = .next ∧ m' "self" = some (.ref ta) ∧ m' "key" = some (.int key kt) ∧ m' "exact" = some (.ref xa) ∧ ∃ r2 fp2, σ2 ta = some (treeC (.ref cr) (.bool false) (.ref cur) (.int t tkT) (.ref r2) (.int es.length stT) (.bool io)) ∧
      OT Z σ2 cr t 0 n r2 es fp2 ∧ ta ∉ fp2 ∧ Step (ta :: fp) (ta :: fp2) σ σ2 ∧ σ2 xa = some (kvC xk xv)) ?_ ?_)
    · have hxta : xa ≠ ta := ne_cell hx eT (fun q => by cases q)
      rcases hcv with ⟨rfl, rfl, q⟩ | ⟨a', fp', rfl, ot, hs2, hf, rfl⟩
      · walk_at "go"
        exact ⟨rfl, hm1, hm2, hm3, rt0, fp, eT1, ⟨q, cx1⟩, hout, .sup hs1, hs1 _ _ hx⟩
      · obtain ⟨l', c', xs', kids', nd', -, -, -⟩ := ot.open
        obtain ⟨tk', e'⟩ := nd'.nd.node
        have eT2 := hs2 _ _ eT1
        walk_at "go"
        refine w_truth_inst e' find_Node_bool find_Node_len ?_
        walk_at "go"
        have hto : ta ∉ fp' := fun q => by have := hf ta q; rw [eT1] at this; cases this
        have hset : ∀ q ∈ fp', (σ'.set ta (treeC (.ref cr) (.bool false) (.ref cur) (.int t tkT) (.ref a') (.int es.length stT) (.bool io))) q = σ' q := fun q hq => Store.set_ne _ _ fun z => hto (z ▸ hq)
        have hcrta : cr ≠ ta := ne_cell ot.cx.crc eT2 (fun q => by cases q)
        refine ⟨rfl, hm1, hm2, hm3, a', fp', Store.set_same _ _ _, ⟨ot.own.frame hset, ot.cx.t3, ot.cx.t4, fun q cq e => ?_, ?_, ot.cx.zcr, ot.cx.crf, ot.cx.nd, ot.cx.out, ot.cx.els, ot.cx.ris⟩, hto, ⟨fun q cq hq e => ?_, fun q hq => ?_⟩, ?_⟩
        · rw [Store.set_ne _ _ fun z => by subst z; rw [zta] at e; cases e]; exact ot.cx.sup q cq e
        · rw [Store.set_ne _ _ hcrta]; exact ot.cx.crc
        · rw [Store.set_ne _ _ fun z => hq (by simp [z])]; exact hs2 _ _ (hs1 _ _ e)
        · rcases List.mem_cons.mp hq with rfl | hq
          · exact .inl (.head _)
          · exact .inr (hs1.none (hf q hq))
        · rw [Store.set_ne _ _ hxta]; exact hs2 _ _ (hs1 _ _ hx)
    · rintro f σ2 m ⟨rfl, hm1, hm2, hm3, r2, fp2, eT2, ot2, hto, st2, hx2⟩
      refine next_next ?_
      obtain ⟨l2, c2, xs2, kids2, o2, hes2, hn2, hfp2⟩ := ot2.open
      obtain ⟨tk2, e2⟩ := o2.nd.node
      walk_at "go"
      refine w_specR (by assumption) (by assumption) (spec_delete0R (R := R) o2 hx2 (by rw [← hes2]; exact hlook) hne fun σ' hs => ?_) (by omega) fun e h u => (u.mono fun _ _ _ z => z.1).up
      refine hR σ' fp2 ⟨⟨cur, r2, tkT, stT, hs _ _ eT2, eCur, 0, n, .inl rfl, .inr (ot2.own.sup hs)⟩, hto, zta, ot2.cx.sup' hs⟩ ⟨_, _, _, _, _, _, _, _, _, _, _, hs _ _ eT2, hs _ _ e2⟩ (st2.trans ⟨fun q cq hq e => hs _ _ e, fun q hq => .inl hq⟩)
theorem spec_deleteExactR {σ : Store} {ta : Addr} {io : Bool} {es : List El} {fp : List Addr} {key xv : Int} {kt xt : Tok} {xa : Addr} {e0 : El} {R : Value → Store → Prop} (T : TreeSt Z σ ta cr t io es fp) (hlook : look key es = some e0) (hx : σ xa = some (kvC (.int key kt) (.int xv xt))) (hne : e0.a ≠ xa)
    (hlf : LeafAt σ ta)
    (hR : ∀ (σ' : Store) (fp' : List Addr), TreeSt Z σ' ta cr t io es fp' → LeafAt σ' ta → Step (ta :: fp) (ta :: fp') σ σ' → R (.type "ValueError") σ') :
    CallsE g hpN 101 (.ref 408) [.ref ta, .ref xa] [] σ (fun _ _ => False) R := by
  obtain ⟨cur, root, tk, st, e, -⟩ := T.cell
  refine calls_defE (n := 100) [("self", .ref ta), ("element", .ref xa)] rfl (by rfl) (fun s _ => BindsTo.of_eq rfl) (locs rfl) (by decide) rfl rfl rfl ?_
  intro y hh hroom hcs hcn ha hcd hcl
  clear hcn ha hcd hcl
  walk_at "go"
  refine w_spec (by assumption) (by assumption) (spec_key hx rfl ?_) (by omega)
  walk_at "go"
  exact w_specR (by assumption) (by assumption) (spec_deleteTR2 (R := R) T hlook hx hne hlf hR) (by omega) fun e h u => (u.mono fun _ _ _ z => z.1).up
end
section
variable {g : Gl} {x : Fx} {σ : Store} {m : Loc} {E : Value → Heap → Prop} {hp : Option Value → Prop} {k : Nat}
theorem w_setItemTE {ta : Addr} {fs : List (Str × Value)} {i v : Value} {Q : Unit → Store → Loc → Prop} {R : Value → Store → Prop} (e : σ ta = some (.inst cTree fs)) (hh : hp x.hd) (hr : Room x k) (h : CallsE g hp k (.ref 535) [.ref ta, i, v] [] σ (fun _ σ' => Q () σ' m) R)
    (hE : ∀ e h, UpF g x (fun c σ m' => R c σ ∧ m' = m) e h → E e h) : W g x (setItem (.ref ta) i v) σ m Q E := by
  intro ok s₀ σ₀ s hs H
  obtain ⟨dx, es, n, I, en⟩ := H.inst e
  exact ksp_setItem H.1 ok.X I ns_Tree fi_Tree_setitem isf_535 (W.use (w_callE (Q := fun _ σ' m' => Q () σ' m') hh hr h hE) ok hs H fun v s' σ' m' a b c => ⟨σ', m', a, b, c⟩)
theorem w_subTE {ta : Addr} {fs : List (Str × Value)} {value slice : Expr} {i : Value} {Q : Value → Store → Loc → Prop} {R : Value → Store → Prop} (e : σ ta = some (.inst cTree fs)) (hh : hp x.hd) (hr : Room x (k + 1)) (h : CallsE g hp k (.ref 528) [.ref ta, i] [] σ (fun v σ' => Q v σ' m) R)
    (hE : ∀ e h, UpF g x (fun c σ m' => R c σ ∧ m' = m) e h → E e h)
    (hsl : subscripted slice true (.ref ta) i = runValue (.builtin "lifetime.subscript" ⟨[.ref ta, i], []⟩)) : W g x (subscriptTail value slice (.ref ta) i) σ m Q E := by
  intro ok s₀ σ₀ s hs H
  obtain ⟨dx, es, n, I, en⟩ := H.inst e
  refine sub_K H.1 ok.X I fi_Tree_getitem fnin_528 isf_528 ?_ hsl
  rw [in1_A]
  exact W.use (x := { x with un := x.un + 1 }) (w_callE (x := { x with un := x.un + 1 }) hh ⟨by have := hr.1; show x.dp + 2 * k < _; omega, by have := hr.2; show x.un + 1 + 12 * k < _; omega⟩ h hE) (ok_in1 (ok := ok) (hr.le (by omega))) hs H fun v s' σ' m' a b c => ⟨σ', m', a, b, c⟩
end
section
variable {g : Gl} {t : Nat} {Z : Store} {cr : Addr}
theorem mk_Tree : makesIn g.K cTree = true := by kernel_rfl
theorem fi_Tree_init : findIn g.K (.ref cTree) "__init__" = some (some (.ref 521)) := by kernel_rfl
theorem isf_521 : isFn g.K (.ref 521) = true := by kernel_rfl
theorem Sup.setZ {σ : Store} {l : Addr} {c : Cell} (hz : Sup Z σ) (e : σ l = some c) : Sup (Z.set l c) σ := fun b cb q => by
  by_cases h : b = l
  · subst h; rw [Store.set_same] at q; rw [← q]; exact e
  · rw [Store.set_ne _ _ h] at q; exact hz _ _ q
/-- a new tree -/
theorem spec_newTree {σ : Store} {tk : Tok} {io : Bool} {Q R : Value → Store → Prop} (t3 : 3 ≤ t) (t4 : t ≤ 4) (hz : Sup Z σ)
    (hQ : ∀ (σ' : Store) (ta a l r lr c : Addr), Sup σ σ' → σ ta = none → σ a = none → σ l = none → TreeSt (Z.set l (.list [])) σ' ta a t io [] [r, lr, c] → Q (.ref ta) σ') :
    CallsE g hpN 31 (.ref cTree) [] [("t", .int t tk), ("in_order", .bool io)] σ Q R := by
  refine calls_newE mk_Tree fi_Tree_init isf_521 fun ta hta => ?_
  have e1 : (σ.set ta (.inst cTree [])) ta = some (.inst cTree []) := Store.set_same _ _ _
  refine spec_initTree (tv := .int t tk) (ov := .none) (io := .bool io) e1 (.inl ⟨rfl, rfl⟩) fun σ2 hs2 => (spec_initBase (hs2 _ _ e1) t3 fun σ' a l r lr c k1 k2 q1 q2 q3 q4 q5 q6 n1 n2 n3 n4 n5 hnd hk => ?_).toE
  refine ⟨_, _, _, _, _, _, q1, rfl, ?_⟩
  have up : ∀ b, σ2 b = none → σ b = none ∧ b ≠ ta := fun b h => by
    have h1 := hs2.none h
    obtain ⟨h2, h3⟩ := Store.set_none h1
    exact ⟨h3, h2⟩
  obtain ⟨a1, a2⟩ := up _ n1
  obtain ⟨l1, l2⟩ := up _ n2
  obtain ⟨r1, r2⟩ := up _ n3
  obtain ⟨b1, b2⟩ := up _ n4
  obtain ⟨c1, c2⟩ := up _ n5
  simp only [List.nodup_cons, List.mem_cons, List.not_mem_nil, not_or, not_false_iff, and_true, List.nodup_nil, or_false] at hnd
  obtain ⟨⟨al, ar, alr, ac⟩, ⟨lr1, llr, lc⟩, ⟨rlr, rc⟩, lrc⟩ := hnd
  generalize hτ : σ'.set ta (treeC (.ref a) (.bool false) (.ref l) (.int t tk) (.ref r) (.int 0 k1) (.bool io)) = τ
  have hto : ∀ b, b ≠ ta → τ b = σ' b := fun b h => by rw [← hτ]; exact Store.set_ne _ _ h
  have hsτ : Sup σ τ := fun b cb q => by
    have hb : b ≠ ta := ne_fresh q hta
    rw [hto b hb]
    exact hk b cb hb (hs2 _ _ (by rw [Store.set_ne _ _ hb]; exact q))
  have zsup : Sup (Z.set l (.list [])) τ := (hz.trans hsτ).setZ (by rw [hto l l2]; exact q3)
  refine hQ τ ta a l r lr c hsτ hta a1 l1 ⟨⟨l, r, tk, k1, by rw [← hτ, Store.set_same]; rfl, Store.set_same _ _ _, 0, 0, .inl rfl, .inr (Own_iff.mpr ⟨lr, c, [], [], ⟨⟨k2, by rw [hto r r2]; exact q4⟩, by rw [hto lr b2]; exact q5, by rw [hto c c2]; exact q6, by simp, rfl, fun k hk => by cases hk⟩, rfl, rfl, rfl⟩)⟩, ?_, ?_, t3, t4, zsup, by rw [hto a a2]; exact q2, ?_, ?_, ?_, ?_, fun e he => (by cases he), List.Pairwise.nil⟩
  · simp [Ne.symm r2, Ne.symm b2, Ne.symm c2]
  · rw [Store.set_ne _ _ (Ne.symm l2)]; exact hz.none hta
  · rw [Store.set_ne _ _ al]; exact hz.none a1
  · simp [ar, alr, ac]
  · simp [rlr, rc, lrc]
  · intro b hb
    simp only [List.mem_cons, List.not_mem_nil, or_false] at hb
    rcases hb with rfl | rfl | rfl
    · rw [Store.set_ne _ _ (Ne.symm lr1)]; exact hz.none r1
    · rw [Store.set_ne _ _ (Ne.symm llr)]; exact hz.none b1
    · rw [Store.set_ne _ _ (Ne.symm lc)]; exact hz.none c1
/-- a closed tree -/
structure Shut (S : Store) (ta : Addr) (t : Nat) (es : List El) : Prop where
  cell : ∃ cr cur tk root st io h n, S ta = some (treeC cr (.bool true) cur (.int t tk) (.ref root) (.int es.length st) (.bool io)) ∧ (h = 0 ∨ 1 ≤ n) ∧ Tr S t h n root es
  t3 : 3 ≤ t
  t4 : t ≤ 4
  els : ∀ e ∈ es, ElOk S e
  ris : Rising (ksOf es)
theorem Shut.sup {S S' : Store} {ta : Addr} {es : List El} (h : Shut S ta t es) (hs : Sup S S') : Shut S' ta t es := by
  obtain ⟨⟨cr, cur, tk, root, st, io, h', n, e, q, r⟩, h2, h3, h4, h5⟩ := h
  exact ⟨⟨cr, cur, tk, root, st, io, h', n, hs _ _ e, q, r.sup hs⟩, h2, h3, fun e he => (h4 e he).sup hs, h5⟩
/-- closing -/
theorem TreeSt.shut {σ : Store} {ta : Addr} {io : Bool} {es : List El} {fp : List Addr} {σ' : Store} (T : TreeSt Z σ ta cr t io es fp)
    (hσ : ∃ cur tk root st, σ ta = some (treeC (.ref cr) (.bool false) cur (.int t tk) root st (.bool io)) ∧ σ' = σ.set ta (treeC (.ref cr) (.bool true) cur (.int t tk) root st (.bool io))) :
    ∃ Z' : Store, Sup Z Z' ∧ Sup Z' σ' ∧ Shut Z' ta t es ∧ (∀ b c, Z' b = some c → Z b = some c ∨ b ∈ ta :: cr :: fp) := by
  obtain ⟨⟨cur, root, tk, st, eT, eCur, h, n, ht, hr⟩, hout, zta, cx⟩ := T
  obtain ⟨cur', tk', root', st', e', rfl⟩ := hσ
  have hcrta : cr ≠ ta := ne_cell cx.crc eT (fun q => by cases q)
  rw [eT] at e'
  have e2 : treeC (.ref cr) (.bool true) cur' (.int t tk') root' st' (.bool io) = treeC (.ref cr) (.bool true) (.ref cur) (.int t tk) (.ref root) (.int es.length st) (.bool io) := by
    have := Option.some.inj e'
    simp only [treeC, Cell.inst.injEq, List.cons.injEq, Prod.mk.injEq, true_and, and_true] at this ⊢
    exact ⟨this.1.symm, this.2.1.symm, this.2.2.1.symm, this.2.2.2.symm⟩
  rw [e2]
  generalize hτ : σ.set ta (treeC (.ref cr) (.bool true) (.ref cur) (.int t tk) (.ref root) (.int es.length st) (.bool io)) = τ
  have τta : τ ta = some (treeC (.ref cr) (.bool true) (.ref cur) (.int t tk) (.ref root) (.int es.length st) (.bool io)) := by rw [← hτ]; exact Store.set_same _ _ _
  have τne : ∀ b, b ≠ ta → τ b = σ b := fun b hb => by rw [← hτ]; exact Store.set_ne _ _ hb
  let Z' : Store := fun b => if b ∈ ta :: cr :: fp then τ b else Z b
  have zin : ∀ b, b ∈ ta :: cr :: fp → Z' b = τ b := fun b hb => if_pos hb
  have zout : ∀ b, b ∉ ta :: cr :: fp → Z' b = Z b := fun b hb => if_neg hb
  have zno : ∀ b, b ∈ ta :: cr :: fp → Z b = none := fun b hb => by
    rcases List.mem_cons.mp hb with rfl | hb
    · exact zta
    · rcases List.mem_cons.mp hb with rfl | hb
      · exact cx.zcr
      · exact cx.out b hb
  have sZ : Sup Z Z' := fun b c e => by
    rw [zout b fun hb => by rw [zno b hb] at e; cases e]; exact e
  have crc' : Z' cr = some creC := by rw [zin cr (by simp), τne cr hcrta]; exact cx.crc
  refine ⟨Z', sZ, fun b c e => ?_, ⟨⟨.ref cr, .ref cur, tk, root, st, io, h, n, by rw [zin ta (by simp)]; exact τta, ht, ?_⟩, cx.t3, cx.t4, fun e he => (cx.els e he).sup sZ, cx.ris⟩, fun b c e => ?_⟩
  · by_cases hb : b ∈ ta :: cr :: fp
    · rw [zin b hb] at e; exact e
    · rw [zout b hb] at e
      rw [τne b fun q => hb (by simp [q])]
      exact cx.sup b c e
  · rcases hr with ⟨q, rfl⟩ | q
    · exact q.sup sZ
    · exact (q.frame (S' := Z') fun b hb => by rw [zin b (by simp [hb]), τne b fun z => hout (z ▸ hb)]).tr sZ crc'
  · by_cases hb : b ∈ ta :: cr :: fp
    · exact .inr hb
    · rw [zout b hb] at e; exact .inl e
/-- the copy of a closed tree -/
theorem spec_copyTree {σ : Store} {od : Addr} {io : Bool} {es : List El} {Q R : Value → Store → Prop} (hz : Sup Z σ) (S : Shut Z od t es)
    (hQ : ∀ (σ' : Store) (ta a l : Addr), Sup σ σ' → σ ta = none → σ a = none → σ l = none → TreeSt (Z.set l (.list [])) σ' ta a t io es [] → Q (.ref ta) σ') :
    CallsE g hpN 31 (.ref cTree) [] [("original", .ref od), ("in_order", .bool io)] σ Q R := by
  obtain ⟨⟨cr, cur, tk, root, st, io0, h, n, eo, ht, tr⟩, t3, t4, els, ris⟩ := S
  refine calls_newE mk_Tree fi_Tree_init isf_521 fun ta hta => ?_
  have e1 : (σ.set ta (.inst cTree [])) ta = some (.inst cTree []) := Store.set_same _ _ _
  have s1 : Sup σ (σ.set ta (.inst cTree [])) := Sup.new _ hta
  refine spec_initTree (tv := .int 127 196) (ov := .ref od) (io := .bool io) e1 (.inr (.inl ⟨rfl, rfl⟩)) fun σ2 hs2 => (spec_initBase2 (hs2 _ _ e1) (hs2 _ _ (s1 _ _ (hz _ _ eo))) rfl rfl fun σ' a l q1 q2 q3 n1 n2 al hk => ?_).toE
  refine ⟨_, _, _, _, _, _, q1, rfl, ?_⟩
  have up : ∀ b, σ2 b = none → σ b = none ∧ b ≠ ta := fun b h => by
    have h1 := hs2.none h
    obtain ⟨h2, h3⟩ := Store.set_none h1
    exact ⟨h3, h2⟩
  obtain ⟨a1, a2⟩ := up _ n1
  obtain ⟨l1, l2⟩ := up _ n2
  generalize hτ : σ'.set ta (treeC (.ref a) (.bool false) (.ref l) (.int t tk) (.ref root) (.int es.length st) (.bool io)) = τ
  have hto : ∀ b, b ≠ ta → τ b = σ' b := fun b h => by rw [← hτ]; exact Store.set_ne _ _ h
  have hsτ : Sup σ τ := fun b cb q => by
    have hb : b ≠ ta := ne_fresh q hta
    rw [hto b hb]
    exact hk b cb hb (hs2 _ _ (by rw [Store.set_ne _ _ hb]; exact q))
  have zl := hz.none l1
  have zsup : Sup (Z.set l (.list [])) τ := (hz.trans hsτ).setZ (by rw [hto l l2]; exact q3)
  have sz : Sup Z (Z.set l (.list [])) := Sup.new _ zl
  refine hQ τ ta a l hsτ hta a1 l1 ⟨⟨l, root, tk, st, by rw [← hτ, Store.set_same], Store.set_same _ _ _, h, n, ht, .inl ⟨tr.sup sz, rfl⟩⟩, by simp, ?_, t3, t4, zsup, by rw [hto a a2]; exact q2, ?_, by simp, by simp, fun b hb => (by cases hb), fun e he => (els e he).sup sz, ris⟩
  · rw [Store.set_ne _ _ (Ne.symm l2)]; exact hz.none hta
  · rw [Store.set_ne _ _ al]; exact hz.none a1
/-- an open tree is not copied -/
theorem spec_copyR {σ : Store} {od : Addr} {cr0 cu0 tvo ro sz io0 : Value} {R : Value → Store → Prop} (eo : σ od = some (treeC cr0 (.bool false) cu0 tvo ro sz io0)) (hR : ∀ σ', Sup σ σ' → R (.type "ValueError") σ') :
    CallsE g hpN 31 (.ref cTree) [] [("original", .ref od)] σ (fun _ _ => False) R := by
  refine (calls_newE mk_Tree fi_Tree_init isf_521 fun ta hta => CallsE.mono (P := fun _ _ => False) ?_ (fun _ _ z => z.elim) fun _ _ z => z)
  have e1 : (σ.set ta (.inst cTree [])) ta = some (.inst cTree []) := Store.set_same _ _ _
  refine spec_initTree (tv := .int 127 196) (ov := .ref od) (io := .bool false) e1 (.inr (.inr ⟨rfl, rfl, rfl⟩)) fun σ2 hs2 => (spec_initR (C := od) (hs2 _ _ e1) (hs2 _ _ (Sup.new _ hta _ _ eo)) fun σ' hk => hR σ' fun b cb q => ?_).mono (fun _ _ z => z.elim) fun _ _ z => z
  have hb : b ≠ ta := ne_fresh q hta
  exact hk b cb hb (hs2 _ _ (by rw [Store.set_ne _ _ hb]; exact q))
/-- a count of two -/
theorem spec_twoR {σ : Store} {tk : Tok} {R : Value → Store → Prop} (hR : ∀ σ', Sup σ σ' → R (.type "ValueError") σ') :
    CallsE g hpN 31 (.ref 453) [] [("t", .int 2 tk)] σ (fun _ _ => False) R := by
  refine (calls_newE (n := 30) (fI := 358) (by kernel_rfl) (by kernel_rfl) (by kernel_rfl) fun ta hta => ?_)
  have e1 : (σ.set ta (.inst cBase [])) ta = some (.inst cBase []) := Store.set_same _ _ _
  refine CallsE.le (n := 20) ((spec_initR2 e1 fun σ' hk => hR σ' fun b cb q => ?_).mono (fun _ _ z => z.elim) fun _ _ z => z) (by omega)
  have hb : b ≠ ta := ne_fresh q hta
  exact hk b cb hb (by rw [Store.set_ne _ _ hb]; exact q)
end
section
variable {g : Gl} {x : Fx} {σ : Store} {m : Loc} {R : Value → Store → Loc → Prop}
/-- y is a frame like x, of another heap below -/
structure Like (x y : Fx) : Prop where
  env : y.env = x.env
  cs : y.cs = x.cs
  outer : y.outer = x.outer
  base : y.base = x.base
  cl : y.cl = x.cl
  ccd : y.ccd = x.ccd
  room : ∀ n, Room x n → Room y n
theorem Turned.like {y : Fx} (T : Turned x y) : Like x y := by
  obtain ⟨h, rfl, _, _⟩ := T
  exact ⟨rfl, rfl, rfl, rfl, rfl, rfl, fun _ r => r⟩
theorem Turned.hd {y : Fx} (T : Turned x y) : y.hd = x.hd := by
  obtain ⟨h, rfl, _, _⟩ := T
  rfl
theorem Like.handling {y : Fx} {v : Option Value} (L : Like x y) : Like x { y with hd := v } := ⟨L.env, L.cs, L.outer, L.base, L.cl, L.ccd, L.room⟩
theorem ws_try {n : Str} {np hpos pos : Pos} {b₀ : Stmt} {body suite : List Stmt} {c : Value} {Q : Flow → Store → Loc → Prop} (G : Grd g x) (ok : x.Ok g) (hit : Hits g x n c) (R : Value → Store → Prop)
    (hbody : ∀ y, Like x y → y.hd = x.hd → W g y (execs body y.env) σ m Q (UpF g y (fun c σ m' => R c σ ∧ m' = m)))
    (hR : ∀ c' σ', R c' σ' → c' = c ∧ Keeps σ σ')
    (hk : ∀ σ' y a oe, R c σ' → Like x y → y.hd = some (.ref a) → σ' a = none → CtxNone oe → W g y (execs (b₀ :: suite) y.env) (σ'.set a (.raw oe)) m Q NoE) :
    WS g x (exec (.Try body [.ExceptHandler (some (.Name n np)) none (b₀ :: suite) hpos] [] [] pos) x.env) σ m Q := by
  refine ws_Try (R := fun c σ m' => R c σ ∧ m' = m) G ok hit (fun y T => ?_) fun c' σ' m' ⟨h, hm⟩ => ?_
  · have := hbody y T.like T.hd
    rw [T.like.env] at this; exact this
  · subst hm
    obtain ⟨rfl, kp⟩ := hR _ _ h
    refine ⟨rfl, kp, fun y a oe T ha hc => ?_⟩
    have := hk σ' { y with hd := some (.ref a) } a oe h T.like.handling rfl ha hc
    rw [T.like.handling.env] at this; exact this
abbrev rIter (a : Int) (n i : Nat) : Obj := { cls := .type "range_iterator", dict := none, data := .fields #[rawInt (a + (i : Nat) * 1), rawInt ((n : Int) - (i : Nat)), rawInt 1], slots := #[] }
theorem ws_For_range (G : Grd g x) (ok : x.Ok g) {target iter : Expr} {body orelse : List Stmt} {pos : Pos} {Q : Flow → Store → Loc → Prop} (hh : x.hd = none)
    (h : ∀ y, Like x y → y.hd = x.hd → W g y (eval iter y.env) σ m (fun v σ m => ∃ r a n, v = .ref r ∧ σ r = some (rangeC a (a + (n : Nat))) ∧ -(2 ^ 60) ≤ a ∧ a + n < 2 ^ 60 ∧ ∃ J : Nat → Store → Loc → Prop, J 0 σ m ∧ (∀ i m, Mono fun σ => J i σ m) ∧
      (∀ i t σ m, i < n → J i σ m → WS g x (assign target x.env (.int (a + i) t)) σ m (fun _ σ m => WS g x (execs body x.env) σ m (Turn (J (i + 1)) Q))) ∧ (∀ σ m, J n σ m → WS g x (execs orelse x.env) σ m Q)) NoE)
    (ht : ∀ I v, letOwnedTupleGo target (.ref I) v = pure ()) (hf : ∀ v, foldedSetIterable iter x.env v = pure v) : WS g x (exec (.For target iter body orelse pos) x.env) σ m Q := by
  intro y T oky s₀ σ₀ s hs H
  have hy := h y T.like T.hd
  rw [T.like.env] at hy
  have hAy : y.A = x.A := by obtain ⟨_, rfl, _, _⟩ := T; rfl
  refine wpAny_For (by
    have := hy oky s₀ σ₀ s hs H
    rw [hAy] at this
    refine wpAny_mono this (fun v s1 ⟨σ1, m1, hs1, H1, h1⟩ => ?_) fun e s1 q => q.2.elim
    obtain ⟨r, a, n, rfl, e, ha, hb, J, hJ, mono, turn, done⟩ := h1
    have hr : ∃ t u v, IsRange s1.heap r a (a + n) 1 t u v := by
      obtain ⟨F, news, dx, RN⟩ := H1
      obtain ⟨o, hm, t, u, v, rfl⟩ := RN.cells r _ e
      exact ⟨t, u, v, (RN.N _ hm).1⟩
    obtain ⟨t, u, v, hr⟩ := hr
    refine wpAny_pyIter_range hr (small_one (by omega) (by omega) (by omega) (by omega)) ?_
    have hn : Builtin.Range.rangeSize a (a + n) 1 = n := by rw [rangeSize_one]; split <;> omega
    rw [hn]
    obtain ⟨H2, fr⟩ := H1.pushPred { cls := .type "range_iterator", data := .fields #[rawInt a, rawInt (n : Nat), rawInt 1] } rfl
    generalize s1.heap.objs.size = I at H2 fr ⊢
    have Wk := Walks.range (prog := PG) (w := g.w) (A := x.A) hh I a 1 n
    have hI : ∀ P, σ₀ I ≠ some (.pred P) := fun P q => by
      have := hs1.keep _ P q
      rw [fr] at this; cases this
    refine codeAny_forLoop (fun k s => ∃ i z σ m o, Turned x z ∧ k = n - i ∧ i ≤ n ∧ Was s₀ σ₀ s σ ∧ At g z σ m s.heap ∧ σ I = some (.raw o) ∧ o = rIter a n i ∧ J i σ m) (fun k s ⟨i, z, σ, m, o, Tz, hk, hi, hs, H, eI, hSt, hJ⟩ => ?_) n ⟨0, y, _, m1, _, T, rfl, Nat.zero_le _, (hs1.heap _).new _ fr, H2, Store.set_same _ _ _, by simp, mono 0 m1 _ _ (SubS.new _ fr) hJ⟩ (ht _)
    have okz := Tz.ok G ok
    have kp : ∀ o', Keeps σ₀ (σ.set I (.raw o')) := fun o' b P q => by
      rw [Store.set_ne _ _ fun z => by subst z; exact hI P q]
      exact hs.keep b P q
    have hSt' := H.getPred eI
    rw [hSt] at hSt'
    by_cases hlt : i < n
    · refine Wk.item i _ _ _ hlt hSt' fun v h' tk hP hSt2 hk' => ?_
      have ho' := hSt2
      obtain ⟨t2, rfl⟩ := hP
      have H' := H.turnPred eI ho' fun b ob hb q => hk' b ob (by simpa using hb) q
      have hJ' := mono i m σ _ (SubS.pred (.raw (rIter a n (i + 1))) eI) hJ
      have tn := turn i t2 _ m hlt hJ'
      rw [← Int.mul_one (i : Int)] at tn
      refine wpAny_mono (tn z Tz okz s₀ (σ.set I (.raw (rIter a n (i + 1)))) _ ⟨hs.same.mk h' tk, Keeps.refl _⟩ H') (fun _ s2 ⟨z2, Tz2, σ2, m2, hs2, H2, h2⟩ => ?_) fun e s' he => he.elim
      refine wpAny_mono (h2 z2 Tz2 (Tz2.ok G ok) s₀ (σ.set I (.raw (rIter a n (i + 1)))) s2 hs2 H2) (fun f s3 ⟨z3, Tz3, σ3, m3, hs3, H3, h3⟩ => ?_) fun e s' he => he.elim
      have e3 := hs3.keep I _ (Store.set_same _ _ _)
      have hs4 : Was s₀ σ₀ s3 σ3 := ⟨hs3.same, fun b P q => hs3.keep b P (kp _ b P q)⟩
      cases f with
      | next => exact ⟨n - (i + 1), by omega, i + 1, z3, σ3, m3, _, Tz3, rfl, hlt, hs4, H3, e3, rfl, h3⟩
      | cont => exact ⟨n - (i + 1), by omega, i + 1, z3, σ3, m3, _, Tz3, rfl, hlt, hs4, H3, e3, rfl, h3⟩
      | brk => exact ⟨z3, Tz3, σ3, m3, hs4, H3, h3⟩
      | ret v => exact ⟨z3, Tz3, σ3, m3, hs4, H3, h3⟩
    · obtain rfl : i = n := by omega
      refine Wk.done _ _ _ hSt' fun h' tk hk' => ?_
      have H' := H.erase eI fun b ob hb q => hk' b ob (by simpa using hb) q
      have hJ' := mono i m σ _ (SubS.drop eI) hJ
      have hs' : Was s₀ σ₀ { s with heap := h', toks := tk } (σ.drop I) := ⟨hs.same.mk h' tk, fun b P q => by
        rw [Store.drop_ne _ fun z => by subst z; exact hI P q]
        exact hs.keep b P q⟩
      exact wpAny_mono (done _ m hJ' z Tz okz s₀ σ₀ _ hs' H') (fun f s3 h3 => h3) fun e s' he => he.elim) hf
end
section
variable {g : Gl} {x : Fx} {t : Nat} {Z : Store} {cr : Addr}
theorem hits_VE (ok : x.Ok g) (hl : x.cs.names.lookup (Str.ofString "ValueError") = some .globalImplicit) : Hits g x (Str.ofString "ValueError") (.type "ValueError") :=
  hits_B (T' := "ValueError") ok (by kernel_rfl) (by kernel_rfl) (by decide) PySem.F.isExc_ValueError PySem.F.notTuple_ValueError (by rw [isSubtype_type]; kernel_rfl) hl (by decide)
theorem hits_KE (ok : x.Ok g) (hl : x.cs.names.lookup (Str.ofString "KeyError") = some .globalImplicit) : Hits g x (Str.ofString "KeyError") (.type "KeyError") :=
  hits_B (T' := "KeyError") ok (by kernel_rfl) (by kernel_rfl) (by decide) kr_isExc_KeyError kr_notTuple_KeyError (by rw [isSubtype_type]; kernel_rfl) hl (by decide)
theorem hits_Imm (ok : x.Ok g) (hl : x.cs.names.lookup (Str.ofString "Immutable") = some .globalImplicit) : Hits g x (Str.ofString "Immutable") cImm :=
  hits_O ok (by kernel_rfl) (by kernel_rfl) hl (by decide)
theorem Sup.keeps {σ σ' : Store} (h : Sup σ σ') : Keeps σ σ' := fun b P e => h b _ e
theorem Sup.subS {σ σ' : Store} (h : Sup σ σ') : SubS σ σ' := fun a c _ e => h a c e
theorem spec_refused {σ : Store} {od : Addr} {cr0 cu0 tvo ro sz io0 : Value} {Q : Value → Store → Prop} (eo : σ od = some (treeC cr0 (.bool false) cu0 tvo ro sz io0)) (hQ : ∀ σ', SubS σ σ' → Q (.bool true) σ') : CallsS g 41 (.ref 583) [.ref od] σ Q := by
  refine calls_defS (n := 40) [("tree", .ref od)] rfl (by rfl) (fun s _ => BindsTo.of_eq rfl) (locs rfl) (by decide) rfl rfl rfl ?_
  intro y hh hr ok G hcs hcn ha hcd hcl
  clear hcn ha hcd hcl
  refine ws_cons G ok (ws_try G ok (hits_VE ok (by walk_at "nm")) (fun c σ' => c = .type "ValueError" ∧ Sup σ σ') ?_ (fun c σ' h => ⟨h.1, h.2.keeps⟩) ?_)
  · intro z L hz
    have hcz := L.cs.trans hcs
    have hr := L.room _ hr
    have hh : hpN z.hd := by rw [hz]; exact hh
    walk_at "go"
    exact w_specR (by assumption) (by assumption) (spec_copyR (R := fun c σ' => c = .type "ValueError" ∧ Sup σ σ') eo fun σ' hs => ⟨rfl, hs⟩) (by omega) fun e h u => u
  · rintro σ1 z a oe ⟨-, hs⟩ L hz ha hc
    have hcz := L.cs.trans hcs
    have s1 : SubS σ (σ1.set a (.raw oe)) := hs.subS.trans (SubS.new _ ha)
    generalize σ1.set a (.raw oe) = σ2 at s1
    walk_at "go"
    refine ws_cons G ok (ws_try G ok (hits_VE ok (by walk_at "nm")) (fun c σ' => c = .type "ValueError" ∧ Sup σ2 σ') ?_ (fun c σ' h => ⟨h.1, h.2.keeps⟩) ?_)
    · intro z L hz
      have hcz := L.cs.trans hcs
      have hr := L.room _ hr
      have hh : hpN z.hd := by rw [hz]; exact hh
      walk_at "go"
      exact w_specR (by assumption) (by assumption) (spec_twoR (R := fun c σ' => c = .type "ValueError" ∧ Sup σ2 σ') fun σ' hs => ⟨rfl, hs⟩) (by omega) fun e h u => u
    · rintro σ3 z a oe ⟨-, hs⟩ L hz ha hc
      have hcz := L.cs.trans hcs
      have s3 : SubS σ (σ3.set a (.raw oe)) := s1.trans (hs.subS.trans (SubS.new _ ha))
      walk_at "go"
      exact hQ _ s3
end
section
variable {g : Gl} {x : Fx} {t : Nat} {Z : Store} {cr : Addr}
theorem spec_closed {σ : Store} {ta : Addr} {k v : Int} {kt vt : Tok} {cr cur tv root size : Value} {io : Bool} {Q : Value → Store → Prop} (eo : σ ta = some (treeC cr (.bool true) cur tv root size (.bool io))) (hQ : ∀ σ', SubS σ σ' → Q (.bool true) σ') : CallsS g 41 (.ref 569) [.ref ta, .int k kt, .int v vt] σ Q := by
  refine calls_defS (n := 40) [("tree", .ref ta), ("key", .int k kt), ("value", .int v vt)] rfl (by rfl) (fun s _ => BindsTo.of_eq rfl) (locs rfl) (by decide) rfl rfl rfl ?_
  intro y hh hr ok G hcs hcn ha hcd hcl
  clear hcn ha hcd hcl
  refine ws_cons G ok (ws_For_range G ok hh ?_ (fun _ _ => rfl) fun _ => rfl)
  intro z L hz
  have hcz := L.cs.trans hcs
  have hrz := L.room _ hr
  have hhz : hpN z.hd := by rw [hz]; exact hh
  walk_at "go"
  refine w_range1 fun rg hrg => ?_
  have s5 := SubS.new (rangeC 0 3) hrg
  refine ⟨rg, 0, 3, rfl, Store.set_same _ _ _, by omega, by omega,
    fun k' σ' m' => SubS σ σ' ∧ m' "tree" = some (.ref ta) ∧ m' "key" = some (.int k kt) ∧ m' "value" = some (.int v vt), ⟨s5, by walk_at "lk", by walk_at "lk", by walk_at "lk"⟩, ?_, ?_, ?_⟩
  · rintro k' m' σ' σ'' hs ⟨h1, h2⟩
    exact ⟨h1.trans hs, h2⟩
  · rintro i it σ' m' hi ⟨h1, hm1, hm2, hm3⟩
    have e1 := h1 _ _ (fun _ q => by cases q) eo
    clear hcz hrz hhz hz L s5
    refine WS.of fun z T => ?_
    have hcz := T.like.cs.trans hcs
    rw [← T.like.env]
    refine w_assignName (by walk_at "nm") ?_
    rw [T.like.env]
    clear hcz T
    refine ws_cons G ok (ws_try G ok (hits_Imm ok (by walk_at "nm")) (fun c σ2 => c = cImm ∧ Sup σ' σ2) ?_ (fun c σ' h => ⟨h.1, h.2.keeps⟩) ?_)
    · intro z L hz
      have hcz := L.cs.trans hcs
      have hrz := L.room _ hr
      have hhz : hpN z.hd := by rw [hz]; exact hh
      obtain rfl | rfl | rfl : i = 0 ∨ i = 1 ∨ i = 2 := by omega
      · rw [show ((0 : Int) + ((0 : Nat) : Int)) = 0 from rfl]
        walk_at "go"
        refine (if_pos rfl : ite _ _ _ = _).mpr ?_
        walk_at "go"
        exact w_setItemTE (hp := hpN) (k := 7) e1 (by assumption) (hrz.le (by omega)) ((spec_setItemR (R := fun c σ2 => c = cImm ∧ Sup σ' σ2) e1 fun σ2 hs => ⟨rfl, hs⟩).mono (fun _ _ z => z.elim) fun _ _ z => z) fun e h u => u
      · rw [show ((0 : Int) + ((1 : Nat) : Int)) = 1 from rfl]
        walk_at "go"
        refine (if_neg (by decide) : ite _ _ _ = _).mpr ?_
        walk_at "go"
        refine (if_pos rfl : ite _ _ _ = _).mpr ?_
        walk_at "go"
        exact w_specR (by assumption) (by assumption) (spec_deleteKeyR (R := fun c σ2 => c = cImm ∧ Sup σ' σ2) e1 ⟨rfl, .refl _⟩) (by omega) fun e h u => u
      · rw [show ((0 : Int) + ((2 : Nat) : Int)) = 2 from rfl]
        walk_at "go"
        refine (if_neg (by decide) : ite _ _ _ = _).mpr ?_
        walk_at "go"
        refine (if_neg (by decide) : ite _ _ _ = _).mpr ?_
        walk_at "go"
        refine w_spec (by assumption) (by assumption) (spec_newKV fun σ1 a ha ea hb => ?_) (by omega)
        have hs : Sup σ' σ1 := fun b cb e => by rw [hb b (ne_fresh e ha)]; exact e
        have e2 := hs _ _ e1
        walk_at "go"
        exact w_specR (by assumption) (by assumption) (spec_insertR (R := fun c σ2 => c = cImm ∧ Sup σ' σ2) (.inl rfl) e2 ⟨rfl, hs⟩) (by omega) fun e h u => u
    · rintro σ3 z a oe ⟨-, hs⟩ L hz ha hc
      have hcz := L.cs.trans hcs
      have s3 : SubS σ (σ3.set a (.raw oe)) := h1.trans (hs.subS.trans (SubS.new _ ha))
      walk_at "go"
      exact ⟨s3, by walk_at "lk", by walk_at "lk", by walk_at "lk"⟩
  · rintro σ' m' ⟨h1, -⟩
    refine ws_nil ?_
    refine WS.of fun z T => ?_
    have hcz := T.like.cs.trans hcs
    rw [← T.like.env]
    walk_at "go"
    exact hQ _ h1
end
section
variable {prog : Program} {w : World} {A : Around} {E : Value → Shared → Prop} {s : Shared}
theorem entry_unchain : entryFor table "proto.unchain" = some Builtin.«proto.unchain» := entryFor_of_fast (by kernel_rfl)
theorem raiseNewH {α : Type} {a e0 : Addr} {o oe : Obj} {vs ve : Array Value} {Q : α → Shared → Prop} (hh : A.handled = some (.ref e0)) (hne : e0 ≠ a) (he : s.heap.get? e0 = some oe) (hed : oe.data = .fields ve) (he2 : ve[2]? = some .none)
    (ha : s.heap.get? a = some o) (hd : o.data = .fields vs) (h2 : 2 < vs.size) (h : E (.ref a) { s with heap := s.heap.update a (Obj.mapFields (·.setIfInBounds 2 (.ref e0))) }) : wpAny (model prog w) A (raiseNew (.ref a) : Sem α) Q E s := by
  unfold raiseNew
  refine wpAny_bind (wpAny_handled ?_)
  rw [hh]
  dsimp only
  rw [if_pos (show ((Value.ref e0) != (Value.ref a)) = true by simpa using hne)]
  refine wpAny_bind (wpAny_holding (wpAny_runValue (codeAny_builtin entry_unchain ?_)))
  unfold Builtin.«proto.unchain»
  refine wpAny_bind (wpAny_field he hed he2 ?_)
  rw [if_pos (show ((Value.none == Value.none) = true) from rfl)]
  refine wpAny_pure ?_
  exact wpAny_bind (wpAny_setField ha hd h2 (wpAny_throw h))
/-- the builtin's own run, when nothing is left: the iterator lets go of its tuple and a StopIteration flies -/
theorem spent_run {it t e0 : Addr} {i : Nat} {items : Array Value} {oe : Obj} {ve : Array Value} {Q : Fin → Shared → Prop} (hh : A.handled = some (.ref e0)) (hne : e0 ≠ it) (he : s.heap.get? e0 = some oe) (hed : oe.data = .fields ve) (he2 : ve[2]? = some .none)
    (hit : IsTupIter s.heap it t i) (ht : IsTup s.heap t items) (hx : items[i]? = none)
    (hE : ∀ a h', Heap.ExtBut it s.heap h' → (∃ o, h'.get? a = some o ∧ o.cls = .type "StopIteration") → E (.ref a) { s with heap := h' }) :
    wpAny (model prog w) A (Builtin.«tuple_iterator.__next__» ⟨[.ref it], []⟩) Q E s := by
  obtain ⟨o, ho, hc, hd⟩ := hit
  obtain ⟨ol, hol, -, nl, hdl⟩ := ht
  have f0 : ∀ {Q : Value → Shared → Prop}, Q (.ref t) s → wpAny (model prog w) A (field (.ref it) 0) Q E s := fun h => wpAny_field ho hd rfl h
  have f1 : ∀ {Q : Value → Shared → Prop}, Q (.int i 0) s → wpAny (model prog w) A (field (.ref it) 1) Q E s := fun h => wpAny_field ho hd rfl h
  unfold Builtin.«tuple_iterator.__next__»
  wp_walk using f0, f1, (wpAny_seqItems hol hdl)
  rw [Int.toNat_natCast, hx]
  have k1 : Heap.ExtBut it s.heap (s.heap.update it (Obj.mapFields (·.setIfInBounds 0 .none))) := (Heap.SameBut.update ..).extBut
  have f2 : ∀ {Q : Unit → Shared → Prop}, (∀ h1, Heap.ExtBut it s.heap h1 → Q () { s with heap := h1 }) → wpAny (model prog w) A (setField (.ref it) 0 .none) Q E s := fun h => wpAny_setField ho hd (by simp) (h _ k1)
  wp_walk using f2
  intro h1 k
  wp_walk
  have p1 := Heap.get?_push_of_some { cls := Value.type "tuple", data := Data.seq #[] } (k e0 oe hne he)
  have hb1 : ∀ b o', b ≠ it → s.heap.get? b = some o' → (h1.push { cls := Value.type "tuple", data := Data.seq #[] }).get? b = some o' := fun b o' q e => Heap.get?_push_of_some _ (k b o' q e)
  refine raiseNewH hh (Nat.ne_of_lt (Heap.lt_size p1)) (Heap.get?_push_of_some _ p1) hed he2 (Heap.get?_push_size _ rfl) rfl (by simp; omega) (hE _ _ (fun b o' q e => ?_) ⟨_, Heap.get?_update_self _ (Heap.get?_push_size _ rfl) rfl, rfl⟩)
  exact Heap.get?_update_of_ne _ (Nat.ne_of_gt (Heap.lt_size (hb1 b o' q e))) (Heap.get?_push_of_some _ (hb1 b o' q e))
theorem next_tuple_endH {it t e0 : Addr} {i : Nat} {items : Array Value} {oe : Obj} {ve : Array Value} {Q : Option Value → Shared → Prop} (hh : A.handled = some (.ref e0)) (hne : e0 ≠ it) (he : s.heap.get? e0 = some oe) (hed : oe.data = .fields ve) (he2 : ve[2]? = some .none)
    (hit : IsTupIter s.heap it t i) (ht : IsTup s.heap t items) (hx : items[i]? = none)
    (hQ : ∀ h', Heap.ExtBut it s.heap h' → Q none { s with heap := h' }) : wpAny (model prog w) A (pyNext (.ref it)) Q E s := by
  unfold pyNext
  wp_step
  wp_step
  refine wpAny_callSpecial?_slot hit.typeIs slot_tupleiter_next (wpAny_call_entry slot_tupleiter_next hit.typeIs entry_tupleiter_next (spent_run hh hne he hed he2 hit ht hx fun a h' k hs => ?_) (args_tupleiter_next _))
  obtain ⟨oa, ha, hc⟩ := hs
  have stop : ∀ {Q : Bool → Shared → Prop} {E : Value → Shared → Prop} {A : Around}, Q true { s with heap := h' } → wpAny (model prog w) A (isInstance (.ref a) (.type "StopIteration")) Q E { s with heap := h' } :=
    fun z => wpAny_isInstance (T := "StopIteration") ⟨_, ha, hc⟩ isSubtype_stop z
  wp_walk using stop
  exact hQ _ k
theorem unpackItems_tupleH {t e0 : Addr} {items : Array Value} {oe : Obj} {ve : Array Value} {Q : List Value → Shared → Prop} (hh : A.handled = some (.ref e0)) (he : s.heap.get? e0 = some oe) (hed : oe.data = .fields ve) (he2 : ve[2]? = some .none) (ht : IsTup s.heap t items)
    (hQ : ∀ h', Heap.ExtBut s.heap.objs.size s.heap h' → Q items.toList { s with heap := h' }) : wpAny (model prog w) A (unpackItems (.ref t) items.size none) Q E s := by
  have old : ∀ {b o}, s.heap.get? b = some o → b ≠ s.heap.objs.size := fun e => Nat.ne_of_lt (Heap.lt_size e)
  obtain ⟨ot, hot, -⟩ := id ht
  have sp : ∀ {Q : Option Value → Shared → Prop}, Q _ s → wpAny (model prog w) A (specialOf (.ref t) "__iter__") Q E s := fun z => wpAny_specialOf ht.typeIs slot_tuple_iter.lookup z
  have start : ∀ {Q : Value → Shared → Prop}, Q _ _ → wpAny (model prog w) A (pyIter (.ref t)) Q E s := fun z => iter_tuple ht z
  have all : ∀ {Q : List Value → Shared → Prop}, (∀ h', Heap.ExtBut s.heap.objs.size s.heap h' → IsTupIter h' s.heap.objs.size t items.size → Q items.toList { s with heap := h' }) →
      wpAny (model prog w) A (draw (.ref s.heap.objs.size) items.size) Q E { s with heap := s.heap.push { cls := .type "tuple_iterator", data := .fields #[.ref t, .int 0 0] } } := fun z => by
    refine draw_tuple (old hot) items.size 0 _ _ ⟨_, Heap.get?_push_size _ rfl, rfl, rfl⟩ (ht.push _) (Nat.le_of_eq (Nat.zero_add _)) fun h1 i1 b1 => ?_
    have := z h1 (fun b o q e => b1.extBut b o q (Heap.get?_push_of_some _ e)) (Nat.zero_add items.size ▸ i1)
    rw [List.drop_zero, show items.toList.take items.size = items.toList by simp [List.take_of_length_le]]
    exact this
  unfold unpackItems notIterableAtAll
  wp_walk using sp, start, all
  intro h1 k1 i1
  have spent : ∀ {Q : Option Value → Shared → Prop}, (∀ h2, Heap.ExtBut s.heap.objs.size h1 h2 → Q none { s with heap := h2 }) → wpAny (model prog w) A (pyNext (.ref s.heap.objs.size)) Q E { s with heap := h1 } :=
    fun z => next_tuple_endH (s := { s with heap := h1 }) hh (old he) (k1 e0 oe (old he) he) hed he2 i1 (ht.extBut k1 (old hot)) (by simp) z
  have enough : ¬ items.toList.length < items.size := by simp
  wp_walk using spent
  intro h2 k2
  wp_walk
  exact hQ h2 fun b o q e => k2 b o q (k1 b o q e)
theorem unpack_tupleH {t e0 : Addr} {items : Array Value} {oe : Obj} {ve : Array Value} {targets : List (Bool × (Value → Sem Unit))} {Q : Unit → Shared → Prop} (hh : A.handled = some (.ref e0)) (he : s.heap.get? e0 = some oe) (hed : oe.data = .fields ve) (he2 : ve[2]? = some .none) (ht : IsTup s.heap t items)
    (hn : targets.length = items.size) (hstar : targets.findIdx? (·.1) = none)
    (h : ∀ h', Heap.ExtBut s.heap.objs.size s.heap h' → wpAny (model prog w) A (assignInOrder (targets.map (·.2)) items.toList) Q E { s with heap := h' }) :
    wpAny (model prog w) A (unpack (.ref t) targets) Q E s := by
  unfold unpack
  rw [hstar, hn]
  wp_step
  wp_step
  exact unpackItems_tupleH hh he hed he2 ht h
end
section
variable {g : Gl} {x : Fx} {σ : Store} {m : Loc} {E : Value → Heap → Prop} {t : Nat}
/-- the handled exception, seen from the store -/
def HdE (σ : Store) (e0 : Addr) : Prop := ∃ oe, σ e0 = some (.raw oe) ∧ CtxNone oe
theorem HdE.sup {σ σ' : Store} {e0 : Addr} (h : HdE σ e0) (hs : Sup σ σ') : HdE σ' e0 := by obtain ⟨oe, e, c⟩ := h; exact ⟨oe, hs _ _ e, c⟩
theorem w_unpackH {t e0 : Addr} {vs : List Value} {elts : List Expr} {k : Nat} {pos : Pos} {Q : Unit → Store → Loc → Prop} (hh : x.hd = some (.ref e0)) (he0 : HdE σ e0) (e : σ t = some (.tup vs)) (hn : (assignEach elts x.env).length = vs.length) (hstar : (assignEach elts x.env).findIdx? (·.1) = none)
    (h : W g x (assignInOrder ((assignEach elts x.env).map (·.2)) vs) σ m Q E) (he : ∀ v, assign (.Tuple elts k pos) x.env v = (do standAt pos; unpack v (assignEach elts x.env))) : W g x (assign (.Tuple elts k pos) x.env (.ref t)) σ m Q E := by
  intro ok s₀ σ₀ s hs H
  rw [he]
  obtain ⟨oe, eo, ve, hed, he2⟩ := he0
  refine wpAny_bind (wpAny_standAt (unpack_tupleH hh (H.getPred eo) hed he2 (H.tup e) (by rw [hn, List.size_toArray]) hstar fun h' he' => ?_))
  exact h ok s₀ σ₀ _ (hs.heap h') (H.ext (get_size _) he')
theorem w_unpack2H {t e0 : Addr} {v1 v2 : Value} {n1 n2 : Str} {p1 p2 : Pos} {k : Nat} {pos : Pos} {Q : Unit → Store → Loc → Prop} (hh : x.hd = some (.ref e0)) (he0 : HdE σ e0) (e : σ t = some (.tup [v1, v2])) (l1 : x.cs.names.lookup n1 = some .local) (l2 : x.cs.names.lookup n2 = some .local)
    (h : Q () σ (upL (upL m n1 v1) n2 v2)) : W g x (assign (.Tuple [.Name n1 p1, .Name n2 p2] k pos) x.env (.ref t)) σ m Q E :=
  w_unpackH hh he0 e rfl rfl (w_inOrder_cons (w_assignName l1 (w_inOrder_cons (w_assignName l2 (w_inOrder_nil h))))) fun _ => rfl
local macro_rules | `(tactic| walk_at "unp") => `(tactic| ((with_reducible refine' w_unpack2H ?h ?he ?e ?a ?b ?_); (case' h => assumption); (case' he => assumption); (case' a => walk_at "nm"); (case' b => walk_at "nm"); (case' e => walk_at "sg")))
theorem spec_get0H {key : Int} {kt : Tok} {e0 : Addr} (t4 : t ≤ 4) {n : Nat} {a : Addr} {es : List El} {Q : Value → Store → Prop} (he0 : HdE σ e0) (o : Tr σ t 0 n a es) (els : ∀ e ∈ es, ElOk σ e) (ris : Rising (ksOf es)) (hQ : ∀ σ', Sup σ σ' → Q (refOf (look key es)) σ') :
    Calls g (fun h => h = some (.ref e0)) 3 (.ref 126) [.ref a, .int key kt] [] σ Q := by
  obtain ⟨cr, l, c, xs, kids, nd, hc, rfl, rfl⟩ := Tr_iff.mp o
  obtain ⟨tk, e⟩ := nd.node
  have e : σ a = some (nodeC (.int t tk) (.ref cr) (.bool true) l c) := e
  have hk : kids = [] := List.length_eq_zero_iff.mp nd.num
  subst hk
  have hl := nd.xlen t4
  have el := nd.el
  have es1 := elts_of (xs := xs) els
  have ris : Rising (ksOf xs) := ris
  obtain ⟨xl, xr, rfl, hp, hlt, hcase⟩ := place key xs
  refine calls_def [("self", .ref a), ("key", .int key kt)] rfl (by rfl) (fun s _ => BindsTo.of_eq rfl) (locs rfl) (by decide) rfl rfl rfl ?_
  walk_at "enter"
  walk_at "go"
  refine w_spec (hp := fun h => h = some (.ref e0)) (by assumption) (by assumption) (spec_search e el es1 ris (by omega) fun tp it htp => ?_) (by decide)
  rw [hp]
  rcases hcase with ⟨hb, x, r, rfl, hk⟩ | ⟨hb, hgt⟩
  · rw [hb]
    have hs := Sup.new (.tup [.int xl.length it, .bool true]) htp
    have he1 := he0.sup hs
    walk_at "go"
    walk_at "unp"
    walk_at "go"
    refine w_item (hs _ _ el) (k := xl.length) (by omega) (by simp at hl; omega) (v := x.r) (by simp) ?_ rfl
    walk_at "go"
    have := hQ _ hs
    have e1 : look key (weave [] (xl ++ x :: r)) = some x := look_hit ris (by simp) hk
    rw [e1] at this; exact this
  · rw [hb]
    have hs := Sup.new (.tup [.int xl.length it, .bool false]) htp
    have he1 := he0.sup hs
    walk_at "go"
    walk_at "unp"
    walk_at "go"
    have := hQ _ hs
    have e1 : look key (weave [] (xl ++ xr)) = none := look_none hlt (gt_xs (Rising.right ris) hgt)
    rw [e1] at this; exact this
theorem spec_getElementH {ta root e0 : Addr} {cr imm cur tv size io : Value} {n : Nat} {es : List El} {key : Int} {kt : Tok} {Q : Value → Store → Prop} (he0 : HdE σ e0) (e : σ ta = some (treeC cr imm cur tv (.ref root) size io)) (o : Tr σ t 0 n root es) (t4 : t ≤ 4) (els : ∀ e ∈ es, ElOk σ e) (ris : Rising (ksOf es))
    (hQ : ∀ σ', Sup σ σ' → Q (refOf (look key es)) σ') : Calls g (fun h => h = some (.ref e0)) 5 (.ref 387) [.ref ta, .int key kt] [] σ Q := by
  obtain ⟨cr0, l0, c0, xs0, kids0, nd0, -, -, -⟩ := Tr_iff.mp o
  obtain ⟨tk0, e1⟩ := nd0.node
  refine calls_def (n := 4) [("self", .ref ta), ("key", .int key kt)] rfl (by rfl) (fun s _ => BindsTo.of_eq rfl) (locs rfl) (by decide) rfl rfl rfl ?_
  walk_at "enter"
  walk_at "go"
  refine w_spec (hp := fun h => h = some (.ref e0)) (by assumption) (by assumption) (spec_get0H t4 he0 o els ris fun σ' hs => ?_) (by omega)
  walk_at "go"
  exact hQ σ' hs
end
section
variable {g : Gl} {x : Fx} {t : Nat} {Z : Store} {cr : Addr}
theorem LeafAt.sup {σ σ' : Store} {ta : Addr} (L : LeafAt σ ta) (hs : Sup σ σ') : LeafAt σ' ta := by
  obtain ⟨A, B, C, D, F, G, H, I, r, l, c, h1, h2⟩ := L
  exact ⟨A, B, C, D, F, G, H, I, r, l, c, hs _ _ h1, hs _ _ h2⟩
theorem Step.keeps {σ σ' : Store} {A B : List Addr} (st : Step A B σ σ') (hA : ∀ b ∈ A, ∀ P, σ b ≠ some (.pred P)) : Keeps σ σ' := fun b P e => st.keep b _ (fun hb => hA b hb P e) e
theorem Own.noP {σ : Store} {h n : Nat} {a : Addr} {es : List El} {fp : List Addr} (o : Own Z σ cr t h n a es fp) : ∀ b ∈ fp, ∀ P, σ b ≠ some (.pred P) := by
  induction h generalizing n a es fp with
  | zero =>
    obtain ⟨l, c, xs, kids, nd, -, -, rfl⟩ := o
    obtain rfl : kids = [] := List.length_eq_zero_iff.mp nd.num
    intro b hb P e
    simp at hb
    rcases hb with rfl | rfl | rfl
    · obtain ⟨tk, q⟩ := nd.node; rw [q] at e; cases e
    · have q := nd.el; rw [q] at e; cases e
    · have q := nd.ch; rw [q] at e; cases e
  | succ h ih =>
    obtain ⟨l, c, xs, kids, nd, -, -, rfl⟩ := o
    intro b hb P e
    simp only [List.mem_cons, List.mem_flatMap] at hb
    rcases hb with rfl | rfl | rfl | ⟨k, m, hb⟩
    · obtain ⟨tk, q⟩ := nd.node; rw [q] at e; cases e
    · have q := nd.el; rw [q] at e; cases e
    · have q := nd.ch; rw [q] at e; cases e
    · rcases (nd.kid k m).2 with q | q
      · rw [q.2] at hb; cases hb
      · exact ih q b hb P e
theorem TreeSt.noP {σ : Store} {ta : Addr} {io : Bool} {es : List El} {fp : List Addr} (T : TreeSt Z σ ta cr t io es fp) : ∀ b ∈ ta :: fp, ∀ P, σ b ≠ some (.pred P) := by
  obtain ⟨⟨cur, root, tkT, stT, eT, eCur, h, n, ht, hr⟩, hout, zta, cx⟩ := T
  intro b hb P e
  rcases List.mem_cons.mp hb with rfl | hb
  · rw [eT] at e; cases e
  · rcases hr with ⟨-, rfl⟩ | q
    · cases hb
    · exact q.noP b hb P e
theorem spec_unlike {σ : Store} {ta : Addr} {io : Bool} {es : List El} {fp : List Addr} {key : Int} {kt : Tok} {e0 : El} {Q : Value → Store → Prop} (T : TreeSt Z σ ta cr t io es fp) (hlf : LeafAt σ ta) (hlook : look key es = some e0)
    (hQ : ∀ (σ' : Store) (fp' : List Addr), TreeSt Z σ' ta cr t io es fp' → Step (ta :: fp) (ta :: fp') σ σ' → Q (.bool true) σ') : CallsS g 130 (.ref 576) [.ref ta, .int key kt] σ Q := by
  obtain ⟨cur0, root0, tk0, st0, eT, -⟩ := T.cell
  obtain ⟨hm, hk⟩ := look_mem hlook
  obtain ⟨kt0, vt0, ek⟩ := T.cx.els e0 hm
  have ek1 := T.cx.sup _ _ ek
  refine calls_defS (n := 129) [("tree", .ref ta), ("key", .int key kt)] rfl (by rfl) (fun s _ => BindsTo.of_eq rfl) (locs rfl) (by decide) rfl rfl rfl ?_
  intro y hh hr ok G hcs hcn ha hcd hcl
  clear hcn ha hcd hcl
  refine ws_cons G ok (ws_try G ok (hits_VE ok (by walk_at "nm")) (fun c σ' => c = .type "ValueError" ∧ ∃ fp', TreeSt Z σ' ta cr t io es fp' ∧ LeafAt σ' ta ∧ Step (ta :: fp) (ta :: fp') σ σ') ?_ (fun c σ' h => ⟨h.1, by obtain ⟨-, fp', -, -, st⟩ := h; exact st.keeps T.noP⟩) ?_)
  · intro z L hz
    have hcz := L.cs.trans hcs
    have hrz := L.room _ hr
    have hhz : hpN z.hd := by rw [hz]; exact hh
    walk_at "go"
    refine w_spec (by assumption) (by assumption) (spec_newKV fun σ1 a ha ea hb => ?_) (by omega)
    have hs : Sup σ σ1 := fun b cb e => by rw [hb b (ne_fresh e ha)]; exact e
    have T1 := T.sup hs
    obtain ⟨cur1, root1, tk1, st1, eT1, -⟩ := T1.cell
    walk_at "go"
    refine w_specR (by assumption) (by assumption) (spec_deleteExactR (R := fun c σ' => c = .type "ValueError" ∧ ∃ fp', TreeSt Z σ' ta cr t io es fp' ∧ LeafAt σ' ta ∧ Step (ta :: fp) (ta :: fp') σ σ') T1 hlook ea (ne_fresh ek1 ha) (hlf.sup hs) fun σ2 fp2 T2 L2 st => ⟨rfl, fp2, T2, L2, (Step.sup hs).trans st⟩) (by omega) fun e h u => u
  · rintro σ3 z a oe ⟨-, fp3, T3, L3, st3⟩ L hz ha hc
    have hcz := L.cs.trans hcs
    have hrz := L.room _ hr
    have hs := Sup.new (.raw oe) ha
    have T4 := T3.sup hs
    have L4 := L3.sup hs
    have st4 := st3.trans (Step.sup hs)
    have he4 : HdE (σ3.set a (.raw oe)) a := ⟨oe, Store.set_same _ _ _, hc⟩
    generalize σ3.set a (.raw oe) = σ4 at T4 L4 st4 he4
    obtain ⟨cur, root, tk, st, n, e4, -, hr4⟩ := T4.leafN L4
    have tr4 : Tr σ4 t 0 n root es := hr4.elim (fun q => q.1.sup T4.cx.sup) fun q => q.tr T4.cx.sup T4.cx.crc
    walk_at "go"
    refine w_spec (hp := fun h => h = some (.ref a)) (by assumption) (by assumption) (spec_getElementH he4 e4 tr4 T4.cx.t4 (fun e he => (T4.cx.els e he).sup T4.cx.sup) T4.cx.ris fun σ5 hs5 => ?_) (by omega)
    rw [hlook]
    generalize hrv : refOf (some e0) = rv
    obtain rfl : rv = .ref e0.a := hrv.symm
    have ek5 := hs5 _ _ (T4.cx.sup _ _ ek)
    walk_at "go"
    exact hQ σ5 fp3 (T4.sup hs5) (st4.trans (Step.sup hs5))
end
/-! ## The tree and the dict -/
structure Agree (es : List El) (D : List (Int × Int)) : Prop where
  keys : (D.map (·.1)).Perm (ksOf es)
  vals : ∀ e ∈ es, kdfLook D e.k 0 = e.v
theorem kdfHas_iff {D : List (Int × Int)} {k : Int} : kdfHas D k = true ↔ k ∈ D.map (·.1) := by
  unfold kdfHas
  rw [List.any_eq_true]
  constructor
  · rintro ⟨p, hp, q⟩; exact List.mem_map.mpr ⟨p, hp, of_decide_eq_true q⟩
  · intro h; obtain ⟨p, hp, q⟩ := List.mem_map.mp h; exact ⟨p, hp, decide_eq_true q⟩
theorem look_isSome {es : List El} {k : Int} : (look k es).isSome = true ↔ k ∈ ksOf es := by
  unfold look
  rw [List.find?_isSome]
  constructor
  · rintro ⟨e, he, q⟩; exact List.mem_map.mpr ⟨e, he, by simpa using q⟩
  · intro h; obtain ⟨e, he, q⟩ := List.mem_map.mp h; exact ⟨e, he, by simpa using q⟩
theorem Agree.has {es : List El} {D : List (Int × Int)} (A : Agree es D) (k : Int) : kdfHas D k = (look k es).isSome := by
  rw [Bool.eq_iff_iff, kdfHas_iff, look_isSome]
  exact A.keys.mem_iff
theorem Agree.len {es : List El} {D : List (Int × Int)} (A : Agree es D) : D.length = es.length := by
  have := A.keys.length_eq; simpa using this
theorem sorted_unique : ∀ {a b : List Int}, a.Perm b → a.Pairwise (· ≤ ·) → b.Pairwise (· < ·) → a = b
  | [], b, p, _, _ => by have := p.length_eq; cases b with | nil => rfl | cons x r => simp at this
  | x :: a, [], p, _, _ => by have := p.length_eq; simp at this
  | x :: a, y :: b, p, h1, h2 => by
    have q1 := List.pairwise_cons.mp h1
    have q2 := List.pairwise_cons.mp h2
    have hxy : x = y := by
      have mx : x ∈ y :: b := p.mem_iff.mp (.head _)
      have my : y ∈ x :: a := p.mem_iff.mpr (.head _)
      rcases List.mem_cons.mp mx with e | e
      · exact e
      · rcases List.mem_cons.mp my with e' | e'
        · exact e'.symm
        · have := q2.1 x e; have := q1.1 y e'; omega
    subst hxy
    rw [sorted_unique (List.perm_cons x |>.mp p) q1.2 q2.2]
theorem Agree.sorted {es : List El} {D : List (Int × Int)} (A : Agree es D) (r : Rising (ksOf es)) {ns : List Int} (p : ns.Perm (D.map (·.1))) (s : ns.Pairwise (· ≤ ·)) : ns = ksOf es :=
  sorted_unique (p.trans A.keys) s r
theorem Agree.pairs {es : List El} {D : List (Int × Int)} (A : Agree es D) : (ksOf es).map (fun k => (k, kdfLook D k 0)) = kvOf es := by
  unfold kvOf ksOf
  rw [List.map_map]
  exact List.map_congr_left fun e he => by simp [A.vals e he]
/-- the frame's own entry for a function with a lambda -/
def CallsL (g : Gl) (n : Nat) (f : Value) (args : List Value) (σ : Store) (Q : Value → Store → Prop) : Prop :=
  ∀ (x : Fx) (m : Loc), x.hd = none → Room x n → x.Ok g → CodeHd x.base 556 554 → ∀ s₀ σ₀ s, Was s₀ σ₀ s σ → At g x σ m s.heap → codeAny g.M x.A (.call f ⟨args, []⟩) (CPost g x m s₀ σ₀ Q NoE) s
theorem w_callL {g : Gl} {x : Fx} {σ : Store} {m : Loc} {n : Nat} {f : Value} {args : List Value} {Q : Value → Store → Loc → Prop} {E : Value → Heap → Prop} (hh : x.hd = none) (hr : Room x n) (C : CodeHd x.base 556 554) (h : CallsL g n f args σ (fun v σ' => Q v σ' m)) : W g x (call f args []) σ m Q E :=
  fun ok s₀ σ₀ s hs H => wpAny_call (codeAny_mono (h x m hh hr ok C s₀ σ₀ s hs H) fun r s' z => by
    rcases r with e | (v | _ | _ | _)
    · exact z.2.elim
    · exact z.elim
    · exact z.elim
    · exact z.elim
    · obtain ⟨σ', a, b, c⟩ := z; exact ⟨σ', m, a, b, c⟩)
theorem calls_defC2L {g : Gl} {n : Nat} {σ : Store} {name qual : Str} {params : Arguments} {body : List Stmt} {scope : Scope} {dV kV doc pm cdv ct oc : Value} {an od : Option Addr} {osl : Array (Option Value)} {f : Addr} {args : List Value} {Q : Value → Store → Prop} (binds : List (Str × Value)) (n1 n2 : Str) (m0 : Loc) (v1 v2 : Option Value)
    (ho : g.K.lookup f = some ⟨oc, od, .func (fnOf name qual params body scope dV kV doc pm an cdv ct), osl⟩) (hcd : codeIn g.K cdv qual = true)
    (hbind : ∀ s, g.K.In s.heap → BindsTo s (fnOf name qual params body scope dV kV doc pm an cdv ct) ⟨args, []⟩ binds) (hkind : (binds.all fun y => scope.names.lookup y.1 == some .local || scope.names.lookup y.1 == some .cell) = true)
    (hcl : ∀ L, cellsFrom (L + 1) scope.names [] = [(n2, L + 2), (n1, L + 1)]) (hnd : ((cellsFrom 0 scope.names []).map (·.1)).Nodup) (hm0 : ∀ L', bindL (envOfC qual scope L' f cdv).kindOf binds (fun _ => none) = m0) (hv1 : ∀ L', bindC (envOfC qual scope L' f cdv).kindOf binds (fun _ => none) n1 = v1) (hv2 : ∀ L', bindC (envOfC qual scope L' f cdv).kindOf binds (fun _ => none) n2 = v2)
    (hco : scope.isCoroutine = false) (hgen : scope.isGenerator = false) (hk : scope.kind = .function)
    (h : ∀ (y : Fx) (c1 c2 : Addr), y.hd = none → Room y n → CodeHd y.base 556 554 → y.cs = scope → y.cn = qual → y.a = f → y.ccd = cdv → y.cl = [(n2, c2), (n1, c1)] → σ c1 = none → σ c2 = none → c1 ≠ c2 →
      W g y (execs body y.env) ((σ.set c1 (.var v1)).set c2 (.var v2)) m0 (fun fl σ' _ => Q (match fl with | .ret v => v | _ => .none) σ') (fun _ _ => False)) :
    CallsL g (n + 1) (.ref f) args σ Q := by
  intro x m hh hr ok C s₀ σ₀ s hs H
  obtain ⟨F, news, dx, RN⟩ := H
  refine code_defC ok.B F ok.X RN.N ok.T (A := x.A) rfl (env := x.env) rfl ok.k ho hcd ok.rd (hbind s (ok.X.keeps F.keep)) hkind hnd (fun G L' h₁ tk cells FG F' N' Y B' X' T' hlt => ?_) hco hgen hk
  rw [hcl L'] at Y
  rw [hm0] at F'
  obtain ⟨o2, o1, rfl, d2, d1⟩ := Y.two
  rw [hv1] at d1
  rw [hv2] at d2
  obtain ⟨R0, f1⟩ := RN.toX.addVar (l := L' + 1) (o := o1) (v := v1) d1 (fun p hp => by have := hlt p hp; exact Nat.ne_of_lt (Nat.lt_succ_of_lt this))
  have hne : L' + 2 ≠ L' + 1 := Nat.succ_ne_self _
  obtain ⟨R1, f2⟩ := R0.addVar (l := L' + 2) (o := o2) (v := v2) d2 (fun p hp => by
    rcases List.mem_cons.mp hp with rfl | hp
    · exact Ne.symm hne
    · have := hlt p hp; exact Nat.ne_of_lt (Nat.lt_succ_of_lt (Nat.lt_succ_of_lt this)))
  rw [Store.set_ne _ _ hne] at f2
  have ok' : Fx.Ok g ⟨x.hd, x.dp + 1, x.un + 3, x.gd, x.env :: x.outer, x.A, x.base, G, L', qual, scope, f, cdv, cellsFrom (L' + 1) scope.names []⟩ := by
    refine ⟨B', X', T', hk, ?_, ?_⟩
    · have := hr.1; show x.dp + 1 < recursionLimit; omega
    · have := hr.2; show x.un + 3 < cLine; omega
  have hb := h ⟨x.hd, x.dp + 1, x.un + 3, x.gd, x.env :: x.outer, x.A, x.base, G, L', qual, scope, f, cdv, cellsFrom (L' + 1) scope.names []⟩ (L' + 1) (L' + 2) hh ⟨by have := hr.1; show x.dp + 1 + 2 * n < _; omega, by have := hr.2; show x.un + 3 + 12 * n < _; omega⟩ C rfl rfl rfl rfl (hcl L') f1 f2 (Ne.symm hne)
  refine wpAny_mono (hb ok' s₀ σ₀ _ (((hs.mk' h₁ tk).new _ f1).new _ (by rw [Store.set_ne _ _ hne]; exact f2)) ⟨F', _, dx, RepN.ofX R1 N'⟩) (fun fl s' hp => ?_) fun e s' he => he.2.elim
  obtain ⟨σ', m', hs', ⟨F2, news2, dx2, R2⟩, hq⟩ := hp
  exact leaveK_ F2 R2.N fun F3 N3 => ⟨σ', hs', ⟨F3, news2, dx2, ⟨N3, R2.nd, R2.cells, R2.inj, R2.off⟩⟩, hq⟩
section
variable {g : Gl} {t : Nat}
def SubO (σ σ' : Store) : Prop := ∀ a c, (∀ P, c ≠ .pred P) → (∀ o, c ≠ .obj o) → σ a = some c → σ' a = some c
theorem SubO.refl {σ : Store} : SubO σ σ := fun _ _ _ _ e => e
theorem SubO.trans {σ σ' σ'' : Store} (h : SubO σ σ') (k : SubO σ' σ'') : SubO σ σ'' := fun a c h1 h2 e => k a c h1 h2 (h a c h1 h2 e)
theorem SubS.subO {σ σ' : Store} (h : SubS σ σ') : SubO σ σ' := fun a c h1 _ e => h a c h1 e
def noObj (S : Store) : Store := fun a => match S a with | some (.pred _) => none | some (.obj _) => none | c => c
theorem noObj.some {S : Store} {a : Addr} {c : Cell} (e : S a = some c) (hc : ∀ P, c ≠ .pred P) (ho : ∀ o : Obj, c ≠ Cell.obj o) : noObj S a = Option.some c := by
  unfold noObj; rw [e]; cases c <;> first | rfl | exact absurd rfl (hc _) | exact absurd rfl (ho _)
theorem noObj.sup {S S' : Store} (h : SubO S S') : Sup (noObj S) S' := fun a c e => by
  unfold noObj at e
  split at e
  · cases e
  · cases e
  · rename_i q1 q2
    exact h a c (fun P z => by subst z; exact q1 P e) (fun P z => by subst z; exact q2 P e) e
theorem noObj.not {S : Store} {a : Addr} {o : Obj} (e : S a = Option.some (Cell.obj o)) : noObj S a = Option.none := by unfold noObj; rw [e]
theorem noObj.non {S : Store} {a : Addr} (e : S a = Option.none) : noObj S a = Option.none := by unfold noObj; rw [e]
theorem Nd.noObj {S : Store} {lf : Bool} {P P' : Kd → Prop} {cr a l c : Addr} {xs : List El} {kids : List Kd} (h : Nd S t lf P cr a l c xs kids) (hk : ∀ k ∈ kids, P k → P' k) : Nd (noObj S) t lf P' cr a l c xs kids :=
  ⟨by obtain ⟨tk, e⟩ := h.node; exact ⟨tk, noObj.some e (fun _ q => by cases q) (fun _ q => by cases q)⟩, noObj.some h.el (fun _ q => by cases q) (fun _ q => by cases q), noObj.some h.ch (fun _ q => by cases q) (fun _ q => by cases q), h.hi, h.num, fun k m => hk k m (h.kid k m)⟩
theorem Tr.noObj {S : Store} : ∀ {h n : Nat} {a : Addr} {es : List El}, Tr S t h n a es → Tr (noObj S) t h n a es
  | 0, _, _, _, ⟨cr, l, c, xs, kids, h1, h2, h3, h4⟩ => ⟨cr, l, c, xs, kids, h1.noObj fun _ _ q => q, noObj.some h2 (fun _ q => by cases q) (fun _ q => by cases q), h3, h4⟩
  | h + 1, _, _, _, ⟨cr, l, c, xs, kids, h1, h2, h3, h4⟩ => ⟨cr, l, c, xs, kids, h1.noObj fun _ _ q => ⟨q.1, Tr.noObj q.2⟩, noObj.some h2 (fun _ q => by cases q) (fun _ q => by cases q), h3, h4⟩
theorem ElOk.noObj {S : Store} {e : El} (T : ElOk S e) : ElOk (noObj S) e := by
  obtain ⟨k, v, q⟩ := T; exact ⟨k, v, noObj.some q (fun _ q => by cases q) (fun _ q => by cases q)⟩
def FreshO (σ : Store) (a : Addr) : Prop := ∀ c, (∀ P, c ≠ .pred P) → (∀ o : Obj, c ≠ .obj o) → σ a ≠ some c
theorem FreshO.of {σ σ' : Store} {a : Addr} (h : SubO σ σ') (e : σ' a = none) : FreshO σ a := fun c h1 h2 q => by rw [h _ _ h1 h2 q] at e; cases e
theorem SubO.mut {σ σ' : Store} {a : Addr} {c : Cell} (h : SubO σ σ') (hf : FreshO σ a) : SubO σ (σ'.set a c) := fun b cb h1 h2 q => by
  rw [Store.set_ne _ _ fun z => by subst z; exact hf _ h1 h2 q]; exact h b cb h1 h2 q
theorem FreshO.noObj {σ : Store} {a : Addr} (h : FreshO σ a) : noObj σ a = none := by
  cases q : Mine.noObj σ a with
  | none => rfl
  | some c =>
    unfold Mine.noObj at q
    split at q
    · cases q
    · cases q
    · rename_i q1 q2
      exact absurd q (h c (fun P z => by subst z; exact q1 P q) fun o z => by subst z; exact q2 o q)
theorem ints_get : ∀ {vs : List Value} {ns : List Int} {i : Nat} {v : Value}, IntsAre vs ns → vs[i]? = some v → ∃ n t, ns[i]? = some n ∧ v = .int n t
  | _, _, 0, _, .cons n t _, h => by cases h; exact ⟨n, t, rfl, rfl⟩
  | _, _, i + 1, _, .cons n t r, h => ints_get (i := i) r (by simpa using h)
theorem tab_subS {σ σ' : Store} {ln col : Int} {qual : Str} (hs : SubS σ σ') (T : TabOk σ ln col qual) : TabOk σ' ln col qual := by
  rcases T with e | ⟨c', oc, vs, t, e, e2, h⟩
  · exact .inl (hs _ _ (fun _ q => by cases q) e)
  · exact .inr ⟨c', oc, vs, t, hs _ _ (fun _ q => by cases q) e, hs _ _ (fun _ q => by cases q) e2, h⟩
theorem TabOk.obj {σ : Store} {ln col : Int} {qual : Str} (T : TabOk σ ln col qual) : ∃ o, σ 554 = some (.obj o) := by
  rcases T with e | ⟨c', oc, vs, t, e, e2, h⟩
  · exact ⟨_, e⟩
  · exact ⟨_, e⟩
theorem tab_subO {σ σ' : Store} {ln col : Int} {qual : Str} (T : TabOk σ ln col qual) (hs : ∀ b (o : Obj), σ b = some (.obj o) → σ' b = some (.obj o)) : TabOk σ' ln col qual := by
  rcases T with e | ⟨c', oc, vs, t, e, e2, h⟩
  · exact .inl (hs _ _ e)
  · exact .inr ⟨c', oc, vs, t, hs _ _ e, hs _ _ e2, h⟩
abbrev rightTab (σ : Store) : Prop := TabOk σ 529 24 (Str.ofString "_law_right.<locals>." ++ "<lambda>")
theorem w_free {x : Fx} {σ : Store} {m : Loc} {E : Value → Heap → Prop} {n : Str} {pos : Pos} {v : Value} {c : Addr} {Q : Value → Store → Loc → Prop} (hc : x.cl.lookup n = some c) (e : σ c = some (.var (some v))) (hl : x.cs.names.lookup n = some .free) (hd : (n == ("__debug__" : Str)) = false) (hn : (n == ("__classdict__" : Str)) = false) (h : Q v σ m) :
    W g x (eval (.Name n pos) x.env) σ m Q E := fun ok s₀ σ₀ s hs H => by
  obtain ⟨F, news, dx, RN⟩ := id H
  obtain ⟨o, hm, hd'⟩ := RN.cells c _ e
  exact nameX_F (cn := x.cn) (cs := x.cs) (L := x.L) (a := x.a) (ccd := x.ccd) (cl := x.cl) RN.N hc hm hd' ⟨σ, m, hs, H, h⟩ ok.k hl hd hn
def rightI (f c' c2 sl : Addr) (lam oc : Cell) (τ : Store) (ps : List (Int × Int)) : Prop :=
  τ f = some lam ∧ τ c' = some oc ∧ τ c2 = some (.var (some (.ref sl))) ∧ ∃ vs, τ sl = some (.list vs) ∧ PairsAt τ vs ps
theorem PairsAt.mut {τ : Store} {sl : Addr} {ws ws' : List Value} {vs : List Value} {ps : List (Int × Int)} (e : τ sl = some (.list ws)) (P : PairsAt τ vs ps) : PairsAt (τ.set sl (.list ws')) vs ps := by
  induction P with
  | nil => exact .nil
  | cons h1 _ ih =>
    obtain ⟨a, t, u, rfl, e1⟩ := h1
    exact .cons ⟨a, t, u, rfl, by rw [Store.set_ne _ _ fun z => by subst z; rw [e] at e1; cases e1]; exact e1⟩ ih
noncomputable def fnBody (g : Gl) (f : Addr) : List Stmt := match g.K.lookup f with
  | some ⟨_, _, .func fd, _⟩ => (match fd.body with | .stmts b => b | _ => [])
  | _ => []
noncomputable def fnScope (g : Gl) (f : Addr) : Scope := match g.K.lookup f with
  | some ⟨_, _, .func fd, _⟩ => fd.scope
  | _ => { kind := .function, names := [], isGenerator := false, isCoroutine := false }
def nthS (b : List Stmt) (i : Nat) : Stmt := b.getD i (.Pass ⟨0, 0, 0, 0⟩)
def forBody : Stmt → List Stmt
  | .For _ _ b _ _ => b
  | _ => []
def ifBody : Stmt → List Stmt
  | .If _ b _ _ => b
  | _ => []
def ifElse : Stmt → List Stmt
  | .If _ _ b _ => b
  | _ => []
/-- the one lambda's parts, by its place -/
def lamOf : Stmt → Arguments × Expr × Scope
  | .Expr (.Call _ [.Lambda a b s _] _ _) _ => (a, b, s)
  | _ => ({ posonlyargs := [], args := [], vararg := none, kwonlyargs := [], kw_defaults := [], kwarg := none, defaults := [] }, .Constant .none 0 ⟨0, 0, 0, 0⟩, { kind := .function, names := [], isGenerator := false, isCoroutine := false })
noncomputable def lamP (g : Gl) : Arguments × Expr × Scope := lamOf (nthS (fnBody g 557) 3)
section
local macro_rules | `(tactic| walk_at "name") => `(tactic| ((with_reducible refine' w_free ?hc ?e ?l ?d ?n ?_); (case' hc => walk_at "cl"); (case' l => walk_at "nm"); (case' d => kernel_rfl); (case' n => kernel_rfl); (case' e => walk_at "sg")))
theorem w_neB {x : Fx} {σ : Store} {m : Loc} {E : Value → Heap → Prop} {a b : Bool} {Q : Value → Store → Loc → Prop} (h : Q (.bool (a != b)) σ m) : W g x (compareOp .NotEq (.bool a) (.bool b)) σ m Q E := w_skip (fun _ _ _ h => ne_bool h) h
theorem rightVisitor {pp : Arguments × Expr × Scope} {f c' c2 sl : Addr} {nm ctv : Value} {name qual : Str} {oc : Obj} {vs : Array Value} {tq : Tok} (hpp : pp = lamP g) (hd : oc.data = .fields vs) (hv : vs[1]? = some (.str qual tq)) :
    Visitor g f sl (rightI f c' c2 sl (lamC nm name qual pp.1 pp.2.1 pp.2.2 [("seen", c2)] c' ctv) (.obj oc)) := by
  conv at hpp => rhs; whnf
  subst hpp
  dsimp only
  refine ⟨fun σ ps h => ⟨_, _, _, _, _, _, _, _, _, h.1⟩, fun σ σ' ps hs ⟨h1, h2, h3, vs, h4, h5⟩ => ⟨hs _ _ (fun _ q => by cases q) h1, hs _ _ (fun _ q => by cases q) h2, hs _ _ (fun _ q => by cases q) h3, vs, hs _ _ (fun _ q => by cases q) h4, h5.sub hs⟩, fun σ ps e Q ⟨h1, h2, h3, ws, h4, h5⟩ hps hel hQ => ?_⟩
  obtain ⟨kt, vt, ee⟩ := hel
  refine calls_lam (n := 7) [("element", e.r)] h1 h2 hd hv (by rfl) (locs rfl) (by decide) rfl rfl rfl fun y hh hr hcs hcl => ?_
  have hwl := h5.length
  walk_at "go"
  refine w_spec (by assumption) (by assumption) (spec_key ee rfl ?_) (by omega)
  walk_at "go"
  refine w_spec (by assumption) (by assumption) (spec_value ee rfl ?_) (by omega)
  walk_at "go"
  refine w_newTuple (by rw [sizeLine_eq]; exact Nat.le_of_ble_eq_true rfl) fun tp htp => ?_
  walk_at "go"
  have hs := SubS.new (.tup [.int e.k kt, .int e.v vt]) htp
  have h4' := hs _ _ (fun _ q => by cases q) h4
  have et : (σ.set tp (.tup [.int e.k kt, .int e.v vt])) tp = some (.tup [.int e.k kt, .int e.v vt]) := Store.set_same _ _ _
  have h1' := hs _ _ (fun _ q => by cases q) h1
  have h2' := hs _ _ (fun _ q => by cases q) h2
  have h3' := hs _ _ (fun _ q => by cases q) h3
  have h5' := h5.sub hs
  generalize σ.set tp (.tup [.int e.k kt, .int e.v vt]) = τ at hs h4' et h1' h2' h3' h5'
  refine w_append h4' (by rw [sizeLine_eq]; omega) ?_
  have ne : ∀ {b : Addr} {c : Cell}, τ b = some c → (∀ ws, c ≠ .list ws) → b ≠ sl := fun hb hc z => by subst z; rw [h4'] at hb; cases hb; exact hc _ rfl
  refine hQ _ (fun b c hb hp q => ?_) ⟨?_, ?_, ?_, _, Store.set_same _ _ _, ?_⟩
  · rw [Store.set_ne _ _ hb]; exact hs b c hp q
  · rw [Store.set_ne _ _ (ne h1' fun _ q => by cases q)]; exact h1'
  · rw [Store.set_ne _ _ (ne h2' fun _ q => by cases q)]; exact h2'
  · rw [Store.set_ne _ _ (ne h3' fun _ q => by cases q)]; exact h3'
  · refine (h5'.mut h4').snoc ⟨tp, kt, vt, rfl, ?_⟩
    rw [Store.set_ne _ _ (ne et fun _ q => by cases q)]; exact et
end
theorem spec_right {σ : Store} {ta root d : Addr} {cr imm cur tv io : Value} {st tk : Tok} {h n : Nat} {es : List El} {D : List (Int × Int)} {Q : Value → Store → Prop} (t3 : 3 ≤ t) (t4 : t ≤ 4) (e : σ ta = some (treeC cr imm cur tv (.ref root) (.int es.length st) io)) (T : Tr σ t h n root es) (ht : h = 0 ∨ 1 ≤ n) (hh70 : h ≤ 70) (hlen : es.length ≤ 64)
    (els : ∀ e ∈ es, ElOk σ e) (ris : Rising (ksOf es)) (ed : σ d = some (.dict D)) (A : Agree es D) (tab : rightTab σ) (hQ : ∀ σ', SubO σ σ' → rightTab σ' → Q (.bool true) σ') :
    CallsL g 100 (.ref 557) [.ref ta, .int ((t - 1 : Nat) : Int) tk, .ref d] σ Q := by
  refine calls_defC2L [("tree", .ref ta), ("least", .int ((t - 1 : Nat) : Int) tk), ("model", .ref d)] "model" "seen" (upL (upL (fun _ => none) "tree" (.ref ta)) "least" (.int ((t - 1 : Nat) : Int) tk)) (some (.ref d)) none rfl (by rfl) (fun s _ => BindsTo.of_eq rfl) (by rfl) (fun _ => rfl) (by decide) (fun _ => rfl) (fun _ => rfl) (fun _ => rfl) rfl rfl rfl ?_
  intro y c1 c2 hh hr C hcs hcn ha hcd hcl f1 f2 hne
  have nt1 := ne_fresh e f1
  have nt2 := ne_fresh e f2
  have nd1 := ne_fresh ed f1
  have nd2 := ne_fresh ed f2
  have s1 : SubO σ ((σ.set c1 (.var (some (.ref d)))).set c2 (.var none)) := (SubO.refl.mut (.of .refl f1)).mut (.of .refl f2)
  have b0 : ((σ.set c1 (.var (some (.ref d)))).set c2 (.var none)) c1 = some (.var (some (.ref d))) := by rw [Store.set_ne _ _ hne]; exact Store.set_same _ _ _
  have b1 : ((σ.set c1 (.var (some (.ref d)))).set c2 (.var none)) c2 = some (.var none) := Store.set_same _ _ _
  have tb : rightTab ((σ.set c1 (.var (some (.ref d)))).set c2 (.var none)) := tab_subS ((SubS.new _ f1).trans (SubS.new _ (by rw [Store.set_ne _ _ hne.symm]; exact f2))) tab
  have hZ : ∀ τ, SubO σ τ → SubS (noObj σ) τ := fun τ q => (noObj.sup q).subS
  have TZ := T.noObj
  have elZ : ∀ e ∈ es, ElOk (noObj σ) e := fun e he => (els e he).noObj
  have up : ∀ {τ : Store}, SubO σ τ → τ ta = some (treeC cr imm cur tv (.ref root) (.int es.length st) io) ∧ τ d = some (.dict D) := fun q => ⟨q _ _ (fun _ q => by cases q) (fun _ q => by cases q) e, q _ _ (fun _ q => by cases q) (fun _ q => by cases q) ed⟩
  have hDl := A.len
  generalize ((σ.set c1 (.var (some (.ref d)))).set c2 (.var none)) = σ1 at s1 b0 b1 tb
  obtain ⟨e1, ed1⟩ := up s1
  walk_at "go"
  refine w_mul (IntMulOk.of_left (by decide)) fun _ => ?_
  walk_at "go"
  rw [show (2 * ((t - 1 : Nat) : Int) + 1) = ((2 * t - 1 : Nat) : Int) by omega]
  refine w_spec (by assumption) (by assumption) (spec_walk t3 t4 h TZ (hZ _ s1) elZ (by omega) (.inl ⟨rfl, ht⟩) fun σ2 tp kl vs tk2 q1 q2 q3 q4 => ?_) (by omega)
  have s2 := s1.trans q1.subO
  have c12 := q1 _ _ (fun _ q => by cases q) b0
  have c22 := q1 _ _ (fun _ q => by cases q) b1
  have tb2 := tab_subS q1 tb
  obtain ⟨e2, ed2⟩ := up s2
  walk_at "go"
  refine w_item_tup (j := 0) q2 (by omega) (by omega) rfl rfl ?_ rfl
  walk_at "go"
  refine w_sortedDict hh ed2 (by omega) fun l vs2 ns hl hi hp hs => ?_
  obtain rfl := A.sorted ris hp hs
  have s3 := SubS.new (.list vs2) hl
  refine w_neInts (hr.le (by omega)) (s3 _ _ (fun _ q => by cases q) q3) (Store.set_same _ _ _) q4 hi ?_
  generalize σ2.set l (.list vs2) = σ3 at s3
  rw [decide_eq_true rfl]
  have s4 := s2.trans s3.subO
  obtain ⟨e4, ed4⟩ := up s4
  have c14 := s3 _ _ (fun _ q => by cases q) c12
  have c24 := s3 _ _ (fun _ q => by cases q) c22
  walk_at "go"
  refine w_lenT (hp := hpN) (k := 1) e4 hh (hr.le (by omega)) (spec_lenTree e4 ⟨es.length, _, rfl, by omega, fun _ => ?_⟩)
  walk_at "go"
  refine w_dictLen ed4 (by omega) fun _ => ?_
  rw [hDl]
  walk_at "go"
  rw [show ((es.length : Int) != es.length) = false by simp]
  walk_at "go"
  intro sl hsl
  refine ⟨none, by walk_at "sg", ?_⟩
  have tb4 := tab_subS s3 (tab_subS q1 tb)
  have n12 := ne_fresh c14 hsl
  have n22 := ne_fresh c24 hsl
  have fsl := FreshO.of s4 hsl
  have fc2 : FreshO σ c2 := .of .refl f2
  have s5 : SubO σ ((σ3.set sl (.list [])).set c2 (.var (some (.ref sl)))) := (s4.mut fsl).mut fc2
  have c15 : ((σ3.set sl (.list [])).set c2 (.var (some (.ref sl)))) c1 = some (.var (some (.ref d))) := by rw [Store.set_ne _ _ hne, Store.set_ne _ _ n12]; exact c14
  have c25 : ((σ3.set sl (.list [])).set c2 (.var (some (.ref sl)))) c2 = some (.var (some (.ref sl))) := Store.set_same _ _ _
  have l5 : ((σ3.set sl (.list [])).set c2 (.var (some (.ref sl)))) sl = some (.list []) := by rw [Store.set_ne _ _ n22.symm]; exact Store.set_same _ _ _
  have tb5 : rightTab ((σ3.set sl (.list [])).set c2 (.var (some (.ref sl)))) := by
    refine tab_subO tb4 fun b o q => ?_
    have x1 : b ≠ c2 := fun z => by subst z; rw [c24] at q; cases q
    have x2 := ne_fresh q hsl
    rw [Store.set_ne _ _ x1, Store.set_ne _ _ x2]; exact q
  generalize ((σ3.set sl (.list [])).set c2 (.var (some (.ref sl)))) = σ5 at s5 c15 c25 l5 tb5
  obtain ⟨e5, ed5⟩ := up s5
  walk_at "go"
  have hq : y.env.qual ++ "<lambda>" = Str.ofString "_law_right.<locals>." ++ "<lambda>" := by
    show (envX y.cn y.cs y.L y.a y.ccd y.cl).qual ++ _ = _
    rw [hcn]; rfl
  refine w_lambda C hcd (by rw [hq]; exact tb5) rfl (show closureFor _ (envX y.cn y.cs y.L y.a y.ccd y.cl) = _ by rw [hcl]; rfl) fun σ6 f c' nm ctv oc vsq tq hk6 tab6 hf hfn hc' hd hv hfc => ?_
  rw [hq] at tab6 hv hfc
  have n554 : ∀ {b : Addr} {c : Cell}, σ5 b = some c → (∀ o : Obj, c ≠ .obj o) → b ≠ 554 := fun h hc z => by
    obtain ⟨o, q⟩ := tb5.obj
    subst z; rw [q] at h; cases h; exact hc _ rfl
  have s6 : SubO σ σ6 := fun a c h1 h2 q => by have z := s5 a c h1 h2 q; exact hk6 a c (n554 z h2) z
  have c16 := hk6 _ _ (n554 c15 fun _ q => by cases q) c15
  have c26 := hk6 _ _ (n554 c25 fun _ q => by cases q) c25
  have l6 := hk6 _ _ (n554 l5 fun _ q => by cases q) l5
  obtain ⟨e6, ed6⟩ := up s6
  have V := rightVisitor (g := g) (f := f) (c' := c') (c2 := c2) (sl := sl) (nm := nm) (ctv := ctv) (name := "<lambda>") (pp := lamP g) rfl hd hv
  walk_at "go"
  refine w_spec (by assumption) (by assumption) (spec_visitT (Z0 := noObj σ) (ps := []) V t4 hh70 e6 TZ (hZ _ s6) fsl.noObj elZ ⟨hfc, hc', c26, [], l6, .nil⟩ (by simp only [List.length_nil]; omega) fun σ7 hm7 hI7 => ?_) (by omega)
  obtain ⟨-, -, c27, ws, l7, P7⟩ := hI7
  rw [List.nil_append] at P7
  have nsl : ∀ {b : Addr} {c : Cell}, σ6 b = some c → (∀ ws, c ≠ .list ws) → b ≠ sl := fun hb hc z => by subst z; rw [l6] at hb; cases hb; exact hc _ rfl
  have s7 : SubO σ σ7 := fun a c h1 h2 q => hm7 a c (fun z => by subst z; exact fsl c h1 h2 q) h1 (s6 a c h1 h2 q)
  have tab7 : rightTab σ7 := tab_subO tab6 fun b o q => hm7 b _ (nsl q fun _ z => by cases z) (fun _ z => by cases z) q
  have c17 := hm7 _ _ (nsl c16 fun _ z => by cases z) (fun _ z => by cases z) c16
  obtain ⟨e7, ed7⟩ := up s7
  clear hm7 nsl l6 c16 c26 s6 hk6 n554 s5 c15 c25 l5 tb5 e6 ed6 e5 ed5 hf hfn hc' hfc tab6 V c14 c24 tb4 s4 e4 ed4
  walk_at "go"
  refine w_ListComp hh (show closureFor _ (envX y.cn y.cs y.L y.a y.ccd y.cl) = _ by rw [hcl]; rfl) (by decide) rfl (by decide) rfl ?_ fun _ => rfl
  walk_at "go"
  refine w_sortedDict hh ed7 (by omega) fun l8 vs8 ns8 hl8 hi8 hp8 hs8 => ?_
  obtain rfl := A.sorted ris hp8 hs8
  have hv8 := hi8.length
  simp only [ksOf, List.length_map] at hv8
  have s8 := SubS.new (.list vs8) hl8
  have k8 : (σ7.set l8 (.list vs8)) l8 = some (.list vs8) := Store.set_same _ _ _
  generalize σ7.set l8 (.list vs8) = σ8 at s8 k8
  refine ⟨rfl, l8, vs8, rfl, k8, by rw [sizeLine_eq]; omega, fun i ys τ => SubS σ8 τ ∧ PairsAt τ ys (((ksOf es).take i).map fun k => (k, kdfLook D k 0)), ⟨SubS.refl _, .nil⟩, fun i ys τ τ' hs h => ⟨h.1.trans hs, h.2.sub hs⟩, fun i ys τ h => h.1 _ _ (fun _ q => by cases q) k8, ?_, ?_⟩
  · rintro i v ys τ C oC mC hi hvi ⟨h1, h2⟩ eC hC hk
    obtain ⟨n8, t8, hn8, rfl⟩ := ints_get hi8 hvi
    have q1 := s8.trans h1
    have c1' := q1 _ _ (fun _ q => by cases q) c17
    have ed' := q1 _ _ (fun _ q => by cases q) ed7
    have hin : kdfHas D n8 = true := by
      rw [A.has, look_isSome]; exact List.mem_of_getElem? hn8
    refine e_Tuple (e_items_cons (w_compLocal eC hC hk rfl rfl (by decide) (e_items_cons (e_Subscript (w_compCell (c := c1) rfl c1' rfl (by show (relabel _ (envX y.cn y.cs y.L y.a y.ccd y.cl)).names.lookup _ = _; rw [hcs]; rfl) (by decide) (w_compLocal eC hC hk rfl rfl (by decide) (e_dictItem (.inl ed') hin (fun t9 => e_items_nil ?_) rfl fun _ => rfl)))) rfl)) rfl)
    refine w_newTuple (by rw [sizeLine_eq]; exact Nat.le_of_ble_eq_true rfl) fun tp9 htp9 => ?_
    have s9 := SubS.new (.tup [.int n8 t8, .int (kdfLook D n8 0) t9]) htp9
    refine ⟨rfl, h1.trans s9, ?_⟩
    rw [List.take_add_one, hn8]
    simp only [Option.toList_some, List.map_append, List.map_cons, List.map_nil]
    exact (h2.sub s9).snoc ⟨tp9, t8, t9, rfl, Store.set_same _ _ _⟩
  · rintro ys τ ⟨h1, h2⟩ d9 hd9
    have q1 := s8.trans h1
    have s9 := SubS.new (.list ys) hd9
    rw [List.take_of_length_le (by simp only [ksOf, List.length_map]; omega), A.pairs] at h2
    have q2 := q1.trans s9
    refine w_nePairs (hr.le (by omega)) (q2 _ _ (fun _ q => by cases q) l7) (Store.set_same _ _ _) (P7.sub q2) (h2.sub s9) rfl ?_
    have s10 := s7.trans q2.subO
    have tab10 := tab_subS q2 tab7
    have c110 := q2 _ _ (fun _ q => by cases q) c17
    generalize τ.set d9 (.list ys) = σ10 at s10 tab10 c110
    clear q2 s9 h2 q1 h1 hd9 s8 k8 hl8 hi8 hp8 hs8 hv8 c17 l7 P7 tab7 e7 ed7 s7 c27
    obtain ⟨e10, ed10⟩ := up s10
    walk_at "go"
    refine w_For_tup hh ?_ (fun _ _ => rfl) fun _ => rfl
    walk_at "go"
    refine w_newTuple (by rw [sizeLine_eq]; exact Nat.le_of_ble_eq_true rfl) fun tl htl => ?_
    rename_i a1 a2 a3 a4
    have s11 := SubS.new (.tup [.int (-1) a1, .int 13 a2, .int 31 a3, .int 64 a4]) htl
    have k11 : (σ10.set tl (.tup [.int (-1) a1, .int 13 a2, .int 31 a3, .int 64 a4])) tl = some (.tup [.int (-1) a1, .int 13 a2, .int 31 a3, .int 64 a4]) := Store.set_same _ _ _
    generalize σ10.set tl (.tup [.int (-1) a1, .int 13 a2, .int 31 a3, .int 64 a4]) = σ11 at s11 k11
    refine ⟨tl, _, rfl, k11, fun i τ m' => SubS σ11 τ ∧ m' "tree" = some (.ref ta), ⟨SubS.refl _, by walk_at "lk"⟩, fun i m' τ τ' hs h => ⟨h.1.trans hs, h.2⟩, fun i τ m' h => h.1 _ _ (fun _ q => by cases q) k11, ?_, ?_⟩
    · rintro i v τ m' hi hv ⟨h1, hm⟩
      obtain ⟨k, kt, rfl⟩ : ∃ k kt, v = .int k kt := by
        have := List.mem_of_getElem? hv
        simp only [List.mem_cons, List.not_mem_nil, or_false] at this
        rcases this with rfl | rfl | rfl | rfl <;> exact ⟨_, _, rfl⟩
      clear hv hi
      have q1 := s11.trans h1
      have s12 := s10.trans q1.subO
      obtain ⟨e12, ed12⟩ := up s12
      have c112 := q1 _ _ (fun _ q => by cases q) c110
      have hz12 := noObj.sup s12
      refine w_assignName (by walk_at "nm") ?_
      walk_at "go"
      refine w_spec (by assumption) (by assumption) (spec_getElement e12 (TZ.sup hz12) t4 (fun e he => (elZ e he).sup hz12) ris hh70 fun σ13 hs13 => ?_) (by omega)
      have s13 := s12.trans hs13.subS.subO
      have c113 := hs13 _ _ c112
      obtain ⟨e13, ed13⟩ := up s13
      have hhas := A.has k
      have fin : SubS σ11 σ13 := h1.trans hs13.subS
      cases hlk : look k es with
      | none =>
        rw [hlk] at hhas
        generalize hrv : refOf (none : Option El) = rv
        obtain rfl : rv = .none := hrv.symm
        walk_at "go"
        refine w_dictNotIn ed13 ?_
        rw [hhas]
        refine w_neB ?_
        walk_at "go"
        refine (if_neg Bool.false_ne_true : ite _ _ _ = _).mpr ?_
        walk_at "go"
        exact ⟨fin, by walk_at "lk"⟩
      | some e0 =>
        rw [hlk] at hhas
        generalize hrv : refOf (some e0) = rv
        obtain rfl : rv = .ref e0.a := hrv.symm
        walk_at "go"
        refine w_dictNotIn ed13 ?_
        rw [hhas]
        refine w_neB ?_
        walk_at "go"
        refine (if_neg Bool.false_ne_true : ite _ _ _ = _).mpr ?_
        walk_at "go"
        exact ⟨fin, by walk_at "lk"⟩
    · rintro τ m' ⟨h1, hm⟩
      have q1 := s11.trans h1
      walk_at "go"
      exact hQ _ (s10.trans q1.subO) (tab_subS q1 tab10)
end
/-! ## Plain laws of the dict and the list -/
theorem ksOf_insE {el : El} {es : List El} (r : Rising (ksOf es)) : if (look el.k es).isSome then ksOf (insE el es) = ksOf es else (ksOf (insE el es)).Perm (el.k :: ksOf es) := by
  induction es with
  | nil => exact List.Perm.refl _
  | cons x es ih =>
    have h1 := List.pairwise_cons.mp r
    have ih := ih h1.2
    unfold insE
    by_cases q : x.k < el.k
    · rw [if_pos q]
      have hl : look el.k (x :: es) = look el.k es := by
        unfold look; rw [List.find?_cons, show (x.k == el.k) = false by simp; omega]
      rw [hl]
      split at ih
      · rename_i hs; rw [if_pos hs]; show x.k :: ksOf (insE el es) = x.k :: ksOf es; rw [ih]
      · rename_i hs; rw [if_neg hs]
        show (x.k :: ksOf (insE el es)).Perm (el.k :: x.k :: ksOf es)
        exact (ih.cons _).trans (.swap _ _ _)
    · rw [if_neg q]
      by_cases q2 : x.k = el.k
      · rw [if_pos q2]
        have hl : look el.k (x :: es) = some x := by
          unfold look; rw [List.find?_cons, show (x.k == el.k) = true by simpa using q2]
        rw [hl]
        simp only [Option.isSome_some, if_true]
        show el.k :: ksOf es = x.k :: ksOf es
        rw [q2]
      · rw [if_neg q2]
        have hl : look el.k (x :: es) = none := by
          refine List.find?_eq_none.mpr fun y hy => ?_
          rcases List.mem_cons.mp hy with rfl | hy
          · simpa using q2
          · have := h1.1 y.k (List.mem_map.mpr ⟨y, hy, rfl⟩)
            simp; omega
        rw [hl]
        exact List.Perm.refl _
theorem insE_vals {el : El} {es : List El} (r : Rising (ksOf es)) : ∀ e ∈ insE el es, e = el ∨ (e ∈ es ∧ e.k ≠ el.k) := by
  induction es with
  | nil => intro e he; exact .inl (List.mem_singleton.mp he)
  | cons x es ih =>
    have h1 := List.pairwise_cons.mp r
    have ih := ih h1.2
    intro e he
    unfold insE at he
    split at he
    · rename_i q
      rcases List.mem_cons.mp he with rfl | he
      · exact .inr ⟨.head _, by omega⟩
      · exact (ih e he).imp id fun z => ⟨.tail _ z.1, z.2⟩
    · split at he
      · rename_i q q2
        rcases List.mem_cons.mp he with rfl | he
        · exact .inl rfl
        · have := h1.1 e.k (List.mem_map.mpr ⟨e, he, rfl⟩)
          exact .inr ⟨.tail _ he, by omega⟩
      · rename_i q q2
        rcases List.mem_cons.mp he with rfl | he
        · exact .inl rfl
        · rcases List.mem_cons.mp he with rfl | he'
          · exact .inr ⟨.head _, q2⟩
          · have := h1.1 e.k (List.mem_map.mpr ⟨e, he', rfl⟩)
            exact .inr ⟨.tail _ he', by omega⟩
theorem kdfLook_put (D : List (Int × Int)) (k v j : Int) : kdfLook (kdfPut D k v) j 0 = if j = k then v else kdfLook D j 0 := by
  rw [kdfPut_is, kdfLook_is, kdfLook_is]; exact kpr_look_put ..
theorem kdfKeys_put (D : List (Int × Int)) (k v : Int) : (kdfPut D k v).map (·.1) = if kdfHas D k then D.map (·.1) else D.map (·.1) ++ [k] := by
  rw [kdfPut_is, kdfHas_is]
  split
  · rename_i h; exact kpr_keys_old h v
  · rename_i h; exact kpr_keys_new (Bool.not_eq_true _ ▸ h) v
theorem Agree.put {es : List El} {D : List (Int × Int)} (A : Agree es D) (r : Rising (ksOf es)) (el : El) : Agree (insE el es) (kdfPut D el.k el.v) := by
  have hp := ksOf_insE (el := el) r
  refine ⟨?_, fun e he => ?_⟩
  · rw [kdfKeys_put, A.has]
    split
    · rename_i h; rw [if_pos h] at hp; rw [hp]; exact A.keys
    · rename_i h; rw [if_neg h] at hp
      exact (List.perm_append_comm.trans (A.keys.cons el.k)).trans hp.symm
  · rw [kdfLook_put]
    rcases insE_vals r e he with rfl | ⟨h1, h2⟩
    · rw [if_pos rfl]
    · rw [if_neg h2]; exact A.vals e h1
theorem kdfLook_del {D : List (Int × Int)} {k j : Int} (h : j ≠ k) : kdfLook (kdyDel D k) j 0 = kdfLook D j 0 := by
  unfold kdfLook kdyDel
  congr 2
  induction D with
  | nil => rfl
  | cons p D ih =>
    rw [List.filter_cons, List.find?_cons]
    by_cases q : p.1 = k
    · rw [show (!decide (p.1 = k)) = false by simp [q]]
      simp only [Bool.false_eq_true, if_false]
      rw [ih, show decide (p.1 = j) = false by simp; omega]
    · rw [show (!decide (p.1 = k)) = true by simp [q]]
      simp only [if_true, List.find?_cons, ih]
theorem Agree.del {es : List El} {D : List (Int × Int)} (A : Agree es D) (k : Int) : Agree (delE k es) (kdyDel D k) := by
  refine ⟨?_, fun e he => ?_⟩
  · have h1 : (kdyDel D k).map (·.1) = (D.map (·.1)).filter (fun j => j != k) := by
      unfold kdyDel
      rw [List.filter_map]
      congr 1
    have h2 : ksOf (delE k es) = (ksOf es).filter (fun j => j != k) := by
      unfold delE ksOf
      rw [List.filter_map]; rfl
    rw [h1, h2]
    exact A.keys.filter _
  · obtain ⟨h1, h2⟩ := List.mem_filter.mp he
    rw [kdfLook_del (by simpa using h2)]; exact A.vals e h1
theorem Agree.nil : Agree [] [] := ⟨List.Perm.refl _, fun e he => by cases he⟩
theorem Agree.nodup {es : List El} {D : List (Int × Int)} (A : Agree es D) (r : Rising (ksOf es)) : (D.map (·.1)).Nodup :=
  A.keys.nodup_iff.mpr (r.imp fun h => by omega)
theorem kdfLook_mem : ∀ {D : List (Int × Int)} {p : Int × Int}, (D.map (·.1)).Nodup → p ∈ D → kdfLook D p.1 0 = p.2
  | q :: D, p, hn, hp => by
    rw [List.map_cons, List.nodup_cons] at hn
    unfold kdfLook
    rw [List.find?_cons]
    rcases List.mem_cons.mp hp with rfl | hp
    · rw [show decide (p.1 = p.1) = true by simp]; rfl
    · have : q.1 ≠ p.1 := fun z => hn.1 (z ▸ List.mem_map.mpr ⟨p, hp, rfl⟩)
      rw [show decide (q.1 = p.1) = false by simpa using this]
      exact kdfLook_mem hn.2 hp
theorem kdfPut_take {D : List (Int × Int)} {i : Nat} {p : Int × Int} (hn : (D.map (·.1)).Nodup) (h : D[i]? = some p) : kdfPut (D.take i) p.1 p.2 = D.take (i + 1) := by
  rw [kdfPut_is, kpr_put_new, List.take_add_one, h]; · rfl
  rw [← kdfHas_is]
  cases q : kdfHas (D.take i) p.1 with
  | false => rfl
  | true =>
    obtain ⟨hlt, hp⟩ := List.getElem?_eq_some_iff.mp h
    have hm := kdfHas_iff.mp q
    have hn2 := hn
    rw [← List.take_append_drop i D, List.drop_eq_getElem_cons hlt, List.map_append, List.map_cons] at hn2
    exact absurd (by rw [hp]) ((List.nodup_append.mp hn2).2.2 _ hm _ (.head _))
theorem rising_len : ∀ {l : List Int} {lo : Int}, Rising l → (∀ x ∈ l, lo ≤ x ∧ x < 64) → lo ≤ 64 → (l.length : Int) ≤ 64 - lo
  | [], lo, _, _, h => by simp; omega
  | x :: l, lo, r, hx, h => by
    have h1 := List.pairwise_cons.mp r
    have h2 := hx x (.head _)
    have := rising_len (l := l) (lo := x + 1) h1.2 (fun y hy => ⟨by have := h1.1 y hy; omega, (hx y (.tail _ hy)).2⟩) (by omega)
    simp only [List.length_cons]; omega
def InRange (es : List El) : Prop := ∀ e ∈ es, 0 ≤ e.k ∧ e.k < 64
theorem InRange.len {es : List El} (h : InRange es) (r : Rising (ksOf es)) : es.length ≤ 64 := by
  have := rising_len (l := ksOf es) (lo := 0) r (fun x hx => by obtain ⟨e, he, rfl⟩ := List.mem_map.mp hx; exact h e he) (by omega)
  simp at this; omega
theorem InRange.ins {es : List El} {el : El} (h : InRange es) (he : 0 ≤ el.k ∧ el.k < 64) : InRange (insE el es) := fun e hm => (mem_insE hm).elim (fun q => q ▸ he) (h e)
theorem InRange.del {es : List El} {k : Int} (h : InRange es) : InRange (delE k es) := fun e hm => h e (delE_sub.subset hm)
/-! ## The script, in the ground -/
section
variable {g : Gl} {x : Fx} {σ : Store} {m : Loc} {E : Value → Heap → Prop}
theorem At.baseList {h : Heap} {a : Addr} {vs : Array Value} (H : At g x σ m h) (hb : x.h₀.IsList a vs) : h.IsList a vs := by
  obtain ⟨o, ho, r⟩ := hb
  exact ⟨o, H.1.keep _ _ ho, r⟩
theorem w_itemB {a : Addr} {vs : List Value} {value slice : Expr} {k : Int} {t : Tok} {v : Value} {Q : Value → Store → Loc → Prop} (e : x.h₀.IsList a vs.toArray) (h0 : 0 ≤ k) (h1 : k < 2 ^ 63) (hv : vs[k.toNat]? = some v) (h : Q v σ m)
    (hs' : subscripted slice false (.ref a) (.int k t) = operate [.ref a, .int k t] (getItem (.ref a) (.int k t))) : W g x (subscriptTail value slice (.ref a) (.int k t)) σ m Q E := by
  intro ok s₀ σ₀ s hs H
  have e := H.baseList e
  exact tail_any e.typeIs slot_list_getitem.lookup (wpAny_getItem_list e h0 h1 (by simpa using hv) ⟨σ, m, hs, H, h⟩) hs'
theorem w_lenB {a : Addr} {vs : List Value} {Q : Value → Store → Loc → Prop} (e : x.h₀.IsList a vs.toArray) (hz : vs.length < 2 ^ 60) (h : ∀ t, Q (.int vs.length t) σ m) : W g x (call (.builtin "len") [.ref a]) σ m Q E := by
  intro ok s₀ σ₀ s hs H
  refine call_len_list (H.baseList e) (by rw [List.size_toArray]; omega) ⟨σ, m, hs.mk' _ _, H, ?_⟩
  rw [List.size_toArray]; exact h _
theorem w_truthB {a : Addr} {vs : List Value} {Q : Bool → Store → Loc → Prop} (e : x.h₀.IsList a vs.toArray) (hz : vs.length < 2 ^ 60) (h : Q (!vs.isEmpty) σ m) : W g x (truthy (.ref a)) σ m Q E := by
  intro ok s₀ σ₀ s hs H
  refine wpAny_truthy_list (H.baseList e) (by rw [List.size_toArray]; omega) ?_
  refine ⟨σ, m, ?_, H, ?_⟩
  · exact hs.toks _
  · cases vs <;> simpa using h
theorem slice_mid (vs : List Value) (j k : Int) (h0 : 0 ≤ j) (h1 : 0 ≤ k) : (slicePick vs.toArray (some j) (some k) none).toList = (vs.take k.toNat).drop j.toNat := by
  have e : sliceBounds (some j) (some k) none vs.toArray.size = (((min j.toNat vs.toArray.size : Nat) : Int), ((min k.toNat vs.toArray.size : Nat) : Int), 1) := by
    simp only [sliceBounds, Option.getD_none, show (1 : Int) > 0 by decide, if_true, if_neg (show ¬ (k < 0) by omega), if_neg (show ¬ (j < 0) by omega)]
    congr 1
    · omega
    · congr 1; omega
  rw [kmk_pick_nat _ e]
  show (vs.drop (min j.toNat vs.toArray.size)).take (min k.toNat vs.toArray.size - min j.toNat vs.toArray.size) = _
  rw [List.size_toArray, kmk_drop_min, List.drop_take]
  by_cases hj : j.toNat ≤ vs.length
  · by_cases hk : k.toNat ≤ vs.length
    · rw [Nat.min_eq_left hj, Nat.min_eq_left hk]
    · rw [List.take_of_length_le, List.take_of_length_le] <;> rw [List.length_drop] <;> omega
  · rw [List.drop_eq_nil_of_le (by omega)]; simp
theorem w_slicedB {a sl : Addr} {vs : List Value} {value slice : Expr} {l u : Value} {lo hi : Option Int} {Q : Value → Store → Loc → Prop} (e : x.h₀.IsList a vs.toArray) (es : σ sl = some (.raw { cls := .type "slice", data := .fields #[l, u, .none] })) (pl : IsPart l lo) (pu : IsPart u hi) (hz : vs.length ≤ sizeLine)
    (hs' : subscripted slice false (.ref a) (.ref sl) = operate [.ref sl, .ref a] (getItem (.ref a) (.ref sl))) (h : ∀ d, σ d = none → Q (.ref d) (σ.set d (.list (slicePick vs.toArray lo hi none).toList)) m) : W g x (subscriptTail value slice (.ref a) (.ref sl)) σ m Q E := by
  intro ok s₀ σ₀ s hs H
  have e := H.baseList e
  obtain ⟨F, news, dx, R⟩ := id H
  have l1 : ∀ p ∈ news, p.1 < s.heap.objs.size := fun p hp => Heap.lt_size (R.N p hp).1
  have hsl : s.heap.IsSliceOf sl l u .none := by
    obtain ⟨o, ho, rfl⟩ := R.cells sl _ es
    exact ⟨_, (R.N _ ho).1, rfl, rfl⟩
  refine tail_any e.typeIs list_getitem_lookup (wpAny_getItem_list_slice e hsl pl pu .none (by simp) ⟨_, _, (hs.heap _).new _ (R.fresh l1), ⟨F.push _, _, _, R.new l1 (c := .list (slicePick vs.toArray lo hi none).toList) (fun _ _ q => by cases q) (R.N.push F { cls := .type "list", data := .seq (slicePick vs.toArray lo hi none) }) fun _ hm => ⟨0, ?_⟩⟩, h _ (R.fresh l1)⟩ (by rw [List.size_toArray]; exact hz)) hs'
  rw [Array.toArray_toList]; exact hm
end
/-! ## The state of the law -/
section
variable {g : Gl} {t : Nat} {Z : Store} {cr : Addr}
def NodeLike (c : Cell) : Prop := (∃ C fs, c = .inst C fs) ∨ ∃ vs, c = .list vs
def Plain (Z : Store) : Prop := ∀ a c, Z a = some c → NodeLike c ∨ ∃ vs, c = .tup vs
theorem Plain.sup {σ σ' : Store} (P : Plain Z) (hs : Sup Z σ) (ho : SubO σ σ') : Sup Z σ' := fun a c e => by
  refine ho a c (fun P' q => ?_) (fun o q => ?_) (hs a c e) <;> subst q <;> rcases P a _ e with (⟨C, fs, q⟩ | ⟨vs, q⟩) | ⟨vs, q⟩ <;> cases q
theorem Plain.set (P : Plain Z) {a : Addr} {c : Cell} (h : NodeLike c ∨ ∃ vs, c = .tup vs) : Plain (Z.set a c) := fun b cb e => by
  by_cases q : b = a
  · subst q; rw [Store.set_same] at e; cases e; exact h
  · rw [Store.set_ne _ _ q] at e; exact P b cb e
theorem Own.like {σ : Store} {h n : Nat} {a : Addr} {es : List El} {fp : List Addr} (o : Own Z σ cr t h n a es fp) : ∀ b ∈ fp, ∃ c, σ b = some c ∧ NodeLike c := by
  induction h generalizing n a es fp with
  | zero =>
    obtain ⟨l, c, xs, kids, nd, -, -, rfl⟩ := o
    obtain rfl : kids = [] := List.length_eq_zero_iff.mp nd.num
    intro b hb
    simp at hb
    rcases hb with rfl | rfl | rfl
    · obtain ⟨tk, q⟩ := nd.node; exact ⟨_, q, .inl ⟨_, _, rfl⟩⟩
    · exact ⟨_, nd.el, .inr ⟨_, rfl⟩⟩
    · exact ⟨_, nd.ch, .inr ⟨_, rfl⟩⟩
  | succ h ih =>
    obtain ⟨l, c, xs, kids, nd, -, -, rfl⟩ := o
    intro b hb
    simp only [List.mem_cons, List.mem_flatMap] at hb
    rcases hb with rfl | rfl | rfl | ⟨k, m, hb⟩
    · obtain ⟨tk, q⟩ := nd.node; exact ⟨_, q, .inl ⟨_, _, rfl⟩⟩
    · exact ⟨_, nd.el, .inr ⟨_, rfl⟩⟩
    · exact ⟨_, nd.ch, .inr ⟨_, rfl⟩⟩
    · rcases (nd.kid k m).2 with q | q
      · rw [q.2] at hb; cases hb
      · exact ih q b hb
theorem TreeSt.like {σ : Store} {ta : Addr} {io : Bool} {es : List El} {fp : List Addr} (T : TreeSt Z σ ta cr t io es fp) : ∀ b ∈ ta :: fp, ∃ c, σ b = some c ∧ NodeLike c := by
  obtain ⟨⟨cur, root, tkT, stT, eT, eCur, h, n, ht, hr⟩, hout, zta, cx⟩ := T
  intro b hb
  rcases List.mem_cons.mp hb with rfl | hb
  · exact ⟨_, eT, .inl ⟨_, _, rfl⟩⟩
  · rcases hr with ⟨-, rfl⟩ | q
    · cases hb
    · exact q.like b hb
theorem TreeSt.notIn {σ : Store} {ta : Addr} {io : Bool} {es : List El} {fp : List Addr} (T : TreeSt Z σ ta cr t io es fp) {b : Addr} {c : Cell} (e : σ b = some c) (hc : ¬ NodeLike c) : b ∉ ta :: fp := fun q => by
  obtain ⟨c', e', h⟩ := T.like b q
  rw [e] at e'; cases e'; exact hc h
theorem TreeSt.subO {σ σ' : Store} {ta : Addr} {io : Bool} {es : List El} {fp : List Addr} (T : TreeSt Z σ ta cr t io es fp) (P : Plain Z) (hs : SubO σ σ') : TreeSt Z σ' ta cr t io es fp := by
  have hl := T.like
  obtain ⟨⟨cur, root, tkT, stT, eT, eCur, h, n, ht, hr⟩, hout, zta, cx⟩ := T
  have up : ∀ {b c}, σ b = some c → NodeLike c → σ' b = some c := fun {b c} e q => hs b c (fun P' z => by subst z; rcases q with ⟨_, _, q⟩ | ⟨_, q⟩ <;> cases q) (fun P' z => by subst z; rcases q with ⟨_, _, q⟩ | ⟨_, q⟩ <;> cases q) e
  have fr : ∀ b ∈ fp, σ' b = σ b := fun b hb => by obtain ⟨c, e, q⟩ := hl b (.tail _ hb); rw [e]; exact up e q
  exact ⟨⟨cur, root, tkT, stT, up eT (.inl ⟨_, _, rfl⟩), eCur, h, n, ht, hr.imp id fun q => q.frame fr⟩, hout, zta, cx.t3, cx.t4, P.sup cx.sup hs, up cx.crc (.inl ⟨_, _, rfl⟩), cx.zcr, cx.crf, cx.nd, cx.out, cx.els, cx.ris⟩
/-- a value told of as closed -/
def ClosedV (Z : Store) (t : Nat) (v : Value) : Prop := ∃ tp ta pl pvs ps es, v = .ref tp ∧ Z tp = some (.tup [.ref ta, .ref pl]) ∧ Z pl = some (.list pvs) ∧ PairsAt Z pvs ps ∧ Shut Z ta t es ∧ Agree es ps ∧ InRange es
theorem PairsAt.sup {σ σ' : Store} {vs : List Value} {ps : List (Int × Int)} (P : PairsAt σ vs ps) (h : Sup σ σ') : PairsAt σ' vs ps := P.sub h.subS
theorem ClosedV.sup {Z' : Store} {v : Value} (h : ClosedV Z t v) (hs : Sup Z Z') : ClosedV Z' t v := by
  obtain ⟨tp, ta, pl, pvs, ps, es, q1, q2, q3, q4, q5, q6, q7⟩ := h
  exact ⟨tp, ta, pl, pvs, ps, es, q1, hs _ _ q2, hs _ _ q3, q4.sup hs, q5.sup hs, q6, q7⟩
structure LawSt (Z τ : Store) (c1 d cl ta cr : Addr) (t : Nat) (io : Bool) (es : List El) (fp : List Addr) (D : List (Int × Int)) (cvs : List Value) : Prop where
  T : TreeSt Z τ ta cr t io es fp
  pz : Plain Z
  cell : τ c1 = some (.var (some (.ref d)))
  dict : τ d = some (.dict D)
  list : τ cl = some (.list cvs)
  out : cl ∉ ta :: fp
  zl : Z cl = none
  rng : InRange es
  tab : rightTab τ
  clo : ∀ v ∈ cvs, ClosedV Z t v
variable {τ τ' : Store} {c1 d cl ta : Addr} {io : Bool} {es es' : List El} {fp fp' : List Addr} {D D' : List (Int × Int)} {cvs : List Value}
theorem LawSt.subO (L : LawSt Z τ c1 d cl ta cr t io es fp D cvs) (hs : SubO τ τ') (tab : rightTab τ') : LawSt Z τ' c1 d cl ta cr t io es fp D cvs :=
  ⟨L.T.subO L.pz hs, L.pz, hs _ _ (fun _ q => by cases q) (fun _ q => by cases q) L.cell, hs _ _ (fun _ q => by cases q) (fun _ q => by cases q) L.dict, hs _ _ (fun _ q => by cases q) (fun _ q => by cases q) L.list, L.out, L.zl, L.rng, tab, L.clo⟩
theorem LawSt.subS (L : LawSt Z τ c1 d cl ta cr t io es fp D cvs) (hs : SubS τ τ') : LawSt Z τ' c1 d cl ta cr t io es fp D cvs := L.subO hs.subO (tab_subS hs L.tab)
theorem LawSt.sup (L : LawSt Z τ c1 d cl ta cr t io es fp D cvs) (hs : Sup τ τ') : LawSt Z τ' c1 d cl ta cr t io es fp D cvs := L.subS hs.subS
theorem notLike_var {v : Option Value} : ¬ NodeLike (.var v) := by rintro (⟨_, _, q⟩ | ⟨_, q⟩) <;> cases q
theorem notLike_dict {v : List (Int × Int)} : ¬ NodeLike (.dict v) := by rintro (⟨_, _, q⟩ | ⟨_, q⟩) <;> cases q
theorem notLike_obj {v : Obj} : ¬ NodeLike (.obj v) := by rintro (⟨_, _, q⟩ | ⟨_, q⟩) <;> cases q
theorem notLike_tup {v : List Value} : ¬ NodeLike (.tup v) := by rintro (⟨_, _, q⟩ | ⟨_, q⟩) <;> cases q
/-- the tree was turned -/
theorem LawSt.step {Z' : Store} (L : LawSt Z τ c1 d cl ta cr t io es fp D cvs) (T' : TreeSt Z' τ' ta cr t io es' fp') (hz : Sup Z Z') (pz : Plain Z') (zl : Z' cl = none) (st : Step (ta :: fp) (ta :: fp') τ τ') (rng : InRange es') :
    LawSt Z' τ' c1 d cl ta cr t io es' fp' D cvs :=
  ⟨T', pz, st.keep _ _ (L.T.notIn L.cell notLike_var) L.cell, st.keep _ _ (L.T.notIn L.dict notLike_dict) L.dict, st.keep _ _ L.out L.list, fun q => (st.new cl q).elim L.out fun z => (by rw [L.list] at z; cases z), zl, rng,
    tab_subO L.tab fun b o e => st.keep _ _ (L.T.notIn e notLike_obj) e, fun v hv => (L.clo v hv).sup hz⟩
theorem Plain.no {c : Cell} (P : Plain Z) (hs : Sup Z τ) {b : Addr} (e : τ b = some c) (hc : ¬ NodeLike c) (ht : ∀ vs, c ≠ .tup vs) : Z b = none := by
  cases q : Z b with
  | none => rfl
  | some c' =>
    have := hs _ _ q
    rw [e] at this; cases this
    rcases P b c q with h | ⟨vs, h⟩
    · exact absurd h hc
    · exact absurd h (ht vs)
/-- one cell beside the tree is turned -/
theorem LawSt.other {b : Addr} {c : Cell} (L : LawSt Z τ c1 d cl ta cr t io es fp D cvs) (hb : b ∉ ta :: fp) (hcr : b ≠ cr) (zb : Z b = none) : TreeSt Z (τ.set b c) ta cr t io es fp := by
  obtain ⟨⟨cur, root, tkT, stT, eT, eCur, h, n, ht, hr⟩, hout, zta, cx⟩ := L.T
  simp only [List.mem_cons, not_or] at hb
  have fr : ∀ q, q ≠ b → (τ.set b c) q = τ q := fun q hq => Store.set_ne _ _ hq
  refine ⟨⟨cur, root, tkT, stT, by rw [fr _ (Ne.symm hb.1)]; exact eT, eCur, h, n, ht, hr.imp id fun q => q.frame fun b' hb' => fr _ fun z => hb.2 (z ▸ hb')⟩, hout, zta, cx.t3, cx.t4, fun q cq e => ?_, by rw [fr _ (Ne.symm hcr)]; exact cx.crc, cx.zcr, cx.crf, cx.nd, cx.out, cx.els, cx.ris⟩
  rw [fr q fun z => by rw [z, zb] at e; cases e]
  exact cx.sup q cq e
/-- the dict is turned -/
theorem LawSt.model (L : LawSt Z τ c1 d cl ta cr t io es fp D cvs) : LawSt Z (τ.set d (.dict D')) c1 d cl ta cr t io es fp D' cvs := by
  have zd := L.pz.no L.T.cx.sup L.dict notLike_dict (fun _ q => by cases q)
  have hcr : d ≠ cr := ne_cell L.dict L.T.cx.crc (fun q => by cases q)
  have h1 : c1 ≠ d := ne_cell L.cell L.dict (fun q => by cases q)
  have h2 : cl ≠ d := ne_cell L.list L.dict (fun q => by cases q)
  refine ⟨L.other (L.T.notIn L.dict notLike_dict) hcr zd, L.pz, by rw [Store.set_ne _ _ h1]; exact L.cell, Store.set_same _ _ _, by rw [Store.set_ne _ _ h2]; exact L.list, L.out, L.zl, L.rng, tab_subO L.tab fun b o e => ?_, L.clo⟩
  rw [Store.set_ne _ _ (ne_cell e L.dict (fun q => by cases q))]; exact e
/-- the list of the closed is turned -/
theorem LawSt.closed (L : LawSt Z τ c1 d cl ta cr t io es fp D cvs) {cvs' : List Value} (h : ∀ v ∈ cvs', ClosedV Z t v) : LawSt Z (τ.set cl (.list cvs')) c1 d cl ta cr t io es fp D cvs' := by
  have hcr : cl ≠ cr := ne_cell L.list L.T.cx.crc (fun q => by cases q)
  have h1 : c1 ≠ cl := ne_cell L.cell L.list (fun q => by cases q)
  have h2 : d ≠ cl := ne_cell L.dict L.list (fun q => by cases q)
  refine ⟨L.other L.out hcr L.zl, L.pz, by rw [Store.set_ne _ _ h1]; exact L.cell, by rw [Store.set_ne _ _ h2]; exact L.dict, Store.set_same _ _ _, L.out, L.zl, L.rng, tab_subO L.tab fun b o e => ?_, h⟩
  rw [Store.set_ne _ _ (ne_cell e L.list (fun q => by cases q))]; exact e
/-- a plain new cell goes into the still store -/
theorem LawSt.grow {a : Addr} {c : Cell} (L : LawSt Z τ c1 d cl ta cr t io es fp D cvs) (ha : τ a = none) (hs : Sup τ τ') (e : τ' a = some c) (hc : NodeLike c ∨ ∃ vs, c = .tup vs) : LawSt (Z.set a c) τ' c1 d cl ta cr t io es fp D cvs := by
  have za : Z a = none := L.T.cx.sup.none ha
  have L' := L.sup hs
  refine ⟨L.T.grow ha hs e, L.pz.set hc, L'.cell, L'.dict, L'.list, L'.out, ?_, L'.rng, L'.tab, fun v hv => (L.clo v hv).sup (Sup.new _ za)⟩
  rw [Store.set_ne _ _ (ne_fresh L.list ha)]; exact L.zl
end
/-! ## The parts of the law, by their places -/
noncomputable def lawOuter (g : Gl) : List Stmt := forBody (nthS (fnBody g 588) 7)
noncomputable def lawInner (g : Gl) : List Stmt := forBody (nthS (lawOuter g) 2)
noncomputable def lawIf1 (g : Gl) : Stmt := nthS (lawInner g) 1
noncomputable def lawSet (g : Gl) : List Stmt := ifBody (lawIf1 g)
noncomputable def lawIf2 (g : Gl) : Stmt := nthS (ifElse (lawIf1 g)) 0
noncomputable def lawIns (g : Gl) : List Stmt := ifBody (lawIf2 g)
noncomputable def lawIf3 (g : Gl) : Stmt := nthS (ifElse (lawIf2 g)) 0
noncomputable def lawDel (g : Gl) : List Stmt := ifBody (lawIf3 g)
/-- the law's own frame -/
structure LF (g : Gl) (y : Fx) (c1 : Addr) : Prop where
  hh : hpN y.hd
  hr : Room y 330
  ok : y.Ok g
  ho : y.outer = []
  G : Grd g y
  C : CodeHd y.base 556 554
  cs : y.cs = fnScope g 588
  cl : y.cl = ([("model", c1)] : List (Str × Addr))
structure LLoc (m : Loc) (ta cl : Addr) (t : Nat) (io : Bool) : Prop where
  tree : m "tree" = some (.ref ta)
  least : ∃ tk, m "least" = some (.int ((t - 1 : Nat) : Int) tk)
  rising : m "rising" = some (.bool io)
  closed : m "closed" = some (.ref cl)
  value : ∃ v tv, m "value" = some (.int v tv)
section
variable {g : Gl} {y : Fx} {c1 d cl ta cr : Addr} {t : Nat} {io : Bool} {Z σ : Store} {m : Loc} {es : List El} {fp : List Addr} {D : List (Int × Int)} {cvs : List Value} {E : Value → Heap → Prop}
/-- what a deed may leave -/
def Left (Z0 : Store) (c1 d cl ta cr : Addr) (t : Nat) (io : Bool) (cvs : List Value) (kv rv : Value) (Q : Flow → Store → Loc → Prop) : Prop :=
  ∀ Z' σ' m' es' fp' D', Sup Z0 Z' → LawSt Z' σ' c1 d cl ta cr t io es' fp' D' cvs → Agree es' D' → LLoc m' ta cl t io → m' "kind" = some kv → m' "rest" = some rv → Q .next σ' m'
theorem LawSt.len (L : LawSt Z σ c1 d cl ta cr t io es fp D cvs) : es.length ≤ 64 := L.rng.len L.T.cx.ris
theorem law_set {kv rv : Value} {key : Int} {kt : Tok} {Q : Flow → Store → Loc → Prop} (F : LF g y c1) (L : LawSt Z σ c1 d cl ta cr t io es fp D cvs) (A : Agree es D) (M : LLoc m ta cl t io) (hk : m "kind" = some kv) (hre : m "rest" = some rv) (hkey : m "key" = some (.int key kt)) (h0 : 0 ≤ key ∧ key < 64)
    (hQ : Left Z c1 d cl ta cr t io cvs kv rv Q) : W g y (execs (lawSet g) y.env) σ m Q E := by
  obtain ⟨hh, hr, ok, ho, G, C, hcs, hcl⟩ := F
  obtain ⟨m1, ⟨tk, m2⟩, m3, m4, v, tv, m5⟩ := M
  conv at hcs => rhs; whnf
  conv => enter [3, 1]; whnf
  have hlen := L.len
  have hDl := A.len
  obtain ⟨cur, root, tkr, st, eT, -⟩ := L.T.cell
  walk_at "go"
  refine w_setItemT (hp := hpN) (k := 91) eT hh (hr.le (by omega)) (spec_setItemT L.T (by omega) fun σ1 fp1 a ha T1 st => ?_)
  have za := L.T.cx.sup.none ha
  have hz := Sup.new (σ := Z) (kvC (.int key kt) (.int v tv)) za
  have L1 := L.step T1 hz (L.pz.set (.inl (.inl ⟨_, _, rfl⟩))) (by rw [Store.set_ne _ _ (ne_fresh L.list ha)]; exact L.zl) st (L.rng.ins h0)
  have ec1 := L1.cell
  walk_at "go"
  refine w_dictSet L1.dict (by omega) ?_
  walk_at "go"
  exact hQ _ _ _ _ _ _ hz L1.model (A.put L.T.cx.ris ⟨a, key, v⟩) ⟨by walk_at "lk", ⟨_, by walk_at "lk"⟩, by walk_at "lk", by walk_at "lk", _, _, by walk_at "lk"⟩ (by walk_at "lk") (by walk_at "lk")
end
section
variable {g : Gl} {y : Fx} {c1 d cl ta cr : Addr} {t : Nat} {io : Bool} {Z σ : Store} {m : Loc} {es : List El} {fp : List Addr} {D : List (Int × Int)} {cvs : List Value} {E : Value → Heap → Prop}
theorem law_ins {kv rv : Value} {key : Int} {kt : Tok} {Q : Flow → Store → Loc → Prop} (F : LF g y c1) (L : LawSt Z σ c1 d cl ta cr t io es fp D cvs) (A : Agree es D) (M : LLoc m ta cl t io) (hk : m "kind" = some kv) (hre : m "rest" = some rv) (hkey : m "key" = some (.int key kt)) (h0 : 0 ≤ key ∧ key < 64)
    (hQ : Left Z c1 d cl ta cr t io cvs kv rv Q) : W g y (execs (lawIns g) y.env) σ m Q E := by
  obtain ⟨hh, hr, ok, ho, G, C, hcs, hcl⟩ := F
  obtain ⟨m1, ⟨tk, m2⟩, m3, m4, v, tv, m5⟩ := M
  conv at hcs => rhs; whnf
  conv => enter [3, 1]; whnf
  have hlen := L.len
  have hDl := A.len
  obtain ⟨cur, root, tkr, st, eT, -⟩ := L.T.cell
  have hhas := A.has key
  walk_at "go"
  refine w_spec (by assumption) (by assumption) (spec_newKV fun σ1 a ha ea hb => ?_) (by omega)
  have hs : Sup σ σ1 := fun b cb e => by rw [hb b (ne_fresh e ha)]; exact e
  have za := L.T.cx.sup.none ha
  have hz := Sup.new (σ := Z) (kvC (.int key kt) (.int v tv)) za
  have L1 := L.grow ha hs ea (.inl (.inl ⟨_, _, rfl⟩))
  have eT1 := hs _ _ eT
  walk_at "go"
  refine w_spec (by assumption) (by assumption) (spec_insertElement (el := ⟨a, key, v⟩) L1.T ⟨kt, tv, Store.set_same _ _ _⟩ (by omega) fun σ2 fp2 T2 st2 => ?_) (by omega)
  have L2 := L1.step T2 (.refl _) L1.pz L1.zl st2 (L.rng.ins h0)
  have ec2 := L2.cell
  have ed2 := L2.dict
  show Next _ _ _ _ _ _ _ _
  have hlook' : (⟨a, key, v⟩ : El).k = key := rfl
  cases hlk : look key es with
  | none =>
    rw [hlk] at hhas
    generalize hrv : refOf (none : Option El) = rv
    obtain rfl : rv = .none := hrv.symm
    walk_at "go"
    refine w_dictNotIn ed2 ?_
    rw [hhas]
    refine w_neB ?_
    walk_at "go"
    refine (if_neg Bool.false_ne_true : ite _ _ _ = _).mpr ?_
    walk_at "go"
    refine w_dictSet L2.dict (by omega) ?_
    walk_at "go"
    exact hQ _ _ _ _ _ _ hz L2.model (A.put L.T.cx.ris ⟨a, key, v⟩) ⟨by walk_at "lk", ⟨_, by walk_at "lk"⟩, by walk_at "lk", by walk_at "lk", _, _, by walk_at "lk"⟩ (by walk_at "lk") (by walk_at "lk")
  | some e0 =>
    rw [hlk] at hhas
    obtain ⟨hm0, hk0⟩ := look_mem hlk
    obtain ⟨k0, v0, ek0⟩ := L.T.cx.els e0 hm0
    have ek2 := L2.T.cx.sup _ _ (hz _ _ ek0)
    have hv0 := A.vals e0 hm0
    rw [hk0] at hv0
    generalize hrv : refOf (some e0) = rv
    obtain rfl : rv = .ref e0.a := hrv.symm
    walk_at "go"
    refine w_dictNotIn ed2 ?_
    rw [hhas]
    refine w_neB ?_
    walk_at "go"
    refine (if_neg Bool.false_ne_true : ite _ _ _ = _).mpr ?_
    walk_at "go"
    refine w_spec (by assumption) (by assumption) (spec_value ek2 rfl ?_) (by omega)
    walk_at "go"
    refine w_dictItem ed2 hhas (fun _ => ?_) rfl fun _ => rfl
    rw [hv0]
    walk_at "go"
    rw [show (e0.v != e0.v) = false by simp]
    walk_at "go"
    refine w_dictSet L2.dict (by omega) ?_
    walk_at "go"
    exact hQ _ _ _ _ _ _ hz L2.model (A.put L.T.cx.ris ⟨a, key, v⟩) ⟨by walk_at "lk", ⟨_, by walk_at "lk"⟩, by walk_at "lk", by walk_at "lk", _, _, by walk_at "lk"⟩ (by walk_at "lk") (by walk_at "lk")
end
section
variable {g : Gl} {y : Fx} {c1 d cl ta cr : Addr} {t : Nat} {io : Bool} {Z σ : Store} {m : Loc} {es : List El} {fp : List Addr} {D : List (Int × Int)} {cvs : List Value} {E : Value → Heap → Prop}
theorem w_DeleteSub {x : Fx} {o i : Expr} {p pos : Pos} {Q : Flow → Store → Loc → Prop}
    (h : W g x (eval o x.env) σ m (fun ov σ m => W g x (eval i x.env) σ m (fun iv σ m => W g x (delItem ov iv) σ m (fun _ => Q .next) E) E) E) : W g x (exec (.Delete [.Subscript o i p] pos) x.env) σ m Q E := by
  intro ok s₀ σ₀ s hs H
  refine wpAny_Delete (wpAny_deleteEach_cons ?_)
  rw [arm_delete_Subscript]
  refine wpAny_bind (h.use ok hs H fun ov s1 σ1 m1 hs1 H1 h1 => wpAny_bind (wpAny_holding (h1.use ok hs1 H1 fun iv s2 σ2 m2 hs2 H2 h2 => ?_)))
  refine wpAny_bind (wpAny_standAt (wpAny_bind (wpAny_holding (h2.use ok hs2 H2 fun _ s3 σ3 m3 hs3 H3 h3 => ?_))))
  exact wpAny_release' (wpAny_deleteEach_nil ⟨σ3, m3, hs3, H3, h3⟩)
theorem TreeSt.read {σ : Store} (T : TreeSt Z σ ta cr t io es fp) : ∃ cur root tk st h n, σ ta = some (treeC (.ref cr) (.bool false) cur (.int t tk) (.ref root) (.int es.length st) (.bool io)) ∧ Tr σ t h n root es ∧ (h = 0 ∨ 1 ≤ n) ∧ h ≤ es.length ∧
    ∃ tk1 c l k, σ root = some (nodeC (.int t tk1) (.ref c) (.bool (h == 0)) l k) := by
  obtain ⟨⟨cur, root, tk, st, eT, eCur, h, n, ht, hr⟩, hout, zta, cx⟩ := T
  have tr : Tr σ t h n root es := hr.elim (fun q => q.1.sup cx.sup) fun q => q.tr cx.sup cx.crc
  obtain ⟨c0, l0, k0, xs0, kids0, nd0, -⟩ := Tr_iff.mp tr
  obtain ⟨tk0, e0⟩ := nd0.node
  exact ⟨_, _, _, _, h, n, eT, tr, ht, tr.height cx.t3 ht, tk0, c0, l0, k0, e0⟩
set_option maxHeartbeats 4000000 in
theorem law_del {kv : Value} {rest key : Int} {rt kt : Tok} {Q : Flow → Store → Loc → Prop} (F : LF g y c1) (L : LawSt Z σ c1 d cl ta cr t io es fp D cvs) (A : Agree es D) (M : LLoc m ta cl t io) (hk : m "kind" = some kv) (hre : m "rest" = some (.int rest rt)) (hkey : m "key" = some (.int key kt)) (hin : kdfHas D key = true)
    (hQ : Left Z c1 d cl ta cr t io cvs kv (.int rest rt) Q) : W g y (execs (lawDel g) y.env) σ m Q E := by
  obtain ⟨hh, hr, ok, ho, G, C, hcs, hcl⟩ := F
  obtain ⟨m1, ⟨tk, m2⟩, m3, m4, v, tv, m5⟩ := M
  conv at hcs => rhs; whnf
  conv => enter [3, 1]; whnf
  have hlen := L.len
  have hDl := A.len
  have hhas := A.has key
  rw [hin] at hhas
  obtain ⟨e0, hlk⟩ := Option.isSome_iff_exists.mp hhas.symm
  obtain ⟨hm0, hk0⟩ := look_mem hlk
  obtain ⟨k0, v0, ek0⟩ := L.T.cx.els e0 hm0
  have hv0 := A.vals e0 hm0
  rw [hk0] at hv0
  obtain ⟨cur, root, tkr, st, h, n, eT, tr, htr, hhl, -⟩ := L.T.read
  walk_at "go"
  refine w_spec (by assumption) (by assumption) (spec_getElement eT tr L.T.cx.t4 (fun e he => (L.T.cx.els e he).sup L.T.cx.sup) L.T.cx.ris (by omega) fun σ1 hs1 => ?_) (by omega)
  rw [hlk]
  generalize hrv : refOf (some e0) = rv
  obtain rfl : rv = .ref e0.a := hrv.symm
  have L1 := L.sup hs1
  clear eT tr htr hhl
  obtain ⟨cur, root, tkr, st, h, n, eT, tr, htr, hhl, tk1, c1', l1', k1', er⟩ := L1.T.read
  refine next_next ?_
  refine w_cons (W.mono (P := fun f σ' m' => f = .next ∧ m' = upL m "old" (.ref e0.a) ∧ ∃ fp', LawSt Z σ' c1 d cl ta cr t io es fp' D cvs) ?_ ?_)
  · walk_at "go"
    cases hb : (h == 0) with
    | true =>
      rw [hb] at er
      walk_at "go"
      refine w_callS (n := 130) hh (hr.le (by omega)) ho G (spec_unlike L1.T ⟨_, _, _, _, _, _, _, _, _, _, _, eT, er⟩ hlk fun σ2 fp2 T2 st2 => ?_)
      walk_at "go"
      exact ⟨rfl, rfl, fp2, L1.step T2 (.refl _) L1.pz L1.zl st2 L1.rng⟩
    | false =>
      rw [hb] at er
      walk_at "go"
      exact ⟨rfl, rfl, fp, L1⟩
  · rintro f σ2 m' ⟨rfl, rfl, fp2, L2⟩
    have ek2 := L2.T.cx.sup _ _ ek0
    clear L1 eT er tr hs1 htr hhl
    obtain ⟨cur, root, tkr, st, h, n, eT, -⟩ := L2.T.read
    refine next_next ?_
    refine w_cons (W.mono (P := fun f σ' m' => f = .next ∧ LLoc m' ta cl t io ∧ m' "kind" = some kv ∧ m' "rest" = some (.int rest rt) ∧ m' "key" = some (.int key kt) ∧ m' "old" = some (.ref e0.a) ∧ ∃ fp', LawSt Z σ' c1 d cl ta cr t io (delE key es) fp' D cvs) ?_ ?_)
    · walk_at "go"
      refine ite_beq (fun q => ?_) fun q => ?_
      · walk_at "go"
        refine w_spec (by assumption) (by assumption) (spec_deleteKey L2.T hlk (by omega) fun σ3 fp3 T3 st3 => ?_) (by omega)
        walk_at "go"
        exact ⟨rfl, ⟨by walk_at "lk", ⟨_, by walk_at "lk"⟩, by walk_at "lk", by walk_at "lk", _, _, by walk_at "lk"⟩, by walk_at "lk", by walk_at "lk", by walk_at "lk", by walk_at "lk", fp3, L2.step T3 (.refl _) L2.pz L2.zl st3 L2.rng.del⟩
      · walk_at "go"
        refine ite_beq (fun q => ?_) fun q => ?_
        · walk_at "go"
          refine w_DeleteSub ?_
          walk_at "go"
          refine w_delItemT (hp := hpN) (k := 102) eT hh (hr.le (by omega)) (spec_delItemT L2.T hlk (by omega) fun σ3 fp3 T3 st3 => ?_)
          walk_at "go"
          exact ⟨rfl, ⟨by walk_at "lk", ⟨_, by walk_at "lk"⟩, by walk_at "lk", by walk_at "lk", _, _, by walk_at "lk"⟩, by walk_at "lk", by walk_at "lk", by walk_at "lk", by walk_at "lk", fp3, L2.step T3 (.refl _) L2.pz L2.zl st3 L2.rng.del⟩
        · walk_at "go"
          refine w_spec (by assumption) (by assumption) (spec_deleteExact L2.T hlk (by omega) fun σ3 fp3 T3 st3 => ?_) (by omega)
          have L3 := L2.step T3 (.refl _) L2.pz L2.zl st3 L2.rng.del
          have ek3 := L3.T.cx.sup _ _ ek0
          walk_at "go"
          refine w_isNot_ref ek3 ek3 ?_
          rw [show (e0.a != e0.a) = false by simp]
          walk_at "go"
          exact ⟨rfl, ⟨by walk_at "lk", ⟨_, by walk_at "lk"⟩, by walk_at "lk", by walk_at "lk", _, _, by walk_at "lk"⟩, by walk_at "lk", by walk_at "lk", by walk_at "lk", by walk_at "lk", fp3, L3⟩
    · rintro f σ3 m' ⟨rfl, ⟨n1, ⟨tk', n2⟩, n3, n4, v', tv', n5⟩, n6, n7, n8, n9, fp3, L3⟩
      have ek3 := L3.T.cx.sup _ _ ek0
      have ec3 := L3.cell
      walk_at "go"
      refine w_spec (by assumption) (by assumption) (spec_key ek3 rfl ?_) (by omega)
      rw [hk0]
      walk_at "go"
      rw [show (key != key) = false by simp]
      walk_at "go"
      refine w_spec (by assumption) (by assumption) (spec_value ek3 rfl ?_) (by omega)
      walk_at "go"
      refine w_dictPopM L3.dict ?_
      walk_at "go"
      refine w_dictPop L3.dict hin (by omega) fun _ => ?_
      rw [hv0]
      walk_at "go"
      rw [show (e0.v != e0.v) = false by simp]
      walk_at "go"
      exact hQ _ _ _ _ _ _ (.refl _) L3.model (A.del key) ⟨n1, ⟨_, n2⟩, n3, n4, _, _, n5⟩ n6 n7
end
section
variable {g : Gl} {y : Fx} {c1 d cl ta cr : Addr} {t : Nat} {io : Bool} {Z σ : Store} {m : Loc} {es : List El} {fp : List Addr} {D : List (Int × Int)} {cvs : List Value} {E : Value → Heap → Prop}
set_option maxHeartbeats 2000000 in
theorem law_inner {kind rest key : Int} {kt0 rt kt : Tok} {Q : Flow → Store → Loc → Prop} (F : LF g y c1) (L : LawSt Z σ c1 d cl ta cr t io es fp D cvs) (A : Agree es D) (M : LLoc m ta cl t io) (hk : m "kind" = some (.int kind kt0)) (hre : m "rest" = some (.int rest rt)) (hkey : m "key" = some (.int key kt)) (h0 : 0 ≤ key ∧ key < 64)
    (hQ : Left Z c1 d cl ta cr t io cvs (.int kind kt0) (.int rest rt) Q) : W g y (execs (lawInner g) y.env) σ m Q E := by
  obtain ⟨m1, ⟨tk, m2⟩, m3, m4, v, tv, m5⟩ := M
  have hcs := F.cs
  have hcl := F.cl
  have ec := L.cell
  have ed := L.dict
  conv at hcs => rhs; whnf
  conv => enter [3, 1]; whnf
  refine w_cons ?_
  walk_at "go"
  have M' : ∀ tv', LLoc (upL m "value" (.int (v + 1) tv')) ta cl t io := fun tv' => ⟨by walk_at "lk", ⟨_, by walk_at "lk"⟩, by walk_at "lk", by walk_at "lk", _, _, by walk_at "lk"⟩
  have hN : Left Z c1 d cl ta cr t io cvs (.int kind kt0) (.int rest rt) (Next g y [] Q E) := fun Z' σ' m' es' fp' D' h1 h2 h3 h4 h5 h6 => w_nil (hQ Z' σ' m' es' fp' D' h1 h2 h3 h4 h5 h6)
  refine ite_beq (fun q => ?_) fun q => ?_
  · refine ite_t ?_
    exact law_set F L A (M' _) (by walk_at "lk") (by walk_at "lk") (by walk_at "lk") h0 hN
  · walk_at "go"
    refine ite_beq (fun q2 => ?_) fun q2 => ?_
    · walk_at "go"
      refine ite_beq (fun q3 => ?_) fun q3 => ?_
      · iterate 3 walk_at "w"
        exact law_set F L A (M' _) (by walk_at "lk") (by walk_at "lk") (by walk_at "lk") h0 hN
      · walk_at "go"
        refine ite_beq (fun _ => ?_) fun h => absurd q2 h
        exact law_ins F L A (M' _) (by walk_at "lk") (by walk_at "lk") (by walk_at "lk") h0 fun Z' σ' m' es' fp' D' h1 h2 h3 h4 h5 h6 => w_nil (hN Z' σ' m' es' fp' D' h1 h2 h3 h4 h5 h6)
    · walk_at "go"
      refine ite_beq (fun h => absurd h q2) fun _ => ?_
      walk_at "go"
      refine ite_beq (fun q3 => ?_) fun q3 => ?_
      · walk_at "go"
        refine w_dictIn ed ?_
        cases hin : kdfHas D key with
        | true =>
          iterate 4 walk_at "w"
          exact (law_del F L A (M' _) (by walk_at "lk") (by walk_at "lk") (by walk_at "lk") hin fun Z' σ' m' es' fp' D' h1 h2 h3 h4 h5 h6 => w_nil (w_nil (hN Z' σ' m' es' fp' D' h1 h2 h3 h4 h5 h6)))
        | false =>
          walk_at "go"
          exact hQ Z σ _ es fp D (.refl _) L A (M' _) (by walk_at "lk") (by walk_at "lk")
      · walk_at "go"
        exact hQ Z σ _ es fp D (.refl _) L A (M' _) (by walk_at "lk") (by walk_at "lk")
end
section
variable {g : Gl} {y : Fx} {c1 d cl ta cr : Addr} {t : Nat} {io : Bool} {Z σ : Store} {m : Loc} {es : List El} {fp : List Addr} {D : List (Int × Int)} {cvs : List Value} {E : Value → Heap → Prop}
theorem absorb {τ : Store} (hz : Sup Z τ) (pz : Plain Z) (A : List Addr) (hA : ∀ b ∈ A, ∃ c, τ b = some c ∧ (NodeLike c ∨ ∃ vs, c = .tup vs)) :
    ∃ Z' : Store, Sup Z Z' ∧ Sup Z' τ ∧ Plain Z' ∧ (∀ b ∈ A, Z' b = τ b) ∧ ∀ b, b ∉ A → Z' b = Z b := by
  refine ⟨fun b => if b ∈ A then τ b else Z b, fun b c e => ?_, fun b c e => ?_, fun b c e => ?_, fun b hb => if_pos hb, fun b hb => if_neg hb⟩
  · show (if b ∈ A then τ b else Z b) = _
    split
    · exact hz b c e
    · exact e
  · dsimp only at e
    split at e
    · exact e
    · exact hz b c e
  · dsimp only at e
    split at e
    · rename_i hb
      obtain ⟨c', e', h⟩ := hA b hb
      rw [e] at e'; cases e'; exact h
    · exact pz b c e
theorem PairsAt.at {σ τ : Store} {vs : List Value} {ps : List (Int × Int)} (P : PairsAt σ vs ps) (h : ∀ a, .ref a ∈ vs → τ a = σ a) : PairsAt τ vs ps := by
  induction P with
  | nil => exact .nil
  | cons h1 _ ih =>
    obtain ⟨a, t, u, rfl, e⟩ := h1
    exact .cons ⟨a, t, u, rfl, by rw [h a (.head _)]; exact e⟩ (ih fun b hb => h b (.tail _ hb))
theorem PairsAt.tups {σ : Store} {vs : List Value} {ps : List (Int × Int)} (P : PairsAt σ vs ps) : ∀ a, .ref a ∈ vs → ∃ ws, σ a = some (.tup ws) := by
  induction P with
  | nil => intro a h; cases h
  | cons h1 _ ih =>
    obtain ⟨a, t, u, rfl, e⟩ := h1
    intro b hb
    rcases List.mem_cons.mp hb with q | q
    · cases q; exact ⟨_, e⟩
    · exact ih b q
def refsOf (vs : List Value) : List Addr := vs.filterMap fun | .ref a => some a | _ => none
theorem mem_refsOf {vs : List Value} {a : Addr} : a ∈ refsOf vs ↔ .ref a ∈ vs := by
  unfold refsOf
  rw [List.mem_filterMap]
  constructor
  · rintro ⟨v, hv, e⟩
    cases v <;> simp at e
    subst e; exact hv
  · intro h; exact ⟨_, h, rfl⟩
noncomputable def lawShut (g : Gl) : List Stmt := ifBody (nthS (lawOuter g) 3)
set_option maxHeartbeats 4000000 in
theorem law_shut {Q : Flow → Store → Loc → Prop} (F : LF g y c1) (L : LawSt Z σ c1 d cl ta cr t io es fp D cvs) (A : Agree es D) (M : LLoc m ta cl t io) (hcv : cvs.length ≤ 100)
    (hQ : ∀ Z' σ' m' ta' cr' v, Sup Z Z' → LawSt Z' σ' c1 d cl ta' cr' t io es [] D (cvs ++ [v]) → LLoc m' ta' cl t io → Q .next σ' m') : W g y (execs (lawShut g) y.env) σ m Q E := by
  obtain ⟨hh, hr, ok, ho, G, C, hcs, hcl⟩ := F
  obtain ⟨m1, ⟨tk, m2⟩, m3, m4, v, tv, m5⟩ := M
  conv at hcs => rhs; whnf
  conv => enter [3, 1]; whnf
  have hlen := L.len
  have hDl := A.len
  have hnd := A.nodup L.T.cx.ris
  obtain ⟨cur, root, tkr, st, eT, -⟩ := L.T.cell
  walk_at "go"
  refine w_callS (n := 41) hh (hr.le (by omega)) ho G (spec_refused eT fun σ1 hs1 => ?_)
  have L1 := L.subS hs1
  clear eT
  obtain ⟨cur, root, tkr, st, eT, -⟩ := L1.T.cell
  walk_at "go"
  refine w_spec (by assumption) (by assumption) (spec_makeImm eT ?_) (by omega)
  obtain ⟨Z2, hz2, hs2, S2, zz2⟩ := L1.T.shut ⟨_, _, _, _, eT, rfl⟩
  have other : ∀ b c, b ≠ ta → σ1 b = some c → (σ1.set ta (treeC (.ref cr) (.bool true) (.ref cur) (.int t tkr) (.ref root) (.int es.length st) (.bool io))) b = some c := fun b c hb e => by rw [Store.set_ne _ _ hb]; exact e
  have ec2 := other _ _ (ne_cell L1.cell eT (fun q => by cases q)) L1.cell
  have ed2 := other _ _ (ne_cell L1.dict eT (fun q => by cases q)) L1.dict
  have el2 := other _ _ (ne_cell L1.list eT (fun q => by cases q)) L1.list
  have tab2 : rightTab (σ1.set ta (treeC (.ref cr) (.bool true) (.ref cur) (.int t tkr) (.ref root) (.int es.length st) (.bool io))) := tab_subO L1.tab fun b o e => other _ _ (ne_cell e eT (fun q => by cases q)) e
  have pz2 : Plain Z2 := fun b c e => by
    rcases zz2 b c e with q | q
    · exact L1.pz b c q
    · have e2 := hs2 b c e
      left
      by_cases hb : b = ta
      · subst hb; rw [Store.set_same] at e2; cases e2; exact .inl ⟨_, _, rfl⟩
      · rw [Store.set_ne _ _ hb] at e2
        rcases List.mem_cons.mp q with q | q
        · exact absurd q hb
        · rcases List.mem_cons.mp q with rfl | q
          · rw [L1.T.cx.crc] at e2; cases e2; exact .inl ⟨_, _, rfl⟩
          · obtain ⟨c', e', h'⟩ := L1.T.like b (.tail _ q)
            rw [e2] at e'; cases e'; exact h'
  have zl2 : Z2 cl = none := by
    cases q : Z2 cl with
    | none => rfl
    | some c =>
      rcases zz2 cl c q with z | z
      · rw [L1.zl] at z; cases z
      · rcases List.mem_cons.mp z with z | z
        · exact absurd z (ne_cell L1.list eT (fun q => by cases q))
        · rcases List.mem_cons.mp z with z | z
          · exact absurd z (ne_cell L1.list L1.T.cx.crc (fun q => by cases q))
          · exact absurd (.tail _ z) L1.out
  generalize σ1.set ta (treeC (.ref cr) (.bool true) (.ref cur) (.int t tkr) (.ref root) (.int es.length st) (.bool io)) = σ2 at hs2 ec2 ed2 el2 tab2 ⊢
  have clo2 : ∀ v ∈ cvs, ClosedV Z2 t v := fun v hv => (L1.clo v hv).sup hz2
  have rng := L1.rng
  clear other zz2 eT L1
  walk_at "go"
  refine w_ListCompD hh (show closureFor _ (envX y.cn y.cs y.L y.a y.ccd y.cl) = _ by rw [hcl]; rfl) (by decide) rfl (by decide) rfl ?_ fun _ => rfl
  walk_at "go"
  have hc1d : c1 ≠ d := ne_cell ec2 ed2 (fun q => by cases q)
  refine ⟨rfl, d, D, rfl, ed2, by omega, fun i ys τ => (∀ (b : Addr) (c : Cell), b ≠ d → (∀ P : Obj → Prop, c ≠ .pred P) → σ2 b = some c → τ b = some c) ∧ PairsAt τ ys (D.take i) ∧ ∀ v ∈ ys, v ≠ .ref d, fun τ h => ⟨fun b c hb hc e => by rw [h b hb]; exact e, .nil, fun v hv => by cases hv⟩, fun i ys τ τ' hs h => ⟨fun b c hb hc e => hs _ _ hc (h.1 b c hb hc e), h.2.1.sub hs, h.2.2⟩, ?_, ?_⟩
  · rintro i p tp0 ys τ CC oC mC hp ⟨h1, h2, h3⟩ ed eC hC hk
    have c1' := h1 _ _ hc1d (fun _ q => by cases q) ec2
    have hpm := List.mem_of_getElem? hp
    have hin : kdfHas D p.1 = true := kdfHas_iff.mpr (List.mem_map.mpr ⟨p, hpm, rfl⟩)
    have hv := kdfLook_mem hnd hpm
    refine e_Tuple (e_items_cons (w_compLocal eC hC hk rfl rfl (by decide) (e_items_cons (e_Subscript (w_compCell (c := c1) rfl c1' rfl (by show (relabel _ (envX y.cn y.cs y.L y.a y.ccd y.cl)).names.lookup _ = _; rw [hcs]; rfl) (by decide) (w_compLocal eC hC hk rfl rfl (by decide) (e_dictItem ed hin (fun t9 => e_items_nil ?_) rfl fun _ => rfl)))) rfl)) rfl)
    rw [hv]
    refine w_newTuple (by rw [sizeLine_eq]; exact Nat.le_of_ble_eq_true rfl) fun tp9 htp9 => ?_
    have s9 := SubS.new (.tup [.int p.1 tp0, .int p.2 t9]) htp9
    have ntd : tp9 ≠ d := fun z => by
      subst z
      rcases ed with ed | ⟨o, kvs, ed, -⟩
      · rw [ed] at htp9; cases htp9
      · rw [ed] at htp9; cases htp9
    refine ⟨rfl, ⟨fun b c hb hc e => s9 _ _ hc (h1 b c hb hc e), ?_, fun v hv => ?_⟩, Store.set_ne _ _ ntd.symm⟩
    · rw [List.take_add_one, hp]
      exact (h2.sub s9).snoc ⟨tp9, tp0, t9, rfl, Store.set_same _ _ _⟩
    · rcases List.mem_append.mp hv with q | q
      · exact h3 v q
      · rw [List.mem_singleton.mp q]; exact fun z => ntd (Value.ref.inj z)
  · rintro ys τ τ' ⟨h1, h2, h3⟩ hd hoff l hl
    rw [List.take_of_length_le (Nat.le_refl _)] at h2
    have s3 : SubS σ2 τ' := fun b c hc e => by
      by_cases hb : b = d
      · subst hb; rw [ed2] at e; cases e; exact hd
      · rw [hoff b hb]; exact h1 b c hb hc e
    have P3 : PairsAt τ' ys D := h2.at fun a ha => hoff a fun z => h3 _ ha (by rw [z])
    clear h1 h2 h3 hoff
    have el3 := s3 _ _ (fun _ q => by cases q) el2
    have s4 := SubS.new (.list ys) hl
    have el4 := s4 _ _ (fun _ q => by cases q) el3
    have P4 := P3.sub s4
    have k4 : (τ'.set l (.list ys)) l = some (.list ys) := Store.set_same _ _ _
    have ncl : cl ≠ l := ne_fresh el3 hl
    have s34 := s3.trans s4
    generalize τ'.set l (.list ys) = σ4 at s4 el4 P4 k4 s34
    walk_at "go"
    refine w_newTuple (by rw [sizeLine_eq]; exact Nat.le_of_ble_eq_true rfl) fun tp htp => ?_
    have s5 := SubS.new (.tup [.ref ta, .ref l]) htp
    have el5 := s5 _ _ (fun _ q => by cases q) el4
    have P5 := P4.sub s5
    have k5 := s5 _ _ (fun _ q => by cases q) k4
    have t5 : (σ4.set tp (.tup [.ref ta, .ref l])) tp = some (.tup [.ref ta, .ref l]) := Store.set_same _ _ _
    have ntl : cl ≠ tp := ne_fresh el4 htp
    have s35 := s34.trans s5
    generalize σ4.set tp (.tup [.ref ta, .ref l]) = σ5 at s5 el5 P5 k5 t5 s35
    clear s4 el4 P4 k4 s34 el3 P3 s3 hl htp
    walk_at "go"
    refine w_append el5 (by rw [sizeLine_eq]; omega) ?_
    obtain ⟨Z5, hz5, hs5, pz5, hin5, hout5⟩ := absorb (pz2.sup hs2 s35.subO) pz2 (tp :: l :: refsOf ys) fun b hb => by
      rcases List.mem_cons.mp hb with rfl | hb
      · exact ⟨_, t5, .inr ⟨_, rfl⟩⟩
      · rcases List.mem_cons.mp hb with rfl | hb
        · exact ⟨_, k5, .inl (.inr ⟨_, rfl⟩)⟩
        · obtain ⟨ws, e⟩ := P5.tups b (mem_refsOf.mp hb)
          exact ⟨_, e, .inr ⟨_, rfl⟩⟩
    have hclA : cl ∉ tp :: l :: refsOf ys := fun hb => by
      rcases List.mem_cons.mp hb with h | hb
      · exact ntl h
      · rcases List.mem_cons.mp hb with h | hb
        · exact ncl h
        · obtain ⟨ws, e⟩ := P5.tups cl (mem_refsOf.mp hb)
          rw [el5] at e; cases e
    have zl5 : Z5 cl = none := by rw [hout5 cl hclA]; exact zl2
    have S5 := S2.sup hz5
    have PZ5 : PairsAt Z5 ys D := P5.at fun a ha => hin5 a (.tail _ (.tail _ (mem_refsOf.mpr ha)))
    have zt5 : Z5 tp = some (.tup [.ref ta, .ref l]) := by rw [hin5 tp (.head _)]; exact t5
    have zk5 : Z5 l = some (.list ys) := by rw [hin5 l (.tail _ (.head _))]; exact k5
    have ec5 := s35 _ _ (fun _ q => by cases q) ec2
    have ed5 := s35 _ _ (fun _ q => by cases q) ed2
    have tab5 := tab_subS s35 tab2
    have hne : ∀ {b c}, σ5 b = some c → (∀ ws, c ≠ .list ws) → b ≠ cl := fun hb hc z => by subst z; rw [el5] at hb; cases hb; exact hc _ rfl
    have hz6 : Sup Z5 (σ5.set cl (.list (cvs ++ [.ref tp]))) := fun b c e => by
      rw [Store.set_ne _ _ fun z => by subst z; rw [zl5] at e; cases e]; exact hs5 b c e
    have ec6 : (σ5.set cl (.list (cvs ++ [.ref tp]))) c1 = some (.var (some (.ref d))) := by rw [Store.set_ne _ _ (hne ec5 fun _ q => by cases q)]; exact ec5
    have ed6 : (σ5.set cl (.list (cvs ++ [.ref tp]))) d = some (.dict D) := by rw [Store.set_ne _ _ (hne ed5 fun _ q => by cases q)]; exact ed5
    have el6 : (σ5.set cl (.list (cvs ++ [.ref tp]))) cl = some (.list (cvs ++ [.ref tp])) := Store.set_same _ _ _
    have tab6 : rightTab (σ5.set cl (.list (cvs ++ [.ref tp]))) := tab_subO tab5 fun b o e => by rw [Store.set_ne _ _ (hne e fun _ q => by cases q)]; exact e
    generalize σ5.set cl (.list (cvs ++ [.ref tp])) = σ6 at hz6 ec6 ed6 el6 tab6
    walk_at "go"
    refine w_specE (n := 330) (k := 31) (R := fun _ _ => False) hr hh (spec_copyTree (io := io) hz6 S5 fun σ7 ta7 cr7 l7 hs7 f1 f2 f3 T7 => ?_) (by omega) fun e h u => by obtain ⟨_, _, _, _, _, q, _⟩ := u; exact q.1.elim
    have z7 : Z5 l7 = none := hz6.none f3
    have hz7 := Sup.new (σ := Z5) (.list []) z7
    walk_at "go"
    refine hQ _ _ _ ta7 cr7 (.ref tp) (hz2.trans (hz5.trans hz7)) ⟨T7, pz5.set (.inl (.inr ⟨_, rfl⟩)), hs7 _ _ ec6, hs7 _ _ ed6, hs7 _ _ el6, ?_, ?_, rng, tab_subS hs7.subS tab6, fun v hv => ?_⟩ ⟨by walk_at "lk", ⟨_, by walk_at "lk"⟩, by walk_at "lk", by walk_at "lk", _, _, by walk_at "lk"⟩
    · intro q
      rcases List.mem_cons.mp q with q | q
      · exact ne_fresh el6 f1 q
      · cases q
    · rw [Store.set_ne _ _ (ne_fresh el6 f3)]; exact zl5
    · rcases List.mem_append.mp hv with q | q
      · exact ((clo2 v q).sup hz5).sup hz7
      · rw [List.mem_singleton.mp q]
        exact ClosedV.sup ⟨tp, ta, l, ys, D, es, rfl, zt5, zk5, PZ5, S5, A, rng⟩ hz7
end
section
variable {g : Gl} {y : Fx} {c1 d cl ta cr : Addr} {t : Nat} {io : Bool} {Z σ : Store} {m : Loc} {es : List El} {fp : List Addr} {D : List (Int × Int)} {cvs : List Value} {E : Value → Heap → Prop}
set_option maxHeartbeats 4000000 in
theorem law_outer {nb : Int} {ntk : Tok} {Q : Flow → Store → Loc → Prop} (F : LF g y c1) (L : LawSt Z σ c1 d cl ta cr t io es fp D cvs) (A : Agree es D) (M : LLoc m ta cl t io) (hnum : m "number" = some (.int nb ntk)) (hcv : cvs.length ≤ 50)
    (hQ : ∀ Z' σ' m' ta' cr' es' fp' D' cvs', Sup Z Z' → LawSt Z' σ' c1 d cl ta' cr' t io es' fp' D' cvs' → Agree es' D' → LLoc m' ta' cl t io → cvs'.length ≤ cvs.length + 1 → Q .next σ' m') : W g y (execs (lawOuter g) y.env) σ m Q NoE := by
  have hcs := F.cs
  have hcl := F.cl
  have hh := F.hh
  have hr := F.hr
  obtain ⟨m1, ⟨tk, m2⟩, m3, m4, v, tv, m5⟩ := M
  conv at hcs => rhs; whnf
  conv => enter [3, 1]; whnf
  walk_at "go"
  rename_i a0 kt b0 rt
  have M2 : LLoc (upL (upL m "kind" (.int (nb.fmod 4) kt)) "rest" (.int (nb.fdiv 4) rt)) ta cl t io := ⟨by walk_at "lk", ⟨_, by walk_at "lk"⟩, by walk_at "lk", by walk_at "lk", _, _, by walk_at "lk"⟩
  have n6 : (upL (upL m "kind" (.int (nb.fmod 4) kt)) "rest" (.int (nb.fdiv 4) rt)) "kind" = some (.int (nb.fmod 4) kt) := by walk_at "lk"
  have n7 : (upL (upL m "kind" (.int (nb.fmod 4) kt)) "rest" (.int (nb.fdiv 4) rt)) "rest" = some (.int (nb.fdiv 4) rt) := by walk_at "lk"
  clear m1 m2 m3 m4 m5 hnum a0 b0
  generalize upL (upL m "kind" (.int (nb.fmod 4) kt)) "rest" (.int (nb.fdiv 4) rt) = mm at M2 n6 n7 ⊢
  generalize nb.fmod 4 = kind at n6 ⊢
  generalize nb.fdiv 4 = rest at n7 ⊢
  refine W.mono (P := fun f σ' m' => f = .next ∧ ∃ Z' es' fp' D', Sup Z Z' ∧ LawSt Z' σ' c1 d cl ta cr t io es' fp' D' cvs ∧ Agree es' D' ∧ LLoc m' ta cl t io ∧ m' "kind" = some (.int kind kt)) ?_ ?_
  · refine w_For_list hh (W.mono (P := fun v σ1 m1 => ∃ l vs ns, v = .ref l ∧ LLoc m1 ta cl t io ∧ m1 "kind" = some (.int kind kt) ∧ m1 "rest" = some (.int rest rt) ∧ σ l = none ∧ Sup σ σ1 ∧ σ1 l = some (.list vs) ∧ IntsAre vs ns ∧ ∀ n ∈ ns, 0 ≤ n ∧ n < 64) ?_ ?_) (fun _ _ => rfl) fun _ => rfl
    · walk_at "go"
      refine ite_dec (fun q => ?_) (fun q => ?_)
      · walk_at "go"
        refine w_spec (by assumption) (by assumption) (spec_row fun σ1 l vs ns q1 q2 q3 q4 q5 q6 => ?_) (by omega)
        exact ⟨l, vs, ns, rfl, M2, n6, n7, q1, q2, q3, q4, q6⟩
      · walk_at "go"
        intro l hl
        exact ⟨l, _, [(rest.fdiv 8).fmod 64], rfl, M2, n6, n7, hl, Sup.new _ hl, Store.set_same _ _ _, .cons _ _ .nil, fun n hn => by
          rw [List.mem_singleton.mp hn]; exact ⟨Int.fmod_nonneg_of_pos _ (by decide), Int.fmod_lt_of_pos _ (by decide)⟩⟩
    · rintro v1 σ1 m1 ⟨l, vs, ns, rfl, M1, k1, r1, hl, hs1, e1, hi, hrg⟩
      have L1 := L.grow hl hs1 e1 (.inl (.inr ⟨_, rfl⟩))
      have hz1 := Sup.new (σ := Z) (.list vs) (L.T.cx.sup.none hl)
      have zl1 : (Z.set l (.list vs)) l = some (.list vs) := Store.set_same _ _ _
      generalize Z.set l (.list vs) = Z1 at L1 hz1 zl1
      refine ⟨l, vs, rfl, e1, fun i σ' m' => ∃ Z' es' fp' D', Sup Z1 Z' ∧ LawSt Z' σ' c1 d cl ta cr t io es' fp' D' cvs ∧ Agree es' D' ∧ LLoc m' ta cl t io ∧ m' "kind" = some (.int kind kt) ∧ m' "rest" = some (.int rest rt), ⟨Z1, es, fp, D, .refl _, L1, A, M1, k1, r1⟩, ?_, ?_, ?_, ?_⟩
      · rintro i m' σ' σ'' hs ⟨Z', es', fp', D', h1, h2, h3⟩
        exact ⟨Z', es', fp', D', h1, h2.subS hs, h3⟩
      · rintro i σ' m' ⟨Z', es', fp', D', h1, h2, h3⟩
        exact h2.T.cx.sup _ _ (h1 _ _ zl1)
      · rintro i v2 σ' m' hlt hv ⟨Z', es', fp', D', h1, h2, h3, h4, h5, h6⟩
        obtain ⟨n2, t2, hn2, rfl⟩ := ints_get hi hv
        obtain ⟨p1, ⟨pk, p2⟩, p3, p4, pv, ptv, p5⟩ := h4
        refine w_assignName (by walk_at "nm") ?_
        exact law_inner F h2 h3 ⟨by walk_at "lk", ⟨_, by walk_at "lk"⟩, by walk_at "lk", by walk_at "lk", _, _, by walk_at "lk"⟩ (by walk_at "lk") (by walk_at "lk") (by walk_at "lk") (hrg n2 (List.mem_of_getElem? hn2)) fun Z3 σ3 m3 es3 fp3 D3 g1 g2 g3 g4 g5 g6 => ⟨Z3, es3, fp3, D3, h1.trans g1, g2, g3, g4, g5, g6⟩
      · rintro σ' m' ⟨Z', es', fp', D', h1, h2, h3, h4, h5, h6⟩
        exact w_nil ⟨rfl, Z', es', fp', D', hz1.trans h1, h2, h3, h4, h5⟩
  · rintro f σ1 m1 ⟨rfl, Z1, es1, fp1, D1, hz1, L1, A1, M1, k1⟩
    refine next_next ?_
    refine w_cons (W.mono (P := fun f σ' m' => f = .next ∧ ∃ Z' ta' cr' es' fp' D' cvs', Sup Z Z' ∧ LawSt Z' σ' c1 d cl ta' cr' t io es' fp' D' cvs' ∧ Agree es' D' ∧ LLoc m' ta' cl t io ∧ cvs'.length ≤ cvs.length + 1) ?_ ?_)
    · refine w_If ?_
      walk_at "test"
      walk_at "go"
      refine ite_beq (fun q => ?_) fun q => ?_
      · exact law_shut F L1 A1 M1 (by omega) fun Z2 σ2 m2 ta2 cr2 v2 g1 g2 g3 => ⟨rfl, Z2, ta2, cr2, es1, [], D1, _, hz1.trans g1, g2, A1, g3, by simp⟩
      · walk_at "go"
        exact ⟨rfl, Z1, ta, cr, es1, fp1, D1, cvs, hz1, L1, A1, M1, by omega⟩
    · rintro f σ2 m2 ⟨rfl, Z2, ta2, cr2, es2, fp2, D2, cvs2, hz2, L2, A2, M2, hcv2⟩
      refine next_next ?_
      obtain ⟨p1, ⟨pk, p2⟩, p3, p4, pv, ptv, p5⟩ := M2
      obtain ⟨cur, root, tkr, st, h, n, eT, tr, htr, hhl, -⟩ := L2.T.read
      have hlen := L2.len
      have ec2 := L2.cell
      walk_at "go"
      refine w_callL (n := 100) hh (hr.le (by omega)) F.C (spec_right L2.T.cx.t3 L2.T.cx.t4 eT tr htr (by omega) hlen (fun e he => (L2.T.cx.els e he).sup L2.T.cx.sup) L2.T.cx.ris L2.dict A2 L2.tab fun σ3 hs3 tab3 => ?_)
      walk_at "go"
      exact hQ Z2 σ3 _ ta2 cr2 es2 fp2 D2 cvs2 hz2 (L2.subO hs3 tab3) A2 ⟨p1, ⟨_, p2⟩, p3, p4, _, _, p5⟩ hcv2
end
section
variable {g : Gl} {y : Fx} {c1 d cl ta cr : Addr} {t : Nat} {io : Bool} {Z σ τ : Store} {m : Loc} {es : List El} {fp : List Addr} {D : List (Int × Int)} {cvs : List Value} {E : Value → Heap → Prop}
/-- another dict is turned -/
theorem LawSt.held {dd : Addr} {X X' : List (Int × Int)} (L : LawSt Z τ c1 d cl ta cr t io es fp D cvs) (e : τ dd = some (.dict X)) (hne : dd ≠ d) : LawSt Z (τ.set dd (.dict X')) c1 d cl ta cr t io es fp D cvs := by
  have zd := L.pz.no L.T.cx.sup e notLike_dict (fun _ q => by cases q)
  have hcr : dd ≠ cr := ne_cell e L.T.cx.crc (fun q => by cases q)
  have h1 : c1 ≠ dd := ne_cell L.cell e (fun q => by cases q)
  have h2 : cl ≠ dd := ne_cell L.list e (fun q => by cases q)
  refine ⟨L.other (L.T.notIn e notLike_dict) hcr zd, L.pz, by rw [Store.set_ne _ _ h1]; exact L.cell, by rw [Store.set_ne _ _ hne.symm]; exact L.dict, by rw [Store.set_ne _ _ h2]; exact L.list, L.out, L.zl, L.rng, tab_subO L.tab fun b o q => ?_, L.clo⟩
  rw [Store.set_ne _ _ (ne_cell q e (fun q => by cases q))]; exact q
theorem pairs_get : ∀ {vs : List Value} {ps : List (Int × Int)} {i : Nat} {v : Value}, PairsAt σ vs ps → vs[i]? = some v → ∃ p, ps[i]? = some p ∧ PairAt σ v p
  | _, _, 0, _, .cons h _, e => by cases e; exact ⟨_, rfl, h⟩
  | _, _, i + 1, _, .cons h r, e => pairs_get (i := i) r (by simpa using e)
noncomputable def lawOld (g : Gl) : List Stmt := forBody (nthS (fnBody g 588) 8)
set_option maxHeartbeats 4000000 in
theorem law_old {to pl : Addr} {pvs : List Value} {ps : List (Int × Int)} {es' : List El} {Q : Flow → Store → Loc → Prop} (F : LF g y c1) (L : LawSt Z σ c1 d cl ta cr t io es fp D cvs) (M : LLoc m ta cl t io) (hold : m "old" = some (.ref to)) (hpl : m "pairs" = some (.ref pl))
    (zp : Z pl = some (.list pvs)) (PP : PairsAt Z pvs ps) (S : Shut Z to t es') (A' : Agree es' ps) (R' : InRange es')
    (hQ : ∀ σ' m', LawSt Z σ' c1 d cl ta cr t io es fp D cvs → LLoc m' ta cl t io → Q .next σ' m') : W g y (execs (lawOld g) y.env) σ m Q NoE := by
  have hcs := F.cs
  have hcl := F.cl
  have hh := F.hh
  have hr := F.hr
  obtain ⟨m1, ⟨tk, m2⟩, m3, m4, v, tv, m5⟩ := M
  conv at hcs => rhs; whnf
  conv => enter [3, 1]; whnf
  have hnd := A'.nodup S.ris
  have hlen := R'.len S.ris
  have hpl' := PP.length
  have hDl := A'.len
  walk_at "go"
  refine w_newDict fun dd hdd => ?_
  have L1 := L.sup (Sup.new (.dict []) hdd)
  have hne : dd ≠ d := fun z => by have := L.dict; rw [← z, hdd] at this; cases this
  have k1 : (σ.set dd (.dict [])) dd = some (.dict []) := Store.set_same _ _ _
  generalize σ.set dd (.dict []) = σ1 at L1 k1
  refine next_next ?_
  refine w_cons (W.mono (P := fun f σ' m' => f = .next ∧ LawSt Z σ' c1 d cl ta cr t io es fp D cvs ∧ LLoc m' ta cl t io ∧ m' "old" = some (.ref to) ∧ m' "held" = some (.ref dd) ∧ σ' dd = some (.dict ps)) ?_ ?_)
  · refine w_For_listT hh ?_ fun _ => rfl
    walk_at "go"
    refine ⟨pl, pvs, rfl, L1.T.cx.sup _ _ zp, fun i σ' m' => LawSt Z σ' c1 d cl ta cr t io es fp D cvs ∧ LLoc m' ta cl t io ∧ m' "old" = some (.ref to) ∧ m' "held" = some (.ref dd) ∧ σ' dd = some (.dict (ps.take i)),
      ⟨L1, ⟨by walk_at "lk", ⟨_, by walk_at "lk"⟩, by walk_at "lk", by walk_at "lk", _, _, by walk_at "lk"⟩, by walk_at "lk", by walk_at "lk", by simpa using k1⟩, ?_, ?_, ?_, ?_⟩
    · rintro i m' σ' σ'' hs ⟨h1, h2, h3, h4, h5⟩
      exact ⟨h1.subS hs, h2, h3, h4, hs _ _ (fun _ q => by cases q) h5⟩
    · rintro i σ' m' ⟨h1, -⟩
      exact h1.T.cx.sup _ _ zp
    · rintro i v2 σ' m' hlt hv ⟨h1, ⟨p1, ⟨pk, p2⟩, p3, p4, pv, ptv, p5⟩, h3, h4, h5⟩
      obtain ⟨p, hp, a, ta1, ta2, rfl, ea⟩ := pairs_get PP hv
      refine w_unpack2 hh (h1.T.cx.sup _ _ ea) (by walk_at "nm") (by walk_at "nm") ?_
      walk_at "go"
      refine w_dictSet h5 (by simp only [List.length_take]; omega) ?_
      walk_at "go"
      rw [kdfPut_take hnd hp]
      exact ⟨h1.held h5 hne, ⟨by walk_at "lk", ⟨_, by walk_at "lk"⟩, by walk_at "lk", by walk_at "lk", _, _, by walk_at "lk"⟩, by walk_at "lk", by walk_at "lk", Store.set_same _ _ _⟩
    · rintro σ' m' ⟨h1, h2, h3, h4, h5⟩
      rw [List.take_of_length_le (by omega)] at h5
      exact w_nil ⟨rfl, h1, h2, h3, h4, h5⟩
  · rintro f σ2 m' ⟨rfl, L2, ⟨p1, ⟨pk, p2⟩, p3, p4, pv, ptv, p5⟩, h3, h4, h5⟩
    refine next_next ?_
    have S2 := S.sup L2.T.cx.sup
    obtain ⟨⟨scr, scur, stk, sroot, sst, sio, sh, sn, se, sht, str⟩, -⟩ := id S2
    walk_at "go"
    refine w_callS (n := 41) hh (hr.le (by omega)) F.ho F.G (spec_closed se fun σ3 hs3 => ?_)
    have L3 := L2.subS hs3
    have S3 := S.sup L3.T.cx.sup
    have h53 := hs3 _ _ (fun _ q => by cases q) h5
    clear se str
    obtain ⟨⟨scr, scur, stk, sroot, sst, sio, sh, sn, se, sht, str⟩, -⟩ := id S3
    have hhl := str.height S3.t3 sht
    walk_at "go"
    refine w_callL (n := 100) hh (hr.le (by omega)) F.C (spec_right S3.t3 S3.t4 se str sht (by omega) hlen S3.els S3.ris h53 A' L3.tab fun σ4 hs4 tab4 => ?_)
    walk_at "go"
    exact hQ σ4 _ (L3.subO hs4 tab4) ⟨p1, ⟨_, p2⟩, p3, p4, _, _, p5⟩
end
section
variable {g : Gl} {y : Fx} {c1 d cl ta cr : Addr} {t : Nat} {io : Bool} {Z σ τ : Store} {m : Loc} {es : List El} {fp : List Addr} {D : List (Int × Int)} {cvs : List Value} {E : Value → Heap → Prop}
theorem w_neNone {x : Fx} {Q : Value → Store → Loc → Prop} (h : Q (.bool false) σ m) : W g x (compareOp .NotEq .none .none) σ m Q E := w_skip (fun _ _ _ h => PySem.EqNone.ne_none_none h) h
noncomputable def lawKey (g : Gl) : List Stmt := forBody (nthS (fnBody g 588) 9)
set_option maxHeartbeats 4000000 in
theorem law_key {key : Int} {kt : Tok} {Q : Flow → Store → Loc → Prop} (F : LF g y c1) (L : LawSt Z σ c1 d cl ta cr t io es fp D cvs) (A : Agree es D) (M : LLoc m ta cl t io) (hkey : m "key" = some (.int key kt))
    (hQ : ∀ σ' m', LawSt Z σ' c1 d cl ta cr t io es fp D cvs → LLoc m' ta cl t io → Q .next σ' m') : W g y (execs (lawKey g) y.env) σ m Q NoE := by
  have hcs := F.cs
  have hcl := F.cl
  have hh := F.hh
  have hr := F.hr
  obtain ⟨m1, ⟨tk, m2⟩, m3, m4, v, tv, m5⟩ := M
  conv at hcs => rhs; whnf
  conv => enter [3, 1]; whnf
  obtain ⟨cur, root, tkr, st, h, n, eT, tr, htr, hhl, -⟩ := L.T.read
  have hlen := L.len
  have hhas := A.has key
  refine w_cons (W.mono (P := fun f σ' m' => f = .next ∧ LawSt Z σ' c1 d cl ta cr t io es fp D cvs ∧ LLoc m' ta cl t io ∧ m' "key" = some (.int key kt) ∧ ((∃ e0 tt, look key es = some e0 ∧ m' "told" = some (.int e0.v tt)) ∨ (look key es = none ∧ m' "told" = some .none)))
    (W.ofS F.ho (ws_try F.G F.ok (hits_KE F.ok (by walk_at "nm")) (fun c σ' => c = .type "KeyError" ∧ Sup σ σ' ∧ look key es = none) ?_ (fun c σ' h => ⟨h.1, h.2.1.keeps⟩) ?_)) ?_)
  · intro z Lz hz
    have hcz := Lz.cs.trans hcs
    have hrz := Lz.room _ hr
    have hhz : hpN z.hd := by rw [hz]; exact hh
    walk_at "go"
    cases hlk : look key es with
    | some e0 =>
      refine w_subTE (hp := hpN) (k := 81) eT hhz (hrz.le (by omega)) ((spec_getItemT eT tr L.T.cx.t4 (fun e he => (L.T.cx.els e he).sup L.T.cx.sup) L.T.cx.ris (by omega) hlk fun σ1 vt hs1 => ?_).toE (R := fun c σ' => c = .type "KeyError" ∧ Sup σ σ' ∧ (some e0 : Option El) = none)) (fun e h u => u) rfl
      walk_at "go"
      exact ⟨rfl, L.sup hs1, ⟨by walk_at "lk", ⟨_, by walk_at "lk"⟩, by walk_at "lk", by walk_at "lk", _, _, by walk_at "lk"⟩, by walk_at "lk", .inl ⟨e0, vt, rfl, by walk_at "lk"⟩⟩
    | none =>
      exact w_subTE (hp := hpN) (k := 81) eT hhz (hrz.le (by omega)) ((spec_getItemR (R := fun c σ' => c = .type "KeyError" ∧ Sup σ σ' ∧ (none : Option El) = none) eT tr L.T.cx.t4 (fun e he => (L.T.cx.els e he).sup L.T.cx.sup) L.T.cx.ris (by omega) hlk fun σ1 hs1 => ⟨rfl, hs1, rfl⟩).mono (fun _ _ z => z.elim) fun _ _ z => z) (fun e h u => u) rfl
  · rintro σ1 z a oe ⟨-, hs1, hlk⟩ Lz hz ha hc
    have hcz := Lz.cs.trans hcs
    have L1 := L.sup (hs1.trans (Sup.new (.raw oe) ha))
    walk_at "go"
    exact ⟨rfl, L1, ⟨by walk_at "lk", ⟨_, by walk_at "lk"⟩, by walk_at "lk", by walk_at "lk", _, _, by walk_at "lk"⟩, by walk_at "lk", .inr ⟨hlk, by walk_at "lk"⟩⟩
  · rintro f σ1 m' ⟨rfl, L1, ⟨p1, ⟨pk, p2⟩, p3, p4, pv, ptv, p5⟩, h3, ⟨e0, tt, hlk, h4⟩ | ⟨hlk, h4⟩⟩
    · refine next_next ?_
      rw [hlk] at hhas
      have hhas : kdfHas D key = true := hhas
      obtain ⟨hm0, hk0⟩ := look_mem hlk
      have hv0 := A.vals e0 hm0
      rw [hk0] at hv0
      have ec1 := L1.cell
      have ed1 := L1.dict
      walk_at "go"
      refine w_dictIn ed1 ?_
      rw [hhas]
      walk_at "go"
      refine w_dictItem ed1 hhas (fun _ => ?_) rfl fun _ => rfl
      rw [hv0]
      walk_at "go"
      rw [show (e0.v != e0.v) = false by simp]
      walk_at "go"
      exact hQ _ _ L1 ⟨p1, ⟨_, p2⟩, p3, p4, _, _, p5⟩
    · refine next_next ?_
      rw [hlk] at hhas
      have hhas : kdfHas D key = false := hhas
      have ec1 := L1.cell
      have ed1 := L1.dict
      walk_at "go"
      refine w_dictIn ed1 ?_
      rw [hhas]
      walk_at "go"
      refine w_neNone ?_
      walk_at "go"
      exact hQ _ _ L1 ⟨p1, ⟨_, p2⟩, p3, p4, _, _, p5⟩
end
section
variable {g : Gl} {y : Fx} {c1 d cl ta cr : Addr} {t : Nat} {io : Bool} {Z σ τ : Store} {m : Loc} {es : List El} {fp : List Addr} {D : List (Int × Int)} {cvs : List Value} {E : Value → Heap → Prop}
theorem TreeSt.other {b : Addr} {c : Cell} (T : TreeSt Z σ ta cr t io es fp) (hb : b ∉ ta :: fp) (hcr : b ≠ cr) (zb : Z b = none) : TreeSt Z (σ.set b c) ta cr t io es fp := by
  obtain ⟨⟨cur, root, tkT, stT, eT, eCur, h, n, ht, hr⟩, hout, zta, cx⟩ := T
  simp only [List.mem_cons, not_or] at hb
  have fr : ∀ q, q ≠ b → (σ.set b c) q = σ q := fun q hq => Store.set_ne _ _ hq
  refine ⟨⟨cur, root, tkT, stT, by rw [fr _ (Ne.symm hb.1)]; exact eT, eCur, h, n, ht, hr.imp id fun q => q.frame fun b' hb' => fr _ fun z => hb.2 (z ▸ hb')⟩, hout, zta, cx.t3, cx.t4, fun q cq e => ?_, by rw [fr _ (Ne.symm hcr)]; exact cx.crc, cx.zcr, cx.crf, cx.nd, cx.out, cx.els, cx.ris⟩
  rw [fr q fun z => by rw [z, zb] at e; cases e]
  exact cx.sup q cq e
noncomputable def lawTail (g : Gl) : List Stmt := (fnBody g 588).drop 7
set_option maxHeartbeats 4000000 in
theorem law_all {w3 : Addr} {vs : List Value} {ns : List Int} (F : LF g y c1) (hb : y.h₀.IsList w3 vs.toArray) (hi : IntsAre vs ns) (hz : vs.length ≤ 63) (e1 : σ c1 = some (.var none)) (tab : rightTab σ) (hm : m "script" = some (.ref w3)) :
    W g y (execs (fnBody g 588) y.env) σ m (fun fl σ' _ => fl = .ret (.bool true) ∧ rightTab σ') NoE := by
  have hcs := F.cs
  have hcl := F.cl
  have hh := F.hh
  have hr := F.hr
  conv at hcs => rhs; whnf
  conv => enter [3, 1]; whnf
  refine w_cons (W.mono (P := fun f σ' m' => f = .next ∧ σ' = σ ∧ m' "script" = some (.ref w3) ∧ ∃ b tk, m' "first" = some (.int b tk)) ?_ ?_)
  · walk_at "go"
    refine w_truthB hb (by omega) ?_
    cases hi with
    | nil =>
      refine (if_neg (by decide) : ite _ _ _ = _).mpr ?_
      walk_at "go"
      exact ⟨rfl, rfl, by walk_at "lk", _, _, by walk_at "lk"⟩
    | cons n tn r =>
      refine (if_pos rfl : ite _ _ _ = _).mpr ?_
      walk_at "go"
      refine w_itemB (vs := _) hb (k := 0) (by omega) (by omega) rfl ?_ rfl
      walk_at "go"
      exact ⟨rfl, rfl, by walk_at "lk", _, _, by walk_at "lk"⟩
  · rintro f σ' m1 ⟨rfl, rfl, hm, b, btk, hf⟩
    refine next_next ?_
    walk_at "go"
    have b2 : 0 ≤ b.fmod 2 ∧ b.fmod 2 < 2 := ⟨Int.fmod_nonneg_of_pos _ (by decide), Int.fmod_lt_of_pos _ (by decide)⟩
    obtain ⟨t, t3, t4, ht⟩ : ∃ t : Nat, 3 ≤ t ∧ t ≤ 4 ∧ 2 + b.fmod 2 = ((t - 1 : Nat) : Int) := ⟨(3 + b.fmod 2).toNat, by omega, by omega, by omega⟩
    have ht1 : 2 + b.fmod 2 + 1 = (t : Int) := by omega
    rw [ht1, ht]
    generalize ((b.fdiv 2).fmod 2 == 1) = io
    refine w_specE (n := 330) (k := 31) (R := fun _ _ => False) hr hh (spec_newTree (Z := fun _ => none) (io := io) t3 t4 (fun _ _ q => by cases q) fun σ1 ta cr l r lr c hs1 f1 f2 f3 T1 => ?_) (by omega) fun e h u => by obtain ⟨_, _, _, _, _, q, _⟩ := u; exact q.1.elim
    have e2 := hs1 _ _ e1
    have tab2 := tab_subS hs1.subS tab
    have pz2 : Plain (Store.set (fun _ => none) l (.list [])) := Plain.set (fun _ _ q => by cases q) (.inl (.inr ⟨_, rfl⟩))
    walk_at "go"
    refine w_newDict fun d hd => ?_
    have hcd : c1 ≠ d := ne_fresh e2 hd
    refine ⟨none, by rw [Store.set_ne _ _ hcd]; exact e2, ?_⟩
    generalize hZ : Store.set (fun _ => none) l (.list []) = Z at T1 pz2
    have T2 := T1.sup (Sup.new (.dict []) hd)
    have d2 : (σ1.set d (.dict [])) d = some (.dict []) := Store.set_same _ _ _
    have e3 : (σ1.set d (.dict [])) c1 = some (.var none) := by rw [Store.set_ne _ _ hcd]; exact e2
    have tab3 := tab_subS (SubS.new (.dict []) hd) tab2
    generalize σ1.set d (.dict []) = σ2 at T2 d2 e3 tab3
    have T3 := T2.other (c := .var (some (.ref d))) (T2.notIn e3 notLike_var) (ne_cell e3 T2.cx.crc (fun q => by cases q)) (pz2.no T2.cx.sup e3 notLike_var fun _ q => by cases q)
    have e4 : (σ2.set c1 (.var (some (.ref d)))) c1 = some (.var (some (.ref d))) := Store.set_same _ _ _
    have d4 : (σ2.set c1 (.var (some (.ref d)))) d = some (.dict []) := by rw [Store.set_ne _ _ hcd.symm]; exact d2
    have tab4 : rightTab (σ2.set c1 (.var (some (.ref d)))) := tab_subO tab3 fun b o q => by rw [Store.set_ne _ _ (ne_cell q e3 (fun q => by cases q))]; exact q
    generalize σ2.set c1 (.var (some (.ref d))) = σ3 at T3 e4 d4 tab4
    clear T1 T2 e2 e3 d2 tab2 tab3 hd hs1 f1 f2 f3 hZ
    walk_at "go"
    intro cl hcl0
    have s5 := Sup.new (.list []) hcl0
    have L5 : LawSt Z (σ3.set cl (.list [])) c1 d cl ta cr t io [] [r, lr, c] [] [] :=
      ⟨T3.sup s5, pz2, s5 _ _ e4, s5 _ _ d4, Store.set_same _ _ _, fun q => (by obtain ⟨c', e', -⟩ := T3.like cl q; rw [hcl0] at e'; cases e'), T3.cx.sup.none hcl0, fun e he => (by cases he), tab_subS s5.subS tab4, fun v hv => (by cases hv)⟩
    generalize σ3.set cl (.list []) = σ5 at L5
    clear T3 e4 d4 tab4 s5 hcl0
    walk_at "go"
    rename_i tv0
    generalize hmm : upL _ "value" (.int 0 tv0) = mm
    have M5 : LLoc mm ta cl t io := by subst hmm; exact ⟨by walk_at "lk", ⟨_, by walk_at "lk"⟩, by walk_at "lk", by walk_at "lk", _, _, by walk_at "lk"⟩
    have hms : mm "script" = some (.ref w3) := by subst hmm; walk_at "lk"
    clear hmm hm hf
    refine W.mono (P := fun f σ' m' => f = .next ∧ ∃ Z' ta' cr' es' fp' D' cvs', LawSt Z' σ' c1 d cl ta' cr' t io es' fp' D' cvs' ∧ Agree es' D' ∧ LLoc m' ta' cl t io) ?_ ?_
    · refine w_For_list hh (W.mono (P := fun v σ1 m1 => ∃ l us ms, v = .ref l ∧ m1 = mm ∧ σ5 l = none ∧ Sup σ5 σ1 ∧ σ1 l = some (.list us) ∧ IntsAre us ms ∧ us.length ≤ 9) ?_ ?_) (fun _ _ => rfl) fun _ => rfl
      · walk_at "go"
        refine w_lenB hb (by omega) fun _ => ?_
        walk_at "go"
        refine ite_dec (fun q => ?_) (fun q => ?_)
        · walk_at "go"
          intro sl hsl
          refine w_slicedB hb (Store.set_same _ _ _) (.int _ _) (.int _ _) (by rw [sizeLine_eq]; omega) rfl fun l hl => ?_
          have hp := hi.pick (some 1) (some 10) none
          have hl2 : (slicePick vs.toArray (some 1) (some 10) none).toList.length ≤ 9 := by
            rw [slice_mid vs 1 10 (by decide) (by decide), List.length_drop, List.length_take]; omega
          have hsl5 := Sup.new (.raw { cls := .type "slice", data := .fields #[.int 1 ‹_›, .int 10 ‹_›, .none] }) hsl
          exact ⟨l, _, _, rfl, rfl, (Store.set_none hl).2, (Sup.new _ hsl).trans (Sup.new _ hl), Store.set_same _ _ _, hp, hl2⟩
        · walk_at "go"
          intro l hl
          exact ⟨l, _, [8, 5, 2328], rfl, rfl, hl, Sup.new _ hl, Store.set_same _ _ _, .cons _ _ (.cons _ _ (.cons _ _ .nil)), by simp⟩
      · rintro v1 σ6 m6 ⟨l, us, ms, rfl, rfl, hl, hs6, el, hu, hul⟩
        have L6 := L5.grow hl hs6 el (.inl (.inr ⟨_, rfl⟩))
        have zl6 : (Z.set l (.list us)) l = some (.list us) := Store.set_same _ _ _
        generalize Z.set l (.list us) = Z6 at L6 zl6
        refine ⟨l, us, rfl, el, fun i σ' m' => ∃ Z' ta' cr' es' fp' D' cvs', Sup Z6 Z' ∧ LawSt Z' σ' c1 d cl ta' cr' t io es' fp' D' cvs' ∧ Agree es' D' ∧ LLoc m' ta' cl t io ∧ cvs'.length ≤ i,
          ⟨Z6, ta, cr, [], _, [], [], .refl _, L6, .nil, M5, Nat.le_refl _⟩, ?_, ?_, ?_, ?_⟩
        · rintro i m' σ' σ'' hs ⟨Z', ta', cr', es', fp', D', cvs', h1, h2, h3⟩
          exact ⟨Z', ta', cr', es', fp', D', cvs', h1, h2.subS hs, h3⟩
        · rintro i σ' m' ⟨Z', ta', cr', es', fp', D', cvs', h1, h2, h3⟩
          exact h2.T.cx.sup _ _ (h1 _ _ zl6)
        · rintro i v2 σ' m' hlt hv ⟨Z', ta', cr', es', fp', D', cvs', h1, h2, h3, ⟨p1, ⟨pk, p2⟩, p3, p4, pv, ptv, p5⟩, h5⟩
          obtain ⟨n2, t2, hn2, rfl⟩ := ints_get hu hv
          refine w_assignName (by walk_at "nm") ?_
          exact law_outer F h2 h3 ⟨by walk_at "lk", ⟨_, by walk_at "lk"⟩, by walk_at "lk", by walk_at "lk", _, _, by walk_at "lk"⟩ (by walk_at "lk") (by omega) fun Z3 σ3 m3 ta3 cr3 es3 fp3 D3 cvs3 g1 g2 g3 g4 g5 => ⟨Z3, ta3, cr3, es3, fp3, D3, cvs3, h1.trans g1, g2, g3, g4, by omega⟩
        · rintro σ' m' ⟨Z', ta', cr', es', fp', D', cvs', h1, h2, h3, h4, h5⟩
          exact w_nil ⟨rfl, Z', ta', cr', es', fp', D', cvs', h2, h3, h4⟩
    · rintro f σ7 m7 ⟨rfl, Z7, ta7, cr7, es7, fp7, D7, cvs7, L7, A7, M7⟩
      clear L5 M5 hms
      refine next_next ?_
      refine w_cons (W.mono (P := fun f σ' m' => f = .next ∧ LawSt Z7 σ' c1 d cl ta7 cr7 t io es7 fp7 D7 cvs7 ∧ LLoc m' ta7 cl t io) ?_ ?_)
      · refine w_For_listT hh ?_ fun _ => rfl
        obtain ⟨p1, ⟨pk, p2⟩, p3, p4, pv, ptv, p5⟩ := M7
        walk_at "go"
        refine ⟨cl, cvs7, rfl, L7.list, fun i σ' m' => LawSt Z7 σ' c1 d cl ta7 cr7 t io es7 fp7 D7 cvs7 ∧ LLoc m' ta7 cl t io, ⟨L7, p1, ⟨_, p2⟩, p3, p4, _, _, p5⟩, fun i m' σ' σ'' hs h => ⟨h.1.subS hs, h.2⟩, fun i σ' m' h => h.1.list, ?_, ?_⟩
        · rintro i v2 σ' m' hlt hv ⟨h1, ⟨p1, ⟨pk, p2⟩, p3, p4, pv, ptv, p5⟩⟩
          obtain ⟨tp, to, pl, pvs, ps, eso, rfl, z1, z2, PP, S, A', R'⟩ := h1.clo v2 (List.mem_of_getElem? hv)
          refine w_unpack2 hh (h1.T.cx.sup _ _ z1) (by walk_at "nm") (by walk_at "nm") ?_
          exact law_old F h1 ⟨by walk_at "lk", ⟨_, by walk_at "lk"⟩, by walk_at "lk", by walk_at "lk", _, _, by walk_at "lk"⟩ (by walk_at "lk") (by walk_at "lk") z2 PP S A' R' fun σ3 m3 g1 g2 => ⟨g1, g2⟩
        · rintro σ' m' ⟨h1, h2⟩
          exact w_nil ⟨rfl, h1, h2⟩
      · rintro f σ8 m8 ⟨rfl, L8, M8⟩
        refine next_next ?_
        refine w_cons (W.mono (P := fun f σ' m' => f = .next ∧ rightTab σ') ?_ ?_)
        · refine w_For_range hh ?_ (fun _ _ => rfl) fun _ => rfl
          walk_at "go"
          refine w_range1 fun rg hrg => ?_
          refine ⟨rg, 0, 64, rfl, Store.set_same _ _ _, by omega, by omega, fun i σ' m' => LawSt Z7 σ' c1 d cl ta7 cr7 t io es7 fp7 D7 cvs7 ∧ LLoc m' ta7 cl t io, ⟨L8.sup (Sup.new _ hrg), M8⟩, fun i m' σ' σ'' hs h => ⟨h.1.subS hs, h.2⟩, ?_, ?_⟩
          · rintro i it σ' m' hlt ⟨h1, ⟨p1, ⟨pk, p2⟩, p3, p4, pv, ptv, p5⟩⟩
            refine w_assignName (by walk_at "nm") ?_
            exact law_key F h1 A7 ⟨by walk_at "lk", ⟨_, by walk_at "lk"⟩, by walk_at "lk", by walk_at "lk", _, _, by walk_at "lk"⟩ (by walk_at "lk") fun σ3 m3 g1 g2 => ⟨g1, g2⟩
          · rintro σ' m' ⟨h1, h2⟩
            exact w_nil ⟨rfl, h1.tab⟩
        · rintro f σ9 m9 ⟨rfl, tab9⟩
          refine next_next ?_
          walk_at "go"
          exact ⟨rfl, tab9⟩
end
section
variable {g : Gl}
set_option maxHeartbeats 4000000 in
theorem law_end {s : Shared} {B0 : Heap} {L fa w3 : Addr} {cd : Value} {o1 : Obj} {vs : List Value} {ns : List Int} {m : Loc} {cn : Str} {cs : Scope} {clos : List (Str × Addr)} {E : Value → Shared → Prop}
    (hcs : cs = fnScope g 588) (hcl : clos = ([("model", L + 1)] : List (Str × Addr))) (hk : cs.kind = .function)
    (K : Below callerA B0 [] B0) (X : g.K.In B0) (T : Top g.p g.loose g.mean g.mg g.mb B0) (F : Fr B0 L s.heap m) (N : News B0 L s.heap [(L + 1, o1), (554, tabObj #[])]) (ho1 : o1.data = .cell none) (C : CodeHd B0 556 554) (lift : B0.IsList w3 vs.toArray) (hi : IntsAre vs ns) (hz : vs.length ≤ 63)
    (hm : m "script" = some (.ref w3)) (hL : 554 < L) :
    wpAny g.M (callerA.deeper (envX cn cs L fa cd clos)) (execs (fnBody g 588) (envX cn cs L fa cd clos)) (fun f s' => f = .ret (.bool true) ∧ (∃ m', Fr B0 L s'.heap m') ∧ Same s s' ∧ GrownAt 554 s'.heap) E s := by
  subst hcs hcl
  let y : Fx := ⟨none, callerA.depth + 1, callerA.units + 3, callerA.guards, [], callerA, B0, B0, L, cn, fnScope g 588, fa, cd, [("model", L + 1)]⟩
  have ok : y.Ok g := ⟨K, X, T, hk, (by show callerA.depth + 1 < recursionLimit; decide), (by show callerA.units + 3 < cLine; decide)⟩
  have FL : LF g y (L + 1) := ⟨rfl, ⟨(by show callerA.depth + 1 + 2 * 330 < recursionLimit; decide), (by show callerA.units + 3 + 12 * 330 < cLine; decide)⟩, ok, rfl, ⟨X, T⟩, C, rfl, rfl⟩
  let σ : Store := fun a => if a = L + 1 then some (.var none) else if a = 554 then some (.obj (tabObj #[])) else none
  have hne : (554 : Addr) ≠ L + 1 := Nat.ne_of_lt (Nat.lt_succ_of_lt hL)
  have e1 : σ (L + 1) = some (.var none) := if_pos rfl
  have e2 : σ 554 = some (.obj (tabObj #[])) := by show (if (554 : Addr) = L + 1 then _ else if (554 : Addr) = 554 then _ else _) = _; rw [if_neg hne, if_pos rfl]
  have sc : ∀ a c, σ a = some c → (a = L + 1 ∧ c = .var none) ∨ (a = 554 ∧ c = .obj (tabObj #[])) := fun a c e => by
    by_cases h1 : a = L + 1
    · subst h1; rw [e1] at e; cases e; exact .inl ⟨rfl, rfl⟩
    · by_cases h2 : a = 554
      · subst h2; rw [e2] at e; cases e; exact .inr ⟨rfl, rfl⟩
      · have : σ a = none := by show (if a = L + 1 then _ else if a = 554 then _ else _) = _; rw [if_neg h1, if_neg h2]
        rw [this] at e; cases e
  have H : At g y σ m s.heap := ⟨F, _, fun a => a, N, by simp [hne.symm], fun a c e => by
      rcases sc a c e with ⟨rfl, rfl⟩ | ⟨rfl, rfl⟩
      · exact ⟨o1, .head _, ho1⟩
      · exact .tail _ (.head _),
    fun a b C1 fs C2 fs' q1 q2 q => (by rcases sc a _ q1 with ⟨_, z⟩ | ⟨_, z⟩ <;> cases z), fun a C1 fs q1 => by rcases sc a _ q1 with ⟨_, z⟩ | ⟨_, z⟩ <;> cases z⟩
  have := law_all FL lift hi hz e1 (.inl e2) hm ok s σ s ⟨.refl s, .refl σ⟩ H
  refine wpAny_mono this (fun f s' ⟨σ', m', h1, h2, h3, h4⟩ => ⟨h3, ⟨m', h2.1⟩, h1.same, ?_⟩) fun e s' z => z.2.elim
  rcases h4 with e | ⟨c', oc, ws, t, e, -⟩
  · exact ⟨_, h2.getObj e⟩
  · exact ⟨_, h2.getObj e⟩
end
end Mine
set_option maxRecDepth 100000 in
set_option maxHeartbeats 8000000 in
theorem PySem.Challenge.cw_fx0003_01_holds : PySem.Challenge.rw_fx0003_01.Holds := by
  exact Mine.hd (by
    k_go0
    have T' := ‹Top _ _ _ _ _ (ghostOf _ _)›
    refine wpAny_mono (Mine.law_end (g := ⟨_, _, _, _, _, _⟩) (L := _) rfl rfl rfl (by assumption) (by assumption) T' (by assumption) (by assumption) ?ho1 (by assumption) (by assumption) (by assumption) ?hz rfl (by assumption)) (fun f s' h => ?hQ) (fun e s' h => h)
    case ho1 => assumption
    case hz =>
      have hl := IntsAre.length ‹IntsAre _ _›
      omega
    case hQ =>
      obtain ⟨h1, ⟨m', F1⟩, h2, h3⟩ := h
      subst h1
      obtain ⟨hh, tt, h2⟩ := h2
      refine ⟨goodW_bool F1 ?_ (fun _ => rfl) ?_ ?_, h3, trivial⟩
      · rw [h2]; assumption
      · wrow_post
      · rw [h2])
  
