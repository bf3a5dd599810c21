import PyProof.Rows.All
import Wide.All
import OpenK.AllK
import Wide.FinOn
import Lean
import PySem.Challenge.RW_nb0077_01
set_option Elab.async false

/-! # PHeap -/
section
namespace Mine
/-! ## the heap's two sifts as plain functions -/
section
variable (lt : Nat → Nat → Bool)
def sdn (xs : List Nat) (pos x : Nat) : List Nat :=
  if _h : 0 < pos then
    if lt x (xs.getD ((pos - 1) / 2) 0) then sdn (xs.set pos (xs.getD ((pos - 1) / 2) 0)) ((pos - 1) / 2) x else xs.set pos x
  else xs.set pos x
termination_by pos
decreasing_by omega

def pick (xs : List Nat) (p : Nat) : Nat := if 2 * p + 2 < xs.length ∧ lt (xs.getD (2 * p + 1) 0) (xs.getD (2 * p + 2) 0) = false then 2 * p + 2 else 2 * p + 1
theorem pick_gt (xs : List Nat) (p : Nat) : p < pick lt xs p := by unfold pick; split <;> omega
theorem pick_lt (xs : List Nat) (p : Nat) (h : 2 * p + 1 < xs.length) : pick lt xs p < xs.length := by unfold pick; split <;> omega

def sup (xs : List Nat) (p : Nat) : List Nat × Nat :=
  if _h : 2 * p + 1 < xs.length then sup (xs.set p (xs.getD (pick lt xs p) 0)) (pick lt xs p) else (xs, p)
termination_by xs.length - p
decreasing_by simp only [List.length_set]; have := pick_gt lt xs p; have := pick_lt lt xs p _h; omega

def upF (xs : List Nat) : List Nat := sdn lt ((sup lt xs 0).1.set (sup lt xs 0).2 (xs.getD 0 0)) (sup lt xs 0).2 (xs.getD 0 0)
def pushF (xs : List Nat) (x : Nat) : List Nat := sdn lt (xs ++ [x]) xs.length x
def popF (xs : List Nat) : Nat × List Nat :=
  if xs.length ≤ 1 then (xs.getD (xs.length - 1) 0, []) else (xs.getD 0 0, upF lt (xs.dropLast.set 0 (xs.getD (xs.length - 1) 0)))
end
end Mine
end

/-! # PTab -/
section
namespace Mine
/-! ## borders of the prefixes (the overlap table), as plain facts -/
def Bd (p : List Int) (i k : Nat) : Prop := k < i ∧ ∀ j, j < k → p.getD j 0 = p.getD (i - k + j) 0
def MBd (p : List Int) (i t : Nat) : Prop := Bd p i t ∧ ∀ k, Bd p i k → k ≤ t
theorem bd_zero {p : List Int} {i : Nat} (h : 0 < i) : Bd p i 0 := ⟨h, fun _ h => absurd h (Nat.not_lt_zero _)⟩
theorem bd_succ {p : List Int} {i k : Nat} : Bd p (i + 1) (k + 1) ↔ Bd p i k ∧ p.getD k 0 = p.getD i 0 := by
  constructor
  · rintro ⟨h1, h2⟩
    refine ⟨⟨by omega, fun j hj => ?_⟩, ?_⟩
    · have := h2 j (by omega); rwa [show i + 1 - (k + 1) + j = i - k + j by omega] at this
    · have := h2 k (by omega); rwa [show i + 1 - (k + 1) + k = i by omega] at this
  · rintro ⟨⟨h1, h2⟩, h3⟩
    refine ⟨by omega, fun j hj => ?_⟩
    rw [show i + 1 - (k + 1) + j = i - k + j by omega]
    by_cases hjk : j = k
    · subst hjk; rw [h3, show i - j + j = i by omega]
    · exact h2 j (by omega)
theorem bd_trans {p : List Int} {i k k' : Nat} (h : Bd p i k) (h' : Bd p k k') : Bd p i k' := by
  refine ⟨Nat.lt_trans h'.1 h.1, fun j hj => ?_⟩
  rw [h'.2 j hj, h.2 (k - k' + j) (by have := h'.1; omega)]
  congr 1; have := h.1; have := h'.1; omega
theorem bd_cut {p : List Int} {i k k' : Nat} (h : Bd p i k) (h' : Bd p i k') (hk : k' < k) : Bd p k k' := by
  refine ⟨hk, fun j hj => ?_⟩
  rw [h'.2 j hj, h.2 (k - k' + j) (by omega)]
  congr 1; have := h.1; omega
theorem mbd_one (p : List Int) : MBd p 1 0 := ⟨bd_zero (by omega), fun k h => by have := h.1; omega⟩
/-- the search down the borders -/
def Sch (p : List Int) (i idx : Nat) : Prop := Bd p i idx ∧ ∀ k, Bd p i k → idx < k → p.getD k 0 ≠ p.getD i 0
theorem sch_init {p : List Int} {i t : Nat} (h : MBd p i t) : Sch p i t := ⟨h.1, fun k hk hlt => by have := h.2 k hk; omega⟩
theorem sch_step {p : List Int} {i idx t : Nat} (h : Sch p i idx) (hne : p.getD idx 0 ≠ p.getD i 0) (ht : MBd p idx t) : Sch p i t :=
  ⟨bd_trans h.1 ht.1, fun k hk hlt => by
    rcases Nat.lt_trichotomy idx k with hl | hl | hl
    · exact h.2 k hk hl
    · exact hl ▸ hne
    · have := ht.2 k (bd_cut h.1 hk hl); omega⟩
theorem sch_hit {p : List Int} {i idx : Nat} (h : Sch p i idx) (he : p.getD idx 0 = p.getD i 0) : MBd p (i + 1) (idx + 1) :=
  ⟨bd_succ.mpr ⟨h.1, he⟩, fun k hk => by
    cases k with
    | zero => omega
    | succ k =>
      obtain ⟨h1, h2⟩ := bd_succ.mp hk
      have : ¬ idx < k := fun hl => h.2 k h1 hl h2
      omega⟩
theorem sch_miss {p : List Int} {i : Nat} (hi : 0 < i) (h : Sch p i 0) (hne : p.getD 0 0 ≠ p.getD i 0) : MBd p (i + 1) 0 :=
  ⟨bd_zero (by omega), fun k hk => by
    cases k with
    | zero => omega
    | succ k =>
      obtain ⟨h1, h2⟩ := bd_succ.mp hk
      rcases Nat.eq_zero_or_pos k with rfl | hk0
      · exact absurd h2 hne
      · exact absurd h2 (h.2 k h1 hk0)⟩
end Mine
end

/-! # MB -/
section
open PySem PySem.W PyProof.Rows PySem.Calls
namespace Mine

/-! ## the program's defs, by projection -/
def pr : Program := PySem.Challenge.pw_nb0077_01
def defAt (k : Nat) : DefItem := match pr.main.body[k]? with
  | some (.FunctionDef name args body _ _ _ scope _ _ pos) => ⟨name, args, body, scope, pos⟩
  | _ => ⟨"", ⟨[], [], none, [], [], none, []⟩, [], ⟨.function, [], false, false, []⟩, ⟨0, 0, 0, 0⟩⟩
def dTab : DefItem := defAt 1
def dPush : DefItem := defAt 3
def dPop : DefItem := defAt 4
def dDown : DefItem := defAt 5
def dUp : DefItem := defAt 6
def dRoot : DefItem := defAt 8
def dLaw : DefItem := defAt 9
def myDefs : List DefItem := [dTab, dPush, dPop, dDown, dUp, dRoot]

abbrev NoE : Value → Shared → Prop := fun _ _ => False
section
variable {α : Type} {M : Model} {A : Around} {E : Value → Shared → Prop} {s : Shared} {t : Sem α} {Q : α → Shared → Prop}
theorem noE (h : wpAny M A t Q NoE s) : wpAny M A t Q E s := wpAny_mono h (fun _ _ x => x) fun _ _ x => x.elim
end

/-- what the top left, as far as the calls need it -/
def Gl (h : Heap) : Prop := ∃ mg mb, h.Ns mainGlobals mg ∧ h.Ns builtinsNs mb ∧ h.NoLimit ∧
  (∀ d ∈ myDefs, ∃ a o pm code doc, mg d.name = some (.ref a) ∧ h.get? a = some o ∧ o.data = .func (docDef d.name d.params d.body d.scope pm code doc) ∧ h.CodeRec code d.name) ∧
  (∀ x ∈ (["len", "range", "tuple", "sorted", "list"] : List Str), mg x = none ∧ mb x = bootBuiltins x)

theorem Gl.keeps {h h' : Heap} (g : Gl h) (k : h.StaysIn h') : Gl h' := by
  obtain ⟨mg, mb, g1, g2, g3, g4, g5⟩ := g
  refine ⟨mg, mb, g1.keeps k, g2.keeps k, g3.keeps k, fun d hd => ?_, g5⟩
  obtain ⟨a, o, pm, code, doc, e1, e2, e3, e4⟩ := g4 d hd
  exact ⟨a, o, pm, code, doc, e1, k _ _ e2, e3, e4.keeps k⟩

/-- the room that a call has -/
structure Ok (A : Around) (k : Nat) : Prop where
  hd : A.handled = none
  dp : A.depth + k < recursionLimit
  un : A.units + 20 * k < cLine
theorem Ok.deeper {A : Around} {k : Nat} (h : Ok A (k + 1)) (env : Env) : Ok (A.deeper env) k :=
  ⟨h.hd, by have := h.dp; show A.depth + 1 + k < _; omega, by have := h.un; show A.units + 3 + _ < _; omega⟩
theorem Ok.le {A : Around} {k j : Nat} (h : Ok A k) (hj : j ≤ k) : Ok A j :=
  ⟨h.hd, by have := h.dp; omega, by have := h.un; omega⟩

/-! ## the frame's state: locals (those that are named), what stays, what the frame may change -/
abbrev OP := Obj → Prop
def LP (items : List Value) : OP := fun o => ∃ n, o = { cls := .type "list", data := .seq items.toArray n }
def TP (items : List Value) : OP := fun o => ∃ n, o = { cls := .type "tuple", data := .seq items.toArray n }
theorem LP.isList {h : Heap} {a : Addr} {items : List Value} (x : ∃ o, h.get? a = some o ∧ LP items o) : h.IsList a items.toArray := by
  obtain ⟨o, e, n, rfl⟩ := x; exact ⟨_, e, rfl, n, rfl⟩
theorem TP.isTup {h : Heap} {a : Addr} {items : List Value} (x : ∃ o, h.get? a = some o ∧ TP items o) : IsTup h a items.toArray := by
  obtain ⟨o, e, n, rfl⟩ := x; exact ⟨_, e, rfl, n, rfl⟩
def CP (v : Option Value) : OP := fun o => o.data = .cell v

structure St (B : Heap) (L : Addr) (h : Heap) (bs : List (Str × Value)) (ms : List (Addr × OP)) : Prop where
  ns : ∃ m, h.Ns L m ∧ ∀ p ∈ bs, m p.1 = some p.2
  keep : B.StaysIn h
  newL : B.get? L = none
  mu : ∀ p ∈ ms, p.1 ≠ L ∧ B.get? p.1 = none ∧ ∃ o, h.get? p.1 = some o ∧ p.2 o
  nd : (ms.map (·.1)).Nodup

def putB (x : Str) (v : Value) : List (Str × Value) → List (Str × Value)
  | [] => [(x, v)]
  | (y, u) :: r => if y = x then (x, v) :: r.filter (fun p => decide (p.1 ≠ x)) else (y, u) :: putB x v r
theorem mem_putB {x : Str} {v : Value} {p : Str × Value} : ∀ {bs : List (Str × Value)}, p ∈ putB x v bs → p = (x, v) ∨ (p ∈ bs ∧ p.1 ≠ x)
  | [], h => by simp [putB] at h; exact .inl h
  | (y, u) :: r, h => by
    unfold putB at h
    split at h
    · rcases List.mem_cons.mp h with h | h
      · exact .inl h
      · have := List.mem_filter.mp h
        exact .inr ⟨.tail _ this.1, of_decide_eq_true this.2⟩
    · rename_i hy
      rcases List.mem_cons.mp h with h | h
      · exact .inr ⟨h ▸ .head _, h ▸ hy⟩
      · rcases mem_putB h with h | ⟨h, h'⟩
        · exact .inl h
        · exact .inr ⟨.tail _ h, h'⟩

theorem St.get {B : Heap} {L : Addr} {h : Heap} {bs ms} (S : St B L h bs ms) {a : Addr} {P : OP} (hm : (a, P) ∈ ms) : ∃ o, h.get? a = some o ∧ P o := (S.mu _ hm).2.2
theorem St.isList {B : Heap} {L : Addr} {h : Heap} {bs ms} (S : St B L h bs ms) {a : Addr} {items : List Value} (hm : (a, LP items) ∈ ms) : h.IsList a items.toArray := LP.isList (S.get hm)
theorem St.isTup {B : Heap} {L : Addr} {h : Heap} {bs ms} (S : St B L h bs ms) {a : Addr} {items : List Value} (hm : (a, TP items) ∈ ms) : IsTup h a items.toArray := TP.isTup (S.get hm)

/-- a store into the locals -/
theorem St.put {B : Heap} {L : Addr} {h h' : Heap} {bs ms} (S : St B L h bs ms) {x : Str} {v : Value} {m : Str → Option Value} (hm : ∀ p ∈ bs, m p.1 = some p.2)
    (hn : h'.Ns L (fun y => if y = x then some v else m y)) (hs : Heap.SameBut L h h') : St B L h' (putB x v bs) ms where
  ns := ⟨_, hn, fun p hp => by
    rcases mem_putB hp with rfl | ⟨h1, h2⟩
    · simp
    · simp only [h2, if_false]; exact hm p h1⟩
  keep := fun b o e => (hs.2 b (fun q => by rw [q, S.newL] at e; cases e)).trans (S.keep b o e)
  newL := S.newL
  mu := fun p hp => let ⟨h1, h2, o, h3, h4⟩ := S.mu p hp; ⟨h1, h2, o, (hs.2 _ h1).trans h3, h4⟩
  nd := S.nd

theorem St.ltL {B : Heap} {L : Addr} {h : Heap} {bs ms} (S : St B L h bs ms) : L < h.objs.size := let ⟨_, hn, _⟩ := S.ns; hn.lt
theorem St.lt {B : Heap} {L : Addr} {h : Heap} {bs ms} (S : St B L h bs ms) {p : Addr × OP} (hp : p ∈ ms) : p.1 < h.objs.size := let ⟨_, _, _, h3, _⟩ := S.mu p hp; Heap.lt_size h3

/-- any growth that leaves all objects -/
theorem St.grow {B : Heap} {L : Addr} {h h' : Heap} {bs ms} (S : St B L h bs ms) (k : h.StaysIn h') : St B L h' bs ms where
  ns := let ⟨m, hn, hm⟩ := S.ns; ⟨m, hn.keeps k, hm⟩
  keep := fun b o e => k _ _ (S.keep b o e)
  newL := S.newL
  mu := fun p hp => let ⟨h1, h2, o, h3, h4⟩ := S.mu p hp; ⟨h1, h2, o, k _ _ h3, h4⟩
  nd := S.nd

theorem stays_push (h : Heap) (o : Obj) : h.StaysIn (h.push o) := fun _ _ e => Heap.get?_push_of_some o e
theorem get_ge {h : Heap} {a : Addr} (e : h.objs.size ≤ a) : h.get? a = none := by
  cases q : h.get? a with
  | none => rfl
  | some o => exact absurd (Heap.lt_size q) (Nat.not_lt.mpr e)

theorem B_fresh {B h : Heap} (k : B.StaysIn h) {a : Addr} (e : h.get? a = none) : B.get? a = none := by
  cases q : B.get? a with
  | none => rfl
  | some o => rw [k _ _ q] at e; cases e

/-- a new object that the frame keeps an eye on -/
theorem St.alloc {B : Heap} {L : Addr} {h h' : Heap} {bs ms} (S : St B L h bs ms) (k : h.StaysIn h') {a : Addr} (ha : h.get? a = none) {P : OP} (hP : ∃ o, h'.get? a = some o ∧ P o) : St B L h' bs ((a, P) :: ms) where
  ns := let ⟨m, hn, hm⟩ := S.ns; ⟨m, hn.keeps k, hm⟩
  keep := fun b o e => k _ _ (S.keep b o e)
  newL := S.newL
  mu := fun p hp => by
    rcases List.mem_cons.mp hp with rfl | hp
    · refine ⟨?_, B_fresh S.keep ha, hP⟩
      rintro rfl
      obtain ⟨m, ⟨o, _, _, e, _⟩, _⟩ := S.ns
      rw [e] at ha; cases ha
    · exact let ⟨h1, h2, o, h3, h4⟩ := S.mu p hp; ⟨h1, h2, o, k _ _ h3, h4⟩
  nd := by
    refine List.nodup_cons.mpr ⟨fun q => ?_, S.nd⟩
    obtain ⟨p, hp, e⟩ := List.mem_map.mp q
    obtain ⟨_, _, o, h3, _⟩ := S.mu p hp
    rw [e, ha] at h3; cases h3
theorem St.push {B : Heap} {L : Addr} {h : Heap} {bs ms} (S : St B L h bs ms) (o : Obj) {P : OP} (hP : P o) (hf : o.isFreed = false := by rfl) : St B L (h.push o) bs ((h.objs.size, P) :: ms) :=
  S.alloc (stays_push h o) (get_ge (Nat.le_refl _)) ⟨o, Heap.get?_push_size _ hf, hP⟩

theorem St.sub {B : Heap} {L : Addr} {h : Heap} {bs bs' ms ms'} (S : St B L h bs ms) (hb : ∀ p ∈ bs', p ∈ bs) (hm : ms'.Sublist ms) : St B L h bs' ms' where
  ns := let ⟨m, hn, h⟩ := S.ns; ⟨m, hn, fun p hp => h p (hb p hp)⟩
  keep := S.keep
  newL := S.newL
  mu := fun p hp => S.mu p (hm.subset hp)
  nd := S.nd.sublist (hm.map _)

/-- one object of the ledger is changed, all else stays -/
theorem St.upd {B : Heap} {L : Addr} {h h' : Heap} {bs ms} (S : St B L h bs ms) (i : Nat) {a : Addr} {P P' : OP} (hi : ms[i]? = some (a, P)) (hs : Heap.ExtBut a h h') (hP : ∃ o, h'.get? a = some o ∧ P' o) :
    St B L h' bs (ms.set i (a, P')) := by
  have hlt : i < ms.length := (List.getElem?_eq_some_iff.mp hi).1
  have hmem : (a, P) ∈ ms := List.mem_of_getElem? hi
  obtain ⟨aL, aB, _⟩ := S.mu _ hmem
  have hmap : (ms.set i (a, P')).map (·.1) = ms.map (·.1) := by
    rw [List.map_set]
    apply List.ext_getElem?
    intro j
    rw [List.getElem?_set]
    split
    · rename_i e; subst e
      simp only [List.length_map, hlt, if_true, List.getElem?_map, hi, Option.map_some]
    · rfl
  refine ⟨?_, fun b o e => hs b o (fun q => by rw [q, aB] at e; cases e) (S.keep b o e), S.newL, fun p hp => ?_, hmap ▸ S.nd⟩
  · obtain ⟨m, ⟨oL, es, ep, hL, r⟩, hm⟩ := S.ns
    exact ⟨m, ⟨oL, es, ep, hs _ _ (Ne.symm aL) hL, r⟩, hm⟩
  · obtain ⟨j, hj, e⟩ := List.mem_iff_getElem.mp hp
    rw [List.getElem_set] at e
    split at e
    · subst e; exact ⟨aL, aB, hP⟩
    · rename_i hne
      have hj' : j < ms.length := by simpa using hj
      have hp' : p ∈ ms := e ▸ List.getElem_mem hj'
      obtain ⟨h1, h2, o, h3, h4⟩ := S.mu p hp'
      refine ⟨h1, h2, o, hs _ _ (fun q => ?_) h3, h4⟩
      have nd := S.nd
      have e1 : (ms.map (·.1))[i]'(by simpa using hlt) = a := by
        rw [List.getElem_map]; have := (List.getElem?_eq_some_iff.mp hi).2; rw [this]
      have e2 : (ms.map (·.1))[j]'(by simpa using hj') = a := by rw [List.getElem_map, e, q]
      exact hne ((List.getElem_inj nd).mp (e1.trans e2.symm))

/-- a new base: all that is there, but the locals and the ledger -/
theorem St.rebase {B : Heap} {L : Addr} {h : Heap} {bs ms} (S : St B L h bs ms) : St (hideAll h (L :: ms.map (·.1))) L h bs ms where
  ns := S.ns
  keep := fun _ _ e => of_hideAll _ e
  newL := hideAll_none _ (.head _)
  mu := fun p hp => let ⟨h1, _, h3⟩ := S.mu p hp; ⟨h1, hideAll_none _ (.tail _ (List.mem_map_of_mem hp)), h3⟩
  nd := S.nd
theorem St.base_stays {B : Heap} {L : Addr} {h : Heap} {bs ms} (S : St B L h bs ms) : B.StaysIn (hideAll h (L :: ms.map (·.1))) := fun b o e =>
  hideAll_get _ (S.keep b o e) fun q => by
    rcases List.mem_cons.mp q with q | q
    · rw [q, S.newL] at e; cases e
    · obtain ⟨p, hp, q⟩ := List.mem_map.mp q
      rw [← q, (S.mu p hp).2.1] at e; cases e

theorem extBut_of_hide {h h' : Heap} {a : Addr} (k : (h.hide a).StaysIn h') : Heap.ExtBut a h h' := fun b o hb e => k b o ((Heap.hide_ne h hb).trans e)
theorem hide_of_extBut {h h' : Heap} {a : Addr} (k : Heap.ExtBut a h h') : (h.hide a).StaysIn h' := fun b o e => by
  by_cases hb : b = a
  · rw [hb, Heap.hide_self] at e; cases e
  · rw [Heap.hide_ne h hb] at e; exact k b o hb e
theorem ExtBut_trans_stays {h h' h'' : Heap} {a : Addr} (k : Heap.ExtBut a h h') (k' : h'.StaysIn h'') : Heap.ExtBut a h h'' := fun b o hb e => k' _ _ (k b o hb e)
theorem stays_trans {h h' h'' : Heap} (k : h.StaysIn h') (k' : h'.StaysIn h'') : h.StaysIn h'' := fun b o e => k' _ _ (k b o e)

end Mine
end

/-! # MOps -/
section
open PySem PySem.W PyProof.Rows PySem.Calls
namespace Mine

/-- the order of Python's int tuples -/
def ltL : List Int → List Int → Bool
  | x :: xs, y :: ys => if x = y then ltL xs ys else decide (x < y)
  | xs, ys => decide (xs.length < ys.length)

def ITup (h : Heap) (a : Addr) (xs : List Int) : Prop := ∃ vs, IsTup h a vs.toArray ∧ IntsAre vs xs
def IList (h : Heap) (a : Addr) (xs : List Int) : Prop := ∃ vs, h.IsList a vs.toArray ∧ IntsAre vs xs
theorem ITup.keeps {h h' : Heap} {a : Addr} {xs : List Int} (x : ITup h a xs) (k : h.StaysIn h') : ITup h' a xs := let ⟨vs, h1, h2⟩ := x; ⟨vs, h1.keeps k, h2⟩
theorem IList.keeps {h h' : Heap} {a : Addr} {xs : List Int} (x : IList h a xs) (k : h.StaysIn h') : IList h' a xs := let ⟨vs, h1, h2⟩ := x; ⟨vs, stays_list k h1, h2⟩

theorem intsAre_inj : ∀ {vs : List Value} {xs ys : List Int}, IntsAre vs xs → IntsAre vs ys → xs = ys
  | _, _, _, .nil, .nil => rfl
  | _, _, _, .cons n t h, .cons _ _ h' => by rw [intsAre_inj h h']
theorem ITup.inj {h : Heap} {a : Addr} {xs ys : List Int} (x : ITup h a xs) (y : ITup h a ys) : xs = ys := by
  obtain ⟨vs, ⟨o, h1, _, n, h2⟩, h3⟩ := x
  obtain ⟨vs', ⟨o', h1', _, n', h2'⟩, h3'⟩ := y
  rw [h1] at h1'; cases h1'
  rw [h2] at h2'
  injection h2' with e1 e2
  have : vs = vs' := by simpa using e1
  subst this
  exact intsAre_inj h3 h3'

section
variable {prog : Program} {w : World} {A : Around} {E : Value → Shared → Prop} {s : Shared}

theorem tuple_lt_tree {x y : List Int} {a b : Addr} {P : Fin → Shared → Prop} (hx : ITup s.heap a x) (hy : ITup s.heap b y) (h : P (.done (.ret (.bool (ltL x y)))) s) :
    wpAny (model prog w) A (Builtin.«tuple.__lt__» ⟨[.ref a, .ref b], []⟩) P E s := by
  obtain ⟨xs, hX, hia⟩ := hx
  obtain ⟨ys, hY, hib⟩ := hy
  have hTb := hY.typeIs
  show wpAny _ _ (isInstance (.ref b) (.type "tuple") >>= _) _ _ s
  refine wpAny_bind (wpAny_isInstance hTb isSubtype_tuple_tuple ?_)
  simp only [Bool.not_true, Bool.false_eq_true, if_false]
  refine wpAny_bind (tupleItemsOf_ hX ?_)
  refine wpAny_bind (tupleItemsOf_ hY ?_)
  refine wpAny_bind ?_
  refine wpAny_forIn_list _
    (fun rest r s' => r.1 = none ∧ s' = s ∧ ∃ x' y' xs' ys', rest = List.zip xs' ys' ∧ IntsAre xs' x' ∧ IntsAre ys' y' ∧ ltL x' y' = ltL x y ∧ (decide (xs'.length < ys'.length)) = (decide (xs.length < ys.length)))
    _ ?_ ?_ _ _ ⟨rfl, rfl, x, y, xs, ys, rfl, hia, hib, rfl, rfl⟩
  · rintro ⟨u, v⟩ rest r s' ⟨hr, rfl, x', y', xs', ys', hz, hx', hy', hdec, hlen⟩
    cases hx' with
    | nil => simp at hz
    | @cons k1 t1 xs'' x'' hx'' =>
      cases hy' with
      | nil => simp at hz
      | @cons k2 t2 ys'' y'' hy'' =>
        simp only [List.zip_cons_cons, List.cons.injEq, Prod.mk.injEq] at hz
        obtain ⟨⟨rfl, rfl⟩, rfl⟩ := hz
        refine wpAny_bind (wpAny_eqBool_int ?_)
        by_cases hk : k1 = k2
        · subst hk
          rw [beq_self_eq_true]
          simp only [Bool.not_true, Bool.false_eq_true, if_false]
          refine wpAny_pure ⟨rfl, rfl, x'', y'', xs'', ys'', rfl, hx'', hy'', ?_, by simpa using hlen⟩
          rw [← hdec]; simp [ltL]
        · rw [beq_eq_false_iff_ne.mpr hk]
          simp only [Bool.not_false, if_true]
          have hf : decide (k1 < k2) = ltL x y := by rw [← hdec]; simp [ltL, hk]
          rw [← hf] at h
          refine wpAny_bind (wpAny_rule ?_)
          refine wpAny_bind ?_
          have := @PyProof.Rows.lt_int prog w A E s' k1 k2 t1 t2 (fun v s'' => v = .bool (decide (k1 < k2)) ∧ s'' = s') ⟨rfl, rfl⟩
          refine wpAny_mono (show wpAny (model prog w) A (richCompare .Lt _ _) _ E s' from this) (fun v s'' hv => ?_) fun _ _ x => x
          obtain ⟨rfl, rfl⟩ := hv
          exact wpAny_bind (wpAny_pure (wpAny_pure (wpAny_pure h)))
  · rintro ⟨r1, r2⟩ s' ⟨hr, rfl, x', y', xs', ys', hz, hx', hy', hdec, hlen⟩
    simp only at hr
    subst hr
    refine wpAny_pure ?_
    have hfin : decide (xs.length < ys.length) = ltL x y := by
      rw [← hdec, ← hlen]
      cases hx' with
      | nil =>
        cases hy' with
        | nil => simp [ltL]
        | cons _ _ => simp [ltL]
      | cons _ _ =>
        cases hy' with
        | nil => simp [ltL]
        | cons _ _ => simp at hz
    show P (.done (.ret (.bool (decide (xs.toArray.size < ys.toArray.size))))) s'
    simp only [List.size_toArray]
    rw [hfin]; exact h

theorem lt_tup {x y : List Int} {a b : Addr} {Q : Value → Shared → Prop} (hx : ITup s.heap a x) (hy : ITup s.heap b y) (hu : A.units < cLine) (h : Q (.bool (ltL x y)) s) :
    wpAny (model prog w) A (compareOp .Lt (.ref a) (.ref b)) Q E s := by
  obtain ⟨xs, hX, hia⟩ := id hx
  obtain ⟨ys, hY, hib⟩ := id hy
  show wpAny _ _ (richCompare .Lt _ _) _ _ _
  exact wpAny_richCompare_same_room (op := .Lt) hX.typeIs hY.typeIs F.slot_tuple_lt
      (wpAny_call_entry F.slot_tuple_lt hX.typeIs F.entry_tuple_lt (tuple_lt_tree hx hy ⟨_, rfl, (fun e => nomatch e), h⟩) (F.args_tuple_lt_2 _ _)) hu

theorem tuple_ne_tree {x y : List Int} {a b : Addr} {P : Fin → Shared → Prop} (hx : ITup s.heap a x) (hy : ITup s.heap b y) (h : P (.done (.ret (.bool (decide (x ≠ y))))) s) :
    wpAny (model prog w) A (Builtin.«tuple.__ne__» ⟨[.ref a, .ref b], []⟩) P E s := by
  obtain ⟨xs, hX, hia⟩ := hx
  obtain ⟨ys, hY, hib⟩ := hy
  have hTb := hY.typeIs
  show wpAny _ _ (isInstance (.ref b) (.type "tuple") >>= _) _ _ s
  refine wpAny_bind (wpAny_isInstance hTb isSubtype_tuple_tuple ?_)
  simp only [Bool.not_true, Bool.false_eq_true, if_false]
  refine wpAny_bind (tupleItemsOf_ hX ?_)
  refine wpAny_bind (tupleItemsOf_ hY ?_)
  refine wpAny_bind ?_
  refine wpAny_forIn_list _
    (fun rest r s' => r.1 = none ∧ s' = s ∧ ∃ x' y' xs' ys', rest = List.zip xs' ys' ∧ IntsAre xs' x' ∧ IntsAre ys' y' ∧ decide (x' ≠ y') = decide (x ≠ y) ∧ (xs'.length != ys'.length) = (xs.length != ys.length))
    _ ?_ ?_ _ _ ⟨rfl, rfl, x, y, xs, ys, rfl, hia, hib, rfl, rfl⟩
  · rintro ⟨u, v⟩ rest r s' ⟨hr, rfl, x', y', xs', ys', hz, hx', hy', hdec, hlen⟩
    cases hx' with
    | nil => simp at hz
    | @cons k1 t1 xs'' x'' hx'' =>
      cases hy' with
      | nil => simp at hz
      | @cons k2 t2 ys'' y'' hy'' =>
        simp only [List.zip_cons_cons, List.cons.injEq, Prod.mk.injEq] at hz
        obtain ⟨⟨rfl, rfl⟩, rfl⟩ := hz
        refine wpAny_bind (wpAny_eqBool_int ?_)
        by_cases hk : k1 = k2
        · subst hk
          rw [beq_self_eq_true]
          simp only [Bool.not_true, Bool.false_eq_true, if_false]
          refine wpAny_pure ⟨rfl, rfl, x'', y'', xs'', ys'', rfl, hx'', hy'', ?_, ?_⟩
          · rw [← hdec]; simp
          · rw [← hlen]; simp [bne]
        · rw [beq_eq_false_iff_ne.mpr hk]
          simp only [Bool.not_false, if_true]
          have hf : decide (x ≠ y) = true := by rw [← hdec]; simp [hk]
          rw [hf] at h
          exact wpAny_bind (wpAny_pure (wpAny_pure (wpAny_pure h)))
  · rintro ⟨r1, r2⟩ s' ⟨hr, rfl, x', y', xs', ys', hz, hx', hy', hdec, hlen⟩
    simp only at hr
    subst hr
    refine wpAny_pure ?_
    have hfin : (xs.length != ys.length) = decide (x ≠ y) := by
      rw [← hdec, ← hlen]
      cases hx' with
      | nil =>
        cases hy' with
        | nil => simp
        | cons _ _ => simp
      | cons _ _ =>
        cases hy' with
        | nil => simp
        | cons _ _ => simp at hz
    show P (.done (.ret (.bool (xs.toArray.size != ys.toArray.size)))) s'
    simp only [List.size_toArray]
    rw [hfin]; exact h

theorem ne_tup {x y : List Int} {a b : Addr} {Q : Value → Shared → Prop} (hx : ITup s.heap a x) (hy : ITup s.heap b y) (hu : A.units < cLine) (h : Q (.bool (decide (x ≠ y))) s) :
    wpAny (model prog w) A (compareOp .NotEq (.ref a) (.ref b)) Q E s := by
  obtain ⟨xs, hX, hia⟩ := id hx
  obtain ⟨ys, hY, hib⟩ := id hy
  show wpAny _ _ (richCompare .NotEq _ _) _ _ _
  exact wpAny_richCompare_same_room (op := .NotEq) hX.typeIs hY.typeIs F.slot_tuple_ne
      (wpAny_call_entry F.slot_tuple_ne hX.typeIs F.entry_tuple_ne (tuple_ne_tree hx hy ⟨_, rfl, (fun e => nomatch e), h⟩) (F.args_tuple_ne_2 _ _)) hu
end
end Mine
end

/-! # MX -/
section
open PySem PySem.W PyProof.Rows PySem.Calls
namespace Mine

theorem sub_nil {bs : List (Str × Value)} : ∀ p ∈ ([] : List (Str × Value)), p ∈ bs := fun _ h => nomatch h
theorem sub_cons {bs r : List (Str × Value)} {q : Str × Value} (hq : q ∈ bs) (hr : ∀ p ∈ r, p ∈ bs) : ∀ p ∈ q :: r, p ∈ bs := fun p h => by
  rcases List.mem_cons.mp h with rfl | h
  · exact hq
  · exact hr p h

theorem ite_t {P Q : Prop} (h : P) : if true = true then P else Q := by simpa using h
theorem ite_f {P Q : Prop} (h : Q) : if false = true then P else Q := by simpa using h

theorem ofString_inj {a b : String} : Str.ofString a = Str.ofString b ↔ a = b := by
  constructor
  · intro h
    rw [Str.ofString_eq_toList, Str.ofString_eq_toList] at h
    injection h with h
    have h' : a.toList.map Char.toNat = b.toList.map Char.toNat := by simpa using congrArg Array.toList h
    have inj : ∀ (l l' : List Char), l.map Char.toNat = l'.map Char.toNat → l = l' := by
      intro l
      induction l with
      | nil => intro l' e; cases l' with | nil => rfl | cons _ _ => simp at e
      | cons c r ih =>
        intro l' e
        cases l' with
        | nil => simp at e
        | cons c' r' =>
          simp only [List.map_cons, List.cons.injEq] at e
          rw [ih r' e.2, Char.toNat_inj.mp e.1]
    exact String.toList_inj.mp (inj _ _ h')
  · rintro rfl; rfl

def FnIs (h : Heap) (a : Addr) (d : DefItem) : Prop := ∃ o pm code doc, h.get? a = some o ∧ o.data = .func (docDef d.name d.params d.body d.scope pm code doc) ∧ h.CodeRec code d.name
theorem FnIs.keeps {h h' : Heap} {a : Addr} {d : DefItem} (x : FnIs h a d) (k : h.StaysIn h') : FnIs h' a d :=
  let ⟨o, pm, code, doc, e1, e2, e3⟩ := x; ⟨o, pm, code, doc, k _ _ e1, e2, e3.keeps k⟩

section
variable {prog : Program} {w : World} {A : Around} {E : Value → Shared → Prop} {s : Shared} {env : Env} {B : Heap} {L : Addr} {bs : List (Str × Value)} {ms : List (Addr × OP)}

theorem ev_loc {x : Str} {pos : Pos} {v : Value} {Q : Value → Shared → Prop} (S : St B L s.heap bs ms) (hv : (x, v) ∈ bs) (h : Q v s)
    (hL : env.locals = L := by rfl) (hk : env.scope.kind = .function := by rfl) (hl : env.kindOf x = some .local := by rfl) (hd : (x == ("__debug__" : Str)) = false := by decide) :
    wpAny (model prog w) A (eval (.Name x pos) env) Q E s := by
  obtain ⟨m, hn, hm⟩ := S.ns
  subst hL
  exact wpAny_Name (wpAny_loadName_local hk hl hn (hm _ hv) h) hd

theorem st_loc {x : Str} {v : Value} {Q : Unit → Shared → Prop} (S : St B L s.heap bs ms)
    (h : ∀ h', St B L h' (putB x v bs) ms → Q () { s with heap := h', toks := s.toks + 1 })
    (hL : env.locals = L := by rfl) (hk : env.scope.kind = .function := by rfl) (hl : env.kindOf x = some .local := by rfl) :
    wpAny (model prog w) A (storeName env x v) Q E s := by
  obtain ⟨m, hn, hm⟩ := S.ns
  subst hL
  refine wpAny_storeName_local hl hn (fun h' hn' hs => h h' (S.put hm hn' hs)) ?_
  rw [hk]; rfl

theorem ev_def {G : Heap} (d : DefItem) {x : Str} {pos : Pos} {Q : Value → Shared → Prop} (hG : Gl G) (k : G.StaysIn s.heap) (h : ∀ a, FnIs G a d → Q (.ref a) s) (hd : d ∈ myDefs := by simp [myDefs]) (hx : d.name = x := by rfl)
    (hg : env.globals = mainGlobals := by rfl) (hk : env.scope.kind = .function := by rfl) (hl : env.kindOf x = some .globalImplicit := by rfl) (hdb : (x == ("__debug__" : Str)) = false := by decide) :
    wpAny (model prog w) A (eval (.Name x pos) env) Q E s := by
  obtain ⟨mg, mb, g1, g2, g3, g4, g5⟩ := hG
  obtain ⟨a, o, pm, code, doc, e1, e2, e3, e4⟩ := g4 d hd
  rw [hx] at e1
  exact Name_function_global hk hl (loadGlobal_global (hg ▸ g1.keeps k) e1 (h a ⟨o, pm, code, doc, e2, e3, e4⟩)) hdb

theorem ev_blt {G : Heap} {x : Str} {pos : Pos} {v : Value} {Q : Value → Shared → Prop} (hG : Gl G) (k : G.StaysIn s.heap) (hx : x ∈ (["len", "range", "tuple", "sorted", "list"] : List Str)) (hv : bootBuiltins x = some v) (h : Q v s)
    (hg : env.globals = mainGlobals := by rfl) (hb : env.builtins = builtinsNs := by rfl) (hk : env.scope.kind = .function := by rfl) (hl : env.kindOf x = some .globalImplicit := by rfl) (hdb : (x == ("__debug__" : Str)) = false := by decide) :
    wpAny (model prog w) A (eval (.Name x pos) env) Q E s := by
  obtain ⟨mg, mb, g1, g2, g3, g4, g5⟩ := hG
  obtain ⟨e1, e2⟩ := g5 x hx
  exact Name_function_global hk hl (loadGlobal_builtin (hg ▸ g1.keeps k) e1 (hb ▸ g2.keeps k) (e2.trans hv) h) hdb
theorem boot_len : bootBuiltins "len" = some (.builtin "len") := by decide +kernel
theorem boot_range : bootBuiltins "range" = some (.type "range") := by decide +kernel
theorem boot_tuple : bootBuiltins "tuple" = some (.type "tuple") := by decide +kernel
theorem boot_list : bootBuiltins "list" = some (.type "list") := by decide +kernel
theorem boot_sorted : bootBuiltins "sorted" = some (.builtin "sorted") := by decide +kernel

/-- xs[k] -/
theorem it_list {value slice : Expr} {l : Addr} {items : List Value} {k : Int} {u : Tok} {x : Value} {Q : Value → Shared → Prop} (hl : s.heap.IsList l items.toArray)
    (h0 : 0 ≤ k) (hk : k < 2 ^ 63) (hx : items[k.toNat]? = some x) (h : Q x s)
    (hs : subscripted slice false (.ref l) (.int k u) = operate [.ref l, .int k u] (getItem (.ref l) (.int k u)) := by with_unfolding_all rfl) :
    wpAny (model prog w) A (subscriptTail value slice (.ref l) (.int k u)) Q E s :=
  tail_any hl.typeIs slot_list_getitem.lookup (wpAny_getItem_list hl h0 hk (by simpa using hx) h) hs

/-- xs[k] = v, the list being the ledger's i-th -/
theorem set_list {l : Addr} {items : List Value} {k : Int} {u : Tok} {v : Value} {Q : Unit → Shared → Prop} (S : St B L s.heap bs ms) (i : Nat) (hi : ms[i]? = some (l, LP items))
    (h0 : 0 ≤ k) (hk : k < 2 ^ 63) (hn : k.toNat < items.length)
    (h : ∀ h', St B L h' bs (ms.set i (l, LP (items.set k.toNat v))) → Q () { s with heap := h' }) :
    wpAny (model prog w) A (setItem (.ref l) (.int k u) v) Q E s := by
  obtain ⟨o, ho, n, rfl⟩ := S.get (List.mem_of_getElem? hi)
  refine ki_setAt ho h0 hk (by simp only [List.size_toArray]; omega) (h _ (S.upd i hi (Heap.SameBut.update ..).extBut ⟨_, PySem.IsL.update ho _, n, ?_⟩))
  simp

/-- xs.append(v) -/
theorem append_list {l : Addr} {items : List Value} {v : Value} {Q : Value → Shared → Prop} (S : St B L s.heap bs ms) (i : Nat) (hi : ms[i]? = some (l, LP items)) (hz : items.length ≤ sizeLine)
    (h : ∀ h', St B L h' bs (ms.set i (l, LP (items ++ [v]))) → Q .none { s with heap := h' }) :
    wpAny (model prog w) A (call (.builtin "list.append") [.ref l, v]) Q E s := by
  obtain ⟨o, ho, n, rfl⟩ := S.get (List.mem_of_getElem? hi)
  refine wpAny_list_append_plain ⟨n, ho⟩ (fun h' hl' hs => h h' (S.upd i hi hs.extBut ?_)) (by simpa using hz)
  obtain ⟨n', e⟩ := hl'
  exact ⟨_, e, n', by simp⟩

/-- xs.pop() -/
theorem pop_list {l : Addr} {items : List Value} {v : Value} {Q : Value → Shared → Prop} (S : St B L s.heap bs ms) (i : Nat) (hi : ms[i]? = some (l, LP (items ++ [v]))) (hz : items.length < sizeLine)
    (h : ∀ h', St B L h' bs (ms.set i (l, LP items)) → Q v { s with heap := h' }) :
    wpAny (model prog w) A (call (.builtin "list.pop") [.ref l]) Q E s := by
  obtain ⟨o, ho, n, rfl⟩ := S.get (List.mem_of_getElem? hi)
  have hz' : (items ++ [v]).toArray.size ≤ sizeLine := by simp; omega
  have hk : (items ++ [v]).toArray.size - 1 = items.length := by simp
  have hy : (items ++ [v]).toArray[(items ++ [v]).toArray.size - 1]? = some v := by rw [hk]; simp
  refine call_meets PySem.F.slot_list_pop ⟨_, ho, rfl⟩ PySem.F.entry_list_pop (PySem.F.args_list_pop_1 _) (PySem.MeetsSeq.list_pop_last l _ n v hy hz') ⟨ho, h _ (S.upd i hi (Heap.SameBut.update ..).extBut ⟨_, PySem.IsL.update ho _, n + 1, ?_⟩)⟩
  have e : (items ++ [v]).toArray.eraseIdxIfInBounds ((items ++ [v]).toArray.size - 1) = items.toArray := by rw [hk, kl_erase, List.append_nil]
  rw [e]; simp

/-- a method's call on a list: the method and its self -/
theorem meth_list {o : Expr} {name : Str} {apos pos : Pos} {args : List Expr} {id : String} {Q : Value → Shared → Prop} {items : List Value} {l : Addr}
    (slot : Slot "list" name id) (hty : typeOf (.builtin id) = pure (.type "method_descriptor"))
    (h : wpAny (model prog w) A (eval o env) (fun ov s₁ => ov = .ref l ∧ (∃ ob, s₁.heap.get? l = some ob ∧ LP items ob) ∧
      wpAny (model prog w) A (callWith pos (.builtin id) [.ref l] (backTo pos (starEach args env)) []) Q E s₁) E s)
    (hbase : attributeBase o name env (eval o env) = eval o env := by rfl)
    (hfew : ((backTo pos (starEach args env)).all (fun x => !x.1) && (backToKw pos (keywordEach [] env)).all (fun x => x.1.isSome)
      && decide (args.length + ([] : List Keyword).length + (if ([] : List Keyword).isEmpty then 0 else 1) < 30)) = true := by rfl)
    (hline : (apos.endLine == pos.line) = true := by rfl) :
    wpAny (model prog w) A (eval (.Call (.Attribute o name apos) args [] pos) env) Q E s := by
  refine wpAny_Call_method hbase hfew hline PySem.F.plainAttrs_list slot hty (wpAny_mono h (fun ov s₁ h₁ => ?_) fun _ _ x => x)
  obtain ⟨rfl, ⟨ob, e, n, rfl⟩, h2⟩ := h₁
  exact ⟨⟨_, e, rfl⟩, fun a q => by cases q; exact ⟨_, e, rfl⟩, h2⟩

/-- len of a list -/
theorem len_l {l : Addr} {items : List Value} {Q : Value → Shared → Prop} (hl : s.heap.IsList l items.toArray) (hz : items.length < 2 ^ 62)
    (h : ∀ tk tk', Q (.int items.length tk) { s with toks := tk' }) : wpAny (model prog w) A (call (.builtin "len") [.ref l]) Q E s :=
  len_list hl (by simp; omega) (by simpa using h (s.toks + 1) (s.toks + 1 + 1))
theorem len_t {l : Addr} {items : List Value} {Q : Value → Shared → Prop} (hl : IsTup s.heap l items.toArray) (hz : items.length < 2 ^ 62)
    (h : ∀ tk tk', Q (.int items.length tk) { s with toks := tk' }) : wpAny (model prog w) A (call (.builtin "len") [.ref l]) Q E s :=
  len_tuple hl (by simp; omega) (by simpa using h (s.toks + 1) (s.toks + 1 + 1))

/-- the call of a def of the text -/
theorem call_fn {G : Heap} {pos : Pos} {f : Addr} {d : DefItem} {e : Expr} {rest : List Expr} {Q : Value → Shared → Prop} (hf : FnIs G f d)
    (h : wpAny (model prog w) A (spliced (backTo pos (starEach (e :: rest) env))) (fun vs s₁ => G.StaysIn s₁.heap ∧
      codeAny (model prog w) A (.call (.ref f) ⟨vs, []⟩) (fun r s' => match r with | .ok (.ret v) => Q v s' | .ok _ => False | .error e => E e s') s₁) E s)
    (he : starEach (e :: rest) env = (false, eval e env) :: starEach rest env := by rfl) :
    wpAny (model prog w) A (callWith pos (.ref f) [] (backTo pos (starEach (e :: rest) env)) []) Q E s := by
  obtain ⟨o, pm, code, doc, e1, e2, e3⟩ := hf
  exact callWith_def e2 (wpAny_mono h (fun vs s₁ h₁ => ⟨h₁.1 _ _ e1, wpAny_call h₁.2⟩) fun _ _ x => x) he

/-- a while, by an invariant and a measure; nothing is raised -/
theorem while_ {test : Expr} {body orelse : List Stmt} {pos : Pos} {Q : Flow → Shared → Prop} (I : Nat → Shared → Prop)
    (turn : ∀ n s, I n s → wpAny (model prog w) A (isTrue test env (eval test env)) (fun b s₂ =>
        if b then wpAny (model prog w) A (execs body env) (fun f s₃ => match f with
            | .next | .cont => ∃ m, m < n ∧ I m s₃
            | .brk => Q .next s₃
            | .ret v => Q (.ret v) s₃) NoE s₂
        else wpAny (model prog w) A (execs orelse env) Q NoE s₂) NoE s)
    (n : Nat) (h : I n s) : wpAny (model prog w) A (exec (.While test body orelse pos) env) Q E s := by
  refine wpAny_While (codeAny_whileLoop I (fun n s hI => ?_) n h)
  refine wpAny_mono (turn n s hI) (fun b s₂ h₂ => ?_) fun _ _ x => x.elim
  cases b with
  | false => exact noE (by simpa using h₂)
  | true =>
    simp only [if_true] at h₂ ⊢
    refine wpAny_mono h₂ (fun f s₃ h₃ => ?_) fun _ _ x => x.elim
    cases f <;> exact h₃

def RI (x left step : Int) : OP := fun o => o = { cls := .type "range_iterator", dict := none, data := .fields #[rawInt x, rawInt left, rawInt step], slots := #[] }

/-- a for over a range; nothing is raised -/
theorem for_range {x : Str} {px : Pos} {body : List Stmt} {Q : Flow → Shared → Prop} {r : Addr} {a b c : Int} {t u v : Tok} (n : Nat)
    (S : St B L s.heap bs ms) (hr : IsRange s.heap r a b c t u v) (hsm : Builtin.Range.small a b c = true) (hn : Builtin.Range.rangeSize a b c = n)
    (J : Nat → List (Str × Value) → List (Addr × OP) → Prop) (h0 : J 0 bs ms)
    (step : ∀ i I bs ms h tk tk', i < n → J i bs ms → St B L h (putB x (.int (a + i * c) tk) bs) ((I, RI (a + i * c + c) (n - i - 1) c) :: ms) →
      wpAny (model prog w) A (execs body env) (fun f s₃ => match f with
            | .next | .cont => ∃ h' tk' bs' ms', s₃ = { s with heap := h', toks := tk' } ∧ J (i + 1) bs' ms' ∧ St B L h' bs' ((I, RI (a + i * c + c) (n - i - 1) c) :: ms')
            | .brk => Q .next s₃
            | .ret v => Q (.ret v) s₃) NoE { s with heap := h, toks := tk' })
    (fin : ∀ h' tk' bs' ms', J n bs' ms' → St B L h' bs' ms' → Q .next { s with heap := h', toks := tk' })
    (hA : A.handled = none) (hL : env.locals = L := by rfl) (hk : env.scope.kind = .function := by rfl) (hl : env.kindOf x = some .local := by rfl) :
    wpAny (model prog w) A (pyIter (.ref r)) (fun it s₂ =>
      codeAny (model prog w) A (.forLoop (.Name x px) it body [] env) (fun r s' => match r with | .ok f => Q f s' | .error e => cameBackBy (model prog w) A env E e s') s₂) E s := by
  refine wpAny_pyIter_range hr hsm ?_
  have S₁ := S.push { cls := .type "range_iterator", data := .fields #[rawInt a, rawInt (Builtin.Range.rangeSize a b c), rawInt c] } (P := RI (a + (0 : Nat) * c) (n - (0 : Nat)) c) (by
    unfold RI; rw [hn]; simp)
  refine codeAny_forLoop (fun k s' => ∃ h' tk' bs' ms' i, s' = { s with heap := h', toks := tk' } ∧ i ≤ n ∧ k = n + 1 - i ∧ J i bs' ms' ∧ St B L h' bs' ((s.heap.objs.size, RI (a + (i : Nat) * c) ((n : Int) - (i : Nat)) c) :: ms')) ?_ (n + 1)
    ⟨_, _, bs, ms, 0, rfl, Nat.zero_le _, rfl, h0, S₁⟩
  rintro k s' ⟨h', tk', bs', ms', i, rfl, hin, hkk, hJ, S'⟩
  have hit : IsRangeIter h' s.heap.objs.size (a + (i : Nat) * c) ((n : Int) - (i : Nat)) c := by
    obtain ⟨o, e1, e2⟩ := S'.get (.head _)
    unfold RI at e2
    rw [e2] at e1; exact e1
  by_cases hlt : i < n
  · refine wpAny_pyNext_range_item hit (by omega) fun h₁ hit₁ hs₁ => ?_
    have S₂ := S'.upd 0 rfl hs₁.extBut (P' := RI (a + i * c + c) (n - i - 1) c) ⟨_, hit₁, rfl⟩
    refine wpAny_assign_Name (st_loc S₂ (fun h₂ S₃ => ?_) hL hk hl)
    refine wpAny_mono (step i _ bs' ms' h₂ _ _ hlt hJ S₃) (fun f s₃ h₃ => ?_) fun _ _ x => x.elim
    have key : (∃ h' tk' bs' ms', s₃ = { s with heap := h', toks := tk' } ∧ J (i + 1) bs' ms' ∧ St B L h' bs' ((s.heap.objs.size, RI (a + i * c + c) (n - i - 1) c) :: ms')) →
        ∃ m, m < k ∧ ∃ h' tk' bs' ms' i, s₃ = { s with heap := h', toks := tk' } ∧ i ≤ n ∧ m = n + 1 - i ∧ J i bs' ms' ∧ St B L h' bs' ((s.heap.objs.size, RI (a + (i : Nat) * c) ((n : Int) - (i : Nat)) c) :: ms') := by
      rintro ⟨h', tk', bs', ms', e, hJ', S''⟩
      refine ⟨n + 1 - (i + 1), by omega, h', tk', bs', ms', i + 1, e, hlt, rfl, hJ', ?_⟩
      have e1 : a + ((i + 1 : Nat) : Int) * c = a + (i : Int) * c + c := by push_cast; rw [Int.add_mul, Int.one_mul, Int.add_assoc]
      have e2 : (n : Int) - ((i + 1 : Nat) : Int) = (n : Int) - (i : Int) - 1 := by push_cast; omega
      rw [e1, e2]; exact S''
    cases f with
    | next => exact key h₃
    | cont => exact key h₃
    | brk => exact h₃
    | ret v => exact h₃
  · have : i = n := by omega
    subst this
    refine wpAny_pyNext_range_end hA hit (by omega) fun h₁ he₁ => wpAny_execs_nil ?_
    have S₂ : St B L h₁ bs' ms' := by
      refine ⟨?_, fun b o e => he₁ b o (fun q => ?_) (S'.keep b o e), S'.newL, fun p hp => ?_, (List.nodup_cons.mp S'.nd).2⟩
      · obtain ⟨m, ⟨oL, es, ep, hL', r⟩, hm⟩ := S'.ns
        exact ⟨m, ⟨oL, es, ep, he₁ _ _ (Ne.symm (S'.mu _ (.head _)).1) hL', r⟩, hm⟩
      · rw [q, (S'.mu _ (.head _)).2.1] at e; cases e
      · obtain ⟨h1, h2, o, h3, h4⟩ := S'.mu p (.tail _ hp)
        refine ⟨h1, h2, o, he₁ _ _ (fun q => ?_) h3, h4⟩
        have := (List.nodup_cons.mp S'.nd).1
        exact this (by rw [← q]; exact List.mem_map.mpr ⟨p, hp, rfl⟩)
    exact fin h₁ _ bs' ms' hJ S₂
end

/-- entering a def: the frame, with nothing but what the call may change told apart -/
theorem enter {prog : Program} {w : World} {A : Around} {s : Shared} {R : Result → Shared → Prop} {d : DefItem} {f : Addr} {args : List Value} {binds : List (Str × Value)} {ms : List (Addr × OP)} {k : Nat}
    (hA : Ok A k) (hG : Gl s.heap) (hf : FnIs s.heap f d)
    (hbind : ∀ pm code doc, bindArgs (docDef d.name d.params d.body d.scope pm code doc) ⟨args, []⟩ = pure binds)
    (hcell : ∀ x ∈ d.scope.names, x.2 ≠ .cell) (hloc : ∀ x ∈ binds, d.scope.names.lookup x.1 = some .local)
    (hnd : (binds.map (·.1)).Nodup)
    (hm : ∀ p ∈ ms, ∃ o, s.heap.get? p.1 = some o ∧ p.2 o) (hmn : (ms.map (·.1)).Nodup)
    (h : ∀ L cd h₁ pm doc tk, St (hideAll s.heap (ms.map (·.1))) L h₁ binds ms → 
      wpAny (model prog w) (A.deeper (callEnv (docDef d.name d.params d.body d.scope pm cd doc) L f)) (execs d.body (callEnv (docDef d.name d.params d.body d.scope pm cd doc) L f))
        (fun fl s' => R (.ok (.ret (match fl with | .ret v => v | _ => .none))) s') NoE { s with heap := h₁, toks := tk })
    (hco : d.scope.isCoroutine = false := by rfl) (hgen : d.scope.isGenerator = false := by rfl) (hk : d.scope.kind = .function := by rfl) :
    codeAny (model prog w) A (.call (.ref f) ⟨args, []⟩) R s := by
  obtain ⟨mg, mb, g1, g2, g3, g4, g5⟩ := hG
  obtain ⟨o, pm, code, doc, e1, e2, e3⟩ := hf
  refine codeAny_call_def (fd := docDef d.name d.params d.body d.scope pm code doc) (body := d.body) (binds := binds) (by have := hA.dp; omega) e1 e2 g3 e3 rfl (.of_eq (hbind pm code doc)) hcell hloc
    (fun h₁ hns hk₁ => ?_) hco hgen hk
  refine wpAny_mono (h _ code h₁ pm doc _ ?_) (fun fl s' y => y) fun _ _ y => y.elim
  refine ⟨⟨_, hns, fun p hp => ?_⟩, fun b o e => hk₁ b o (of_hideAll _ e), ?_, fun p hp => ?_, hmn⟩
  · have : ∀ (l : List (Str × Value)), (l.map (·.1)).Nodup → p ∈ l → l.lookup p.1 = some p.2 := by
      intro l
      induction l with
      | nil => intro _ h; cases h
      | cons q r ih =>
        intro hn hp
        obtain ⟨y, u⟩ := q
        simp only [List.map_cons, List.nodup_cons] at hn
        simp only [List.lookup]
        rcases List.mem_cons.mp hp with rfl | hp
        · simp
        · have : (p.1 == y) = false := by
            rw [beq_eq_false_iff_ne]; intro q; exact hn.1 (List.mem_map.mpr ⟨p, hp, q⟩)
          rw [this]; exact ih hn.2 hp
    exact this _ (by rw [List.map_reverse]; exact List.pairwise_reverse.mpr (hnd.imp fun h => Ne.symm h)) (List.mem_reverse.mpr hp)
  · exact get_ge (Nat.le_of_eq (hideAll_size _ _))
  · obtain ⟨o, h1, h2⟩ := hm p hp
    exact ⟨Nat.ne_of_lt (Heap.lt_size h1), hideAll_none _ (List.mem_map_of_mem hp), o, hk₁ _ _ h1, h2⟩

end Mine
end

/-! # MSift -/
section
open PySem PySem.W PyProof.Rows PySem.Calls
set_option linter.unusedVariables false
namespace Mine

local macro_rules | `(tactic| walk_at "mem") => `(tactic| with_reducible repeat (first | exact List.mem_cons_self | refine List.mem_cons_of_mem _ ?_))
local macro_rules | `(tactic| walk_at "put") => `(tactic| (intro h' S'; simp only [putB, ofString_inj, String.reduceEq, reduceIte, List.filter, ne_eq, not_true_eq_false, not_false_eq_true, decide_true, decide_false, Bool.not_true, Bool.not_false] at S'; try dsimp only))
local macro_rules | `(tactic| walk_at "sub") => `(tactic| repeat (first | exact sub_nil | refine sub_cons (by walk_at "mem") ?_))
/- one step -/
local macro_rules | `(tactic| walk_at "m") => `(tactic| first
  | ((with_reducible show wpAny _ _ (eval (Expr.Name _ _) _) _ _ _); refine ev_loc (by assumption) (by walk_at "mem") ?_)
  | (with_reducible refine wpAny_Constant_int ?_)
  | (with_reducible refine wpAny_execs_nil ?_; try dsimp only)
  | (with_reducible refine wpAny_execs_cons ?_)
  | ((with_reducible show wpAny _ _ (exec (Stmt.Assign [Expr.Name _ _] _ _) _) _ _ _); refine wpAny_Assign_Name ?_)
  | ((with_reducible show wpAny _ _ (exec (Stmt.Assign [Expr.Subscript _ _ _] _ _) _) _ _ _); refine wpAny_Assign_Subscript ?_)
  | (with_reducible refine wpAny_Return_some ?_)
  | (with_reducible refine wpAny_If ?_)
  | (with_reducible refine wpAny_Break ?_; try dsimp only)
  | (with_reducible refine wpAny_Continue ?_; try dsimp only)
  | (with_reducible refine Subscript_ ?_)
  | (with_reducible refine wpAny_BinOp ?_)
  | ((with_reducible show wpAny _ _ (isTrue (Expr.Compare _ [_] [_] _) _ _) _ _ _); refine wpAny_isTrue_Compare1 ?_)
  | ((with_reducible show wpAny _ _ (eval (Expr.Compare _ [_] [_] _) _) _ _ _); refine wpAny_Compare1 ?_)
  | (with_reducible refine PyProof.Rows.isTrue_not ?_)
  | (with_reducible refine PyProof.Rows.isTrue_and_nil ?_)
  | (with_reducible refine PyProof.Rows.isTrue_and ?_)
  | (with_reducible refine wpAny_truthy_bool ?_)
  | ((with_reducible show wpAny _ _ (exec (Stmt.Expr _ _) _) _ _ _); refine wpAny_Expr_any ?_)
  | ((with_reducible show wpAny _ _ (eval (Expr.IfExp _ _ _ _) _) _ _ _); refine wpAny_IfExp ?_)
  | ((with_reducible show wpAny _ _ (binaryOp Operator.Mult (Value.int _ _) (Value.int _ _)) _ _ _); refine PyProof.Rows.mul_int ?_ (by mul_fits))
  | ((with_reducible show wpAny _ _ (spliced (backTo _ (starEach [] _))) _ _ _); refine args_nil ?_)
  | ((with_reducible show wpAny _ _ (spliced (backTo _ (starEach (_ :: _) _))) _ _ _); refine args_cons ?_)
  | (with_reducible refine PyProof.Rows.sub_int ?_)
  | (with_reducible refine PyProof.Rows.add_int ?_)
  | (with_reducible refine PyProof.Rows.lt_int ?_)
  | (with_reducible refine PyProof.Rows.gt_int ?_)
  | (with_reducible refine PyProof.Rows.eq_int ?_)
  | (with_reducible refine PyProof.Rows.ne_int ?_)
  | (with_reducible refine ite_t ?_)
  | (with_reducible refine ite_f ?_)
  | ((with_reducible show wpAny _ _ (storeName _ _ _) _ _ _); refine st_loc (by assumption) ?_; walk_at "put"))

abbrev refs (as : List Nat) : List Value := as.map Value.ref
theorem refs_get {as : List Nat} {k : Nat} (h : k < as.length) : (refs as)[k]? = some (.ref (as.getD k 0)) := by
  simp [refs, h]
theorem tup_ne_list {h : Heap} {a : Addr} {xs : List Int} {items : List Value} (x : ITup h a xs) (y : ∃ o, h.get? a = some o ∧ LP items o) : False := by
  obtain ⟨vs, ⟨o, e1, e2, _⟩, _⟩ := x
  obtain ⟨o', e1', n, rfl⟩ := y
  rw [e1] at e1'; cases e1'
  injection e2 with e; exact absurd e (by decide)
theorem itup_hide {h : Heap} {a l : Addr} {xs : List Int} {items : List Value} (x : ITup h a xs) (y : ∃ o, h.get? l = some o ∧ LP items o) : ITup (h.hide l) a xs := by
  have : a ≠ l := by rintro rfl; exact tup_ne_list x y
  obtain ⟨vs, ⟨o, e1, r⟩, r'⟩ := x
  exact ⟨vs, ⟨o, (Heap.hide_ne h this).trans e1, r⟩, r'⟩

theorem mem_set_sub {as : List Nat} {i v a : Nat} (h : a ∈ as.set i v) : a ∈ as ∨ a = v := List.mem_or_eq_of_mem_set h
theorem getD_mem {as : List Nat} {i : Nat} (h : i < as.length) : as.getD i 0 ∈ as := by
  rw [List.getD_eq_getElem?_getD, List.getElem?_eq_getElem h]; exact List.getElem_mem h
theorem sdn_stop (lt : Nat → Nat → Bool) (xs : List Nat) (pos x : Nat) (h : pos = 0 ∨ lt x (xs.getD ((pos - 1) / 2) 0) = false) : sdn lt xs pos x = xs.set pos x := by
  rw [sdn]
  rcases h with rfl | h
  · simp
  · rw [h]; split <;> simp
theorem sdn_go (lt : Nat → Nat → Bool) (xs : List Nat) (pos x : Nat) (h0 : 0 < pos) (h : lt x (xs.getD ((pos - 1) / 2) 0) = true) :
    sdn lt (xs.set pos (xs.getD ((pos - 1) / 2) 0)) ((pos - 1) / 2) x = sdn lt xs pos x := by
  rw [sdn.eq_1 lt xs, dif_pos h0, if_pos h]
theorem refs_set {as : List Nat} {i v : Nat} : (refs as).set i (.ref v) = refs (as.set i v) := by simp [refs]

set_option maxRecDepth 100000 in
set_option maxHeartbeats 4000000 in
theorem down_spec {prog : Program} {w : World} {A : Around} {s : Shared} {G : Heap} {f l : Addr} {as : List Nat} {c : Nat → List Int} {pos : Nat} {t1 t2 : Tok} {R : Result → Shared → Prop}
    (hA : Ok A 2) (hG : Gl G) (hGs : G.StaysIn s.heap) (hf : FnIs G f dDown) (hl : ∃ o, s.heap.get? l = some o ∧ LP (refs as) o) 
    (hc : ∀ a ∈ as, ITup s.heap a (c a)) (hp : pos < as.length) (hsz : as.length < 2 ^ 62)
    (hR : ∀ h' tk, Heap.ExtBut l s.heap h' → (∃ o, h'.get? l = some o ∧ LP (refs (sdn (fun a b => ltL (c a) (c b)) as pos (as.getD pos 0))) o) → R (.ok (.ret .none)) { s with heap := h', toks := tk }) :
    codeAny (model prog w) A (.call (.ref f) ⟨[.ref l, .int 0 t1, .int pos t2], []⟩) R s := by
  refine enter (k := 2) (d := dDown) (ms := [(l, LP (refs as))]) (binds := [("heap", .ref l), ("startpos", .int 0 t1), ("pos", .int pos t2)]) hA (hG.keeps hGs) (hf.keeps hGs) (fun _ _ _ => rfl) (by decide) (locs rfl) (by simp only [List.map_cons, List.map_nil]; decide)
    (fun p hp => by rcases List.mem_singleton.mp hp with rfl; exact hl) (by simp) (fun L cd h₁ pm doc tk S => ?_)
  have hA' := hA.deeper (callEnv (docDef dDown.name dDown.params dDown.body dDown.scope pm cd doc) L f)
  generalize hx : as.getD pos 0 = x at hR
  have hxm : x ∈ as := hx ▸ getD_mem hp
  have hB : ∀ a ∈ as, ITup (hideAll s.heap (List.map (fun x => x.fst) [(l, LP (refs as))])) a (c a) := fun a ha => itup_hide (hc a ha) hl
  have hBx := hB x hxm
  have hend : ∀ h', (hideAll s.heap (List.map (fun x => x.fst) [(l, LP (refs as))])).StaysIn h' → Heap.ExtBut l s.heap h' := fun h' k => extBut_of_hide k
  generalize hideAll s.heap (List.map (fun x => x.fst) [(l, LP (refs as))]) = B at S hB hBx hend
  refine wpAny_execs_cons ?_
  walk_at "m"
  walk_at "m"
  walk_at "m"
  walk_at "m"
  refine it_list (S.isList (by walk_at "mem")) (by omega) (by omega) (by rw [Int.toNat_natCast]; exact refs_get hp) ?_
  walk_at "m"
  rename_i h₂ S₂
  rw [hx] at S₂
  walk_at "m"
  refine wpAny_mono (while_ (Q := fun fl s' => fl = .next ∧ ∃ h' tk ys p tp, s' = { s with heap := h', toks := tk } ∧ p < as.length ∧ ys.length = as.length ∧ ys.set p x = sdn (fun a b => ltL (c a) (c b)) as pos x ∧
      St B L h' [("heap", .ref l), ("startpos", .int 0 t1), ("pos", .int p tp), ("newitem", .ref x)] [(l, LP (refs ys))])
    (fun n s' => ∃ h' tk ys tp, s' = { s with heap := h', toks := tk } ∧ n < as.length ∧ ys.length = as.length ∧ (∀ a ∈ ys, ITup B a (c a)) ∧ sdn (fun a b => ltL (c a) (c b)) ys n x = sdn (fun a b => ltL (c a) (c b)) as pos x ∧
      St B L h' [("heap", .ref l), ("startpos", .int 0 t1), ("pos", .int n tp), ("newitem", .ref x)] [(l, LP (refs ys))]) ?turn pos ⟨_, _, as, t2, rfl, hp, rfl, hB, rfl, S₂⟩) ?after (fun _ _ h => h)
  case after =>
    rintro fl s' ⟨rfl, h', tk', ys, p, tp, rfl, hp', hlen, hys, S₃⟩
    dsimp only
    walk_at "m"
    walk_at "m"
    walk_at "m"
    walk_at "m"
    walk_at "m"
    refine set_list S₃ 0 rfl (by omega) (by omega) (by simp; omega) fun h₄ S₄ => ?_
    dsimp only
    walk_at "m"
    dsimp only [List.set] at S₄
    refine hR _ _ (hend _ S₄.keep) ?_
    have := S₄.get List.mem_cons_self
    rwa [Int.toNat_natCast, refs_set, hys] at this
  case turn =>
    rintro n s' ⟨h', tk', ys, tp, rfl, hn, hlen, hys, hsd, S₃⟩
    walk_at "m"
    walk_at "m"
    walk_at "m"
    walk_at "m"
    walk_at "m"
    refine split_bool (fun hb => ?_) (fun hb => ?_)
    · have hn0 : 0 < n := by simpa using hb
      walk_at "m"
      walk_at "m"
      walk_at "m"
      walk_at "m"
      walk_at "m"
      walk_at "m"
      walk_at "m"
      walk_at "m"
      refine rshift_int (by omega) ?_
      have e : ((n : Int) - 1).fdiv (2 ^ (1 : Int).toNat) = ((n - 1) / 2 : Nat) := by
        rw [Int.fdiv_eq_ediv_of_nonneg _ (by decide)]; simp; omega
      rw [e]
      walk_at "m"
      walk_at "m"
      walk_at "m"
      walk_at "m"
      walk_at "m"
      walk_at "m"
      rename_i h₄ S₄
      refine it_list (S₄.isList (by walk_at "mem")) (by omega) (by omega) (by rw [Int.toNat_natCast]; exact refs_get (by omega)) ?_
      walk_at "m"
      rename_i h₅ S₅
      have hpm : ys.getD ((n - 1) / 2) 0 ∈ ys := getD_mem (by omega)
      have hBp := hys _ hpm
      walk_at "m"
      walk_at "m"
      walk_at "m"
      walk_at "m"
      walk_at "m"
      refine lt_tup (hBx.keeps S₅.keep) (hBp.keeps S₅.keep) (by have := hA'.un; omega) ?_
      walk_at "m"
      refine split_bool (fun hlt => ?_) (fun hlt => ?_)
      · walk_at "m"
        walk_at "m"
        walk_at "m"
        walk_at "m"
        walk_at "m"
        refine set_list S₅ 0 rfl (by omega) (by omega) (by simp; omega) fun h₆ S₆ => ?_
        dsimp only [List.set] at S₆ ⊢
        walk_at "m"
        walk_at "m"
        walk_at "m"
        walk_at "m"
        rename_i h₇ S₇
        walk_at "m"
        walk_at "m"
        refine ⟨(n - 1) / 2, by omega, h₇, _, ys.set n (ys.getD ((n - 1) / 2) 0), ?tok, rfl, by omega, by simpa using hlen, fun a ha => ?g1, ?g2, ?g3⟩
        case g3 =>
          rw [Int.toNat_natCast, refs_set] at S₇
          exact S₇.sub (by walk_at "sub") (List.Sublist.refl _)
        case g1 =>
          rcases mem_set_sub ha with ha | rfl
          · exact hys a ha
          · exact hBp
        case g2 => rw [← hsd]; exact sdn_go _ _ _ _ hn0 hlt
      · walk_at "m"
        walk_at "m"
        walk_at "m"
        exact ⟨rfl, h₅, _, ys, n, tp, rfl, hn, hlen, by rw [← hsd, sdn_stop _ _ _ _ (.inr hlt)], S₅.sub (by walk_at "sub") (List.Sublist.refl _)⟩
    · have hn0 : n = 0 := by simp at hb; omega
      walk_at "m"
      exact ⟨rfl, _, _, ys, n, tp, rfl, hn, hlen, by rw [← hsd, sdn_stop _ _ _ _ (.inl hn0)], S₃⟩
end Mine
end

/-! # MHeap -/
section
open PySem PySem.W PyProof.Rows PySem.Calls
set_option linter.unusedVariables false
namespace Mine
local macro_rules | `(tactic| walk_at "mem") => `(tactic| with_reducible repeat (first | exact List.mem_cons_self | refine List.mem_cons_of_mem _ ?_))
local macro_rules | `(tactic| walk_at "put") => `(tactic| (intro h' S'; simp only [putB, ofString_inj, String.reduceEq, reduceIte, List.filter, ne_eq, not_true_eq_false, not_false_eq_true, decide_true, decide_false, Bool.not_true, Bool.not_false] at S'; try dsimp only))
local macro_rules | `(tactic| walk_at "sub") => `(tactic| repeat (first | exact sub_nil | refine sub_cons (by walk_at "mem") ?_))
/- one step -/
local macro_rules | `(tactic| walk_at "m") => `(tactic| first
  | ((with_reducible show wpAny _ _ (eval (Expr.Name _ _) _) _ _ _); refine ev_loc (by assumption) (by walk_at "mem") ?_)
  | (with_reducible refine wpAny_Constant_int ?_)
  | (with_reducible refine wpAny_execs_nil ?_; try dsimp only)
  | (with_reducible refine wpAny_execs_cons ?_)
  | ((with_reducible show wpAny _ _ (exec (Stmt.Assign [Expr.Name _ _] _ _) _) _ _ _); refine wpAny_Assign_Name ?_)
  | ((with_reducible show wpAny _ _ (exec (Stmt.Assign [Expr.Subscript _ _ _] _ _) _) _ _ _); refine wpAny_Assign_Subscript ?_)
  | (with_reducible refine wpAny_Return_some ?_)
  | (with_reducible refine wpAny_If ?_)
  | (with_reducible refine wpAny_Break ?_; try dsimp only)
  | (with_reducible refine wpAny_Continue ?_; try dsimp only)
  | (with_reducible refine Subscript_ ?_)
  | (with_reducible refine wpAny_BinOp ?_)
  | ((with_reducible show wpAny _ _ (isTrue (Expr.Compare _ [_] [_] _) _ _) _ _ _); refine wpAny_isTrue_Compare1 ?_)
  | ((with_reducible show wpAny _ _ (eval (Expr.Compare _ [_] [_] _) _) _ _ _); refine wpAny_Compare1 ?_)
  | (with_reducible refine PyProof.Rows.isTrue_not ?_)
  | (with_reducible refine PyProof.Rows.isTrue_and_nil ?_)
  | (with_reducible refine PyProof.Rows.isTrue_and ?_)
  | (with_reducible refine wpAny_truthy_bool ?_)
  | ((with_reducible show wpAny _ _ (exec (Stmt.Expr _ _) _) _ _ _); refine wpAny_Expr_any ?_)
  | ((with_reducible show wpAny _ _ (eval (Expr.IfExp _ _ _ _) _) _ _ _); refine wpAny_IfExp ?_)
  | ((with_reducible show wpAny _ _ (binaryOp Operator.Mult (Value.int _ _) (Value.int _ _)) _ _ _); refine PyProof.Rows.mul_int ?_ (by mul_fits))
  | ((with_reducible show wpAny _ _ (spliced (backTo _ (starEach [] _))) _ _ _); refine args_nil ?_)
  | ((with_reducible show wpAny _ _ (spliced (backTo _ (starEach (_ :: _) _))) _ _ _); refine args_cons ?_)
  | (with_reducible refine PyProof.Rows.sub_int ?_)
  | (with_reducible refine PyProof.Rows.add_int ?_)
  | (with_reducible refine PyProof.Rows.lt_int ?_)
  | (with_reducible refine PyProof.Rows.gt_int ?_)
  | (with_reducible refine PyProof.Rows.eq_int ?_)
  | (with_reducible refine PyProof.Rows.ne_int ?_)
  | (with_reducible refine ite_t ?_)
  | (with_reducible refine ite_f ?_)
  | ((with_reducible show wpAny _ _ (storeName _ _ _) _ _ _); refine st_loc (by assumption) ?_; walk_at "put"))


theorem sup_stop (lt : Nat → Nat → Bool) (xs : List Nat) (p : Nat) (h : ¬ 2 * p + 1 < xs.length) : sup lt xs p = (xs, p) := by rw [sup, dif_neg h]
theorem sup_go (lt : Nat → Nat → Bool) (xs : List Nat) (p : Nat) (h : 2 * p + 1 < xs.length) : sup lt (xs.set p (xs.getD (pick lt xs p) 0)) (pick lt xs p) = sup lt xs p := by rw [sup.eq_1 lt xs, dif_pos h]

set_option maxRecDepth 100000 in
set_option maxHeartbeats 4000000 in
theorem up_spec {prog : Program} {w : World} {A : Around} {s : Shared} {G : Heap} {f l : Addr} {as : List Nat} {c : Nat → List Int} {t2 : Tok} {R : Result → Shared → Prop}
    (hA : Ok A 3) (hG : Gl G) (hGs : G.StaysIn s.heap) (hGl : G.get? l = none) (hf : FnIs G f dUp) (hl : ∃ o, s.heap.get? l = some o ∧ LP (refs as) o) 
    (hc : ∀ a ∈ as, ITup s.heap a (c a)) (hp : 0 < as.length) (hsz : as.length < 2 ^ 20)
    (hR : ∀ h' tk, Heap.ExtBut l s.heap h' → (∃ o, h'.get? l = some o ∧ LP (refs (upF (fun a b => ltL (c a) (c b)) as)) o) → R (.ok (.ret .none)) { s with heap := h', toks := tk }) :
    codeAny (model prog w) A (.call (.ref f) ⟨[.ref l, .int 0 t2], []⟩) R s := by
  refine enter (k := 3) (d := dUp) (ms := [(l, LP (refs as))]) (binds := [("heap", .ref l), ("pos", .int 0 t2)]) hA (hG.keeps hGs) (hf.keeps hGs) (fun _ _ _ => rfl) (by decide) (locs rfl) (by simp only [List.map_cons, List.map_nil]; decide)
    (fun p hp => by rcases List.mem_singleton.mp hp with rfl; exact hl) (by simp) (fun L cd h₁ pm doc tk S => ?_)
  have hA' := hA.deeper (callEnv (docDef dUp.name dUp.params dUp.body dUp.scope pm cd doc) L f)
  generalize hx : as.getD 0 0 = x
  have hxm : x ∈ as := hx ▸ getD_mem hp
  have hB : ∀ a ∈ as, ITup (hideAll s.heap (List.map (fun x => x.fst) [(l, LP (refs as))])) a (c a) := fun a ha => itup_hide (hc a ha) hl
  have hBx := hB x hxm
  have hGB : G.StaysIn (hideAll s.heap (List.map (fun x => x.fst) [(l, LP (refs as))])) := fun b o e => (Heap.hide_ne s.heap (fun q => by rw [q, hGl] at e; cases e)).trans (hGs b o e)
  have hend : ∀ h', (hideAll s.heap (List.map (fun x => x.fst) [(l, LP (refs as))])).StaysIn h' → Heap.ExtBut l s.heap h' := fun h' k => extBut_of_hide k
  generalize hideAll s.heap (List.map (fun x => x.fst) [(l, LP (refs as))]) = B at S hB hBx hend hGB
  refine wpAny_execs_cons ?_
  walk_at "m"
  refine Call_ (ev_blt hG (stays_trans hGB S.keep) (by simp) boot_len ?_)
  refine PyProof.Rows.callWith_builtin1 ?_
  repeat walk_at "m"
  refine len_l (S.isList (by walk_at "mem")) (by simp; omega) (fun _ _ => ?_)
  repeat walk_at "m"
  rename_i h₂ S₂
  refine it_list (x := .ref x) (S₂.isList (by walk_at "mem")) (by omega) (by omega) (by rw [← hx]; exact refs_get hp) ?_
  repeat walk_at "m"
  rename_i h₃ S₃
  refine wpAny_mono (while_ (Q := fun fl s' => fl = .next ∧ ∃ h' tk ys p tp te ts, s' = { s with heap := h', toks := tk } ∧ p < as.length ∧ ys.length = as.length ∧ (∀ a ∈ ys, ITup B a (c a)) ∧ sup (fun a b => ltL (c a) (c b)) as 0 = (ys, p) ∧
      St B L h' [("heap", .ref l), ("pos", .int p tp), ("endpos", .int as.length te), ("startpos", .int 0 ts), ("newitem", .ref x)] [(l, LP (refs ys))])
    (fun n s' => ∃ h' tk ys p tp te ts tc, s' = { s with heap := h', toks := tk } ∧ n = as.length - p ∧ p < as.length ∧ ys.length = as.length ∧ (∀ a ∈ ys, ITup B a (c a)) ∧ sup (fun a b => ltL (c a) (c b)) as 0 = sup (fun a b => ltL (c a) (c b)) ys p ∧
      St B L h' [("heap", .ref l), ("pos", .int p tp), ("endpos", .int as.length te), ("startpos", .int 0 ts), ("newitem", .ref x), ("childpos", .int (2 * p + 1) tc)] [(l, LP (refs ys))]) ?turn as.length ?init) ?after (fun _ _ h => h)
  case init =>
    refine ⟨_, _, as, 0, ?_, ?_, ?_, ?_, rfl, rfl, hp, rfl, hB, rfl, ?st⟩
    case st => simpa using S₃
  case after =>
    rintro fl s' ⟨rfl, h', tk', ys, p, tp, te, ts, rfl, hp', hlen, hys, hsup, S₄⟩
    dsimp only
    repeat walk_at "m"
    refine set_list S₄ 0 rfl (by omega) (by omega) (by simp; omega) fun h₅ S₅ => ?_
    dsimp only [List.set] at S₅ ⊢
    rw [Int.toNat_natCast, refs_set] at S₅
    repeat walk_at "m"
    refine Call_ (ev_def dDown hG (stays_trans hGB S₅.keep) fun f' hf' => ?_)
    refine call_fn hf' ?_
    repeat walk_at "m"
    refine ⟨stays_trans hGB S₅.keep, ?_⟩
    have hxs : (ys.set p x).getD p 0 = x := by simp [hlen, hp']
    refine down_spec (c := c) hA' hG (stays_trans hGB S₅.keep) hf' (S₅.get List.mem_cons_self) (fun a ha => ?_) (by simpa [hlen] using hp') (by simp; omega) (fun h₆ tk₆ k₆ l₆ => ?_)
    · rcases mem_set_sub ha with ha | rfl
      · exact (hys a ha).keeps S₅.keep
      · exact hBx.keeps S₅.keep
    · dsimp only
      repeat walk_at "m"
      refine hR _ _ (fun b o hb e => k₆ b o hb (hend _ S₅.keep b o hb e)) ?_
      rw [hxs] at l₆
      unfold upF
      rw [hsup, hx]
      exact l₆
  case turn =>
    rintro n s' ⟨h', tk', ys, p, tp, te, ts, tc, rfl, hn, hp', hlen, hys, hsup, S₄⟩
    repeat walk_at "m"
    refine split_bool (fun hb => ?_) (fun hb => ?_)
    · have hlt : 2 * p + 1 < ys.length := by simp at hb; omega
      iterate 8 walk_at "m"
      rename_i h₅ S₅
      have hpk := pick_lt (fun a b => ltL (c a) (c b)) ys p hlt
      have hpg := pick_gt (fun a b => ltL (c a) (c b)) ys p
      have hm1 := hys _ (getD_mem hlt)
      refine wpAny_mono (Q := fun fl s' => fl = .next ∧ ∃ h' tk tc, s' = { s with heap := h', toks := tk } ∧
        St B L h' [("heap", .ref l), ("pos", .int p tp), ("endpos", .int as.length te), ("startpos", .int 0 ts), ("newitem", .ref x), ("childpos", .int (pick (fun a b => ltL (c a) (c b)) ys p) tc)] [(l, LP (refs ys))]) ?cond ?rest (fun _ _ h => h)
      case cond =>
        walk_at "m"
        walk_at "m"
        repeat walk_at "m"
        refine split_bool (fun hb2 => ?_) (fun hb2 => ?_)
        · have hlt2 : 2 * p + 2 < ys.length := by simp at hb2; omega
          have hm2 := hys _ (getD_mem hlt2)
          repeat walk_at "m"
          refine it_list (x := .ref (ys.getD (2 * p + 1) 0)) (S₅.isList (by walk_at "mem")) (by omega) (by omega) (by rw [← refs_get hlt]; congr 1) ?_
          repeat walk_at "m"
          refine it_list (x := .ref (ys.getD (2 * p + 2) 0)) (S₅.isList (by walk_at "mem")) (by omega) (by omega) (by rw [← refs_get hlt2]; congr 1) ?_
          refine lt_tup (hm1.keeps S₅.keep) (hm2.keeps S₅.keep) (by have := hA'.un; omega) ?_
          repeat walk_at "m"
          refine split_bool (fun hb3 => ?_) (fun hb3 => ?_)
          · repeat walk_at "m"
            rename_i h₆ S₆
            refine ⟨rfl, h₆, _, ?_, rfl, ?st⟩
            case st =>
              have e : pick (fun a b => ltL (c a) (c b)) ys p = 2 * p + 2 := by
                unfold pick; rw [if_pos ⟨hlt2, by simpa using hb3⟩]
              rw [e]
              have e2 : ((2 * p + 2 : Nat) : Int) = 2 * (p : Int) + 1 + 1 := by omega
              rw [e2]
              exact S₆.sub (by walk_at "sub") (List.Sublist.refl _)
          · repeat walk_at "m"
            refine ⟨rfl, h₅, _, ?_, rfl, ?st⟩
            case st =>
              have e : pick (fun a b => ltL (c a) (c b)) ys p = 2 * p + 1 := by
                unfold pick; rw [if_neg (by rintro ⟨_, h⟩; dsimp only at h; rw [h] at hb3; cases hb3)]
              rw [e]
              have e2 : ((2 * p + 1 : Nat) : Int) = 2 * (p : Int) + 1 := by omega
              rw [e2]
              exact S₅.sub (by walk_at "sub") (List.Sublist.refl _)
        · repeat walk_at "m"
          refine ⟨rfl, h₅, _, ?_, rfl, ?st⟩
          case st =>
            have e : pick (fun a b => ltL (c a) (c b)) ys p = 2 * p + 1 := by
              unfold pick; rw [if_neg (by intro h; simp at hb2; omega)]
            rw [e]
            have e2 : ((2 * p + 1 : Nat) : Int) = 2 * (p : Int) + 1 := by omega
            rw [e2]
            exact S₅.sub (by walk_at "sub") (List.Sublist.refl _)
      case rest =>
        rintro fl s' ⟨rfl, h₆, tk₆, tc₆, rfl, S₆⟩
        dsimp only
        generalize hq : pick (fun a b => ltL (c a) (c b)) ys p = q at *
        have hmq := hys _ (getD_mem hpk)
        repeat walk_at "m"
        refine it_list (x := .ref (ys.getD q 0)) (S₆.isList (by walk_at "mem")) (by omega) (by omega) (by rw [Int.toNat_natCast]; exact refs_get hpk) ?_
        repeat walk_at "m"
        refine set_list S₆ 0 rfl (by omega) (by omega) (by simp; omega) fun h₇ S₇ => ?_
        dsimp only [List.set] at S₇ ⊢
        rw [Int.toNat_natCast, refs_set] at S₇
        repeat walk_at "m"
        rename_i h₈ S₈
        refine ⟨as.length - q, by omega, h₈, _, ys.set p (ys.getD q 0), q, ?_, ?_, ?_, ?_, rfl, rfl, by omega, by simpa using hlen, fun a ha => ?g1, ?g2, ?g3⟩
        case g3 => exact S₈.sub (by walk_at "sub") (List.Sublist.refl _)
        case g1 =>
          rcases mem_set_sub ha with ha | rfl
          · exact hys a ha
          · exact hmq
        case g2 => rw [hsup, ← hq]; exact (sup_go _ _ _ hlt).symm
    · have hlt : ¬ 2 * p + 1 < ys.length := by simp at hb; omega
      repeat walk_at "m"
      exact ⟨rfl, _, _, ys, p, tp, te, ts, rfl, hp', hlen, hys, by rw [hsup, sup_stop _ _ _ hlt], S₄.sub (by walk_at "sub") (List.Sublist.refl _)⟩
end Mine
end

/-! # MPush -/
section
open PySem PySem.W PyProof.Rows PySem.Calls
set_option linter.unusedVariables false
namespace Mine
local macro_rules | `(tactic| walk_at "mem") => `(tactic| with_reducible repeat (first | exact List.mem_cons_self | refine List.mem_cons_of_mem _ ?_))
local macro_rules | `(tactic| walk_at "put") => `(tactic| (intro h' S'; simp only [putB, ofString_inj, String.reduceEq, reduceIte, List.filter, ne_eq, not_true_eq_false, not_false_eq_true, decide_true, decide_false, Bool.not_true, Bool.not_false] at S'; try dsimp only))
local macro_rules | `(tactic| walk_at "sub") => `(tactic| repeat (first | exact sub_nil | refine sub_cons (by walk_at "mem") ?_))
/- one step -/
local macro_rules | `(tactic| walk_at "m") => `(tactic| first
  | ((with_reducible show wpAny _ _ (eval (Expr.Name _ _) _) _ _ _); refine ev_loc (by assumption) (by walk_at "mem") ?_)
  | (with_reducible refine wpAny_Constant_int ?_)
  | (with_reducible refine wpAny_execs_nil ?_; try dsimp only)
  | (with_reducible refine wpAny_execs_cons ?_)
  | ((with_reducible show wpAny _ _ (exec (Stmt.Assign [Expr.Name _ _] _ _) _) _ _ _); refine wpAny_Assign_Name ?_)
  | ((with_reducible show wpAny _ _ (exec (Stmt.Assign [Expr.Subscript _ _ _] _ _) _) _ _ _); refine wpAny_Assign_Subscript ?_)
  | (with_reducible refine wpAny_Return_some ?_)
  | (with_reducible refine wpAny_If ?_)
  | (with_reducible refine wpAny_Break ?_; try dsimp only)
  | (with_reducible refine wpAny_Continue ?_; try dsimp only)
  | (with_reducible refine Subscript_ ?_)
  | (with_reducible refine wpAny_BinOp ?_)
  | ((with_reducible show wpAny _ _ (isTrue (Expr.Compare _ [_] [_] _) _ _) _ _ _); refine wpAny_isTrue_Compare1 ?_)
  | ((with_reducible show wpAny _ _ (eval (Expr.Compare _ [_] [_] _) _) _ _ _); refine wpAny_Compare1 ?_)
  | (with_reducible refine PyProof.Rows.isTrue_not ?_)
  | (with_reducible refine PyProof.Rows.isTrue_and_nil ?_)
  | (with_reducible refine PyProof.Rows.isTrue_and ?_)
  | (with_reducible refine wpAny_truthy_bool ?_)
  | ((with_reducible show wpAny _ _ (exec (Stmt.Expr _ _) _) _ _ _); refine wpAny_Expr_any ?_)
  | ((with_reducible show wpAny _ _ (eval (Expr.IfExp _ _ _ _) _) _ _ _); refine wpAny_IfExp ?_)
  | ((with_reducible show wpAny _ _ (binaryOp Operator.Mult (Value.int _ _) (Value.int _ _)) _ _ _); refine PyProof.Rows.mul_int ?_ (by mul_fits))
  | ((with_reducible show wpAny _ _ (spliced (backTo _ (starEach [] _))) _ _ _); refine args_nil ?_)
  | ((with_reducible show wpAny _ _ (spliced (backTo _ (starEach (_ :: _) _))) _ _ _); refine args_cons ?_)
  | (with_reducible refine PyProof.Rows.sub_int ?_)
  | (with_reducible refine PyProof.Rows.add_int ?_)
  | (with_reducible refine PyProof.Rows.lt_int ?_)
  | (with_reducible refine PyProof.Rows.gt_int ?_)
  | (with_reducible refine PyProof.Rows.eq_int ?_)
  | (with_reducible refine PyProof.Rows.ne_int ?_)
  | (with_reducible refine ite_t ?_)
  | (with_reducible refine ite_f ?_)
  | ((with_reducible show wpAny _ _ (storeName _ _ _) _ _ _); refine st_loc (by assumption) ?_; walk_at "put"))

set_option maxRecDepth 100000 in
set_option maxHeartbeats 4000000 in
theorem push_spec {prog : Program} {w : World} {A : Around} {s : Shared} {G : Heap} {f l x : Addr} {as : List Nat} {c : Nat → List Int} {R : Result → Shared → Prop}
    (hA : Ok A 4) (hG : Gl G) (hGs : G.StaysIn s.heap) (hGl : G.get? l = none) (hf : FnIs G f dPush) (hl : ∃ o, s.heap.get? l = some o ∧ LP (refs as) o) 
    (hc : ∀ a ∈ as, ITup s.heap a (c a)) (hcx : ITup s.heap x (c x)) (hsz : as.length < 2 ^ 20)
    (hR : ∀ h' tk, Heap.ExtBut l s.heap h' → (∃ o, h'.get? l = some o ∧ LP (refs (pushF (fun a b => ltL (c a) (c b)) as x)) o) → R (.ok (.ret .none)) { s with heap := h', toks := tk }) :
    codeAny (model prog w) A (.call (.ref f) ⟨[.ref l, .ref x], []⟩) R s := by
  refine enter (k := 4) (d := dPush) (ms := [(l, LP (refs as))]) (binds := [("heap", .ref l), ("item", .ref x)]) hA (hG.keeps hGs) (hf.keeps hGs) (fun _ _ _ => rfl) (by decide) (locs rfl) (by simp only [List.map_cons, List.map_nil]; decide)
    (fun p hp => by rcases List.mem_singleton.mp hp with rfl; exact hl) (by simp) (fun L cd h₁ pm doc tk S => ?_)
  have hA' := hA.deeper (callEnv (docDef dPush.name dPush.params dPush.body dPush.scope pm cd doc) L f)
  have hB : ∀ a ∈ as, ITup (hideAll s.heap (List.map (fun x => x.fst) [(l, LP (refs as))])) a (c a) := fun a ha => itup_hide (hc a ha) hl
  have hBx : ITup (hideAll s.heap (List.map (fun x => x.fst) [(l, LP (refs as))])) x (c x) := itup_hide hcx hl
  have hGB : G.StaysIn (hideAll s.heap (List.map (fun x => x.fst) [(l, LP (refs as))])) := fun b o e => (Heap.hide_ne s.heap (fun q => by rw [q, hGl] at e; cases e)).trans (hGs b o e)
  have hend : ∀ h', (hideAll s.heap (List.map (fun x => x.fst) [(l, LP (refs as))])).StaysIn h' → Heap.ExtBut l s.heap h' := fun h' k => extBut_of_hide k
  generalize hideAll s.heap (List.map (fun x => x.fst) [(l, LP (refs as))]) = B at S hB hBx hend hGB
  have hsl : (2 : Nat) ^ 20 ≤ sizeLine := by decide
  refine wpAny_execs_cons ?_
  walk_at "m"
  refine meth_list (l := l) (items := refs as) slot_list_append PySem.F.type_list_append ?_
  walk_at "m"
  refine ⟨rfl, S.get List.mem_cons_self, ?_⟩
  refine callWith_method1 ?_
  repeat walk_at "m"
  refine append_list S 0 rfl (by simp; omega) fun h₂ S₂ => ?_
  dsimp only [List.set] at S₂ ⊢
  have e : refs as ++ [Value.ref x] = refs (as ++ [x]) := by simp [refs]
  rw [e] at S₂
  repeat walk_at "m"
  refine Call_ (ev_def dDown hG (stays_trans hGB S₂.keep) fun f' hf' => ?_)
  refine call_fn hf' ?_
  repeat walk_at "m"
  refine Call_ (ev_blt hG (stays_trans hGB S₂.keep) (by simp) boot_len ?_)
  refine PyProof.Rows.callWith_builtin1 ?_
  repeat walk_at "m"
  refine len_l (S₂.isList (by walk_at "mem")) (by simp; omega) (fun _ _ => ?_)
  repeat walk_at "m"
  refine ⟨stays_trans hGB S₂.keep, ?_⟩
  have e1 : ((refs (as ++ [x])).length : Int) - 1 = (as.length : Nat) := by simp
  have hxs : (as ++ [x]).getD as.length 0 = x := by simp
  rw [e1]
  refine down_spec (c := c) (hA'.le (by omega)) hG (stays_trans hGB S₂.keep) hf' (S₂.get List.mem_cons_self) (fun a ha => ?_) (by simp) (by simp; omega) (fun h₆ tk₆ k₆ l₆ => ?_)
  · rcases List.mem_append.mp ha with ha | ha
    · exact (hB a ha).keeps S₂.keep
    · rw [List.mem_singleton.mp ha]; exact hBx.keeps S₂.keep
  · dsimp only
    repeat walk_at "m"
    refine hR _ _ (fun b o hb e => k₆ b o hb (hend _ S₂.keep b o hb e)) ?_
    rw [hxs] at l₆
    exact l₆

set_option maxRecDepth 100000 in
set_option maxHeartbeats 4000000 in
theorem pop_spec {prog : Program} {w : World} {A : Around} {s : Shared} {G : Heap} {f l : Addr} {as : List Nat} {c : Nat → List Int} {R : Result → Shared → Prop}
    (hA : Ok A 4) (hG : Gl G) (hGs : G.StaysIn s.heap) (hGl : G.get? l = none) (hf : FnIs G f dPop) (hl : ∃ o, s.heap.get? l = some o ∧ LP (refs as) o) 
    (hc : ∀ a ∈ as, ITup s.heap a (c a)) (hp : 0 < as.length) (hsz : as.length < 2 ^ 20)
    (hR : ∀ h' tk, Heap.ExtBut l s.heap h' → (∃ o, h'.get? l = some o ∧ LP (refs (popF (fun a b => ltL (c a) (c b)) as).2) o) → R (.ok (.ret (.ref (popF (fun a b => ltL (c a) (c b)) as).1))) { s with heap := h', toks := tk }) :
    codeAny (model prog w) A (.call (.ref f) ⟨[.ref l], []⟩) R s := by
  refine enter (k := 4) (d := dPop) (ms := [(l, LP (refs as))]) (binds := [("heap", .ref l)]) hA (hG.keeps hGs) (hf.keeps hGs) (fun _ _ _ => rfl) (by decide) (locs rfl) (by simp only [List.map_cons, List.map_nil]; decide)
    (fun p hp => by rcases List.mem_singleton.mp hp with rfl; exact hl) (by simp) (fun L cd h₁ pm doc tk S => ?_)
  have hA' := hA.deeper (callEnv (docDef dPop.name dPop.params dPop.body dPop.scope pm cd doc) L f)
  have hB : ∀ a ∈ as, ITup (hideAll s.heap (List.map (fun x => x.fst) [(l, LP (refs as))])) a (c a) := fun a ha => itup_hide (hc a ha) hl
  have hGB : G.StaysIn (hideAll s.heap (List.map (fun x => x.fst) [(l, LP (refs as))])) := fun b o e => (Heap.hide_ne s.heap (fun q => by rw [q, hGl] at e; cases e)).trans (hGs b o e)
  have hend : ∀ h', (hideAll s.heap (List.map (fun x => x.fst) [(l, LP (refs as))])).StaysIn h' → Heap.ExtBut l s.heap h' := fun h' k => extBut_of_hide k
  generalize hideAll s.heap (List.map (fun x => x.fst) [(l, LP (refs as))]) = B at S hB hend hGB
  have hsl : (2 : Nat) ^ 20 ≤ sizeLine := by decide
  obtain ⟨ys, x, rfl⟩ : ∃ ys x, as = ys ++ [x] := ⟨as.dropLast, as.getLast (List.ne_nil_of_length_pos hp), (List.dropLast_concat_getLast _).symm⟩
  have hlast : (ys ++ [x]).getD ((ys ++ [x]).length - 1) 0 = x := by simp
  have e : refs (ys ++ [x]) = refs ys ++ [Value.ref x] := by simp [refs]
  rw [e] at S
  refine wpAny_execs_cons ?_
  walk_at "m"
  refine meth_list (l := l) (items := refs ys ++ [Value.ref x]) PySem.F.slot_list_pop PySem.F.type_list_pop ?_
  walk_at "m"
  refine ⟨rfl, S.get List.mem_cons_self, ?_⟩
  refine callWith_method0 ?_
  refine pop_list S 0 rfl (by simp at hsz ⊢; omega) fun h₂ S₂ => ?_
  dsimp only [List.set] at S₂
  repeat walk_at "m"
  rename_i h₃ S₃
  refine PyProof.Rows.isTrue_plain ?_
  walk_at "m"
  refine wpAny_truthy_list (S₃.isList List.mem_cons_self) (by simp at hsz ⊢; omega) ?_
  have hBx := hB x (by simp)
  refine split_bool (fun hb => ?_) (fun hb => ?_)
  · have hys : 0 < ys.length := by
      cases ys with
      | nil => simp at hb
      | cons _ _ => simp
    have hgt : ¬ (ys ++ [x]).length ≤ 1 := by rw [List.length_append, List.length_singleton]; omega
    have hpop : popF (fun a b => ltL (c a) (c b)) (ys ++ [x]) = (ys.getD 0 0, upF (fun a b => ltL (c a) (c b)) (ys.set 0 x)) := by
      unfold popF
      rw [if_neg hgt, hlast, List.dropLast_concat]
      congr 1
      cases ys with
      | nil => simp at hys
      | cons _ _ => simp
    repeat walk_at "m"
    refine it_list (S₃.isList List.mem_cons_self) (by omega) (by omega) (by exact refs_get hys) ?_
    repeat walk_at "m"
    rename_i h₄ S₄
    refine set_list S₄ 0 rfl (by omega) (by omega) (by simpa using hys) fun h₅ S₅ => ?_
    dsimp only [List.set] at S₅ ⊢
    rw [show Int.toNat 0 = 0 from rfl, refs_set] at S₅
    repeat walk_at "m"
    refine Call_ (ev_def dUp hG (stays_trans hGB S₅.keep) fun f' hf' => ?_)
    refine call_fn hf' ?_
    repeat walk_at "m"
    refine ⟨stays_trans hGB S₅.keep, ?_⟩
    refine up_spec (c := c) hA' hG (stays_trans hGB S₅.keep) hGl hf' (S₅.get List.mem_cons_self) (fun a ha => ?_) (by simpa using hys) (by simp at hsz ⊢; omega) (fun h₆ tk₆ k₆ l₆ => ?_)
    · rcases mem_set_sub ha with ha | rfl
      · exact (hB a (by simp [ha])).keeps S₅.keep
      · exact hBx.keeps S₅.keep
    · dsimp only
      have S₆ := S₅.upd 0 rfl k₆ l₆
      dsimp only [List.set] at S₆
      repeat walk_at "m"
      rw [hpop] at hR
      exact hR _ _ (hend _ S₆.keep) l₆
  · have hys : ys = [] := by
      cases ys with
      | nil => rfl
      | cons _ _ => simp at hb
    have hpop : popF (fun a b => ltL (c a) (c b)) (ys ++ [x]) = (x, []) := by
      unfold popF; rw [if_pos (by simp [hys]), hlast]
    repeat walk_at "m"
    rw [hpop] at hR
    refine hR _ _ (hend _ S₃.keep) ?_
    have := S₃.get List.mem_cons_self
    rw [hys] at this
    exact this
end Mine
end

/-! # MSeq -/
section
open PySem PySem.W PyProof.Rows PySem.Calls
set_option linter.unusedVariables false
namespace Mine

theorem flat_rep (xs : List Value) : ∀ (k : Nat) (acc : Array Value), List.foldl (fun x1 x2 => x1 ++ x2) acc (List.replicate k xs.toArray) = acc ++ ((List.replicate k xs).flatten).toArray
  | 0, acc => by simp
  | k + 1, acc => by
    rw [List.replicate_succ, List.foldl_cons, flat_rep xs k, List.replicate_succ, List.flatten_cons]
    simp [Array.append_assoc]

theorem intsAre_append : ∀ {vs ws : List Value} {xs ys : List Int}, IntsAre vs xs → IntsAre ws ys → IntsAre (vs ++ ws) (xs ++ ys)
  | _, _, _, _, .nil, h => h
  | _, _, _, _, .cons n t h, h' => .cons n t (intsAre_append h h')
theorem intsAre_rep {vs : List Value} {xs : List Int} (h : IntsAre vs xs) : ∀ k, IntsAre (List.replicate k vs).flatten (List.replicate k xs).flatten
  | 0 => .nil
  | k + 1 => by rw [List.replicate_succ, List.replicate_succ, List.flatten_cons, List.flatten_cons]; exact intsAre_append h (intsAre_rep h k)
theorem intsAre_len : ∀ {vs : List Value} {xs : List Int}, IntsAre vs xs → vs.length = xs.length
  | _, _, .nil => rfl
  | _, _, .cons n t h => by simp [intsAre_len h]
theorem intsAre_get : ∀ {vs : List Value} {xs : List Int}, IntsAre vs xs → ∀ {i : Nat}, i < xs.length → ∃ t, vs[i]? = some (.int (xs.getD i 0) t)
  | _, _, .nil, _, h => absurd h (Nat.not_lt_zero _)
  | _, _, .cons n t h, 0, _ => ⟨t, rfl⟩
  | _, _, .cons n t h, i + 1, hi => by
    obtain ⟨t', e⟩ := intsAre_get h (i := i) (by simpa using hi)
    exact ⟨t', by simpa using e⟩
theorem intsAre_set : ∀ {vs : List Value} {xs : List Int}, IntsAre vs xs → ∀ (i : Nat) (x : Int) (t : Tok), IntsAre (vs.set i (.int x t)) (xs.set i x)
  | _, _, .nil, _, _, _ => .nil
  | _, _, .cons n t h, 0, x, t' => .cons x t' h
  | _, _, .cons n t h, i + 1, x, t' => .cons n t (intsAre_set h i x t')
theorem intsAre_take : ∀ {vs : List Value} {xs : List Int}, IntsAre vs xs → ∀ (i : Nat), IntsAre (vs.take i) (xs.take i)
  | _, _, h, 0 => by simpa using IntsAre.nil
  | _, _, .nil, _ + 1 => .nil
  | _, _, .cons n t h, i + 1 => .cons n t (intsAre_take h i)
theorem intsAre_drop : ∀ {vs : List Value} {xs : List Int}, IntsAre vs xs → ∀ (i : Nat), IntsAre (vs.drop i) (xs.drop i)
  | _, _, h, 0 => by simpa using h
  | _, _, .nil, _ + 1 => .nil
  | _, _, .cons n t h, i + 1 => intsAre_drop h i

section
variable {prog : Program} {w : World} {A : Around} {E : Value → Shared → Prop} {s : Shared} {env : Env} {B : Heap} {L : Addr} {bs : List (Str × Value)} {ms : List (Addr × OP)}

/-- a new list -/
theorem new_list {vs : List Value} {Q : Value → Shared → Prop} (S : St B L s.heap bs ms) (hz : vs.length ≤ sizeLine)
    (h : ∀ h' a, St B L h' bs ((a, LP vs) :: ms) → s.heap.get? a = none → s.heap.StaysIn h' → Q (.ref a) { s with heap := h' }) : wpAny (model prog w) A (newList vs) Q E s :=
  wpAny_newObj_type (h _ _ (S.push _ ⟨0, rfl⟩) (get_ge (Nat.le_refl _)) (stays_push _ _)) (by show vs.toArray.size ≤ sizeLine; rw [List.size_toArray]; exact hz)
theorem new_tuple {vs : List Value} {Q : Value → Shared → Prop} (S : St B L s.heap bs ms) (hz : vs.length ≤ sizeLine)
    (h : ∀ h' a, St B L h' bs ((a, TP vs) :: ms) → s.heap.get? a = none → s.heap.StaysIn h' → Q (.ref a) { s with heap := h' }) : wpAny (model prog w) A (newTuple vs) Q E s :=
  wpAny_newObj_type (h _ _ (S.push _ ⟨0, rfl⟩) (get_ge (Nat.le_refl _)) (stays_push _ _)) (by show vs.toArray.size ≤ sizeLine; rw [List.size_toArray]; exact hz)

/-- xs * k -/
theorem mul_l {l : Addr} {vs : List Value} {x : Int} {u : Tok} {Q : Value → Shared → Prop} (S : St B L s.heap bs ms) (hl : ∃ o, s.heap.get? l = some o ∧ LP vs o)
    (h0 : 0 ≤ x) (hv : vs ≠ []) (hsz : vs.length * x.toNat ≤ 2 ^ 24) (hx : x < 2 ^ 62)
    (h : ∀ h' a, St B L h' bs ((a, LP (List.replicate x.toNat vs).flatten) :: ms) → s.heap.get? a = none → s.heap.StaysIn h' → Q (.ref a) { s with heap := h' }) :
    wpAny (model prog w) A (binaryOp .Mult (.ref l) (.int x u)) Q E s := by
  obtain ⟨o, hl, n, rfl⟩ := hl
  refine wpAny_binaryOp_repeat_ref (T := "list") (U := "int") (by decide) ⟨_, hl, rfl⟩ (fun s' => typeIs_int s' x u) noFill_list_mul F.fills_int_mul F.slot_int_rmul repeat_list F.slot_int_index.lookup
    (call_meets F.slot_int_rmul (typeIs_int s x u) F.entry_int_rmul (F.args_int_rmul_2 _ _) (int___rmul___int_list x u l vs.toArray n)
      ⟨hl, rfl, ⟨_, hl, rfl⟩, call_meets F.slot_list_mul ⟨_, hl, rfl⟩ F.entry_list_mul (F.args_list_mul_2 _ _)
        (AutoListH.list___mul___list_int_3 l vs.toArray n x u (by simp [Builtin.List.listFitsIndex]; omega) (by rw [List.size_toArray]; omega) (by simp [Builtin.List.listTooLong, sizeLine]; omega))
        ⟨hl, h _ _ (S.push _ ⟨0, ?_⟩) (get_ge (Nat.le_refl _)) (stays_push _ _)⟩⟩)
  have he : vs.toArray.isEmpty = false := by cases vs with | nil => exact absurd rfl hv | cons _ _ => rfl
  rw [he, if_neg (by decide), flat_rep]
  simp

/-- an int sequence: a list or a tuple -/
def ISeq (h : Heap) (a : Addr) (xs : List Int) : Prop := ITup h a xs ∨ IList h a xs
theorem ISeq.keeps {h h' : Heap} {a : Addr} {xs : List Int} (x : ISeq h a xs) (k : h.StaysIn h') : ISeq h' a xs := x.elim (fun x => .inl (x.keeps k)) (fun x => .inr (x.keeps k))
theorem len_s {a : Addr} {xs : List Int} {Q : Value → Shared → Prop} (hl : ISeq s.heap a xs) (hz : xs.length < 2 ^ 62)
    (h : ∀ tk tk', Q (.int xs.length tk) { s with toks := tk' }) : wpAny (model prog w) A (call (.builtin "len") [.ref a]) Q E s := by
  rcases hl with ⟨vs, h1, h2⟩ | ⟨vs, h1, h2⟩
  · refine len_t h1 (by rw [intsAre_len h2]; exact hz) fun tk tk' => ?_
    rw [intsAre_len h2]; exact h tk tk'
  · refine len_l h1 (by rw [intsAre_len h2]; exact hz) fun tk tk' => ?_
    rw [intsAre_len h2]; exact h tk tk'

theorem seqIndex_nonneg {k : Int} {n : Nat} (h0 : 0 ≤ k) (h1 : k < n) : seqIndex? k n = some k.toNat := by
  unfold seqIndex?
  simp only [show ¬ k < 0 by omega, if_false]
  rw [if_pos (by simp only [Bool.and_eq_true, decide_eq_true_eq]; omega)]
theorem it_s {value slice : Expr} {a : Addr} {xs : List Int} {k : Int} {u : Tok} {Q : Value → Shared → Prop} (hl : ISeq s.heap a xs)
    (h0 : 0 ≤ k) (hk : k < 2 ^ 62) (hx : k.toNat < xs.length) (h : ∀ t, Q (.int (xs.getD k.toNat 0) t) s)
    (hs : subscripted slice false (.ref a) (.int k u) = operate [.ref a, .int k u] (getItem (.ref a) (.int k u)) := by with_unfolding_all rfl) :
    wpAny (model prog w) A (subscriptTail value slice (.ref a) (.int k u)) Q E s := by
  rcases hl with ⟨vs, h1, h2⟩ | ⟨vs, h1, h2⟩
  · obtain ⟨t, e⟩ := intsAre_get h2 hx
    refine tail_any h1.typeIs slot_tuple_getitem.lookup (getItem_tuple h1 (by omega) (by omega) (seqIndex_nonneg h0 (by have := intsAre_len h2; simp; omega)) (by simpa using e) (h t)) hs
  · obtain ⟨t, e⟩ := intsAre_get h2 hx
    exact it_list h1 h0 (by omega) e (h t) hs

/-- a table of the frame's own: ints at a ledger's list -/
theorem it_m {value slice : Expr} {a : Addr} {vs : List Value} {xs : List Int} {k : Int} {u : Tok} {Q : Value → Shared → Prop} (hl : s.heap.IsList a vs.toArray) (hi : IntsAre vs xs)
    (h0 : 0 ≤ k) (hk : k < 2 ^ 62) (hx : k.toNat < xs.length) (h : ∀ t, Q (.int (xs.getD k.toNat 0) t) s)
    (hs : subscripted slice false (.ref a) (.int k u) = operate [.ref a, .int k u] (getItem (.ref a) (.int k u)) := by with_unfolding_all rfl) :
    wpAny (model prog w) A (subscriptTail value slice (.ref a) (.int k u)) Q E s := it_s (.inr ⟨vs, hl, hi⟩) h0 hk hx h hs

theorem rng1 {b : Int} {u : Tok} {Q : Value → Shared → Prop} (h : ∀ h' r t u v tk, s.heap.StaysIn h' → IsRange h' r 0 b 1 t u v → Q (.ref r) { s with heap := h', toks := tk }) :
    wpAny (model prog w) A (call (.type "range") [.int b u]) Q E s := call_range_1 (h _ _ _ _ _ _ (stays_push _ _) (IsRange.new ..))
theorem rng2 {a b : Int} {t u : Tok} {Q : Value → Shared → Prop} (h : ∀ h' r t u v tk, s.heap.StaysIn h' → IsRange h' r a b 1 t u v → Q (.ref r) { s with heap := h', toks := tk }) :
    wpAny (model prog w) A (call (.type "range") [.int a t, .int b u]) Q E s := call_range_2 (h _ _ _ _ _ _ (stays_push _ _) (IsRange.new ..))
theorem rng3 {a b c : Int} {t u v : Tok} {Q : Value → Shared → Prop} (hc : 0 < c) (hp : Builtin.divisionGoesByPylong (b - a) c = false) (h : ∀ h' r t u v tk, s.heap.StaysIn h' → IsRange h' r a b c t u v → Q (.ref r) { s with heap := h', toks := tk }) :
    wpAny (model prog w) A (call (.type "range") [.int a t, .int b u, .int c v]) Q E s := call_range_3 (by omega) (h _ _ _ _ _ _ (stays_push _ _) (IsRange.new ..)) (.inl hp)
end
end Mine
end

/-! # MTab -/
section
open PySem PySem.W PyProof.Rows PySem.Calls
set_option linter.unusedVariables false
namespace Mine
local macro_rules | `(tactic| walk_at "mem") => `(tactic| with_reducible repeat (first | exact List.mem_cons_self | refine List.mem_cons_of_mem _ ?_))
local macro_rules | `(tactic| walk_at "put") => `(tactic| (intro h' S'; simp only [putB, ofString_inj, String.reduceEq, reduceIte, List.filter, ne_eq, not_true_eq_false, not_false_eq_true, decide_true, decide_false, Bool.not_true, Bool.not_false] at S'; try dsimp only))
local macro_rules | `(tactic| walk_at "sub") => `(tactic| repeat (first | exact sub_nil | refine sub_cons (by walk_at "mem") ?_))
/- one step -/
local macro_rules | `(tactic| walk_at "m") => `(tactic| first
  | ((with_reducible show wpAny _ _ (eval (Expr.Name _ _) _) _ _ _); refine ev_loc (by assumption) (by walk_at "mem") ?_)
  | (with_reducible refine wpAny_Constant_int ?_)
  | (with_reducible refine wpAny_execs_nil ?_; try dsimp only)
  | (with_reducible refine wpAny_execs_cons ?_)
  | ((with_reducible show wpAny _ _ (exec (Stmt.Assign [Expr.Name _ _] _ _) _) _ _ _); refine wpAny_Assign_Name ?_)
  | ((with_reducible show wpAny _ _ (exec (Stmt.Assign [Expr.Subscript _ _ _] _ _) _) _ _ _); refine wpAny_Assign_Subscript ?_)
  | (with_reducible refine wpAny_Return_some ?_)
  | (with_reducible refine wpAny_If ?_)
  | (with_reducible refine wpAny_Break ?_; try dsimp only)
  | (with_reducible refine wpAny_Continue ?_; try dsimp only)
  | (with_reducible refine Subscript_ ?_)
  | (with_reducible refine wpAny_BinOp ?_)
  | ((with_reducible show wpAny _ _ (isTrue (Expr.Compare _ [_] [_] _) _ _) _ _ _); refine wpAny_isTrue_Compare1 ?_)
  | ((with_reducible show wpAny _ _ (eval (Expr.Compare _ [_] [_] _) _) _ _ _); refine wpAny_Compare1 ?_)
  | (with_reducible refine PyProof.Rows.isTrue_not ?_)
  | (with_reducible refine PyProof.Rows.isTrue_and_nil ?_)
  | (with_reducible refine PyProof.Rows.isTrue_and ?_)
  | (with_reducible refine wpAny_truthy_bool ?_)
  | ((with_reducible show wpAny _ _ (exec (Stmt.Expr _ _) _) _ _ _); refine wpAny_Expr_any ?_)
  | ((with_reducible show wpAny _ _ (eval (Expr.IfExp _ _ _ _) _) _ _ _); refine wpAny_IfExp ?_)
  | ((with_reducible show wpAny _ _ (binaryOp Operator.Mult (Value.int _ _) (Value.int _ _)) _ _ _); refine PyProof.Rows.mul_int ?_ (by mul_fits))
  | ((with_reducible show wpAny _ _ (spliced (backTo _ (starEach [] _))) _ _ _); refine args_nil ?_)
  | ((with_reducible show wpAny _ _ (spliced (backTo _ (starEach (_ :: _) _))) _ _ _); refine args_cons ?_)
  | (with_reducible refine PyProof.Rows.sub_int ?_)
  | (with_reducible refine PyProof.Rows.add_int ?_)
  | (with_reducible refine PyProof.Rows.lt_int ?_)
  | (with_reducible refine PyProof.Rows.gt_int ?_)
  | (with_reducible refine PyProof.Rows.eq_int ?_)
  | (with_reducible refine PyProof.Rows.ne_int ?_)
  | (with_reducible refine ite_t ?_)
  | (with_reducible refine ite_f ?_)
  | ((with_reducible show wpAny _ _ (storeName _ _ _) _ _ _); refine st_loc (by assumption) ?_; walk_at "put"))

abbrev nats (ts : List Nat) : List Int := ts.map Int.ofNat
theorem nats_getD (ts : List Nat) (i : Nat) : (nats ts).getD i 0 = ((ts.getD i 0 : Nat) : Int) := by
  simp only [nats, List.getD_eq_getElem?_getD, List.getElem?_map]
  cases ts[i]? <;> simp
theorem getD_set (ts : List Nat) (i j v : Nat) (h : i < ts.length) : (ts.set i v).getD j 0 = if i = j then v else ts.getD j 0 := by
  simp only [List.getD_eq_getElem?_getD, List.getElem?_set]
  split
  · subst_vars; simp [h]
  · rfl
theorem range_small {a b c : Int} (ha : 0 ≤ a) (hb : 0 ≤ b) (hc : 0 < c) (ha' : a < 2 ^ 30) (hb' : b < 2 ^ 30) (hc' : c < 2 ^ 30) : Builtin.Range.small a b c = true := by
  have h1 : ∀ x : Int, -(2 ^ 32) ≤ x → x < 2 ^ 32 → Builtin.Range.rangeFitsLong x = true := by
    intro x h1 h2; unfold Builtin.Range.rangeFitsLong; simp only [Bool.and_eq_true, decide_eq_true_eq]; omega
  have hs : 0 ≤ Builtin.Range.rangeSize a b c ∧ Builtin.Range.rangeSize a b c < 2 ^ 31 := by
    unfold Builtin.Range.rangeSize
    rw [if_pos (by omega)]
    split
    · have := Int.ediv_nonneg (a := b - a - 1) (b := c) (by omega) (by omega)
      have := Int.ediv_le_self (a := b - a - 1) c (by omega)
      omega
    · omega
  unfold Builtin.Range.small
  rw [h1 a (by omega) (by omega), h1 b (by omega) (by omega), h1 c (by omega) (by omega), h1 _ (by omega) (by omega)]
  rw [if_pos (by omega), h1 (b + (c - 1)) (by omega) (by omega)]
  simp
theorem rangeSize_1 {a b : Int} (h : a ≤ b) : Builtin.Range.rangeSize a b 1 = b - a := by
  rw [rangeSize_one]; split <;> omega

set_option maxRecDepth 100000 in
set_option maxHeartbeats 8000000 in
theorem tab_spec {prog : Program} {w : World} {A : Around} {s : Shared} {G : Heap} {f a : Addr} {p : List Int} {R : Result → Shared → Prop}
    (hA : Ok A 2) (hG : Gl G) (hGs : G.StaysIn s.heap) (hf : FnIs G f dTab) (hs : ISeq s.heap a p) (hp : 0 < p.length) (hsz : p.length < 2 ^ 20)
    (hR : ∀ h' tk t vs ts, s.heap.StaysIn h' → s.heap.get? t = none → (∃ o, h'.get? t = some o ∧ LP vs o) → IntsAre vs (nats ts) → ts.length = p.length →
      (∀ j, 1 ≤ j → j ≤ p.length → MBd p j (ts.getD (j - 1) 0)) → R (.ok (.ret (.ref t))) { s with heap := h', toks := tk }) :
    codeAny (model prog w) A (.call (.ref f) ⟨[.ref a], []⟩) R s := by
  refine enter (k := 2) (d := dTab) (ms := []) (binds := [("prefix", .ref a)]) hA (hG.keeps hGs) (hf.keeps hGs) (fun _ _ _ => rfl) (by decide) (locs rfl) (by simp only [List.map_cons, List.map_nil]; decide)
    (fun p hp => by cases hp) (by simp) (fun L cd h₁ pm doc tk S => ?_)
  have hA' := hA.deeper (callEnv (docDef dTab.name dTab.params dTab.body dTab.scope pm cd doc) L f)
  change St s.heap L h₁ [(Str.ofString "prefix", Value.ref a)] [] at S
  have hsl : (2 : Nat) ^ 20 ≤ sizeLine := by decide
  refine wpAny_execs_cons ?_
  walk_at "m"
  walk_at "m"
  refine List_ ?_
  repeat walk_at "m"
  refine new_list S (by simp; omega) fun h₂ a₂ S₂ _ _ => ?_
  refine Call_ (ev_blt hG (stays_trans hGs S₂.keep) (by simp) boot_len ?_)
  refine PyProof.Rows.callWith_builtin1 ?_
  repeat walk_at "m"
  refine len_s (hs.keeps S₂.keep) (by omega) fun _ _ => ?_
  refine mul_l S₂ (S₂.get List.mem_cons_self) (by omega) (by simp) (by simp; omega) (by omega) fun h₃ t S₃ hfr _ => ?_
  have hft : s.heap.get? t = none := B_fresh S₂.keep hfr
  have S₄ := S₃.sub (ms' := [(t, LP (List.replicate ((p.length : Int)).toNat [Value.int 0 tk]).flatten)]) (fun _ h => h) (by simp)
  have hint : IntsAre (List.replicate ((p.length : Int)).toNat [Value.int 0 tk]).flatten (nats (List.replicate p.length 0)) := by
    have := intsAre_rep (.cons 0 tk .nil) p.length
    rw [Int.toNat_natCast]
    have e : (List.replicate p.length [(0 : Int)]).flatten = nats (List.replicate p.length 0) := by simp [nats, List.flatten_replicate_singleton]
    rwa [e] at this
  generalize (List.replicate ((p.length : Int)).toNat [Value.int 0 tk]).flatten = vs₀ at S₄ hint
  clear S₃ S₂ S
  walk_at "m"
  rename_i h₅ S₅
  walk_at "m"
  refine wpAny_For ?_
  refine Call_ (ev_blt hG (stays_trans hGs S₅.keep) (by simp) boot_range ?_)
  refine PyProof.Rows.callWith_type1 ?_
  repeat walk_at "m"
  refine Call_ (ev_blt hG (stays_trans hGs S₅.keep) (by simp) boot_len ?_)
  refine PyProof.Rows.callWith_builtin1 ?_
  repeat walk_at "m"
  refine len_s (hs.keeps S₅.keep) (by omega) fun _ _ => ?_
  repeat walk_at "m"
  refine rng2 fun h₆ r₆ _ _ _ _ k₆ hr₆ => ?_
  have S₆ := S₅.grow k₆
  refine for_range (p.length - 1) S₆ hr₆ (range_small (by omega) (by omega) (by omega) (by omega) (by omega) (by omega)) (by rw [rangeSize_1 (by omega)]; omega)
    (fun i bs ms => bs = ([("prefix", .ref a), ("table", .ref t)] : List (Str × Value)) ∧ ∃ vs ts, ms = [(t, LP vs)] ∧ IntsAre vs (nats ts) ∧ ts.length = p.length ∧ ∀ j, 1 ≤ j → j ≤ i + 1 → MBd p j (ts.getD (j - 1) 0))
    ⟨rfl, vs₀, List.replicate p.length 0, rfl, hint, by simp, fun j h1 h2 => ?_⟩ ?step ?fin hA'.hd
  · have : j = 1 := by omega
    subst this
    have e : (List.replicate p.length 0).getD 0 0 = 0 := by
      cases h : p.length <;> simp
    rw [e]; exact mbd_one p
  case fin =>
    rintro h' tk' bs' ms' ⟨rfl, vs, ts, rfl, hi, hl, hm⟩ S'
    dsimp only
    repeat walk_at "m"
    exact hR _ _ t vs ts S'.keep hft (S'.get List.mem_cons_self) hi hl (fun j h1 h2 => hm j h1 (by omega))
  case step =>
    rintro i I bs' ms' h' tk' tk'' hi ⟨rfl, vs, ts, rfl, hints, hl, hm⟩ S'
    simp only [putB, ofString_inj, String.reduceEq, reduceIte] at S'
    have ei : (1 : Int) + i * 1 = ((i + 1 : Nat) : Int) := by omega
    generalize RI (1 + (i : Int) * 1 + 1) (((p.length - 1 : Nat) : Int) - i - 1) 1 = IP at S' ⊢
    rw [ei] at S'
    repeat walk_at "m"
    refine it_m (S'.isList (by walk_at "mem")) hints (by omega) (by omega) (by simp [hl]; omega) fun t₁ => ?_
    have e1 : (((i + 1 : Nat) : Int) - 1).toNat = i := by omega
    rw [e1, nats_getD]
    have hmi := hm (i + 1) (by omega) (by omega)
    rw [Nat.add_sub_cancel] at hmi
    generalize ts.getD i 0 = idx₀ at hmi
    iterate 2 walk_at "m"
    rename_i h₂ S₂
    refine wpAny_mono (while_ (Q := fun fl s' => fl = .next ∧ ∃ h' tk v tv, s' = { s with heap := h', toks := tk } ∧ MBd p (i + 2) v ∧
        St s.heap L h' [("prefix", .ref a), ("table", .ref t)] [(I, IP), (t, LP (vs.set (i + 1) (.int v tv)))])
      (fun n s' => ∃ h' tk idx ti, s' = { s with heap := h', toks := tk } ∧ n = idx ∧ Sch p (i + 1) idx ∧
        St s.heap L h' [("prefix", .ref a), ("table", .ref t), ("i", .int ((i + 1 : Nat) : Int) tk'), ("idx", .int (idx : Nat) ti)] [(I, IP), (t, LP vs)]) ?turn idx₀ ?init) ?after (fun _ _ h => h)
    case init => exact ⟨_, _, idx₀, _, rfl, rfl, sch_init hmi, S₂⟩
    case after =>
      rintro fl s' ⟨rfl, h', tk', v, tv, rfl, hv, S₃⟩
      dsimp only
      repeat walk_at "m"
      refine ⟨_, _, _, _, rfl, ⟨rfl, _, ts.set (i + 1) v, rfl, ?_, by simpa using hl, fun j h1 h2 => ?_⟩, S₃⟩
      · have := intsAre_set hints (i + 1) (v : Int) tv
        rwa [show (nats ts).set (i + 1) (v : Int) = nats (ts.set (i + 1) v) by simp [nats, List.map_set]] at this
      · rw [getD_set _ _ _ _ (by omega)]
        split
        · have : j = i + 2 := by omega
          subst this; exact hv
        · exact hm j h1 (by omega)
    case turn =>
      rintro n s' ⟨h', tk', idx, ti, rfl, rfl, hsch, S₃⟩
      have hlt := hsch.1.1
      iterate 4 walk_at "m"
      refine it_s (hs.keeps S₃.keep) (by omega) (by omega) (by omega) fun t₂ => ?_
      repeat walk_at "m"
      refine it_s (hs.keeps S₃.keep) (by omega) (by omega) (by omega) fun t₃ => ?_
      rw [Int.toNat_natCast, Int.toNat_natCast]
      repeat walk_at "m"
      refine split_bool (fun hb => ?_) (fun hb => ?_)
      · have hne : p.getD n 0 ≠ p.getD (i + 1) 0 := by intro e; rw [e] at hb; simp at hb
        repeat walk_at "m"
        refine split_bool (fun hz => ?_) (fun hz => ?_)
        · have hn0 : n = 0 := by simpa using hz
          subst hn0
          repeat walk_at "m"
          refine set_list S₃ 1 rfl (by omega) (by omega) (by rw [intsAre_len hints]; simp [hl]; omega) fun h₄ S₄ => ?_
          dsimp only [List.set] at S₄ ⊢
          rw [Int.toNat_natCast] at S₄
          repeat walk_at "m"
          exact ⟨rfl, h₄, _, 0, _, rfl, sch_miss (by omega) hsch hne, S₄.sub (by walk_at "sub") (List.Sublist.refl _)⟩
        · have hn0 : n ≠ 0 := by simpa using hz
          repeat walk_at "m"
          refine it_m (S₃.isList (by walk_at "mem")) hints (by omega) (by omega) (by simp [hl]; omega) fun t₄ => ?_
          have e2 : ((n : Int) - 1).toNat = n - 1 := by omega
          rw [e2, nats_getD]
          have hmn := hm n (by omega) (by omega)
          repeat walk_at "m"
          rename_i h₄ S₄
          exact ⟨ts.getD (n - 1) 0, hmn.1.1, h₄, _, _, _, rfl, rfl, sch_step hsch hne hmn, S₄⟩
      · have he : p.getD n 0 = p.getD (i + 1) 0 := by simp at hb; exact hb.symm
        repeat walk_at "m"
        refine set_list S₃ 1 rfl (by omega) (by omega) (by rw [intsAre_len hints]; simp [hl]; omega) fun h₄ S₄ => ?_
        dsimp only [List.set] at S₄ ⊢
        rw [Int.toNat_natCast] at S₄
        repeat walk_at "m"
        exact ⟨rfl, h₄, _, n + 1, _, rfl, sch_hit hsch he, S₄.sub (by walk_at "sub") (List.Sublist.refl _)⟩
end Mine
end

/-! # MRoot -/
section
open PySem PySem.W PyProof.Rows PySem.Calls
set_option linter.unusedVariables false
namespace Mine
local macro_rules | `(tactic| walk_at "mem") => `(tactic| with_reducible repeat (first | exact List.mem_cons_self | refine List.mem_cons_of_mem _ ?_))
local macro_rules | `(tactic| walk_at "put") => `(tactic| (intro h' S'; simp only [putB, ofString_inj, String.reduceEq, reduceIte, List.filter, ne_eq, not_true_eq_false, not_false_eq_true, decide_true, decide_false, Bool.not_true, Bool.not_false] at S'; try dsimp only))
local macro_rules | `(tactic| walk_at "sub") => `(tactic| repeat (first | exact sub_nil | refine sub_cons (by walk_at "mem") ?_))
/- one step -/
local macro_rules | `(tactic| walk_at "m") => `(tactic| first
  | ((with_reducible show wpAny _ _ (eval (Expr.Name _ _) _) _ _ _); refine ev_loc (by assumption) (by walk_at "mem") ?_)
  | (with_reducible refine wpAny_Constant_int ?_)
  | (with_reducible refine wpAny_execs_nil ?_; try dsimp only)
  | (with_reducible refine wpAny_execs_cons ?_)
  | ((with_reducible show wpAny _ _ (exec (Stmt.Assign [Expr.Name _ _] _ _) _) _ _ _); refine wpAny_Assign_Name ?_)
  | ((with_reducible show wpAny _ _ (exec (Stmt.Assign [Expr.Subscript _ _ _] _ _) _) _ _ _); refine wpAny_Assign_Subscript ?_)
  | (with_reducible refine wpAny_Return_some ?_)
  | (with_reducible refine wpAny_If ?_)
  | (with_reducible refine wpAny_Break ?_; try dsimp only)
  | (with_reducible refine wpAny_Continue ?_; try dsimp only)
  | (with_reducible refine Subscript_ ?_)
  | (with_reducible refine wpAny_BinOp ?_)
  | ((with_reducible show wpAny _ _ (isTrue (Expr.Compare _ [_] [_] _) _ _) _ _ _); refine wpAny_isTrue_Compare1 ?_)
  | ((with_reducible show wpAny _ _ (eval (Expr.Compare _ [_] [_] _) _) _ _ _); refine wpAny_Compare1 ?_)
  | (with_reducible refine PyProof.Rows.isTrue_not ?_)
  | (with_reducible refine PyProof.Rows.isTrue_and_nil ?_)
  | (with_reducible refine PyProof.Rows.isTrue_and ?_)
  | (with_reducible refine wpAny_truthy_bool ?_)
  | ((with_reducible show wpAny _ _ (exec (Stmt.Expr _ _) _) _ _ _); refine wpAny_Expr_any ?_)
  | ((with_reducible show wpAny _ _ (eval (Expr.IfExp _ _ _ _) _) _ _ _); refine wpAny_IfExp ?_)
  | ((with_reducible show wpAny _ _ (binaryOp Operator.Mult (Value.int _ _) (Value.int _ _)) _ _ _); refine PyProof.Rows.mul_int ?_ (by mul_fits))
  | ((with_reducible show wpAny _ _ (spliced (backTo _ (starEach [] _))) _ _ _); refine args_nil ?_)
  | ((with_reducible show wpAny _ _ (spliced (backTo _ (starEach (_ :: _) _))) _ _ _); refine args_cons ?_)
  | ((with_reducible show wpAny _ _ (eval (Expr.UnaryOp UnaryOp.USub _ _) _) _ _ _); refine PyProof.Rows.UnaryOp_ ?_)
  | (with_reducible refine PyProof.Rows.neg_int ?_)
  | (with_reducible refine PyProof.Rows.sub_int ?_)
  | (with_reducible refine PyProof.Rows.add_int ?_)
  | (with_reducible refine PyProof.Rows.lt_int ?_)
  | (with_reducible refine PyProof.Rows.gt_int ?_)
  | (with_reducible refine PyProof.Rows.eq_int ?_)
  | (with_reducible refine PyProof.Rows.ne_int ?_)
  | (with_reducible refine ite_t ?_)
  | (with_reducible refine ite_f ?_)
  | ((with_reducible show wpAny _ _ (storeName _ _ _) _ _ _); refine st_loc (by assumption) ?_; walk_at "put"))

def RootIs (p : List Int) (r : Nat) : Prop := ∃ t, MBd p p.length t ∧ r = if p.length % (p.length - t) = 0 then p.length - t else p.length
section
variable {prog : Program} {w : World} {A : Around} {E : Value → Shared → Prop} {s : Shared}
/-- xs[-1] -/
theorem it_neg {value slice : Expr} {a : Addr} {vs : List Value} {xs : List Int} {u : Tok} {Q : Value → Shared → Prop} (hl : s.heap.IsList a vs.toArray) (hi : IntsAre vs xs)
    (hx : 0 < xs.length) (hz : xs.length < 2 ^ 62) (h : ∀ t, Q (.int (xs.getD (xs.length - 1) 0) t) s)
    (hs : subscripted slice false (.ref a) (.int (-1) u) = operate [.ref a, .int (-1) u] (getItem (.ref a) (.int (-1) u)) := by with_unfolding_all rfl) :
    wpAny (model prog w) A (subscriptTail value slice (.ref a) (.int (-1) u)) Q E s := by
  obtain ⟨t, e⟩ := intsAre_get hi (i := xs.length - 1) (by omega)
  have hlen := intsAre_len hi
  refine tail_any hl.typeIs slot_list_getitem.lookup (wpAny_getItem_list_neg hl (by omega) (by simp; omega) (by omega) ?_ (h t)) hs
  rw [← e]
  simp only [List.size_toArray, List.getElem?_toArray]
  congr 1; omega
end

set_option maxRecDepth 100000 in
set_option maxHeartbeats 8000000 in
theorem root_spec {prog : Program} {w : World} {A : Around} {s : Shared} {G : Heap} {f a : Addr} {p : List Int} {R : Result → Shared → Prop}
    (hA : Ok A 3) (hG : Gl G) (hGs : G.StaysIn s.heap) (hf : FnIs G f dRoot) (hs : ISeq s.heap a p) (hp : 0 < p.length) (hsz : p.length < 2 ^ 20)
    (hR : ∀ h' tk r t, s.heap.StaysIn h' → RootIs p r → R (.ok (.ret (.int (r : Nat) t))) { s with heap := h', toks := tk }) :
    codeAny (model prog w) A (.call (.ref f) ⟨[.ref a], []⟩) R s := by
  refine enter (k := 3) (d := dRoot) (ms := []) (binds := [("row", .ref a)]) hA (hG.keeps hGs) (hf.keeps hGs) (fun _ _ _ => rfl) (by decide) (locs rfl) (by simp only [List.map_cons, List.map_nil]; decide)
    (fun p hp => by cases hp) (by simp) (fun L cd h₁ pm doc tk S => ?_)
  have hA' := hA.deeper (callEnv (docDef dRoot.name dRoot.params dRoot.body dRoot.scope pm cd doc) L f)
  change St s.heap L h₁ [(Str.ofString "row", Value.ref a)] [] at S
  refine wpAny_execs_cons ?_
  walk_at "m"
  walk_at "m"
  refine Call_ (ev_blt hG (stays_trans hGs S.keep) (by simp) boot_len ?_)
  refine PyProof.Rows.callWith_builtin1 ?_
  repeat walk_at "m"
  refine len_s (hs.keeps S.keep) (by omega) fun _ _ => ?_
  walk_at "m"
  refine Call_ (ev_def dTab hG (stays_trans hGs S.keep) fun f' hf' => ?_)
  refine call_fn hf' ?_
  repeat walk_at "m"
  refine ⟨stays_trans hGs S.keep, ?_⟩
  refine tab_spec hA' hG (stays_trans hGs S.keep) hf' (hs.keeps S.keep) hp hsz (fun h₂ tk₂ t vs ts k₂ _ hl₂ hi hlen hm => ?_)
  have S₂ := S.grow k₂
  dsimp only
  repeat walk_at "m"
  refine it_neg (LP.isList hl₂) hi (by simp [hlen]; omega) (by simp [hlen]; omega) fun t₂ => ?_
  have hl' : (nats ts).length = p.length := by simp [hlen]
  rw [hl', nats_getD]
  have hmb := hm p.length (by omega) (by omega)
  generalize ts.getD (p.length - 1) 0 = b at hmb
  have hb := hmb.1.1
  repeat walk_at "m"
  rename_i h₃ S₃
  have e1 : (p.length : Int) - (b : Int) = ((p.length - b : Nat) : Int) := by omega
  rw [e1] at S₃
  refine Call_ (ev_blt hG (stays_trans hGs S₃.keep) (by simp) boot_len ?_)
  refine PyProof.Rows.callWith_builtin1 ?_
  repeat walk_at "m"
  refine len_s (hs.keeps S₃.keep) (by omega) fun _ _ => ?_
  repeat walk_at "m"
  refine mod_int (by omega) ?_
  have e2 : ((p.length : Int)).fmod ((p.length - b : Nat) : Int) = ((p.length % (p.length - b) : Nat) : Int) := by
    rw [Int.fmod_eq_emod_of_nonneg _ (by omega)]; norm_cast
  rw [e2]
  repeat walk_at "m"
  refine split_bool (fun hz => ?_) (fun hz => ?_)
  · repeat walk_at "m"
    refine hR _ _ (p.length - b) _ S₃.keep ⟨b, hmb, ?_⟩
    rw [if_pos (by simp at hz; omega)]
  · repeat walk_at "m"
    refine Call_ (ev_blt hG (stays_trans hGs S₃.keep) (by simp) boot_len ?_)
    refine PyProof.Rows.callWith_builtin1 ?_
    repeat walk_at "m"
    refine len_s (hs.keeps S₃.keep) (by omega) fun _ _ => ?_
    dsimp only
    refine hR _ _ p.length _ S₃.keep ⟨b, hmb, ?_⟩
    rw [if_neg (by simp at hz; omega)]
end Mine
end

/-! # MSeq2 -/
section
open PySem PySem.W PyProof.Rows PySem.Calls
set_option linter.unusedVariables false
namespace Mine

section
variable {prog : Program} {w : World} {A : Around} {E : Value → Shared → Prop} {s : Shared} {env : Env}

/-- a list of anything, told by its values -/
def VList (h : Heap) (a : Addr) (vs : List Value) : Prop := h.IsList a vs.toArray
theorem VList.keeps {h h' : Heap} {a : Addr} {vs : List Value} (x : VList h a vs) (k : h.StaysIn h') : VList h' a vs := stays_list k x

/-- xs[a:], xs[:b] of a list -/
theorem sl_from {value slice : Expr} {l sl : Addr} {vs : List Value} {a : Nat} {u : Tok} {Q : Value → Shared → Prop} (hl : VList s.heap l vs) (hs : s.heap.IsSliceOf sl (.int a u) .none .none) (hz : vs.length ≤ sizeLine)
    (h : ∀ h' r, s.heap.StaysIn h' → s.heap.get? r = none → (∃ o, h'.get? r = some o ∧ LP (vs.drop a) o) → Q (.ref r) { s with heap := h' })
    (hsub : subscripted slice false (.ref l) (.ref sl) = operate [.ref sl, .ref l] (getItem (.ref l) (.ref sl)) := by with_unfolding_all rfl) :
    wpAny (model prog w) A (subscriptTail value slice (.ref l) (.ref sl)) Q E s := by
  refine tail_any hl.typeIs slot_list_getitem.lookup (wpAny_getItem_list_slice hl hs (.int _ _) .none .none (by simp) (h _ _ (stays_push _ _) (get_ge (Nat.le_refl _)) ⟨_, Heap.get?_push_size _ rfl, 0, ?_⟩) (by simpa using hz)) hsub
  rw [slicePick_from']
theorem sl_upto {value slice : Expr} {l sl : Addr} {vs : List Value} {b : Nat} {u : Tok} {Q : Value → Shared → Prop} (hl : VList s.heap l vs) (hs : s.heap.IsSliceOf sl .none (.int b u) .none) (hz : vs.length ≤ sizeLine)
    (h : ∀ h' r, s.heap.StaysIn h' → s.heap.get? r = none → (∃ o, h'.get? r = some o ∧ LP (vs.take b) o) → Q (.ref r) { s with heap := h' })
    (hsub : subscripted slice false (.ref l) (.ref sl) = operate [.ref sl, .ref l] (getItem (.ref l) (.ref sl)) := by with_unfolding_all rfl) :
    wpAny (model prog w) A (subscriptTail value slice (.ref l) (.ref sl)) Q E s := by
  refine tail_any hl.typeIs slot_list_getitem.lookup (wpAny_getItem_list_slice hl hs .none (.int _ _) .none (by simp) (h _ _ (stays_push _ _) (get_ge (Nat.le_refl _)) ⟨_, Heap.get?_push_size _ rfl, 0, ?_⟩) (by simpa using hz)) hsub
  rw [slicePick_upto']

/-- xs + ys of lists -/
theorem add_l {l b : Addr} {vs ws : List Value} {Q : Value → Shared → Prop} (hl : VList s.heap l vs) (hb : VList s.heap b ws) (hz : vs.length + ws.length ≤ sizeLine)
    (h : ∀ h' r, s.heap.StaysIn h' → s.heap.get? r = none → (∃ o, h'.get? r = some o ∧ LP (vs ++ ws) o) → Q (.ref r) { s with heap := h' }) :
    wpAny (model prog w) A (binaryOp .Add (.ref l) (.ref b)) Q E s := by
  obtain ⟨⟨cls, dd, data, sl⟩, ho, hc, n, hd⟩ := id hl
  obtain ⟨⟨cls2, dd2, data2, sl2⟩, ho2, hc2, n2, hd2⟩ := id hb
  simp only at hc hd hc2 hd2
  subst hc hd hc2 hd2
  refine concat_meets ⟨_, ho, rfl⟩ ⟨_, ho2, rfl⟩ noFill_list_add seq_list_add PySem.F.slot_list_add PySem.F.entry_list_add (PySem.F.args_list_add_2 _ _) (list_addW l b vs.toArray ws.toArray n n2 dd dd2 sl sl2 (by simpa using hz))
    ⟨ho, ho2, h _ _ (stays_push _ _) (get_ge (Nat.le_refl _)) ⟨_, Heap.get?_push_size _ rfl, 0, ?_⟩⟩
  simp

/-- tuple(xs) -/
theorem tup_of {l : Addr} {vs : List Value} {Q : Value → Shared → Prop} (hl : VList s.heap l vs) (hz : vs.length ≤ sizeLine)
    (h : ∀ h' r, s.heap.StaysIn h' → s.heap.get? r = none → IsTup h' r vs.toArray → Q (.ref r) { s with heap := h' }) :
    wpAny (model prog w) A (call (.type "tuple") [.ref l]) Q E s := by
  refine call_tuple_list hl (fun h' k => h _ _ (stays_trans k (stays_push _ _)) (B_fresh k (get_ge (Nat.le_refl _))) ⟨_, Heap.get?_push_size _ rfl, rfl, 0, rfl⟩) (by simpa using hz)

/-- t + u of tuples -/
theorem add_t {l b : Addr} {xs ys : List Int} {Q : Value → Shared → Prop} (hl : ITup s.heap l xs) (hb : ITup s.heap b ys) (hz : xs.length + ys.length ≤ sizeLine)
    (h : ∀ h' r, s.heap.StaysIn h' → ITup h' r (xs ++ ys) → Q (.ref r) { s with heap := h' }) :
    wpAny (model prog w) A (binaryOp .Add (.ref l) (.ref b)) Q E s := by
  obtain ⟨vs, H1, hi⟩ := id hl
  obtain ⟨ws, H2, hj⟩ := id hb
  have l1 := intsAre_len hi
  have l2 := intsAre_len hj
  obtain ⟨⟨cls, dd, data, sl⟩, ho, hc, n, hd⟩ := id H1
  obtain ⟨⟨cls2, dd2, data2, sl2⟩, ho2, hc2, n2, hd2⟩ := id H2
  simp only at hc hd hc2 hd2
  subst hc hd hc2 hd2
  by_cases hv : vs = []
  · have : xs = [] := List.eq_nil_of_length_eq_zero (by rw [← l1, hv]; rfl)
    subst this
    exact concat_meets ⟨_, ho, rfl⟩ ⟨_, ho2, rfl⟩ noFill_tuple_add seq_tuple_add PySem.F.slot_tuple_add PySem.F.entry_tuple_add (PySem.F.args_tuple_add_2 _ _)
      (tuple_addW0 l b vs.toArray ws.toArray n n2 dd dd2 sl sl2 (by simp [hv])) ⟨ho, ho2, h _ _ (fun _ _ e => e) hb⟩
  · by_cases hw : ws = []
    · have : ys = [] := List.eq_nil_of_length_eq_zero (by rw [← l2, hw]; rfl)
      subst this
      exact concat_meets ⟨_, ho, rfl⟩ ⟨_, ho2, rfl⟩ noFill_tuple_add seq_tuple_add PySem.F.slot_tuple_add PySem.F.entry_tuple_add (PySem.F.args_tuple_add_2 _ _)
        (tuple_addW1 l b vs.toArray ws.toArray n n2 dd dd2 sl sl2 (by simpa using hv) (by simp [hw])) ⟨ho, ho2, h _ _ (fun _ _ e => e) (by simpa using hl)⟩
    · exact concat_meets ⟨_, ho, rfl⟩ ⟨_, ho2, rfl⟩ noFill_tuple_add seq_tuple_add PySem.F.slot_tuple_add PySem.F.entry_tuple_add (PySem.F.args_tuple_add_2 _ _)
        (tuple_addW2 l b vs.toArray ws.toArray n n2 dd dd2 sl sl2 (by simpa using hv) (by simpa using hw) (by rw [List.size_toArray, List.size_toArray]; omega))
        ⟨ho, ho2, h _ _ (stays_push _ _) ⟨vs ++ ws, ⟨_, Heap.get?_push_size _ rfl, rfl, 0, by simp⟩, intsAre_append hi hj⟩⟩

/-- sorted(xs) of ints -/
theorem srt {l : Addr} {xs : List Int} {Q : Value → Shared → Prop} (hl : IList s.heap l xs) (h64 : xs.length < 64)
    (h : ∀ h' r xs', s.heap.StaysIn h' → IList h' r xs' → xs'.Perm xs → xs'.Pairwise (· ≤ ·) → Q (.ref r) { s with heap := h' }) :
    wpAny (model prog w) A (call (.builtin "sorted") [.ref l]) Q E s := by
  obtain ⟨vs, H1, hi⟩ := hl
  refine sorted_ints H1 hi (by rw [intsAre_len hi]; exact h64) fun out ns' a1 a2 a3 => ?_
  obtain ⟨e, he⟩ := sortedAll_at s.heap vs out
  exact h _ _ ns' (fun _ _ => sortedAll_old) ⟨out.toList, ⟨_, he, rfl, e, by simp [seqObj]⟩, a1⟩ a2 a3
end
end Mine
end

/-! # MSeq3 -/
section
open PySem PySem.W PyProof.Rows PySem.Calls
set_option linter.unusedVariables false
namespace Mine

theorem adjust_upto (b n : Nat) : Builtin.Slice.sliceAdjust none (some (b : Int)) 1 (n : Int) = (0, ((min b n : Nat) : Int)) := by
  unfold Builtin.Slice.sliceAdjust
  have h1 : ¬ ((1 : Int) < 0) := by omega
  have h2 : ¬ ((b : Int) < 0) := by omega
  simp only [h1, h2, if_false]
  congr 1
  omega
theorem places_upto (b : Nat) : Builtin.Slice.slicePlaces 0 (b : Int) 1 = b := by
  unfold Builtin.Slice.slicePlaces
  have h1 : (1 : Int) > 0 := by omega
  simp only [h1, if_true, Int.ediv_one]
  split <;> omega

theorem pick_upto (xs : List Value) (b : Nat) (hb : b ≤ xs.length) : ((List.range b).filterMap fun (k : Nat) => xs.toArray[((0 : Int) + (k : Int) * 1).toNat]?).toArray = (xs.take b).toArray := by
  have e : (fun (k : Nat) => xs.toArray[((0 : Int) + (k : Int) * 1).toNat]?) = fun k => xs[k]? := by
    funext k
    have : ((0 : Int) + (k : Int) * 1).toNat = k := by omega
    rw [this]; simp
  rw [e]
  congr 1
  induction b with
  | zero => simp
  | succ b ih =>
    rw [List.range_succ, List.filterMap_append, ih (by omega), List.take_add_one]
    have : b < xs.length := by omega
    simp [this]

section
variable {prog : Program} {w : World} {A : Around} {E : Value → Shared → Prop} {s : Shared} {env : Env}

theorem sliceApplied_upto {sl : Addr} {b n : Nat} {u : Tok} {Q : Int × Int × Nat → Shared → Prop} (hs : s.heap.IsSliceOf sl .none (.int b u) .none) (h : Q (0, 1, min b n) s) :
    wpAny (model prog w) A (Builtin.Slice.sliceApplied (.ref sl) (pure (n : Int))) Q E s := by
  obtain ⟨os, hos, hcs, hds⟩ := id hs
  unfold Builtin.Slice.sliceApplied Builtin.Slice.sliceFields
  refine wpAny_bind (wpAny_bind (wpAny_field hos hds (x := .none) rfl (wpAny_bind (wpAny_field hos hds (x := .int b u) rfl (wpAny_bind (wpAny_field hos hds (x := .none) rfl (wpAny_pure ?_)))))))
  refine wpAny_bind (slicePart_none ?_)
  show wpAny _ _ (if ((1 : Int) == 0) = true then _ else _) _ _ s
  rw [if_neg (by decide)]
  refine wpAny_bind (slicePart_none (wpAny_bind (slicePart_int (wpAny_bind (wpAny_pure ?_)))))
  show wpAny _ _ (match Builtin.Slice.sliceAdjust none (some (b : Int)) 1 (n : Int) with | (lo, hi) => pure (lo, (1 : Int), Builtin.Slice.slicePlaces lo hi 1)) _ _ s
  rw [adjust_upto b n]
  show wpAny _ _ (pure ((0 : Int), (1 : Int), Builtin.Slice.slicePlaces 0 ((min b n : Nat) : Int) 1)) _ _ s
  rw [places_upto]
  exact wpAny_pure h

/-- t[:b] -/
theorem ts_upto {value slice : Expr} {t sl : Addr} {xs : List Int} {b : Nat} {u : Tok} {Q : Value → Shared → Prop} (ht : ITup s.heap t xs) (hs : s.heap.IsSliceOf sl .none (.int b u) .none) (hz : xs.length ≤ sizeLine)
    (h : ∀ h' r, s.heap.StaysIn h' → ITup h' r (xs.take b) → Q (.ref r) { s with heap := h' })
    (hsub : subscripted slice false (.ref t) (.ref sl) = operate [.ref sl, .ref t] (getItem (.ref t) (.ref sl)) := by with_unfolding_all rfl) :
    wpAny (model prog w) A (subscriptTail value slice (.ref t) (.ref sl)) Q E s := by
  obtain ⟨vs, H, hi⟩ := id ht
  have hlen := intsAre_len hi
  obtain ⟨os, hos, hcs, hds⟩ := id hs
  have hTs : s.TypeIs (.ref sl) "slice" := ⟨os, hos, hcs⟩
  refine tail_any H.typeIs slot_tuple_getitem.lookup ?_ hsub
  unfold getItem
  try with_reducible refine wpAny_holding ?_
  first | refine wpAny_bind (wpAny_pure ?_) | skip
  refine wpAny_bind (wpAny_sequenceKey H.typeIs (by decide) ?_)
  refine wpAny_bind (wpAny_callSpecial?_slot (name := Str.ofString "__getitem__") H.typeIs slot_tuple_getitem
    (wpAny_call_entry slot_tuple_getitem H.typeIs entry_tuple_getitem ?_ (args_tuple_getitem _ _)))
  show wpAny _ _ (Builtin.Tuple.tupleItemsOf (.ref t) >>= _) _ _ s
  refine wpAny_bind (tupleItemsOf_ H ?_)
  refine wpAny_bind (wpAny_typeOf hTs ?_)
  rw [if_pos (by decide)]
  refine wpAny_bind (sliceApplied_upto (n := vs.toArray.size) hs ?_)
  show wpAny _ _ (if ((0 : Int) == 0 && (1 : Int) == 1 && (min b vs.toArray.size) == vs.toArray.size) = true then _ else _) _ _ s
  simp only [List.size_toArray]
  by_cases hb : vs.length ≤ b
  · rw [if_pos (by simp; omega)]
    have e : xs.take b = xs := List.take_of_length_le (by omega)
    refine wpAny_bind (m := Builtin.Tuple.tupleIsExact _) ?_
    unfold Builtin.Tuple.tupleIsExact
    refine wpAny_bind (wpAny_typeOf H.typeIs (wpAny_pure ?_))
    rw [if_pos (by decide)]
    refine wpAny_bind (wpAny_rule ?_)
    have h' := h _ t (fun _ _ e => e) (by rw [e]; exact ht)
    exact wpAny_pure ⟨_, rfl, wpAny_pure h'⟩
  · rw [if_neg (by simp; omega)]
    have hm : min b vs.length = b := by omega
    rw [hm, pick_upto vs b (by omega)]
    have hok : sizeOk (.seq (vs.take b).toArray) := by
      show (vs.take b).toArray.size ≤ sizeLine
      simp; omega
    have h' := h _ s.heap.objs.size (stays_push s.heap { cls := .type "tuple", data := .seq (vs.take b).toArray }) ⟨vs.take b, ⟨_, Heap.get?_push_size _ rfl, rfl, 0, rfl⟩, intsAre_take hi b⟩
    exact wpAny_bind (m := Builtin.Tuple.tupleExact _) (wpAny_newObj_type (wpAny_pure ⟨_, rfl, wpAny_pure h'⟩) hok)

/-- t[a:], a positive -/
theorem ts_from {value slice : Expr} {t sl : Addr} {xs : List Int} {a : Nat} {u : Tok} {Q : Value → Shared → Prop} (ht : ITup s.heap t xs) (hs : s.heap.IsSliceOf sl (.int a u) .none .none) (h1 : 1 ≤ a) (ha : a ≤ xs.length) (hz : xs.length ≤ sizeLine)
    (h : ∀ h' r, s.heap.StaysIn h' → ITup h' r (xs.drop a) → Q (.ref r) { s with heap := h' })
    (hsub : subscripted slice false (.ref t) (.ref sl) = operate [.ref sl, .ref t] (getItem (.ref t) (.ref sl)) := by with_unfolding_all rfl) :
    wpAny (model prog w) A (subscriptTail value slice (.ref t) (.ref sl)) Q E s := by
  obtain ⟨vs, H, hi⟩ := id ht
  have hlen := intsAre_len hi
  exact tail_any H.typeIs slot_tuple_getitem.lookup (getItem_tuple_from H hs h1 (by simp; omega)
    (h _ _ (stays_push _ _) ⟨vs.drop a, ⟨_, Heap.get?_push_size _ rfl, rfl, 0, by simp⟩, intsAre_drop hi a⟩) (by simp; omega)) hsub

/-- t[-1] -/
theorem tt_neg {value slice : Expr} {t : Addr} {xs : List Int} {u : Tok} {Q : Value → Shared → Prop} (ht : ITup s.heap t xs) (hx : 0 < xs.length) (hz : xs.length < 2 ^ 62) (h : ∀ t, Q (.int (xs.getD (xs.length - 1) 0) t) s)
    (hs : subscripted slice false (.ref t) (.int (-1) u) = operate [.ref t, .int (-1) u] (getItem (.ref t) (.int (-1) u)) := by with_unfolding_all rfl) :
    wpAny (model prog w) A (subscriptTail value slice (.ref t) (.int (-1) u)) Q E s := by
  obtain ⟨vs, H, hi⟩ := id ht
  have hlen := intsAre_len hi
  obtain ⟨t', e⟩ := intsAre_get hi (i := xs.length - 1) (by omega)
  refine tail_any H.typeIs slot_tuple_getitem.lookup (getItem_tuple (j := xs.length - 1) H (by omega) (by omega) ?_ (by simpa using e) (h t')) hs
  rw [seqIndex_neg (by omega) (by simp; omega)]
  congr 1
  simp only [List.size_toArray]; omega

/-- items of a list at -1, any values -/
theorem it_last {value slice : Expr} {a : Addr} {vs : List Value} {x : Value} {u : Tok} {Q : Value → Shared → Prop} (hl : VList s.heap a vs) (hx : vs[vs.length - 1]? = some x) (hz : vs.length < 2 ^ 62) (h : Q x s)
    (hs : subscripted slice false (.ref a) (.int (-1) u) = operate [.ref a, .int (-1) u] (getItem (.ref a) (.int (-1) u)) := by with_unfolding_all rfl) :
    wpAny (model prog w) A (subscriptTail value slice (.ref a) (.int (-1) u)) Q E s := by
  have h0 : 0 < vs.length := by
    cases vs with
    | nil => simp at hx
    | cons _ _ => simp
  refine tail_any hl.typeIs slot_list_getitem.lookup (wpAny_getItem_list_neg hl (by omega) (by simp; omega) (by omega) ?_ h) hs
  rw [← hx]
  simp only [List.size_toArray, List.getElem?_toArray]
  congr 1; omega

theorem eqAt_tup {a b : Addr} {xs ys : List Int} (hx : ITup s.heap a xs) (hy : ITup s.heap b ys) (hu : A.units < cLine) : PySem.SeqAt.EqAt A s (.ref a) (.ref b) (decide (xs = ys)) := by
  intro prog w E Q hq
  have conv : ∀ {c : Addr} {zs : List Int}, ITup s.heap c zs → IsTupleKey (PySem.intKind prog w) s.heap zs c := by
    rintro c zs ⟨vs, ⟨o, e1, e2, n, e3⟩, hi⟩
    refine ⟨o, vs.toArray, n, e1, e2, e3, ?_⟩
    have : ∀ {vs : List Value} {zs : List Int}, IntsAre vs zs → ItemsAre (PySem.intKind prog w) zs vs := by
      intro vs zs h
      induction h with
      | nil => exact .nil
      | cons n t _ ih => exact .cons (by simp [PySem.intKind, Value.isInt]) ih
    simpa using this hi
  exact wpAny_eqBool_tuple (knd := PySem.intKind prog w) hu (conv hx) (conv hy) hq

/-- t not in a list of tuples -/
theorem notIn_tups {l b : Addr} {as : List Nat} {c : Nat → List Int} {ys : List Int} {Q : Value → Shared → Prop} (hl : VList s.heap l (refs as)) (hc : ∀ a ∈ as, ITup s.heap a (c a)) (hb : ITup s.heap b ys) (hu : A.units + 1 < cLine)
    (h : Q (.bool (!as.any fun a => decide (c a = ys))) s) : wpAny (model prog w) A (compareOp .NotIn (.ref b) (.ref l)) Q E s := by
  refine PySem.SeqAt.notIn_listAt (fun v => match v with | .ref a => decide (c a = ys) | _ => false) hl (fun y hy => ?_) ?_
  · have hy' : y ∈ refs as := by simpa using hy
    obtain ⟨a, ha, rfl⟩ := List.mem_map.mp hy'
    exact eqAt_tup (hc a ha) hb hu
  · have e : ((refs as).toArray.any fun v => match v with | .ref a => decide (c a = ys) | _ => false) = as.any fun a => decide (c a = ys) := by
      simp only [refs, List.any_toArray, List.any_map]
      rfl
    rw [e]; exact h

/-- list(range(n)) -/
theorem list_rng {r : Addr} {n : Nat} {t u v : Tok} {Q : Value → Shared → Prop} (hA : A.handled = none) (hr : IsRange s.heap r 0 n 1 t u v) (hn : n < 2 ^ 20)
    (h : ∀ h' a tk, s.heap.StaysIn h' → IList h' a (nats (List.range n)) → Q (.ref a) { s with heap := h', toks := tk }) :
    wpAny (model prog w) A (call (.type "list") [.ref r]) Q E s := by
  refine call_list_range (n := n) hA hr (range_small (by omega) (by omega) (by omega) (by omega) (by omega) (by omega)) (by rw [rangeSize_1 (by omega)]; omega) (by omega) fun h' tk acc' c' k hS hacc => ?_
  refine h _ _ _ k ⟨acc'.toList, ⟨_, hS, rfl, c', by simp⟩, ?_⟩
  obtain ⟨hs1, hs2⟩ := hacc
  have key : ∀ (l : List Value) (m : Nat), (∀ j v, l[j]? = some v → ∃ t, v = Value.int ((m + j : Nat) : Int) t) → IntsAre l (nats ((List.range l.length).map (m + ·))) := by
    intro l
    induction l with
    | nil => intro m _; exact .nil
    | cons x l ih =>
      intro m hx
      obtain ⟨t, rfl⟩ := hx 0 x rfl
      have := ih (m + 1) (fun j v e => by
        obtain ⟨t', e'⟩ := hx (j + 1) v (by simpa using e)
        exact ⟨t', by rw [e']; congr 1; omega⟩)
      rw [List.length_cons, List.range_succ_eq_map]
      simp only [nats, List.map_cons, List.map_map] at this ⊢
      refine .cons _ t ?_
      have e : (Int.ofNat ∘ (fun x => m + x)) ∘ Nat.succ = Int.ofNat ∘ fun x => m + 1 + x := by funext j; simp; omega
      first | (rw [← e] at this; exact this) | (simp only [Function.comp_def] at this ⊢; simp only [show ∀ x, m + 1 + x = m + (x + 1) by omega] at this; exact this)
  have h0 := key acc'.toList 0 (fun j v e => by
    obtain ⟨t', e'⟩ := hs2 j v (by simpa using e)
    exact ⟨t', by rw [e']; congr 1; omega⟩)
  have : acc'.toList.length = n := by simpa using hs1
  rw [this] at h0
  have e : (List.range n).map (0 + ·) = List.range n := by simp
  rwa [e] at h0
end
end Mine
end

/-! # MSeq4 -/
section
open PySem PySem.W PyProof.Rows PySem.Calls
open AutoSeq1 (wpAny_loadPart')
set_option linter.unusedVariables false
set_option maxRecDepth 100000
namespace Mine

theorem noFill_tuple_mul : fillsNumberSlot (.type "tuple") "mul" = pure false :=
  PySem.fillsNumberSlot_seq (id := "tuple.__mul__") (r := some (.builtin "tuple.__rmul__")) F.slot_tuple_mul.lookup (by decide +kernel) F.slot_tuple_rmul.lookup (by decide +kernel)
theorem repeat_tuple : seqRepeat? (.type "tuple") = pure (some (.builtin "tuple.__mul__")) := by
  unfold seqRepeat?
  rw [PySem.seqSlot_of (T := "tuple") (name := "__mul__") (id := "tuple.__mul__") F.slot_tuple_mul.lookup (by decide +kernel), PySem.seqSlot_of (T := "tuple") (name := "__rmul__") (id := "tuple.__rmul__") F.slot_tuple_rmul.lookup (by decide +kernel)]
  rfl
theorem int_rmul_tuple (a : Int) (t : Tok) (l : Addr) (o : Obj) (items : Array Value) (n : Nat) (hc : o.cls = .type "tuple") (hd : o.data = .seq items n) :
    Meets (Builtin.«int.__rmul__» ⟨[.int a t, .ref l], []⟩) (fun _ R s => s.heap.get? l = some o ∧ R (.ok (.ret Value.notImplemented)) s) :=
  .of_wp fun prog w A R s h => by
    obtain ⟨hp, g, d, tk, os⟩ := s; obtain ⟨hl, h⟩ := h
    obtain ⟨c, dd, dt, sl⟩ := o
    simp only at hc hd
    subst hc hd
    wp_walk; exact ⟨_, rfl, h⟩

section
variable {prog : Program} {w : World} {A : Around} {E : Value → Shared → Prop} {s : Shared} {env : Env}
/-- t * k -/
theorem mul_t {t : Addr} {xs : List Int} {k : Nat} {u : Tok} {Q : Value → Shared → Prop} (ht : ITup s.heap t xs) (hx : 0 < xs.length) (hk : 1 ≤ k) (hz : xs.length * k < 2 ^ 20) (hk' : k < 2 ^ 20)
    (h : ∀ h' r, s.heap.StaysIn h' → ITup h' r (List.replicate k xs).flatten → Q (.ref r) { s with heap := h' }) :
    wpAny (model prog w) A (binaryOp .Mult (.ref t) (.int k u)) Q E s := by
  obtain ⟨vs, H, hi⟩ := id ht
  have hlen := intsAre_len hi
  obtain ⟨o, ho, hc, n, hd⟩ := id H
  refine wpAny_binaryOp_repeat_ref (T := "tuple") (U := "int") (by decide) ⟨_, ho, hc⟩ (fun s' => typeIs_int s' k u) noFill_tuple_mul F.fills_int_mul F.slot_int_rmul repeat_tuple F.slot_int_index.lookup
    (call_meets F.slot_int_rmul (typeIs_int s k u) F.entry_int_rmul (F.args_int_rmul_2 _ _) (int_rmul_tuple k u t o _ n hc hd)
      ⟨ho, rfl, ⟨_, ho, hc⟩, wpAny_call_entry F.slot_tuple_mul ⟨_, ho, hc⟩ F.entry_tuple_mul ?_ (F.args_tuple_mul_2 _ _)⟩)
  show wpAny _ _ (asIndex (.int k u) >>= _) _ _ s
  refine wpAny_bind (wpAny_of_eq (a := (k : Int)) rfl ?_)
  rw [if_neg (by simp only [Bool.or_eq_true, decide_eq_true_eq]; omega)]
  refine wpAny_bind (tupleItemsOf_ H ?_)
  have hne : vs.toArray.isEmpty = false := by
    cases vs with
    | nil => simp at hlen; omega
    | cons _ _ => rfl
  by_cases hk1 : k = 1
  · subst hk1
    rw [if_pos (by simp)]
    refine wpAny_bind (m := Builtin.Tuple.tupleIsExact _) ?_
    unfold Builtin.Tuple.tupleIsExact
    refine wpAny_bind (wpAny_typeOf H.typeIs (wpAny_pure ?_))
    rw [if_pos (by decide)]
    refine wpAny_bind (wpAny_rule ?_)
    exact wpAny_pure ⟨_, rfl, h _ t (fun _ _ e => e) (by simpa using ht)⟩
  · rw [if_neg (by rw [hne]; simp; omega)]
    rw [if_neg (by rw [hne]; simp; omega)]
    have hs0 : (vs.toArray.size : Int) * (k : Int) = ((xs.length * k : Nat) : Int) := by simp [hlen]
    rw [if_neg (by rw [hs0]; omega)]
    have htm : Builtin.Tuple.tupleTooMany (vs.toArray.size * (k : Int)) = false := by
      unfold Builtin.Tuple.tupleTooMany; rw [hs0, sizeLine_eq]; simp only [decide_eq_false_iff_not]; omega
    rw [htm, if_neg (by decide)]
    rw [Int.toNat_natCast, flat_rep]
    have hl2 : ((List.replicate k vs).flatten).length = xs.length * k := by simp [hlen, Nat.mul_comm]
    have hok : sizeOk (.seq ((#[] : Array Value) ++ ((List.replicate k vs).flatten).toArray)) := by
      show ((#[] : Array Value) ++ ((List.replicate k vs).flatten).toArray).size ≤ sizeLine
      rw [sizeLine_eq]
      have : ((#[] : Array Value) ++ ((List.replicate k vs).flatten).toArray).size = xs.length * k := by
        rw [Array.size_append, List.size_toArray, List.size_toArray, hl2]; simp
      omega
    refine wpAny_bind (m := Builtin.Tuple.tupleExact _) (wpAny_newObj_type (wpAny_pure ⟨_, rfl, h _ _ (stays_push _ _) ⟨(List.replicate k vs).flatten, ⟨_, Heap.get?_push_size _ rfl, rfl, 0, by simp⟩, intsAre_rep hi k⟩⟩) hok)
end
end Mine
end

/-! # MComp -/
section
open PySem PySem.W PyProof.Rows PySem.Calls
set_option linter.unusedVariables false
set_option maxRecDepth 100000
namespace Mine

/-- an iterator that hands out n values -/
structure It (prog : Program) (w : World) (A : Around) (B : Heap) (it : Addr) (n : Nat) (P : Nat → OP) (val : Nat → Value → Prop) : Prop where
  next : ∀ {E Q} {s : Shared} {i}, i < n → B.StaysIn s.heap → (∃ o, s.heap.get? it = some o ∧ P i o) →
    (∀ h' v tk, Heap.SameBut it s.heap h' → (∃ o, h'.get? it = some o ∧ P (i + 1) o) → val i v → Q (some v) { s with heap := h', toks := tk }) → wpAny (model prog w) A (pyNext (.ref it)) Q E s
  done : ∀ {E Q} {s : Shared}, B.StaysIn s.heap → (∃ o, s.heap.get? it = some o ∧ P n o) → (∀ h', Heap.ExtBut it s.heap h' → Q none { s with heap := h' }) → wpAny (model prog w) A (pyNext (.ref it)) Q E s
  self : ∀ {E} {Q : Value → Shared → Prop} {s : Shared} {i}, (∃ o, s.heap.get? it = some o ∧ P i o) → Q (.ref it) s → wpAny (model prog w) A (pyIter (.ref it)) Q E s

def LI (l : Addr) (i : Nat) : OP := fun o => o.cls = .type "list_iterator" ∧ o.data = .fields #[.ref l, .int i 0]
def TI (l : Addr) (i : Nat) : OP := fun o => o.cls = .type "tuple_iterator" ∧ o.data = .fields #[.ref l, .int i 0]

section
variable {prog : Program} {w : World} {A : Around} {E : Value → Shared → Prop} {s : Shared} {env : Env} {B : Heap} {L : Addr} {bs : List (Str × Value)} {ms : List (Addr × OP)}

theorem it_range {it : Addr} {a c : Int} {n : Nat} (hA : A.handled = none) : It prog w A B it n (fun i => RI (a + i * c) (n - i) c) (fun i v => ∃ t, v = .int (a + i * c) t) where
  next := by
    rintro E Q s i hi _ ⟨o, e1, e2⟩ h
    unfold RI at e2; subst e2
    refine wpAny_pyNext_range_item e1 (by omega) fun h' hit hs => h h' _ _ hs ⟨_, hit, ?_⟩ ⟨_, rfl⟩
    unfold RI
    have q1 : a + ((i + 1 : Nat) : Int) * c = a + (i : Int) * c + c := by push_cast; rw [Int.add_mul, Int.one_mul, Int.add_assoc]
    have q2 : (n : Int) - ((i + 1 : Nat) : Int) = (n : Int) - (i : Int) - 1 := by push_cast; omega
    rw [q1, q2]
  done := by
    rintro E Q s _ ⟨o, e1, e2⟩ h
    unfold RI at e2; subst e2
    exact wpAny_pyNext_range_end hA e1 (by omega) h
  self := by
    rintro E Q s i ⟨o, e1, e2⟩ h
    unfold RI at e2; subst e2
    exact wpAny_pyIter_rangeiter e1 h

theorem it_listI {it l : Addr} {vs : List Value} (hA : A.handled = none) (hl : VList B l vs) : It prog w A B it vs.length (fun i => LI l i) (fun i v => vs[i]? = some v) where
  next := by
    rintro E Q s i hi k ⟨o, e1, e2, e3⟩ h
    refine wpAny_pyNext_list_item (items := vs.toArray) (x := vs[i]) ⟨o, e1, e2, e3⟩ (hl.keeps k) (by simp [hi]) fun h' hit hs => h h' _ s.toks hs ?_ (by simp [hi])
    obtain ⟨o', r⟩ := hit; exact ⟨o', r⟩
  done := by
    rintro E Q s k ⟨o, e1, e2, e3⟩ h
    exact wpAny_pyNext_list_end hA ⟨o, e1, e2, e3⟩ (hl.keeps k) (by simp) h
  self := by
    rintro E Q s i ⟨o, e1, e2, e3⟩ h
    exact wpAny_pyIter_listiter ⟨o, e1, e2, e3⟩ h

theorem it_tupI {it l : Addr} {vs : List Value} (hA : A.handled = none) (hl : IsTup B l vs.toArray) : It prog w A B it vs.length (fun i => TI l i) (fun i v => vs[i]? = some v) where
  next := by
    rintro E Q s i hi k ⟨o, e1, e2, e3⟩ h
    refine wpAny_pyNext_tuple_item (items := vs.toArray) (x := vs[i]) ⟨o, e1, e2, e3⟩ (hl.keeps k) (by simp [hi]) fun h' hit hs => h h' _ s.toks hs ?_ (by simp [hi])
    obtain ⟨o', r⟩ := hit; exact ⟨o', r⟩
  done := by
    rintro E Q s k ⟨o, e1, e2, e3⟩ h
    exact wpAny_pyNext_tuple_end hA ⟨o, e1, e2, e3⟩ (hl.keeps k) (by simp) h
  self := by
    rintro E Q s i ⟨o, e1, e2, e3⟩ h
    exact wpAny_pyIter_tupleiter ⟨o, e1, e2, e3⟩ h

theorem mem_putB_self {x : Str} {v : Value} : ∀ bs, (x, v) ∈ putB x v bs
  | [] => by simp [putB]
  | (y, u) :: r => by
    unfold putB; split
    · exact .head _
    · exact .tail _ (mem_putB_self r)

theorem St.ext {h h' : Heap} {a : Addr} {P : OP} (S : St B L h bs ((a, P) :: ms)) (he : Heap.ExtBut a h h') : St B L h' bs ms := by
  refine ⟨?_, fun b o e => he b o (fun q => ?_) (S.keep b o e), S.newL, fun p hp => ?_, (List.nodup_cons.mp S.nd).2⟩
  · obtain ⟨m, ⟨oL, es, ep, hL', r⟩, hm⟩ := S.ns
    exact ⟨m, ⟨oL, es, ep, he _ _ (Ne.symm (S.mu _ (.head _)).1) hL', r⟩, hm⟩
  · rw [q, (S.mu _ (.head _)).2.1] at e; cases e
  · obtain ⟨h1, h2, o, h3, h4⟩ := S.mu p (.tail _ hp)
    refine ⟨h1, h2, o, he _ _ (fun q => ?_) h3, h4⟩
    have := (List.nodup_cons.mp S.nd).1
    exact this (by rw [← q]; exact List.mem_map.mpr ⟨p, hp, rfl⟩)

theorem St.perm {h : Heap} {ms' : List (Addr × OP)} (S : St B L h bs ms) (p : ms'.Perm ms) : St B L h bs ms' :=
  ⟨S.ns, S.keep, S.newL, fun q hq => S.mu q (p.mem_iff.mp hq), (p.map _).nodup_iff.mpr S.nd⟩

/-- a block's loop, one generator without a test -/
theorem comp_loop {C it D : Addr} {elt iter : Expr} {x : Str} {px pos : Pos} {scope : Scope} {cenv : Env} {R : Result → Shared → Prop} {n : Nat} {P : Nat → OP} {val : Nat → Value → Prop}
    (H : It prog w A B it n P val) (hn : n ≤ sizeLine) (S : St B C s.heap bs ((it, P 0) :: (D, LP []) :: ms))
    (J : Nat → List Value → List (Addr × OP) → Prop) (h0 : J 0 [] ms)
    (step : ∀ i v acc ms h tk, i < n → val i v → J i acc ms → acc.length = i → St B C h [(x, v)] ((it, P (i + 1)) :: (D, LP acc) :: ms) →
      wpAny (model prog w) A (eval elt cenv) (fun y s' => ∃ h' tk' bs' ms', s' = { s with heap := h', toks := tk' } ∧ J (i + 1) (acc ++ [y]) ms' ∧ St B C h' bs' ((it, P (i + 1)) :: (D, LP acc) :: ms')) NoE { s with heap := h, toks := tk })
    (fin : ∀ h' tk bs' ms' acc, J n acc ms' → acc.length = n → St B C h' bs' ((D, LP acc) :: ms') → R (.ok .next) { s with heap := h', toks := tk })
    (hL : cenv.locals = C := by rfl) (hk : cenv.scope.kind = .function := by rfl) (hl : cenv.kindOf x = some .local := by rfl) :
    codeAny (model prog w) A (.compLoop (.ListComp elt [⟨.Name x px, iter, [], 0⟩] scope pos) 0 (.ref it) (.ref D) cenv) R s := by
  refine codeAny_compLoop_list (fun k s' => ∃ h' tk' bs' ms' acc i, s' = { s with heap := h', toks := tk' } ∧ i ≤ n ∧ k = n + 1 - i ∧ acc.length = i ∧ J i acc ms' ∧ St B C h' bs' ((it, P i) :: (D, LP acc) :: ms')) ?_ (n + 1)
    ⟨_, _, bs, ms, [], 0, rfl, Nat.zero_le _, rfl, rfl, h0, S⟩
  rintro k s' ⟨h', tk', bs', ms', acc, i, rfl, hin, hkk, hal, hJ, S'⟩
  by_cases hlt : i < n
  · refine H.next hlt S'.keep (S'.get (.head _)) fun h₁ v tk₁ hs₁ hP₁ hv => ?_
    have S₁ := S'.upd 0 rfl hs₁.extBut hP₁
    dsimp only [List.set] at S₁
    refine wpAny_assign_Name (st_loc S₁ (fun h₂ S₂ => ?_) hL hk hl)
    refine wpAny_mono (step i v acc ms' h₂ _ hlt hv hJ hal (S₂.sub (sub_cons (mem_putB_self _) sub_nil) (List.Sublist.refl _))) (fun y s₃ h₃ => ?_) fun _ _ x => x.elim
    obtain ⟨h₃', tk₃, bs₃, ms₃, rfl, hJ₃, S₃⟩ := h₃
    refine append_list S₃ 1 rfl (by omega) fun h₄ S₄ => ?_
    exact ⟨n + 1 - (i + 1), by omega, h₄, _, bs₃, ms₃, acc ++ [y], i + 1, rfl, hlt, rfl, by simp [hal], hJ₃, S₄⟩
  · have : i = n := by omega
    subst this
    refine H.done S'.keep (S'.get (.head _)) fun h₁ he₁ => ?_
    exact fin h₁ _ bs' ms' acc hJ hal (S'.ext he₁)

theorem inner_stays {h : Heap} {ms₀ : List (Addr × OP)} (S : St B L h bs (ms₀ ++ ms)) : B.StaysIn (hideAll h (ms₀.map (·.1))) := fun b o e =>
  hideAll_get _ (S.keep b o e) fun q => by
    obtain ⟨p, hp, q⟩ := List.mem_map.mp q
    rw [← q, (S.mu p (List.mem_append_left _ hp)).2.1] at e; cases e
theorem inner_get {h : Heap} {ms₀ : List (Addr × OP)} (S : St B L h bs (ms₀ ++ ms)) {p : Addr × OP} (hp : p ∈ ms) : ∃ o, (hideAll h (ms₀.map (·.1))).get? p.1 = some o ∧ p.2 o := by
  obtain ⟨_, _, o, h3, h4⟩ := S.mu p (List.mem_append_right _ hp)
  refine ⟨o, hideAll_get _ h3 fun q => ?_, h4⟩
  obtain ⟨p', hp', q⟩ := List.mem_map.mp q
  have nd := S.nd
  rw [List.map_append, List.nodup_append] at nd
  exact nd.2.2 _ (List.mem_map.mpr ⟨p', hp', q⟩) _ (List.mem_map.mpr ⟨p, hp, rfl⟩) rfl

/-- after a block: the outer frame, all that was hidden forgotten -/
theorem St.after {h h' : Heap} {ms₀ : List (Addr × OP)} (S : St B L h bs (ms₀ ++ ms)) (k : (hideAll h (ms₀.map (·.1))).StaysIn h') : St B L h' bs ms where
  ns := by
    obtain ⟨m, ⟨oL, es, ep, hL, r⟩, hm⟩ := S.ns
    refine ⟨m, ⟨oL, es, ep, k _ _ (hideAll_get _ hL fun q => ?_), r⟩, hm⟩
    obtain ⟨p, hp, q⟩ := List.mem_map.mp q
    exact (S.mu p (List.mem_append_left _ hp)).1 q
  keep := stays_trans (inner_stays S) k
  newL := S.newL
  mu := fun p hp => by
    obtain ⟨h1, h2, _⟩ := S.mu p (List.mem_append_right _ hp)
    obtain ⟨o, e1, e2⟩ := inner_get S hp
    exact ⟨h1, h2, o, k _ _ e1, e2⟩
  nd := by have nd := S.nd; rw [List.map_append, List.nodup_append] at nd; exact nd.2.1

/-- the block's beginning: the new list, the new frame -/
theorem comp_block {elt iter : Expr} {target : Expr} {ifs : List Expr} {rest : List Comprehension} {pos : Pos} {scope : Scope} {cl : List (Str × Addr)} {it : Addr} {RR : Value → Addr → Result → Shared → Prop} {ms₀ : List (Addr × OP)}
    (S : St B L s.heap bs (ms₀ ++ ms)) (hcell : ∀ y ∈ scope.names, y.2 ≠ .cell) (hkind : scope.kind = .function)
    (hself : ∀ {E} {Q : Value → Shared → Prop} {s' : Shared}, (∀ p ∈ ms₀, ∃ o, s'.heap.get? p.1 = some o ∧ p.2 o) → Q (.ref it) s' → wpAny (model prog w) A (pyIter (.ref it)) Q E s')
    (h : ∀ D C h₁ tk, St (hideAll s.heap (ms₀.map (·.1))) C h₁ [] ((D, LP []) :: ms₀) → s.heap.get? D = none → s.heap.get? C = none → D ≠ C →
      codeAny (model prog w) A (.compLoop (.ListComp elt (⟨target, iter, ifs, 0⟩ :: rest) scope pos) 0 (.ref it) (.ref D) (compEnvC scope cl C env)) (RR (.ref D) C) { s with heap := h₁, toks := tk }) :
    wpAny (model prog w) A (newList []) (fun acc s₃ => wpAny (model prog w) A (newFunctionEnv scope env.globals cl [] env.qual none .none (some env)) (fun cenv s₄ =>
      codeAny (model prog w) A (.compStart (.ListComp elt (⟨target, iter, ifs, 0⟩ :: rest) scope pos) 0 (.ref it) acc { cenv with scope := relabel scope env }) (RR acc cenv.locals) s₄) E s₃) E s := by
  refine wpAny_newObj_type (wpAny_newFunctionEnv hcell (by intro y hy; simp at hy) (fun h₁ hns₁ hsb₁ => ?_) hkind)
  dsimp only at hns₁ hsb₁ ⊢
  generalize hH2 : s.heap.push { cls := .type "list", dict := none, data := .seq ([] : List Value).toArray } = H2 at hns₁ hsb₁ ⊢
  have hC : H2.objs.size = s.heap.objs.size + 1 := by rw [← hH2, Heap.size_push]
  have hDC : s.heap.objs.size ≠ H2.objs.size := by rw [hC]; exact Nat.ne_of_lt (Nat.lt_succ_self _)
  have old : s.heap.StaysIn h₁ := fun b o e => hsb₁.extBut b o (by rw [hC]; exact Nat.ne_of_lt (Nat.lt_succ_of_lt (Heap.lt_size e))) (Heap.get?_push_of_some _ (hH2 ▸ Heap.get?_push_of_some _ e))
  have hfD : s.heap.get? s.heap.objs.size = none := get_ge (Nat.le_refl _)
  have hfC : s.heap.get? H2.objs.size = none := get_ge (by rw [hC]; exact Nat.le_succ _)
  have hD : h₁.get? s.heap.objs.size = some { cls := .type "list", data := .seq ([] : List Value).toArray } := hsb₁.extBut _ _ hDC (Heap.get?_push_of_some _ (hH2 ▸ Heap.get?_push_size _ rfl))
  have ndm : (ms₀.map (·.1)).Nodup := by have nd := S.nd; rw [List.map_append, List.nodup_append] at nd; exact nd.1
  have S₁ : St (hideAll s.heap (ms₀.map (·.1))) H2.objs.size h₁ [] ((s.heap.objs.size, LP []) :: ms₀) := by
    refine ⟨⟨_, hns₁, fun _ h => nomatch h⟩, fun b o e => old b o (of_hideAll _ e), B_fresh (fun _ _ e => of_hideAll _ e) hfC, fun p hp => ?_, ?_⟩
    · rcases List.mem_cons.mp hp with rfl | hp
      · exact ⟨hDC, B_fresh (fun _ _ e => of_hideAll _ e) hfD, _, hD, 0, rfl⟩
      · obtain ⟨_, _, o, h3, h4⟩ := S.mu p (List.mem_append_left _ hp)
        exact ⟨fun q => (by rw [q, hfC] at h3; cases h3), hideAll_none _ (List.mem_map_of_mem hp), o, old _ _ h3, h4⟩
    · refine List.nodup_cons.mpr ⟨fun q => ?_, ndm⟩
      obtain ⟨p, hp, q⟩ := List.mem_map.mp q
      obtain ⟨_, _, o, h3, _⟩ := S.mu p (List.mem_append_left _ hp)
      rw [q, hfD] at h3; cases h3
  have loop := h _ _ h₁ (s.toks + ([] : List (Str × Value)).length) S₁ hfD hfC hDC
  exact codeAny_compStart_list loop (hself (fun p hp => S₁.get (.tail _ hp)) loop)

/-- a frame beside this one changes its locals -/
theorem St.side {h h' : Heap} {C : Addr} (S : St B L h bs ms) (hs : Heap.SameBut C h h') (hL : C ≠ L) (hB : B.get? C = none) (hm : ∀ p ∈ ms, p.1 ≠ C) : St B L h' bs ms where
  ns := by
    obtain ⟨m, ⟨oL, es, ep, hL', r⟩, hm⟩ := S.ns
    exact ⟨m, ⟨oL, es, ep, hs.extBut _ _ (Ne.symm hL) hL', r⟩, hm⟩
  keep := fun b o e => hs.extBut b o (fun q => by rw [q, hB] at e; cases e) (S.keep b o e)
  newL := S.newL
  mu := fun p hp => let ⟨h1, h2, o, h3, h4⟩ := S.mu p hp; ⟨h1, h2, o, hs.extBut _ _ (hm p hp) h3, h4⟩
  nd := S.nd

/-- the value of a block with one generator -/
theorem comp_plain {elt iter : Expr} {x : Str} {px pos : Pos} {scope : Scope} {cl : List (Str × Addr)} {it : Addr} {n : Nat} {P : Nat → OP} {val : Nat → Value → Prop} {ms₁ : List (Addr × OP)} {Q : Value → Shared → Prop}
    (S : St B L s.heap bs (((it, P 0) :: ms₁) ++ ms)) (H : It prog w A (hideAll s.heap (((it, P 0) :: ms₁).map (·.1))) it n P val) (hn : n ≤ sizeLine)
    (hcell : ∀ y ∈ scope.names, y.2 ≠ .cell) (hkind : scope.kind = .function) (hlx : scope.names.lookup x = some .local)
    (J : Nat → List Value → List (Addr × OP) → Prop) (h0 : J 0 [] ms₁)
    (step : ∀ C D i v acc msI h tk, i < n → val i v → J i acc msI → acc.length = i → St (hideAll s.heap (((it, P 0) :: ms₁).map (·.1))) C h [(x, v)] ((it, P (i + 1)) :: (D, LP acc) :: msI) →
      wpAny (model prog w) A (eval elt (compEnvC scope cl C env)) (fun y s' => ∃ h' tk' bs' ms', s' = { s with heap := h', toks := tk' } ∧ J (i + 1) (acc ++ [y]) ms' ∧
        St (hideAll s.heap (((it, P 0) :: ms₁).map (·.1))) C h' bs' ((it, P (i + 1)) :: (D, LP acc) :: ms')) NoE { s with heap := h, toks := tk })
    (fin : ∀ D h' tk acc msF, J n acc msF → acc.length = n → s.heap.get? D = none → (hideAll s.heap (((it, P 0) :: ms₁).map (·.1))).StaysIn h' → St B L h' bs ((D, LP acc) :: ms) → Q (.ref D) { s with heap := h', toks := tk }) :
    wpAny (model prog w) A (newList []) (fun acc s₃ => wpAny (model prog w) A (newFunctionEnv scope env.globals cl [] env.qual none .none (some env)) (fun cenv s₄ =>
      codeAny (model prog w) A (.compStart (.ListComp elt [⟨.Name x px, iter, [], 0⟩] scope pos) 0 (.ref it) acc { cenv with scope := relabel scope env }) (compPost (model prog w) A NoE none Q acc cenv.locals) s₄) NoE s₃) NoE s := by
  refine comp_block S hcell hkind (fun hp q => H.self (hp _ (.head _)) q) fun D C h₁ tk S₁ hfD hfC hDC => ?_
  refine comp_loop (bs := []) (ms := ms₁) H hn (S := ?S) J h0 (fun i v acc ms h tk hi hv hJ hal S' => step C D i v acc ms h tk hi hv hJ hal S') (fun h' tk bs' ms' acc hJ hal S' => ?_) rfl (by simp [compEnvC, relabel, hkind]) (lookup_relabel_local hlx)
  case S =>
    exact S₁.perm (List.Perm.swap ..)
  · obtain ⟨m, hm, _⟩ := S'.ns
    refine ⟨m, hm, fun h'' hs'' => ?_⟩
    have k'' : (hideAll s.heap (((it, P 0) :: ms₁).map (·.1))).StaysIn h'' := fun b o e => hs''.extBut b o (fun q => by rw [q, S'.newL] at e; cases e) (S'.keep b o e)
    have So := S.after k''
    obtain ⟨hDL, hDB, oD, hoD, hPD⟩ := S'.mu _ (.head _)
    have hD'' : ∃ o, h''.get? D = some o ∧ LP acc o := ⟨oD, hs''.extBut _ _ hDL hoD, hPD⟩
    refine fin D h'' tk acc ms' hJ hal hfD k'' ⟨So.ns, So.keep, So.newL, fun p hp => ?_, ?_⟩
    · rcases List.mem_cons.mp hp with rfl | hp
      · refine ⟨?_, B_fresh S.keep hfD, hD''⟩
        rintro rfl
        obtain ⟨m, ⟨o, _, _, e, _⟩, _⟩ := S.ns
        rw [hfD] at e; cases e
      · exact So.mu p hp
    · refine List.nodup_cons.mpr ⟨fun q => ?_, So.nd⟩
      obtain ⟨p, hp, q⟩ := List.mem_map.mp q
      obtain ⟨_, _, o, h3, _⟩ := S.mu p (List.mem_append_right _ hp)
      rw [q, hfD] at h3; cases h3
end
end Mine
end

/-! # MComp2 -/
section
open PySem PySem.W PyProof.Rows PySem.Calls
set_option linter.unusedVariables false
set_option maxRecDepth 100000
namespace Mine
section
variable {prog : Program} {w : World} {A : Around} {E : Value → Shared → Prop} {s : Shared} {env : Env} {B : Heap} {L : Addr} {bs : List (Str × Value)} {ms : List (Addr × OP)}

def NP : OP := fun o => ∃ es ep, ∃ m : Str → Option Value, o.data = .dict es ep ∧ StrKeys es ∧ ∀ name, nsFind es name = m name

/-- what is left to do when a block has ended and its list is stored under a local name -/
theorem used_end {y : Str} {py : Pos} {it C D : Addr} {P0 : OP} {ms₁ : List (Addr × OP)} {Q : Shared → Prop} {acc : List Value} {h' : Heap} {tk : Nat} {bs' : List (Str × Value)} {ms' : List (Addr × OP)}
    (S : St B L s.heap bs (((it, P0) :: ms₁) ++ ms)) (hfD : s.heap.get? D = none) (hfC : s.heap.get? C = none)
    (S' : St (hideAll s.heap (((it, P0) :: ms₁).map (·.1))) C h' bs' ((D, LP acc) :: ms'))
    (fin : ∀ h'' tk, St B L h'' (putB y (.ref D) bs) ((D, LP acc) :: ms) → Q { s with heap := h'', toks := tk })
    (hL : env.locals = L := by rfl) (hk : env.scope.kind = .function := by rfl) (hl : env.kindOf y = some .local := by rfl) :
    compPost (model prog w) A NoE (some (assign (.Name y py) env)) (fun _ s' => Q s') (.ref D) C (.ok .next) { s with heap := h', toks := tk } := by
  have So := S.after S'.keep
  obtain ⟨hDC, hDB, oD, hoD, hPD⟩ := S'.mu _ (.head _)
  have hLC : C ≠ L := by
    rintro rfl
    obtain ⟨m, ⟨o, _, _, e, _⟩, _⟩ := S.ns
    rw [hfC] at e; cases e
  have hLD : D ≠ L := by
    rintro rfl
    obtain ⟨m, ⟨o, _, _, e, _⟩, _⟩ := S.ns
    rw [hfD] at e; cases e
  have hmem : ∀ {a : Addr}, s.heap.get? a = none → ∀ p ∈ ms, p.1 ≠ a := fun ha p hp q => by
    obtain ⟨_, _, o, h3, _⟩ := S.mu p (List.mem_append_right _ hp)
    rw [q, ha] at h3; cases h3
  obtain ⟨m, ⟨oC, es, ep, hoC, hd, hsk, hmm⟩, _⟩ := S'.ns
  have So' : St B L h' bs ((C, NP) :: (D, LP acc) :: ms) := by
    refine ⟨So.ns, So.keep, So.newL, fun p hp => ?_, List.nodup_cons.mpr ⟨fun q => ?_, List.nodup_cons.mpr ⟨fun q => ?_, So.nd⟩⟩⟩
    · rcases List.mem_cons.mp hp with rfl | hp
      · exact ⟨hLC, B_fresh S.keep hfC, oC, hoC, es, ep, m, hd, hsk, hmm⟩
      · rcases List.mem_cons.mp hp with rfl | hp
        · exact ⟨hLD, B_fresh S.keep hfD, oD, hoD, hPD⟩
        · exact So.mu p hp
    · rcases List.mem_cons.mp q with q | q
      · exact hDC q.symm
      · obtain ⟨p, hp, q⟩ := List.mem_map.mp q
        exact hmem hfC p hp q
    · obtain ⟨p, hp, q⟩ := List.mem_map.mp q
      exact hmem hfD p hp q
  show wpAny _ A (assign (.Name y py) env (.ref D)) _ _ _
  refine wpAny_assign_Name (st_loc So' (fun h₂ S₂ => ?_) hL hk hl)
  obtain ⟨o, e1, es, ep, m, e2, e3, e4⟩ := S₂.get (.head _)
  exact ⟨m, ⟨o, es, ep, e1, e2, e3, e4⟩, fun h₃ hs₃ => fin h₃ _ (S₂.ext hs₃.extBut)⟩

/-- a block with one generator, its list stored under a local name -/
theorem comp_used {y : Str} {py : Pos} {elt iter : Expr} {x : Str} {px pos : Pos} {scope : Scope} {cl : List (Str × Addr)} {it : Addr} {n : Nat} {P : Nat → OP} {val : Nat → Value → Prop} {ms₁ : List (Addr × OP)} {Q : Shared → Prop}
    (S : St B L s.heap bs (((it, P 0) :: ms₁) ++ ms)) (H : It prog w A (hideAll s.heap (((it, P 0) :: ms₁).map (·.1))) it n P val) (hn : n ≤ sizeLine)
    (hcell : ∀ y ∈ scope.names, y.2 ≠ .cell) (hkind : scope.kind = .function) (hlx : scope.names.lookup x = some .local)
    (J : Nat → List Value → List (Addr × OP) → Prop) (h0 : J 0 [] ms₁)
    (step : ∀ C D i v acc msI h tk, i < n → val i v → J i acc msI → acc.length = i → St (hideAll s.heap (((it, P 0) :: ms₁).map (·.1))) C h [(x, v)] ((it, P (i + 1)) :: (D, LP acc) :: msI) →
      wpAny (model prog w) A (eval elt (compEnvC scope cl C env)) (fun y s' => ∃ h' tk' bs' ms', s' = { s with heap := h', toks := tk' } ∧ J (i + 1) (acc ++ [y]) ms' ∧
        St (hideAll s.heap (((it, P 0) :: ms₁).map (·.1))) C h' bs' ((it, P (i + 1)) :: (D, LP acc) :: ms')) NoE { s with heap := h, toks := tk })
    (fin : ∀ D h' tk acc msF, J n acc msF → acc.length = n → s.heap.get? D = none → St B L h' (putB y (.ref D) bs) ((D, LP acc) :: ms) → Q { s with heap := h', toks := tk })
    (hL : env.locals = L := by rfl) (hk : env.scope.kind = .function := by rfl) (hl : env.kindOf y = some .local := by rfl) :
    wpAny (model prog w) A (newList []) (fun acc s₃ => wpAny (model prog w) A (newFunctionEnv scope env.globals cl [] env.qual none .none (some env)) (fun cenv s₄ =>
      codeAny (model prog w) A (.compStart (.ListComp elt [⟨.Name x px, iter, [], 0⟩] scope pos) 0 (.ref it) acc { cenv with scope := relabel scope env })
        (compPost (model prog w) A NoE (some (assign (.Name y py) env)) (fun _ s' => Q s') acc cenv.locals) s₄) NoE s₃) NoE s := by
  refine comp_block S hcell hkind (fun hp q => H.self (hp _ (.head _)) q) fun D C h₁ tk S₁ hfD hfC hDC => ?_
  refine comp_loop (bs := []) (ms := ms₁) H hn (S₁.perm (List.Perm.swap ..)) J h0 (fun i v acc ms h tk hi hv hJ hal S' => step C D i v acc ms h tk hi hv hJ hal S') (fun h' tk bs' ms' acc hJ hal S' => ?_) rfl (by simp [compEnvC, relabel, hkind]) (lookup_relabel_local hlx)
  exact used_end (s := s) S hfD hfC S' (fun h'' tk'' S'' => fin D h'' tk'' acc ms' hJ hal hfD S'') hL hk hl

theorem lc_plain {elt target iter : Expr} {ifs : List Expr} {rest : List Comprehension} {scope : Scope} {cl : List (Str × Addr)} {pos : Pos} {Q : Value → Shared → Prop}
    (hclos : closureFor scope env = pure cl) (hkind : scope.kind = .function) (hnames : ∀ y ∈ scope.names, y.2 = .local → scope.names.lookup y.1 = some .local)
    (h : wpAny (model prog w) A (eval iter env) (fun x s₁ => wpAny (model prog w) A (pyIter x) (fun it s₂ => wpAny (model prog w) A (newList []) (fun acc s₃ =>
      wpAny (model prog w) A (newFunctionEnv scope env.globals cl [] env.qual none .none (some env)) (fun cenv s₄ =>
        codeAny (model prog w) A (.compStart (.ListComp elt (⟨target, iter, ifs, 0⟩ :: rest) scope pos) 0 it acc { cenv with scope := relabel scope env }) (compPost (model prog w) A NoE none Q acc cenv.locals) s₄) NoE s₃) NoE s₂) NoE s₁) NoE s)
    (hs : ∀ x, foldedSetIterable iter env x = pure x := by intro _; rfl) :
    wpAny (model prog w) A (eval (.ListComp elt (⟨target, iter, ifs, 0⟩ :: rest) scope pos) env) Q NoE s := by
  rw [eval_ListComp]
  exact wpAny_comprehension_free (use := none) rfl hs hclos hkind hnames h

theorem lc_used {y : Str} {py spos : Pos} {elt target iter : Expr} {ifs : List Expr} {rest : List Comprehension} {scope : Scope} {cl : List (Str × Addr)} {pos : Pos} {Q : Flow → Shared → Prop}
    (hclos : closureFor scope env = pure cl) (hkind : scope.kind = .function) (hnames : ∀ y ∈ scope.names, y.2 = .local → scope.names.lookup y.1 = some .local)
    (h : wpAny (model prog w) A (eval iter env) (fun x s₁ => wpAny (model prog w) A (pyIter x) (fun it s₂ => wpAny (model prog w) A (newList []) (fun acc s₃ =>
      wpAny (model prog w) A (newFunctionEnv scope env.globals cl [] env.qual none .none (some env)) (fun cenv s₄ =>
        codeAny (model prog w) A (.compStart (.ListComp elt (⟨target, iter, ifs, 0⟩ :: rest) scope pos) 0 it acc { cenv with scope := relabel scope env })
          (compPost (model prog w) A NoE (some (assign (.Name y py) env)) (fun _ s' => Q .next s') acc cenv.locals) s₄) NoE s₃) NoE s₂) NoE s₁) NoE s)
    (hsw : swapsWith (.ListComp elt (⟨target, iter, ifs, 0⟩ :: rest) scope pos) (some (.Name y py)) spos.line env = pure true := by rfl)
    (hs : ∀ x, foldedSetIterable iter env x = pure x := by intro _; rfl) :
    wpAny (model prog w) A (exec (.Assign [.Name y py] (.ListComp elt (⟨target, iter, ifs, 0⟩ :: rest) scope pos) spos) env) Q NoE s := by
  rw [exec_Assign_Name_used _ _ _ _ hsw]
  refine wpAny_bind (wpAny_standAt (wpAny_bind ?_))
  show wpAny _ A (do let _ ← comprehension (.ListComp elt (⟨target, iter, ifs, 0⟩ :: rest) scope pos) scope env _ (newList []) false (eval iter env) (some (assign (.Name y py) env))) _ _ s
  exact wpAny_bind (wpAny_mono (wpAny_comprehension_free (use := some (assign (.Name y py) env)) (Q := fun _ s' => Q .next s') rfl hs hclos hkind hnames h) (fun _ s' hq => wpAny_pure (wpAny_pure hq)) fun _ _ e => e)
end
end Mine
end

/-! # MComp3 -/
section
open PySem PySem.W PyProof.Rows PySem.Calls
set_option linter.unusedVariables false
set_option maxRecDepth 100000
namespace Mine

def wy (cb : Nat → Nat → Bool) (m i : Nat) : List Nat := (List.range i).flatMap fun i' => (List.range m).filter (cb i')
theorem wy_succ (cb : Nat → Nat → Bool) (m i : Nat) : wy cb m (i + 1) = wy cb m i ++ (List.range m).filter (cb i) := by
  simp [wy, List.range_succ, List.flatMap_append]

theorem turn2_0 (elt iter0 iter1 cond : Expr) (x0 x1 : Str) (p0 p1 pos : Pos) (scope : Scope) (it acc : Value) (env : Env) :
    compTurn (.ListComp elt [⟨.Name x0 p0, iter0, [], 0⟩, ⟨.Name x1 p1, iter1, [cond], 0⟩] scope pos) 0 it acc env = (standAt iter0.pos >>= fun _ => pyNext it >>= fun r => match r with
      | none => pure (.done .next)
      | some v => letOwnedTupleGo (.Name x0 p0) it v >>= fun _ => assign (.Name x0 p0) env v >>= fun _ =>
        eval iter1 env >>= fun x => standAt iter1.pos >>= fun _ => foldedSetIterable iter1 env x >>= fun x => holding [x] (pyIter x) >>= fun it1 =>
          runOwn (.compStart (.ListComp elt [⟨.Name x0 p0, iter0, [], 0⟩, ⟨.Name x1 p1, iter1, [cond], 0⟩] scope pos) 1 it1 acc env) env >>= fun _ =>
          again (.compLoop (.ListComp elt [⟨.Name x0 p0, iter0, [], 0⟩, ⟨.Name x1 p1, iter1, [cond], 0⟩] scope pos) 0 it acc env)) := by rfl
section
variable {prog : Program} {w : World} {A : Around} {E : Value → Shared → Prop} {s : Shared} {env : Env} {B : Heap} {L : Addr} {bs : List (Str × Value)} {ms : List (Addr × OP)} {R : Result → Shared → Prop}

theorem loop2_1 {elt iter0 iter1 cond : Expr} {x0 x1 : Str} {p0 p1 pos : Pos} {scope : Scope} {it acc : Value} (I : Nat → Shared → Prop)
    (turn : ∀ n s, I n s → wpAny (model prog w) A (pyNext it) (fun r s₁ => match r with
      | none => R (.ok .next) s₁
      | some v => wpAny (model prog w) A (assign (.Name x1 p1) env v) (fun _ s₂ => wpAny (model prog w) A (isTrue cond env (eval cond env)) (fun ok s₃ =>
          if ok = true then wpAny (model prog w) A (eval elt env) (fun y s₄ => wpAny (model prog w) A (call (.builtin "list.append") [acc, y]) (fun _ s₅ => ∃ m, m < n ∧ I m s₅) NoE s₄) NoE s₃ else ∃ m, m < n ∧ I m s₃) NoE s₂) NoE s₁) NoE s)
    (n : Nat) (h : I n s) :
    codeAny (model prog w) A (.compLoop (.ListComp elt [⟨.Name x0 p0, iter0, [], 0⟩, ⟨.Name x1 p1, iter1, [cond], 0⟩] scope pos) 1 it acc env) R s := by
  refine codeAny_loop rfl I (fun n s hI => ?_) n h
  show wpAny _ _ ((compTurn (.ListComp elt [⟨.Name x0 p0, iter0, [], 0⟩, ⟨.Name x1 p1, iter1, [cond], 0⟩] scope pos) 1 it acc env).onRaise (fun x => do noteFrame x env; theTreesLotGoes x)) _ _ s
  refine wpAny_noted (noE ?_)
  unfold compTurn
  dsimp only [List.getElem?_cons_zero, List.getElem?_cons_succ, List.getElem?_nil]
  simp only [List.forIn_cons, List.forIn_nil, bne_self_eq_false, Bool.false_eq_true, if_false, if_true]
  refine wpAny_bind (wpAny_standAt (wpAny_bind (wpAny_mono (turn n s hI) (fun r s₁ h₁ => ?_) fun _ _ h' => h')))
  cases r with
  | none => exact wpAny_pure h₁
  | some v =>
    refine wpAny_bind (wpAny_of_eq (show letOwnedTupleGo (.Name x1 p1) it v = pure () from rfl) ?_)
    refine wpAny_bind (wpAny_mono h₁ (fun _ s₂ h₂ => wpAny_bind (wpAny_bind (wpAny_bind (wpAny_mono h₂ (fun ok s₃ h₃ => wpAny_pure (wpAny_pure ?_)) fun _ _ h' => h')))) fun _ _ h' => h')
    cases ok with
    | true =>
      simp only [if_true] at h₃ ⊢
      exact wpAny_bind (wpAny_bind (wpAny_mono h₃ (fun y s₄ h₄ => wpAny_bind (wpAny_mono h₄ (fun _ s₅ h₅ => wpAny_pure (wpAny_pure ⟨rfl, h₅⟩)) fun _ _ h' => h')) fun _ _ h' => h'))
    | false =>
      simp only [Bool.false_eq_true, if_false] at h₃ ⊢
      exact wpAny_pure ⟨rfl, h₃⟩

theorem loop2_0 {elt iter0 iter1 cond : Expr} {x0 x1 : Str} {p0 p1 pos : Pos} {scope : Scope} {it acc : Value} (I : Nat → Shared → Prop)
    (turn : ∀ n s, I n s → wpAny (model prog w) A (pyNext it) (fun r s₁ => match r with
      | none => R (.ok .next) s₁
      | some v => wpAny (model prog w) A (assign (.Name x0 p0) env v) (fun _ s₂ => wpAny (model prog w) A (eval iter1 env) (fun x s₃ => wpAny (model prog w) A (pyIter x) (fun it1 s₄ =>
          codeAny (model prog w) A (.compStart (.ListComp elt [⟨.Name x0 p0, iter0, [], 0⟩, ⟨.Name x1 p1, iter1, [cond], 0⟩] scope pos) 1 it1 acc env) (fun r s₅ => match r with | .ok _ => ∃ m, m < n ∧ I m s₅ | .error _ => False) s₄) NoE s₃) NoE s₂) NoE s₁) NoE s)
    (n : Nat) (h : I n s) (hs : ∀ x, foldedSetIterable iter1 env x = pure x) :
    codeAny (model prog w) A (.compLoop (.ListComp elt [⟨.Name x0 p0, iter0, [], 0⟩, ⟨.Name x1 p1, iter1, [cond], 0⟩] scope pos) 0 it acc env) R s := by
  refine codeAny_loop rfl I (fun n s hI => ?_) n h
  show wpAny _ _ ((compTurn (.ListComp elt [⟨.Name x0 p0, iter0, [], 0⟩, ⟨.Name x1 p1, iter1, [cond], 0⟩] scope pos) 0 it acc env).onRaise (fun x => do noteFrame x env; theTreesLotGoes x)) _ _ s
  refine wpAny_noted (noE ?_)
  rw [turn2_0]
  refine wpAny_bind (wpAny_standAt (wpAny_bind (wpAny_mono (turn n s hI) (fun r s₁ h₁ => ?_) fun _ _ h' => h')))
  cases r with
  | none => exact wpAny_pure h₁
  | some v =>
    refine wpAny_bind (wpAny_of_eq (show letOwnedTupleGo (.Name x0 p0) it v = pure () from rfl) ?_)
    refine wpAny_bind (wpAny_mono h₁ (fun _ s₂ h₂ => wpAny_bind (wpAny_mono h₂ (fun x s₃ h₃ => wpAny_bind (wpAny_standAt (wpAny_bind (wpAny_of_eq (hs x) (wpAny_bind (wpAny_holding
      (wpAny_mono h₃ (fun it1 s₄ h₄ => wpAny_bind (wpAny_runOwn (codeAny_mono h₄ fun r s₅ h₅ => ?_))) fun _ _ h' => h'))))))) fun _ _ h' => h')) fun _ _ h' => h')
    cases r with
    | ok f => exact wpAny_pure ⟨rfl, h₅⟩
    | error e => exact h₅.elim

theorem start2_1 {elt iter0 iter1 cond : Expr} {x0 x1 : Str} {p0 p1 pos : Pos} {scope : Scope} {it acc : Value}
    (h0 : codeAny (model prog w) A (.compLoop (.ListComp elt [⟨.Name x0 p0, iter0, [], 0⟩, ⟨.Name x1 p1, iter1, [cond], 0⟩] scope pos) 1 it acc env) R s)
    (h : wpAny (model prog w) A (pyIter it) (fun it' s' => codeAny (model prog w) A (.compLoop (.ListComp elt [⟨.Name x0 p0, iter0, [], 0⟩, ⟨.Name x1 p1, iter1, [cond], 0⟩] scope pos) 1 it' acc env) R s') NoE s) :
    codeAny (model prog w) A (.compStart (.ListComp elt [⟨.Name x0 p0, iter0, [], 0⟩, ⟨.Name x1 p1, iter1, [cond], 0⟩] scope pos) 1 it acc env) R s := by
  refine codeAny_of_tree ?_
  show wpAny _ _ ((compStart (.ListComp elt [⟨.Name x0 p0, iter0, [], 0⟩, ⟨.Name x1 p1, iter1, [cond], 0⟩] scope pos) 1 it acc env).onRaise (fun x => do noteFrame x env; standAt theWindowsPlace)) _ _ s
  refine wpAny_notedAt (noE ?_)
  unfold compStart
  show wpAny _ _ (ask >>= _) _ _ s
  refine wpAny_bind (wpAny_askSetting (wpAny_ite ?_))
  split
  · first
      | exact wpAny_bind (wpAny_pure (wpAny_pure (And.intro rfl h0)))
      | exact wpAny_pure (And.intro rfl h0)
  · first
      | exact wpAny_bind (wpAny_rule (wpAny_bind (wpAny_standAt (wpAny_bind (wpAny_mono h (fun it' s' h' => wpAny_pure (And.intro rfl h')) fun _ _ x => x)))))
      | (refine wpAny_bind (wpAny_rule ?_); show wpAny _ _ (standAt iter1.pos >>= _) _ _ s; exact wpAny_bind (wpAny_standAt (wpAny_bind (wpAny_mono h (fun it' s' h' => wpAny_pure (And.intro rfl h')) fun _ _ x => x))))

/-- the whole nested block over two ranges, with a test; its element is the inner name -/
theorem comp_loop2 {C it D : Addr} {iter0 iter1 cond : Expr} {x0 x1 : Str} {p0 p1 pe pos : Pos} {scope : Scope} {cenv : Env} {n m : Nat} (cb : Nat → Nat → Bool)
    (hA : A.handled = none) (hn : n < 2 ^ 20) (hm : m < 2 ^ 20) (hnm : n * m ≤ sizeLine) (S : St B C s.heap bs [(it, RI (0 + (0 : Nat) * 1) (n - (0 : Nat)) 1), (D, LP [])])
    (hI : ∀ i t acc IP h tk, i < n → St B C h [(x0, .int ((i : Nat) : Int) t)] [(it, IP), (D, LP acc)] →
      wpAny (model prog w) A (eval iter1 cenv) (fun xv s' => ∃ h' tk' r t u v, s' = { s with heap := h', toks := tk' } ∧ xv = .ref r ∧ h.StaysIn h' ∧ IsRange h' r 0 m 1 t u v) NoE { s with heap := h, toks := tk })
    (hC : ∀ i k t t' acc it1 IP IP1 h tk, i < n → k < m → St B C h [(x0, .int ((i : Nat) : Int) t), (x1, .int ((k : Nat) : Int) t')] [(it1, IP1), (it, IP), (D, LP acc)] →
      wpAny (model prog w) A (isTrue cond cenv (eval cond cenv)) (fun b s' => ∃ h' tk', s' = { s with heap := h', toks := tk' } ∧ h.StaysIn h' ∧ b = cb i k) NoE { s with heap := h, toks := tk })
    (fin : ∀ h' tk bs' acc, IntsAre acc (nats (wy cb m n)) → St B C h' bs' [(D, LP acc)] → R (.ok .next) { s with heap := h', toks := tk })
    (hs : ∀ x, foldedSetIterable iter1 cenv x = pure x) (hx01 : x0 ≠ x1)
    (hL : cenv.locals = C) (hk : cenv.scope.kind = .function) (hl0 : cenv.kindOf x0 = some .local) (hl1 : cenv.kindOf x1 = some .local) (hdb : (x1 == ("__debug__" : Str)) = false) :
    codeAny (model prog w) A (.compLoop (.ListComp (.Name x1 pe) [⟨.Name x0 p0, iter0, [], 0⟩, ⟨.Name x1 p1, iter1, [cond], 0⟩] scope pos) 0 (.ref it) (.ref D) cenv) R s := by
  have hwl : ∀ i, i ≤ n → (wy cb m i).length ≤ i * m := by
    intro i hi
    induction i with
    | zero => simp [wy]
    | succ i ih =>
      have := ih (by omega)
      rw [wy_succ, List.length_append]
      have h2 := List.length_filter_le (cb i) (List.range m)
      rw [List.length_range] at h2
      rw [Nat.add_mul, Nat.one_mul]; omega
  have H0 : ∀ it, It prog w A B it n (fun i => RI (0 + i * 1) (n - i) 1) (fun i v => ∃ t, v = .int (0 + i * 1) t) := fun it => it_range hA
  have H1 : ∀ it, It prog w A B it m (fun i => RI (0 + i * 1) (m - i) 1) (fun i v => ∃ t, v = .int (0 + i * 1) t) := fun it => it_range hA
  refine loop2_0 (fun q s' => ∃ h' tk' bs' acc i, s' = { s with heap := h', toks := tk' } ∧ i ≤ n ∧ q = n + 1 - i ∧ IntsAre acc (nats (wy cb m i)) ∧ St B C h' bs' [(it, RI (0 + (i : Nat) * 1) (n - (i : Nat)) 1), (D, LP acc)]) ?_ (n + 1)
    ⟨_, _, bs, [], 0, rfl, Nat.zero_le _, rfl, .nil, S⟩ hs
  rintro q s' ⟨h', tk', bs', acc, i, rfl, hin, hq, hacc, S'⟩
  by_cases hlt : i < n
  · refine (H0 it).next hlt S'.keep (S'.get (.head _)) fun h₁ v tk₁ hs₁ hP₁ hv => ?_
    obtain ⟨t, rfl⟩ := hv
    have S₁ := S'.upd 0 rfl hs₁.extBut hP₁
    dsimp only [List.set] at S₁
    have ei : (0 : Int) + (i : Int) * 1 = ((i : Nat) : Int) := by omega
    rw [ei]
    refine wpAny_assign_Name (st_loc S₁ (fun h₂ S₂ => ?_) hL hk hl0)
    have S₂' := S₂.sub (bs' := [(x0, .int ((i : Nat) : Int) t)]) (sub_cons (mem_putB_self _) sub_nil) (List.Sublist.refl _)
    refine wpAny_mono (hI i t acc _ h₂ _ hlt S₂') (fun xv s₃ h₃ => ?_) fun _ _ x => x
    obtain ⟨h₃, tk₃, r, t₁, u₁, v₁, rfl, rfl, k₃, hr⟩ := h₃
    have hsm : Builtin.Range.small 0 m 1 = true := range_small (by omega) (by omega) (by omega) (by omega) (by omega) (by omega)
    refine wpAny_pyIter_range hr hsm ?_
    have S₃ := (S₂'.grow k₃).push { cls := .type "range_iterator", data := .fields #[rawInt 0, rawInt (Builtin.Range.rangeSize 0 m 1), rawInt 1] } (P := RI (0 + (0 : Nat) * 1) (m - (0 : Nat)) 1) (by
      unfold RI; rw [rangeSize_1 (by omega)]; simp)
    have inner : codeAny (model prog w) A (.compLoop (.ListComp (.Name x1 pe) [⟨.Name x0 p0, iter0, [], 0⟩, ⟨.Name x1 p1, iter1, [cond], 0⟩] scope pos) 1 (.ref h₃.objs.size) (.ref D) cenv)
        (fun r s₅ => match r with | .ok _ => ∃ q', q' < q ∧ ∃ h' tk' bs' acc i, s₅ = { s with heap := h', toks := tk' } ∧ i ≤ n ∧ q' = n + 1 - i ∧ IntsAre acc (nats (wy cb m i)) ∧ St B C h' bs' [(it, RI (0 + (i : Nat) * 1) (n - (i : Nat)) 1), (D, LP acc)] | .error _ => False)
        { s with heap := h₃.push { cls := .type "range_iterator", data := .fields #[rawInt 0, rawInt (Builtin.Range.rangeSize 0 m 1), rawInt 1] }, toks := tk₃ } := by
      refine loop2_1 (fun q₁ s₅ => ∃ h' tk' bs' acc k, s₅ = { s with heap := h', toks := tk' } ∧ k ≤ m ∧ q₁ = m + 1 - k ∧ IntsAre acc (nats (wy cb m i ++ (List.range k).filter (cb i))) ∧ (x0, Value.int ((i : Nat) : Int) t) ∈ bs' ∧
        St B C h' bs' [(h₃.objs.size, RI (0 + (k : Nat) * 1) (m - (k : Nat)) 1), (it, RI (0 + ((i + 1 : Nat) : Int) * 1) (n - ((i + 1 : Nat) : Int)) 1), (D, LP acc)]) ?_ (m + 1)
        ⟨_, _, _, acc, 0, rfl, Nat.zero_le _, rfl, by simpa using hacc, .head _, S₃⟩
      rintro q₁ s₅ ⟨h₅, tk₅, bs₅, acc₅, k, rfl, hkm, hq₁, hacc₅, hx0, S₅⟩
      by_cases hkl : k < m
      · refine (H1 _).next hkl S₅.keep (S₅.get (.head _)) fun h₆ v tk₆ hs₆ hP₆ hv => ?_
        obtain ⟨t', rfl⟩ := hv
        have S₆ := S₅.upd 0 rfl hs₆.extBut hP₆
        dsimp only [List.set] at S₆
        have ek : (0 : Int) + (k : Int) * 1 = ((k : Nat) : Int) := by omega
        rw [ek]
        refine wpAny_assign_Name (st_loc S₆ (fun h₇ S₇ => ?_) hL hk hl1)
        have hx0' : (x0, Value.int ((i : Nat) : Int) t) ∈ putB x1 (.int ((k : Nat) : Int) t') bs₅ := by
          have : ∀ bs : List (Str × Value), (x0, Value.int ((i : Nat) : Int) t) ∈ bs → (x0, Value.int ((i : Nat) : Int) t) ∈ putB x1 (.int ((k : Nat) : Int) t') bs := by
            intro bs
            induction bs with
            | nil => intro h; cases h
            | cons p r ih =>
              obtain ⟨y, u⟩ := p
              intro h
              unfold putB
              split
              · rename_i hy
                rcases List.mem_cons.mp h with h | h
                · injection h with h1 h2; exact absurd (h1.trans hy) hx01
                · exact .tail _ (List.mem_filter.mpr ⟨h, by simpa using hx01⟩)
              · rcases List.mem_cons.mp h with h | h
                · rw [h]; exact .head _
                · exact .tail _ (ih h)
          exact this _ hx0
        have S₇' := S₇.sub (bs' := [(x0, .int ((i : Nat) : Int) t), (x1, .int ((k : Nat) : Int) t')]) (sub_cons hx0' (sub_cons (mem_putB_self _) sub_nil)) (List.Sublist.refl _)
        refine wpAny_mono (hC i k t t' acc₅ _ _ _ h₇ _ hlt hkl S₇') (fun b s₈ h₈ => ?_) fun _ _ x => x
        obtain ⟨h₈, tk₈, rfl, k₈, rfl⟩ := h₈
        have S₈ := S₇'.grow k₈
        have hrng : (List.range (k + 1)).filter (cb i) = (List.range k).filter (cb i) ++ (if cb i k = true then [k] else []) := by
          have e1 : [k].filter (cb i) = if cb i k = true then [k] else [] := by cases h : cb i k <;> simp [List.filter, h]
          rw [List.range_succ, List.filter_append, e1]
        cases hcb : cb i k with
        | true =>
          simp only [if_true]
          refine ev_loc S₈ (.tail _ (.head _)) ?_ hL hk hl1 hdb
          refine append_list S₈ 2 rfl ?_ fun h₉ S₉ => ?_
          · have := intsAre_len hacc₅
            rw [this]
            have h1 := hwl i hin
            have h2 := List.length_filter_le (cb i) (List.range k)
            rw [List.length_range] at h2
            simp only [nats, List.length_map, List.length_append]
            have h3 : i * m + k ≤ n * m := by
              have : (i + 1) * m ≤ n * m := Nat.mul_le_mul_right _ hlt
              rw [Nat.add_mul, Nat.one_mul] at this; omega
            omega
          · refine ⟨m + 1 - (k + 1), by omega, h₉, _, _, _, k + 1, rfl, hkl, rfl, ?_, .head _, S₉⟩
            rw [hrng, hcb, if_pos rfl, ← List.append_assoc]
            rw [show nats (wy cb m i ++ (List.range k).filter (cb i) ++ [k]) = nats (wy cb m i ++ (List.range k).filter (cb i)) ++ [((k : Nat) : Int)] by simp [nats]]
            exact intsAre_append hacc₅ (.cons _ _ .nil)
        | false =>
          simp only [Bool.false_eq_true, if_false]
          refine ⟨m + 1 - (k + 1), by omega, h₈, _, _, acc₅, k + 1, rfl, hkl, rfl, ?_, .head _, S₈⟩
          rw [hrng, hcb, if_neg (by decide), List.append_nil]
          exact hacc₅
      · have : k = m := by omega
        subst this
        refine (H1 _).done S₅.keep (S₅.get (.head _)) fun h₆ he₆ => ?_
        exact ⟨n + 1 - (i + 1), by omega, h₆, _, _, acc₅, i + 1, rfl, hlt, rfl, by rw [wy_succ]; exact hacc₅, S₅.ext he₆⟩
    exact start2_1 inner ((H1 _).self (i := 0) (S₃.get (.head _)) inner)
  · have : i = n := by omega
    subst this
    refine (H0 it).done S'.keep (S'.get (.head _)) fun h₁ he₁ => ?_
    exact fin h₁ _ bs' acc hacc (S'.ext he₁)
end
end Mine
end

/-! # PDefs -/
section
namespace Mine
open PySem
/-! ## what the plain law says -/
def rot (k : Nat) (row : List Int) : List Int := row.drop k ++ row.take k
def rots (row : List Int) : List (List Int) := (List.range row.length).map fun k => rot k row
def lastOf (n : Nat) (T : List (List Int)) (k : Nat) : Int := (T.getD k []).getD (n - 1) 0
def wayOf (n : Nat) (T : List (List Int)) : List Nat := wy (fun i k => decide (lastOf n T k = (i : Int))) n 3
/-- the place after j steps along a ring -/
def plc (way : List Nat) (ring : Nat) : Nat → Nat
  | 0 => ring
  | j + 1 => way.getD (plc way ring j) 0
def readOf (n : Nat) (T : List (List Int)) (ring j : Nat) : List Int := (List.range j).map fun i => lastOf n T (plc (wayOf n T) ring (i + 1))
def metOf (n : Nat) (T : List (List Int)) (r ring : Nat) : List Nat := (List.range ring).flatMap fun q => (List.range r).map fun i => plc (wayOf n T) q (i + 1)
structure PC (row : List Int) (r : Nat) (T : List (List Int)) : Prop where
  pos : 0 < r
  dvd : r * (row.length / r) = row.length
  has : row ∈ T
  lt : ∀ k, 1 ≤ k → k < row.length → k % (row.length / r) = 0 → ltL (T.getD (k - 1) []) (T.getD k []) = true
  eq : ∀ k, 1 ≤ k → k < row.length → k % (row.length / r) ≠ 0 → T.getD (k - 1) [] = T.getD k []
  root : ∀ k r', k < row.length → RootIs (T.getD k []) r' → r' = r
  wlen : (wayOf row.length T).length = row.length
  wlt : ∀ k, k < row.length → (wayOf row.length T).getD k 0 < row.length
  way : ∀ k, k < row.length → T.getD ((wayOf row.length T).getD k 0) [] = (T.getD k []).drop 1 ++ (T.getD k []).take 1
  ring : ∀ q, q < row.length / r → plc (wayOf row.length T) q r = q
  read : ∀ q, q < row.length / r → (List.replicate (row.length / r) (readOf row.length T q r)).flatten = T.getD 0 []
  met : (metOf row.length T r (row.length / r)).Perm (List.range row.length)
  first : ∀ t, MBd ((T.getD 0 []).take r) r t → t = 0
  last : ∀ t, MBd ((T.getD (row.length - 1) []).take r) r t → t = 0
def PLaw : Prop := ∀ (row : List Int) (r : Nat) (T : List (List Int)), 0 < row.length → (∀ x ∈ row, x = 0 ∨ x = 1 ∨ x = 2) → RootIs row r → T.Perm (rots row) → T.Pairwise (fun a b => ltL b a = false) → PC row r T
end Mine
end

/-! # MLaw0 -/
section
open PySem PySem.W PyProof.Rows PySem.Calls
set_option linter.unusedVariables false
set_option maxRecDepth 100000
namespace Mine
abbrev lawEnv (L a : Addr) (cd : Value) : Env := envOfC dLaw.name dLaw.scope L a cd
theorem law_cells (L : Addr) : cellsFrom (L + 1) dLaw.scope.names [] = ([("last", L + 4), ("heap", L + 3), ("root", L + 2), ("size", L + 1)] : List (Str × Addr)) := rfl

section
variable {prog : Program} {w : World} {A : Around} {E : Value → Shared → Prop} {s : Shared} {env : Env} {B : Heap} {L : Addr} {bs : List (Str × Value)} {ms : List (Addr × OP)}

theorem ev_cell {x : Str} {c : Addr} {pos : Pos} {v : Value} {Q : Value → Shared → Prop} (hcl : env.cells.lookup x = some c) (S : St B L s.heap bs ms) (hc : (c, CP (some v)) ∈ ms) (h : Q v s)
    (hk : env.scope.kind = .function := by rfl) (hl : env.kindOf x = some .cell := by rfl) (hd : (x == ("__debug__" : Str)) = false := by decide) :
    wpAny (model prog w) A (eval (.Name x pos) env) Q E s := by
  obtain ⟨o, e1, e2⟩ := S.get hc
  exact wpAny_Name (wpAny_loadName_cell hk hl hcl ⟨o, e1, e2⟩ h) hd

/-- a cell that the base has (within a block) -/
theorem ev_cellB {x : Str} {c : Addr} {pos : Pos} {v : Value} {Q : Value → Shared → Prop} (k : B.StaysIn s.heap) (hc : ∃ o, B.get? c = some o ∧ CP (some v) o) (h : Q v s) (hcl : env.cells.lookup x = some c := by rfl)
    (hk : env.scope.kind = .function := by rfl) (hl : env.kindOf x = some .cell := by rfl) (hd : (x == ("__debug__" : Str)) = false := by decide) :
    wpAny (model prog w) A (eval (.Name x pos) env) Q E s := by
  obtain ⟨o, e1, e2⟩ := hc
  exact wpAny_Name (wpAny_loadName_cell hk hl hcl ⟨o, k _ _ e1, e2⟩ h) hd

theorem st_cell {x : Str} {c : Addr} {v₀ : Option Value} {v : Value} {Q : Unit → Shared → Prop} (S : St B L s.heap bs ms) (i : Nat) (hi : ms[i]? = some (c, CP v₀))
    (h : ∀ h', St B L h' bs (ms.set i (c, CP (some v))) → Q () { s with heap := h' }) (hcl : env.cells.lookup x = some c := by rfl)
    (hk : env.scope.kind = .function := by rfl) (hl : env.kindOf x = some .cell := by rfl) :
    wpAny (model prog w) A (storeName env x v) Q E s := by
  obtain ⟨o, e1, e2⟩ := S.get (List.mem_of_getElem? hi)
  exact wpAny_storeName_cell hk hl hcl ⟨o, e1, e2⟩ fun h' hc hs => h h' (S.upd i hi hs.extBut hc)

theorem sl_none_some {e : Expr} {p : Pos} {Q : Value → Shared → Prop}
    (h : wpAny (model prog w) A (eval e env) (fun u s₁ => ∀ h' sl, s₁.heap.StaysIn h' → h'.IsSliceOf sl .none u .none → Q (.ref sl) { s₁ with heap := h' }) E s) :
    wpAny (model prog w) A (eval (.Slice none (some e) none p) env) Q E s := by
  refine wpAny_Slice ?_
  rw [evalPart_none, evalPart_some]
  refine wpAny_pure (wpAny_mono h (fun u s₁ h₁ => ?_) fun _ _ x => x)
  exact wpAny_pure (h₁ _ _ (stays_push _ _) (Heap.IsSliceOf.new ..))
theorem sl_some_none {e : Expr} {p : Pos} {Q : Value → Shared → Prop}
    (h : wpAny (model prog w) A (eval e env) (fun u s₁ => ∀ h' sl, s₁.heap.StaysIn h' → h'.IsSliceOf sl u .none .none → Q (.ref sl) { s₁ with heap := h' }) E s) :
    wpAny (model prog w) A (eval (.Slice (some e) none none p) env) Q E s := by
  refine wpAny_Slice ?_
  rw [evalPart_some]
  refine wpAny_mono h (fun u s₁ h₁ => ?_) fun _ _ x => x
  rw [evalPart_none]
  exact wpAny_pure (wpAny_pure (h₁ _ _ (stays_push _ _) (Heap.IsSliceOf.new ..)))

/-- iterators over lists and tuples -/
theorem iter_list {l : Addr} {vs : List Value} {Q : Value → Shared → Prop} (S : St B L s.heap bs ms) (hl : VList s.heap l vs)
    (h : ∀ h' it, St B L h' bs ((it, LI l 0) :: ms) → s.heap.StaysIn h' → Q (.ref it) { s with heap := h' }) : wpAny (model prog w) A (pyIter (.ref l)) Q E s :=
  wpAny_pyIter_list hl (h _ _ (S.push _ ⟨rfl, rfl⟩) (stays_push _ _))
theorem iter_tup {l : Addr} {vs : List Value} {Q : Value → Shared → Prop} (S : St B L s.heap bs ms) (hl : IsTup s.heap l vs.toArray)
    (h : ∀ h' it, St B L h' bs ((it, TI l 0) :: ms) → s.heap.StaysIn h' → Q (.ref it) { s with heap := h' }) : wpAny (model prog w) A (pyIter (.ref l)) Q E s :=
  wpAny_pyIter_tuple hl (h _ _ (S.push _ ⟨rfl, rfl⟩) (stays_push _ _))
theorem iter_rng {r : Addr} {n : Nat} {t u v : Tok} {Q : Value → Shared → Prop} (S : St B L s.heap bs ms) (hr : IsRange s.heap r 0 n 1 t u v) (hn : n < 2 ^ 20)
    (h : ∀ h' it, St B L h' bs ((it, RI (0 + (0 : Nat) * 1) (n - (0 : Nat)) 1) :: ms) → s.heap.StaysIn h' → Q (.ref it) { s with heap := h' }) : wpAny (model prog w) A (pyIter (.ref r)) Q E s := by
  refine wpAny_pyIter_range hr (range_small (by omega) (by omega) (by omega) (by omega) (by omega) (by omega)) (h _ _ (S.push _ ?_) (stays_push _ _))
  unfold RI; rw [rangeSize_1 (by omega)]; simp
end
end Mine
end

/-! # MLawE -/
section
open PySem PySem.W PyProof.Rows PySem.Calls
set_option linter.unusedVariables false
set_option maxRecDepth 100000
namespace Mine
local macro_rules | `(tactic| walk_at "mem") => `(tactic| with_reducible repeat (first | exact List.mem_cons_self | refine List.mem_cons_of_mem _ ?_))
local macro_rules | `(tactic| walk_at "put") => `(tactic| (intro h' S'; simp only [putB, ofString_inj, String.reduceEq, reduceIte, List.filter, ne_eq, not_true_eq_false, not_false_eq_true, decide_true, decide_false, Bool.not_true, Bool.not_false] at S'; try dsimp only))
local macro_rules | `(tactic| walk_at "sub") => `(tactic| repeat (first | exact sub_nil | refine sub_cons (by walk_at "mem") ?_))
/- one step -/
local macro_rules | `(tactic| walk_at "m") => `(tactic| first
  | ((with_reducible show wpAny _ _ (eval (Expr.Name _ _) _) _ _ _); refine ev_loc (by assumption) (by walk_at "mem") ?_)
  | ((with_reducible show wpAny _ _ (eval (Expr.Name _ _) (envOfC _ _ _ _ _)) _ _ _); refine ev_cell (by rfl) (by assumption) (by walk_at "mem") ?_)
  | (with_reducible refine wpAny_Constant_int ?_)
  | (with_reducible refine wpAny_execs_nil ?_; try dsimp only)
  | (with_reducible refine wpAny_execs_cons ?_)
  | ((with_reducible show wpAny _ _ (exec (Stmt.Assign [Expr.Name _ _] _ _) _) _ _ _); refine wpAny_Assign_Name ?_)
  | ((with_reducible show wpAny _ _ (exec (Stmt.Assign [Expr.Subscript _ _ _] _ _) _) _ _ _); refine wpAny_Assign_Subscript ?_)
  | (with_reducible refine wpAny_Return_some ?_)
  | (with_reducible refine wpAny_If ?_)
  | (with_reducible refine wpAny_Break ?_; try dsimp only)
  | (with_reducible refine wpAny_Continue ?_; try dsimp only)
  | (with_reducible refine Subscript_ ?_)
  | (with_reducible refine wpAny_BinOp ?_)
  | ((with_reducible show wpAny _ _ (isTrue (Expr.Compare _ [_] [_] _) _ _) _ _ _); refine wpAny_isTrue_Compare1 ?_)
  | ((with_reducible show wpAny _ _ (eval (Expr.Compare _ [_] [_] _) _) _ _ _); refine wpAny_Compare1 ?_)
  | (with_reducible refine PyProof.Rows.isTrue_not ?_)
  | (with_reducible refine PyProof.Rows.isTrue_and_nil ?_)
  | (with_reducible refine PyProof.Rows.isTrue_and ?_)
  | (with_reducible refine wpAny_truthy_bool ?_)
  | ((with_reducible show wpAny _ _ (exec (Stmt.Expr _ _) _) _ _ _); refine wpAny_Expr_any ?_)
  | ((with_reducible show wpAny _ _ (eval (Expr.IfExp _ _ _ _) _) _ _ _); refine wpAny_IfExp ?_)
  | ((with_reducible show wpAny _ _ (binaryOp Operator.Mult (Value.int _ _) (Value.int _ _)) _ _ _); refine PyProof.Rows.mul_int ?_ (by mul_fits))
  | ((with_reducible show wpAny _ _ (spliced (backTo _ (starEach [] _))) _ _ _); refine args_nil ?_)
  | ((with_reducible show wpAny _ _ (spliced (backTo _ (starEach (_ :: _) _))) _ _ _); refine args_cons ?_)
  | ((with_reducible show wpAny _ _ (eval (Expr.UnaryOp UnaryOp.USub _ _) _) _ _ _); refine PyProof.Rows.UnaryOp_ ?_)
  | (with_reducible refine PyProof.Rows.neg_int ?_)
  | (with_reducible refine PyProof.Rows.sub_int ?_)
  | (with_reducible refine PyProof.Rows.add_int ?_)
  | (with_reducible refine PyProof.Rows.lt_int ?_)
  | (with_reducible refine PyProof.Rows.gt_int ?_)
  | (with_reducible refine PyProof.Rows.eq_int ?_)
  | (with_reducible refine PyProof.Rows.ne_int ?_)
  | (with_reducible refine ite_t ?_)
  | (with_reducible refine ite_f ?_)
  | ((with_reducible show wpAny _ _ (storeName _ _ _) _ _ _); refine st_loc (by assumption) ?_; walk_at "put"))

theorem refs_last {as : List Nat} (h : 0 < as.length) : (refs as)[(refs as).length - 1]? = some (.ref (as.getD (as.length - 1) 0)) := by
  rw [show (refs as).length - 1 = as.length - 1 by simp]
  exact refs_get (by omega)

set_option maxHeartbeats 8000000 in
theorem law_E {prog : Program} {w : World} {A : Around} {s : Shared} {G B : Heap} {L a : Addr} {cd : Value} {Q : Flow → Shared → Prop} {ta : Addr} {tas : List Nat} {c : Nat → List Int} {n r : Nat} {tr : Tok}
    (hA : Ok A 6) (hG : Gl G) (hGB : G.StaysIn B) (S : St B L s.heap [("turns", .ref ta)] [(L + 2, CP (some (.int (r : Nat) tr)))])
    (ht : VList B ta (refs tas)) (hc : ∀ a ∈ tas, ITup B a (c a)) (hlen : tas.length = n) (hn0 : 0 < n) (hn : n < 64) (hcl : ∀ a ∈ tas, (c a).length = n) (hr0 : 0 < r) (hrn : r ≤ n)
    (h1 : ∀ t, MBd ((c (tas.getD 0 0)).take r) r t → t = 0) (h2 : ∀ t, MBd ((c (tas.getD (n - 1) 0)).take r) r t → t = 0)
    (hQ : ∀ h' tk, B.StaysIn h' → Q (.ret (.bool true)) { s with heap := h', toks := tk }) :
    wpAny (model prog w) A (execs (dLaw.body.drop 17) (lawEnv L a cd)) Q NoE s := by
  have hsl : (2 : Nat) ^ 20 ≤ sizeLine := by decide
  have hm1 : tas.getD 0 0 ∈ tas := getD_mem (by omega)
  have hm2 : tas.getD (n - 1) 0 ∈ tas := getD_mem (by omega)
  refine wpAny_execs_cons ?_
  refine lc_used (cl := ([("root", L + 2)] : List (Str × Addr))) rfl rfl (by decide) ?_
  refine Tuple_ ?_
  repeat walk_at "m"
  refine it_list (ht.keeps S.keep) (by omega) (by omega) (by exact refs_get (k := 0) (by omega)) ?_
  repeat walk_at "m"
  refine it_last (ht.keeps S.keep) (refs_last (by omega)) (by simp; omega) ?_
  repeat walk_at "m"
  refine new_tuple S (by simp; omega) fun h₂ t₂ S₂ _ k₂ => ?_
  refine iter_tup S₂ (S₂.isTup List.mem_cons_self) fun h₃ it S₃ k₃ => ?_
  have hin := inner_stays (ms₀ := [(it, TI t₂ 0)]) S₃
  have hroot := inner_get (ms₀ := [(it, TI t₂ 0)]) S₃ (p := (L + 2, CP (some (.int (r : Nat) tr)))) (.tail _ (.head _))
  have htup := TP.isTup (inner_get (ms₀ := [(it, TI t₂ 0)]) S₃ (p := (t₂, TP _)) (.head _))
  refine comp_used (P := fun i => TI t₂ i) (ms₁ := []) (n := 2) S₃ (it_tupI hA.hd htup) (by omega) (by decide) rfl rfl
    (fun i acc msI => msI = [] ∧ ∃ tk1 tk2, acc = ([.int 0 tk1, .int 0 tk2] : List Value).take i) ⟨rfl, 0, 0, rfl⟩ ?step ?fin
  case fin =>
    rintro D h' tk acc msF ⟨rfl, tk1, tk2, rfl⟩ _ hD S₄
    dsimp only
    simp only [putB, ofString_inj, String.reduceEq, reduceIte] at S₄
    repeat walk_at "m"
    refine List_ ?_
    repeat walk_at "m"
    refine new_list S₄ (by simp; omega) fun h₅ a₅ S₅ _ k₅ => ?_
    refine eq_intsK (LP.isList (S₅.get (.tail _ (.head _)))) (.cons 0 tk1 (.cons 0 tk2 .nil)) (LP.isList (S₅.get (.head _))) (.cons 0 _ (.cons 0 _ .nil)) (by have := hA.un; omega) ?_
    have e : decide (([0, 0] : List Int) = [0, 0]) = true := by decide
    rw [e]
    exact hQ _ _ S₅.keep
  case step =>
    rintro C D i v acc msI h tk hi hv ⟨rfl, tk1, tk2, rfl⟩ hal S₄
    obtain ⟨a', rfl, ha', hb'⟩ : ∃ a', v = .ref a' ∧ a' ∈ tas ∧ ∀ t, MBd ((c a').take r) r t → t = 0 := by
      rcases i with _ | _ | i
      · have : v = .ref (tas.getD 0 0) := by simpa using hv.symm
        exact ⟨_, this, hm1, h1⟩
      · have : v = .ref (tas.getD (n - 1) 0) := by rw [← hlen]; simpa using hv.symm
        exact ⟨_, this, hm2, h2⟩
      · omega
    have hBi : ITup (hideAll h₃ (List.map (fun x => x.fst) [(it, TI t₂ 0)])) a' (c a') := (hc a' ha').keeps hin
    walk_at "m"
    refine Call_ (ev_def dTab hG (stays_trans hGB (stays_trans hin S₄.keep)) fun f' hf' => ?_)
    refine call_fn hf' ?_
    repeat walk_at "m"
    refine sl_none_some ?_
    refine ev_cellB S₄.keep hroot fun h₅ sl k₅ hsl₅ => ?_
    have S₅ := S₄.grow k₅
    refine ts_upto (hBi.keeps S₅.keep) hsl₅ (by rw [hcl a' ha']; omega) fun h₆ r₆ k₆ hr₆ => ?_
    have S₆ := S₅.grow k₆
    repeat walk_at "m"
    have hlr : ((c a').take r).length = r := by rw [List.length_take, hcl a' ha']; omega
    refine ⟨stays_trans hGB (stays_trans hin S₆.keep), ?_⟩
    refine tab_spec (hA.le (by omega)) hG (stays_trans hGB (stays_trans hin S₆.keep)) hf' (.inl hr₆) (by omega) (by omega) (fun h₇ tk₇ t vs ts k₇ _ hl₇ hi₇ hlen₇ hm₇ => ?_)
    have S₇ := S₆.grow k₇
    dsimp only
    repeat walk_at "m"
    refine it_neg (LP.isList hl₇) hi₇ (by simp; omega) (by simp; omega) fun t₂ => ?_
    have hl' : (nats ts).length = r := by simp; omega
    rw [hl', nats_getD]
    have hmb := hm₇ r (by omega) (by omega)
    rw [hb' _ hmb]
    refine ⟨_, _, _, _, rfl, ⟨rfl, ?_⟩, S₇⟩
    rcases i with _ | _ | i
    · exact ⟨_, 0, rfl⟩
    · exact ⟨_, _, rfl⟩
    · omega
end Mine
end

/-! # MLawD -/
section
open PySem PySem.W PyProof.Rows PySem.Calls
set_option linter.unusedVariables false
set_option maxRecDepth 100000
namespace Mine
local macro_rules | `(tactic| walk_at "mem") => `(tactic| with_reducible repeat (first | exact List.mem_cons_self | refine List.mem_cons_of_mem _ ?_))
local macro_rules | `(tactic| walk_at "put") => `(tactic| (intro h' S'; simp only [putB, ofString_inj, String.reduceEq, reduceIte, List.filter, ne_eq, not_true_eq_false, not_false_eq_true, decide_true, decide_false, Bool.not_true, Bool.not_false] at S'; try dsimp only))
local macro_rules | `(tactic| walk_at "sub") => `(tactic| repeat (first | exact sub_nil | refine sub_cons (by walk_at "mem") ?_))
/- one step -/
local macro_rules | `(tactic| walk_at "m") => `(tactic| first
  | ((with_reducible show wpAny _ _ (eval (Expr.Name _ _) _) _ _ _); refine ev_loc (by assumption) (by walk_at "mem") ?_)
  | ((with_reducible show wpAny _ _ (eval (Expr.Name _ _) (envOfC _ _ _ _ _)) _ _ _); refine ev_cell (by rfl) (by assumption) (by walk_at "mem") ?_)
  | (with_reducible refine wpAny_Constant_int ?_)
  | (with_reducible refine wpAny_execs_nil ?_; try dsimp only)
  | (with_reducible refine wpAny_execs_cons ?_)
  | ((with_reducible show wpAny _ _ (exec (Stmt.Assign [Expr.Name _ _] _ _) _) _ _ _); refine wpAny_Assign_Name ?_)
  | ((with_reducible show wpAny _ _ (exec (Stmt.Assign [Expr.Subscript _ _ _] _ _) _) _ _ _); refine wpAny_Assign_Subscript ?_)
  | (with_reducible refine wpAny_Return_some ?_)
  | (with_reducible refine wpAny_If ?_)
  | (with_reducible refine wpAny_Break ?_; try dsimp only)
  | (with_reducible refine wpAny_Continue ?_; try dsimp only)
  | (with_reducible refine Subscript_ ?_)
  | (with_reducible refine wpAny_BinOp ?_)
  | ((with_reducible show wpAny _ _ (isTrue (Expr.Compare _ [_] [_] _) _ _) _ _ _); refine wpAny_isTrue_Compare1 ?_)
  | ((with_reducible show wpAny _ _ (eval (Expr.Compare _ [_] [_] _) _) _ _ _); refine wpAny_Compare1 ?_)
  | (with_reducible refine PyProof.Rows.isTrue_not ?_)
  | (with_reducible refine PyProof.Rows.isTrue_and_nil ?_)
  | (with_reducible refine PyProof.Rows.isTrue_and ?_)
  | (with_reducible refine PyProof.Rows.isTrue_or_nil ?_)
  | (with_reducible refine PyProof.Rows.isTrue_or ?_)
  | (with_reducible refine wpAny_truthy_bool ?_)
  | ((with_reducible show wpAny _ _ (exec (Stmt.Expr _ _) _) _ _ _); refine wpAny_Expr_any ?_)
  | ((with_reducible show wpAny _ _ (eval (Expr.IfExp _ _ _ _) _) _ _ _); refine wpAny_IfExp ?_)
  | ((with_reducible show wpAny _ _ (binaryOp Operator.Mult (Value.int _ _) (Value.int _ _)) _ _ _); refine PyProof.Rows.mul_int ?_ (by mul_fits))
  | ((with_reducible show wpAny _ _ (spliced (backTo _ (starEach [] _))) _ _ _); refine args_nil ?_)
  | ((with_reducible show wpAny _ _ (spliced (backTo _ (starEach (_ :: _) _))) _ _ _); refine args_cons ?_)
  | ((with_reducible show wpAny _ _ (eval (Expr.UnaryOp UnaryOp.USub _ _) _) _ _ _); refine PyProof.Rows.UnaryOp_ ?_)
  | (with_reducible refine PyProof.Rows.neg_int ?_)
  | (with_reducible refine PyProof.Rows.sub_int ?_)
  | (with_reducible refine PyProof.Rows.add_int ?_)
  | (with_reducible refine PyProof.Rows.lt_int ?_)
  | (with_reducible refine PyProof.Rows.gt_int ?_)
  | (with_reducible refine PyProof.Rows.eq_int ?_)
  | (with_reducible refine PyProof.Rows.ne_int ?_)
  | (with_reducible refine ite_t ?_)
  | (with_reducible refine ite_f ?_)
  | ((with_reducible show wpAny _ _ (storeName _ _ _) _ _ _); refine st_loc (by assumption) ?_; walk_at "put"))

theorem ISeq.list {h : Heap} {a : Addr} {xs : List Int} (x : IList h a xs) : ISeq h a xs := .inr x
theorem lasts_getD {n : Nat} {T : List (List Int)} {k : Nat} (h : k < n) : ((List.range n).map (lastOf n T)).getD k 0 = lastOf n T k := by
  simp [List.getD_eq_getElem?_getD, h]
theorem readOf_succ (n : Nat) (T : List (List Int)) (q j : Nat) : readOf n T q (j + 1) = readOf n T q j ++ [lastOf n T (plc (wayOf n T) q (j + 1))] := by
  simp [readOf, List.range_succ]
theorem metOf_succ (n : Nat) (T : List (List Int)) (r q : Nat) : metOf n T r (q + 1) = metOf n T r q ++ (List.range r).map fun i => plc (wayOf n T) q (i + 1) := by
  simp [metOf, List.range_succ]

set_option maxHeartbeats 16000000 in
theorem law_D {prog : Program} {w : World} {A : Around} {s : Shared} {G B : Heap} {L a : Addr} {cd : Value} {Q : Flow → Shared → Prop} {ta wa la : Addr} {tas : List Nat} {c : Nat → List Int} {n r g : Nat} {tr ts tg : Tok} {T : List (List Int)}
    (hA : Ok A 6) (hG : Gl G) (hGB : G.StaysIn B)
    (S : St B L s.heap [("turns", .ref ta), ("way", .ref wa), ("rings", .int (g : Nat) tg)] [(L + 1, CP (some (.int (n : Nat) ts))), (L + 2, CP (some (.int (r : Nat) tr))), (L + 4, CP (some (.ref la)))])
    (ht : VList B ta (refs tas)) (hc : ∀ a ∈ tas, ITup B a (c a)) (hlen : tas.length = n) (hn0 : 0 < n) (hn : n < 64) (hcl : ∀ a ∈ tas, (c a).length = n) (hr0 : 0 < r) (hrn : r ≤ n) (hT : T = tas.map c)
    (hw : IList B wa (nats (wayOf n T))) (hla : IList B la ((List.range n).map (lastOf n T)))
    (hwl : (wayOf n T).length = n) (hwlt : ∀ k, k < n → (wayOf n T).getD k 0 < n) (hg0 : 0 < g) (hgn : g ≤ n) (hrg : r * g = n)
    (hring : ∀ q, q < g → plc (wayOf n T) q r = q) (hread : ∀ q, q < g → (List.replicate g (readOf n T q r)).flatten = T.getD 0 [])
    (hmet : (metOf n T r g).Perm (List.range n))
    (h1 : ∀ t, MBd ((c (tas.getD 0 0)).take r) r t → t = 0) (h2 : ∀ t, MBd ((c (tas.getD (n - 1) 0)).take r) r t → t = 0)
    (hQ : ∀ h' tk, B.StaysIn h' → Q (.ret (.bool true)) { s with heap := h', toks := tk }) :
    wpAny (model prog w) A (execs (dLaw.body.drop 14) (lawEnv L a cd)) Q NoE s := by
  have hsl : (2 : Nat) ^ 20 ≤ sizeLine := by decide
  have hplc : ∀ q j, q < n → plc (wayOf n T) q j < n := by
    intro q j hq
    cases j with
    | zero => exact hq
    | succ j =>
      have : ∀ j, plc (wayOf n T) q j < n := by
        intro j
        induction j with
        | zero => exact hq
        | succ j ih => exact hwlt _ ih
      exact this (j + 1)
  refine wpAny_execs_cons ?_
  walk_at "m"
  refine List_ ?_
  repeat walk_at "m"
  refine new_list S (by simp) fun h₂ ma S₂ _ _ => ?_
  iterate 2 walk_at "m"
  rename_i h₃ S₃
  refine wpAny_For ?_
  refine Call_ (ev_blt hG (stays_trans hGB S₃.keep) (by simp) boot_range ?_)
  refine PyProof.Rows.callWith_type1 ?_
  repeat walk_at "m"
  refine rng1 fun h₄ r₄ _ _ _ _ k₄ hr₄ => ?_
  have S₄ := S₃.grow k₄
  refine for_range g S₄ hr₄ (range_small (by omega) (by omega) (by omega) (by omega) (by omega) (by omega)) (by rw [rangeSize_1 (by omega)]; omega)
    (fun q bs ms => bs = ([("turns", .ref ta), ("way", .ref wa), ("rings", .int (g : Nat) tg), ("met", .ref ma)] : List (Str × Value)) ∧ ∃ vs, ms = [(ma, LP vs), (L + 1, CP (some (.int (n : Nat) ts))), (L + 2, CP (some (.int (r : Nat) tr))), (L + 4, CP (some (.ref la)))] ∧ IntsAre vs (nats (metOf n T r q)))
    ⟨rfl, [], rfl, .nil⟩ ?step ?fin hA.hd
  case fin =>
    rintro h' tk' bs' ms' ⟨rfl, vs, rfl, hi⟩ S'
    dsimp only
    have hml : (metOf n T r g).length = n := by simpa using hmet.length_eq
    repeat walk_at "m"
    refine Call_ (ev_blt hG (stays_trans hGB S'.keep) (by simp) boot_sorted ?_)
    refine PyProof.Rows.callWith_builtin1 ?_
    repeat walk_at "m"
    refine srt ⟨vs, S'.isList (by walk_at "mem"), hi⟩ (by simp [hml]; omega) fun h₅ so xs' k₅ hso hperm hpw => ?_
    have S₅ := S'.grow k₅
    refine Call_ (ev_blt hG (stays_trans hGB S₅.keep) (by simp) boot_list ?_)
    refine PyProof.Rows.callWith_type1 ?_
    repeat walk_at "m"
    refine Call_ (ev_blt hG (stays_trans hGB S₅.keep) (by simp) boot_range ?_)
    refine PyProof.Rows.callWith_type1 ?_
    repeat walk_at "m"
    refine rng1 fun h₆ r₆ _ _ _ _ k₆ hr₆ => ?_
    repeat walk_at "m"
    refine list_rng hA.hd hr₆ (by omega) fun h₇ li tk₇ k₇ hli => ?_
    have S₇ := (S₅.grow k₆).grow k₇
    have hsorted : xs' = nats (List.range n) := by
      have p1 : xs'.Perm (nats (List.range n)) := hperm.trans (hmet.map _)
      refine p1.eq_of_pairwise (fun a b _ _ h1 h2 => Int.le_antisymm h1 h2) hpw ?_
      rw [List.pairwise_map]
      exact List.pairwise_le_range.imp (fun h => by simpa using h)
    subst hsorted
    obtain ⟨v1, w1, w2⟩ := (hso.keeps (stays_trans k₆ k₇))
    obtain ⟨v2, w3, w4⟩ := hli
    refine ne_intsK w1 w2 w3 w4 (by have := hA.un; omega) ?_
    have e1 : (!decide (nats (List.range n) = nats (List.range n))) = false := by simp
    rw [e1]
    iterate 3 walk_at "m"
    with_reducible show wpAny _ _ (execs _ _) _ _ _
    have SE := S₇.sub (bs' := [("turns", .ref ta)]) (ms' := [(L + 2, CP (some (.int (r : Nat) tr)))]) (by walk_at "sub") (.cons _ (.cons _ (.cons_cons _ (.cons _ (List.Sublist.slnil)))))
    exact law_E (s := { s with heap := h₇, toks := tk₇ }) hA hG hGB SE ht hc hlen hn0 hn hcl hr0 hrn h1 h2 hQ
  case step =>
    rintro q I bs' ms' h' tk' tk'' hq ⟨rfl, vs, rfl, hi⟩ S'
    simp only [putB, ofString_inj, String.reduceEq, reduceIte] at S'
    have eq' : (0 : Int) + q * 1 = ((q : Nat) : Int) := by omega
    generalize RI ((0 : Int) + (q : Int) * 1 + 1) (((g : Nat) : Int) - q - 1) 1 = IP at S' ⊢
    rw [eq'] at S'
    repeat walk_at "m"
    rename_i h₅ S₅
    refine List_ ?_
    repeat walk_at "m"
    refine new_list S₅ (by simp) fun h₆ ra S₆ _ _ => ?_
    iterate 2 walk_at "m"
    rename_i h₇ S₇
    refine wpAny_For ?_
    refine Call_ (ev_blt hG (stays_trans hGB S₇.keep) (by simp) boot_range ?_)
    refine PyProof.Rows.callWith_type1 ?_
    repeat walk_at "m"
    refine rng1 fun h₈ r₈ _ _ _ _ k₈ hr₈ => ?_
    have S₈ := S₇.grow k₈
    refine for_range r S₈ hr₈ (range_small (by omega) (by omega) (by omega) (by omega) (by omega) (by omega)) (by rw [rangeSize_1 (by omega)]; omega)
      (fun j bs ms => (∃ tp, bs = ([("turns", .ref ta), ("way", .ref wa), ("rings", .int (g : Nat) tg), ("met", .ref ma), ("ring", .int (q : Nat) tk'), ("place", .int (plc (wayOf n T) q j : Nat) tp), ("read", .ref ra)] : List (Str × Value))) ∧
        ∃ us vs, ms = [(ra, LP us), (I, IP), (ma, LP vs), (L + 1, CP (some (.int (n : Nat) ts))), (L + 2, CP (some (.int (r : Nat) tr))), (L + 4, CP (some (.ref la)))] ∧ IntsAre us (readOf n T q j) ∧ IntsAre vs (nats (metOf n T r q ++ (List.range j).map fun i => plc (wayOf n T) q (i + 1))))
      ⟨⟨tk', rfl⟩, [], vs, rfl, .nil, by simpa using hi⟩ ?step2 ?fin2 hA.hd
    case fin2 =>
      rintro h' tkk bs' ms' ⟨⟨tp, rfl⟩, us, vs, rfl, hu, hv⟩ S₉
      dsimp only
      have hm1 : tas.getD 0 0 ∈ tas := getD_mem (by omega)
      have hT0 : T.getD 0 [] = c (tas.getD 0 0) := by
        subst hT
        cases tas with
        | nil => simp at hlen; omega
        | cons _ _ => simp
      rw [hring q hq] at S₉
      repeat walk_at "m"
      have e0 : (((q : Nat) : Int) != ((q : Nat) : Int)) = false := by simp
      rw [e0]
      repeat walk_at "m"
      refine Call_ (ev_blt hG (stays_trans hGB S₉.keep) (by simp) boot_tuple ?_)
      refine PyProof.Rows.callWith_type1 ?_
      repeat walk_at "m"
      have hul : us.length = r := by rw [intsAre_len hu]; simp [readOf]
      refine tup_of (S₉.isList (by walk_at "mem")) (by omega) fun hA1 t1 k1 _ ht1 => ?_
      have SA1 := S₉.grow k1
      repeat walk_at "m"
      refine mul_t (xs := readOf n T q r) ⟨us, ht1, hu⟩ (by simp [readOf]; omega) (by omega) (by simp [readOf, hrg]; omega) (by omega) fun hA2 t2 k2 ht2 => ?_
      rw [hread q hq, hT0] at ht2
      have SA2 := SA1.grow k2
      repeat walk_at "m"
      refine it_list (ht.keeps SA2.keep) (by omega) (by omega) (by exact refs_get (k := 0) (by omega)) ?_
      refine ne_tup ht2 ((hc _ hm1).keeps SA2.keep) (by have := hA.un; omega) ?_
      have e1 : decide (c (tas.getD 0 0) ≠ c (tas.getD 0 0)) = false := by simp
      have e2 : decide (c (tas.getD 0 0) ≠ c (tas.getD (Int.toNat 0) 0)) = false := by simp
      first | rw [e1] | rw [e2]
      repeat walk_at "m"
      refine ⟨hA2, _, _, _, rfl, ⟨rfl, vs, rfl, ?_⟩, SA2.sub (by walk_at "sub") ?_⟩
      · rw [metOf_succ]; exact hv
      · exact .cons _ (List.Sublist.refl _)
    case step2 =>
      rintro j I2 bs' ms' h₉ tk₉ tk₉' hj ⟨⟨tp, rfl⟩, us, vs, rfl, hu, hv⟩ S₉
      simp only [putB, ofString_inj, String.reduceEq, reduceIte] at S₉
      generalize RI ((0 : Int) + (j : Int) * 1 + 1) (((r : Nat) : Int) - j - 1) 1 = IP2 at S₉ ⊢
      have hp1 := hplc q j (by omega)
      have hp2 := hplc q (j + 1) (by omega)
      repeat walk_at "m"
      refine it_s (ISeq.list (hw.keeps S₉.keep)) (by omega) (by omega) (by simp [hwl]; omega) fun t₁ => ?_
      rw [Int.toNat_natCast, nats_getD]
      rw [show (wayOf n T).getD (plc (wayOf n T) q j) 0 = plc (wayOf n T) q (j + 1) from rfl]
      iterate 3 walk_at "m"
      rename_i hA1 SA1
      refine meth_list (l := ra) (items := us) slot_list_append PySem.F.type_list_append ?_
      walk_at "m"
      refine ⟨rfl, SA1.get (.tail _ (.head _)), ?_⟩
      refine callWith_method1 ?_
      repeat walk_at "m"
      refine it_s (ISeq.list (hla.keeps SA1.keep)) (by omega) (by omega) (by simp; omega) fun t₂ => ?_
      rw [Int.toNat_natCast, lasts_getD hp2]
      repeat walk_at "m"
      have hul : us.length = j := by rw [intsAre_len hu]; simp [readOf]
      refine append_list SA1 1 rfl (by omega) fun hA2 SA2 => ?_
      dsimp only [List.set] at SA2 ⊢
      iterate 2 walk_at "m"
      refine meth_list (l := ma) (items := vs) slot_list_append PySem.F.type_list_append ?_
      walk_at "m"
      refine ⟨rfl, SA2.get (.tail _ (.tail _ (.tail _ (.head _)))), ?_⟩
      refine callWith_method1 ?_
      repeat walk_at "m"
      have hvl : vs.length ≤ 2 ^ 20 := by
        have := intsAre_len hv
        rw [this]
        have hml : (metOf n T r g).length = n := by simpa using hmet.length_eq
        have : (metOf n T r (q + 1)).length ≤ (metOf n T r g).length := by
          unfold metOf
          simp only [List.length_flatMap, List.length_map, List.length_range]
          have e1 : ∀ k, ((List.range k).map fun _ => r).sum = k * r := by
            intro k; induction k with
            | zero => simp
            | succ k ih => rw [List.range_succ, List.map_append, List.sum_append, ih]; simp [Nat.add_mul]
          rw [e1, e1]; exact Nat.mul_le_mul_right _ hq
        rw [metOf_succ] at this
        simp only [nats, List.length_map, List.length_append, List.length_range] at this ⊢
        omega
      refine append_list SA2 3 rfl (by omega) fun hA3 SA3 => ?_
      dsimp only [List.set] at SA3 ⊢
      repeat walk_at "m"
      refine ⟨hA3, _, _, _, rfl, ⟨⟨_, rfl⟩, _, _, rfl, ?_, ?_⟩, SA3.sub (by walk_at "sub") (List.Sublist.refl _)⟩
      · rw [readOf_succ]; exact intsAre_append hu (.cons _ _ .nil)
      · rw [List.range_succ, List.map_append, ← List.append_assoc]
        rw [show nats (metOf n T r q ++ (List.range j).map (fun i => plc (wayOf n T) q (i + 1)) ++ [j].map (fun i => plc (wayOf n T) q (i + 1))) = nats (metOf n T r q ++ (List.range j).map (fun i => plc (wayOf n T) q (i + 1))) ++ [((plc (wayOf n T) q (j + 1) : Nat) : Int)] by simp [nats]]
        exact intsAre_append hv (.cons _ _ .nil)
end Mine
end

/-! # MLawC -/
section
open PySem PySem.W PyProof.Rows PySem.Calls
set_option linter.unusedVariables false
set_option maxRecDepth 100000
namespace Mine
local macro_rules | `(tactic| walk_at "mem") => `(tactic| with_reducible repeat (first | exact List.mem_cons_self | refine List.mem_cons_of_mem _ ?_))
local macro_rules | `(tactic| walk_at "put") => `(tactic| (intro h' S'; simp only [putB, ofString_inj, String.reduceEq, reduceIte, List.filter, ne_eq, not_true_eq_false, not_false_eq_true, decide_true, decide_false, Bool.not_true, Bool.not_false] at S'; try dsimp only))
local macro_rules | `(tactic| walk_at "sub") => `(tactic| repeat (first | exact sub_nil | refine sub_cons (by walk_at "mem") ?_))
/- one step -/
local macro_rules | `(tactic| walk_at "m") => `(tactic| first
  | ((with_reducible show wpAny _ _ (eval (Expr.Name _ _) _) _ _ _); refine ev_loc (by assumption) (by walk_at "mem") ?_)
  | ((with_reducible show wpAny _ _ (eval (Expr.Name _ _) (envOfC _ _ _ _ _)) _ _ _); refine ev_cell (by rfl) (by assumption) (by walk_at "mem") ?_)
  | (with_reducible refine wpAny_Constant_int ?_)
  | (with_reducible refine wpAny_execs_nil ?_; try dsimp only)
  | (with_reducible refine wpAny_execs_cons ?_)
  | ((with_reducible show wpAny _ _ (exec (Stmt.Assign [Expr.Name _ _] _ _) _) _ _ _); refine wpAny_Assign_Name ?_)
  | ((with_reducible show wpAny _ _ (exec (Stmt.Assign [Expr.Subscript _ _ _] _ _) _) _ _ _); refine wpAny_Assign_Subscript ?_)
  | (with_reducible refine wpAny_Return_some ?_)
  | (with_reducible refine wpAny_If ?_)
  | (with_reducible refine wpAny_Break ?_; try dsimp only)
  | (with_reducible refine wpAny_Continue ?_; try dsimp only)
  | (with_reducible refine Subscript_ ?_)
  | (with_reducible refine wpAny_BinOp ?_)
  | ((with_reducible show wpAny _ _ (isTrue (Expr.Compare _ [_] [_] _) _ _) _ _ _); refine wpAny_isTrue_Compare1 ?_)
  | ((with_reducible show wpAny _ _ (eval (Expr.Compare _ [_] [_] _) _) _ _ _); refine wpAny_Compare1 ?_)
  | (with_reducible refine PyProof.Rows.isTrue_not ?_)
  | (with_reducible refine PyProof.Rows.isTrue_and_nil ?_)
  | (with_reducible refine PyProof.Rows.isTrue_and ?_)
  | (with_reducible refine PyProof.Rows.isTrue_or_nil ?_)
  | (with_reducible refine PyProof.Rows.isTrue_or ?_)
  | (with_reducible refine wpAny_truthy_bool ?_)
  | ((with_reducible show wpAny _ _ (exec (Stmt.Expr _ _) _) _ _ _); refine wpAny_Expr_any ?_)
  | ((with_reducible show wpAny _ _ (eval (Expr.IfExp _ _ _ _) _) _ _ _); refine wpAny_IfExp ?_)
  | ((with_reducible show wpAny _ _ (binaryOp Operator.Mult (Value.int _ _) (Value.int _ _)) _ _ _); refine PyProof.Rows.mul_int ?_ (by mul_fits))
  | ((with_reducible show wpAny _ _ (spliced (backTo _ (starEach [] _))) _ _ _); refine args_nil ?_)
  | ((with_reducible show wpAny _ _ (spliced (backTo _ (starEach (_ :: _) _))) _ _ _); refine args_cons ?_)
  | ((with_reducible show wpAny _ _ (eval (Expr.UnaryOp UnaryOp.USub _ _) _) _ _ _); refine PyProof.Rows.UnaryOp_ ?_)
  | (with_reducible refine PyProof.Rows.neg_int ?_)
  | (with_reducible refine PyProof.Rows.sub_int ?_)
  | (with_reducible refine PyProof.Rows.add_int ?_)
  | (with_reducible refine PyProof.Rows.lt_int ?_)
  | (with_reducible refine PyProof.Rows.gt_int ?_)
  | (with_reducible refine PyProof.Rows.eq_int ?_)
  | (with_reducible refine PyProof.Rows.ne_int ?_)
  | (with_reducible refine ite_t ?_)
  | (with_reducible refine ite_f ?_)
  | ((with_reducible show wpAny _ _ (storeName _ _ _) _ _ _); refine st_loc (by assumption) ?_; walk_at "put"))

/-- some of the ledger's objects become the base's -/
theorem St.freeze {B h : Heap} {L : Addr} {bs : List (Str × Value)} {ms₀ ms : List (Addr × OP)} (S : St B L h bs (ms₀ ++ ms)) :
    St (hideAll h (L :: ms.map (·.1))) L h bs ms ∧ (∀ p ∈ ms₀, ∃ o, (hideAll h (L :: ms.map (·.1))).get? p.1 = some o ∧ p.2 o) ∧ B.StaysIn (hideAll h (L :: ms.map (·.1))) := by
  have S' : St B L h bs ms := S.sub (fun _ h => h) (List.sublist_append_right _ _)
  refine ⟨S'.rebase, fun p hp => ?_, S'.base_stays⟩
  obtain ⟨h1, h2, o, h3, h4⟩ := S.mu p (List.mem_append_left _ hp)
  refine ⟨o, hideAll_get _ h3 fun q => ?_, h4⟩
  rcases List.mem_cons.mp q with q | q
  · exact h1 q
  · obtain ⟨p', hp', q⟩ := List.mem_map.mp q
    have nd := S.nd
    rw [List.map_append, List.nodup_append] at nd
    exact nd.2.2 _ (List.mem_map.mpr ⟨p, hp, rfl⟩) _ (List.mem_map.mpr ⟨p', hp', q⟩) rfl

theorem T_getD {tas : List Nat} {c : Nat → List Int} {k : Nat} (h : k < tas.length) : (tas.map c).getD k [] = c (tas.getD k 0) := by
  simp [List.getD_eq_getElem?_getD, h]
theorem IList.of {h : Heap} {a : Addr} {vs : List Value} {xs : List Int} (x : ∃ o, h.get? a = some o ∧ LP vs o) (hi : IntsAre vs xs) : IList h a xs := ⟨vs, LP.isList x, hi⟩

set_option maxHeartbeats 16000000 in
theorem law_C {prog : Program} {w : World} {A : Around} {s : Shared} {G B : Heap} {L a : Addr} {cd : Value} {Q : Flow → Shared → Prop} {ta : Addr} {tas : List Nat} {c : Nat → List Int} {n r g : Nat} {tr ts tg : Tok} {T : List (List Int)}
    (hA : Ok A 6) (hG : Gl G) (hGB : G.StaysIn B)
    (S : St B L s.heap [("turns", .ref ta), ("rings", .int (g : Nat) tg)] [(L + 1, CP (some (.int (n : Nat) ts))), (L + 2, CP (some (.int (r : Nat) tr))), (L + 4, CP none)])
    (ht : VList B ta (refs tas)) (hc : ∀ a ∈ tas, ITup B a (c a)) (hlen : tas.length = n) (hn0 : 0 < n) (hn : n < 64) (hcl : ∀ a ∈ tas, (c a).length = n) (hr0 : 0 < r) (hrn : r ≤ n) (hT : T = tas.map c)
    (hwl : (wayOf n T).length = n) (hwlt : ∀ k, k < n → (wayOf n T).getD k 0 < n) (hg0 : 0 < g) (hgn : g ≤ n) (hrg : r * g = n)
    (hway : ∀ k, k < n → T.getD ((wayOf n T).getD k 0) [] = (T.getD k []).drop 1 ++ (T.getD k []).take 1)
    (hring : ∀ q, q < g → plc (wayOf n T) q r = q) (hread : ∀ q, q < g → (List.replicate g (readOf n T q r)).flatten = T.getD 0 [])
    (hmet : (metOf n T r g).Perm (List.range n))
    (h1 : ∀ t, MBd ((c (tas.getD 0 0)).take r) r t → t = 0) (h2 : ∀ t, MBd ((c (tas.getD (n - 1) 0)).take r) r t → t = 0)
    (hQ : ∀ h' tk, B.StaysIn h' → Q (.ret (.bool true)) { s with heap := h', toks := tk }) :
    wpAny (model prog w) A (execs (dLaw.body.drop 11) (lawEnv L a cd)) Q NoE s := by
  have hsl : (2 : Nat) ^ 20 ≤ sizeLine := by decide
  have hTl : ∀ k, k < n → T.getD k [] = c (tas.getD k 0) := fun k hk => by rw [hT]; exact T_getD (by omega)
  refine wpAny_execs_cons ?_
  walk_at "m"
  refine lc_plain (cl := []) rfl rfl (by decide) ?_
  walk_at "m"
  refine iter_list S (ht.keeps S.keep) fun h₂ it S₂ k₂ => ?_
  have hin := inner_stays (ms₀ := [(it, LI ta 0)]) S₂
  refine comp_plain (P := fun i => LI ta i) (ms₁ := []) S₂ (it_listI hA.hd (ht.keeps hin)) (by simp; omega) (by decide) rfl rfl
    (fun i acc msI => msI = [] ∧ IntsAre acc ((List.range i).map (lastOf n T))) ⟨rfl, .nil⟩ ?step ?fin
  case step =>
    rintro C D i v acc msI h tk hi hv ⟨rfl, hacc⟩ hal S₃
    have hi' : i < tas.length := by simpa using hi
    rw [refs_get hi'] at hv
    cases hv
    have hm : tas.getD i 0 ∈ tas := getD_mem hi'
    repeat walk_at "m"
    refine tt_neg (((hc _ hm).keeps hin).keeps S₃.keep) (by rw [hcl _ hm]; omega) (by rw [hcl _ hm]; omega) fun t => ?_
    refine ⟨_, _, _, _, rfl, ⟨rfl, ?_⟩, S₃⟩
    rw [List.range_succ, List.map_append]
    refine intsAre_append hacc ?_
    have e : (c (tas.getD i 0)).getD ((c (tas.getD i 0)).length - 1) 0 = lastOf n T i := by
      unfold lastOf; rw [hTl i (by omega), hcl _ hm]
    rw [e]; exact .cons _ _ .nil
  case fin =>
    rintro la h₃ tk acc msF ⟨rfl, hacc⟩ _ hla k₃ S₃
    rw [show (refs tas).length = n by simp [hlen]] at hacc
    refine st_cell S₃ 3 rfl fun h₄ S₄ => ?_
    dsimp only [List.set] at S₄ ⊢
    walk_at "m"
    refine lc_used (cl := ([("size", L + 1), ("last", L + 4)] : List (Str × Addr))) rfl rfl (by decide) ?_
    refine Call_ (ev_blt hG (stays_trans hGB S₄.keep) (by simp) boot_range ?_)
    refine PyProof.Rows.callWith_type1 ?_
    repeat walk_at "m"
    refine rng1 fun h₅ r₅ _ _ _ _ k₅ hr₅ => ?_
    have S₅ := S₄.grow k₅
    refine iter_rng (n := 3) S₅ hr₅ (by omega) fun h₆ it S₆ k₆ => ?_
    have hin6 := inner_stays (ms₀ := [(it, RI (0 + (0 : Nat) * 1) (((3 : Nat) : Int) - (0 : Nat)) 1)]) S₆
    have hsize := inner_get (ms₀ := [(it, RI (0 + (0 : Nat) * 1) (((3 : Nat) : Int) - (0 : Nat)) 1)]) S₆ (p := (L + 1, CP (some (.int (n : Nat) ts)))) (.tail _ (.head _))
    have hlast := inner_get (ms₀ := [(it, RI (0 + (0 : Nat) * 1) (((3 : Nat) : Int) - (0 : Nat)) 1)]) S₆ (p := (L + 4, CP (some (.ref la)))) (.tail _ (.tail _ (.tail _ (.head _))))
    have hlal := IList.of (inner_get (ms₀ := [(it, RI (0 + (0 : Nat) * 1) (((3 : Nat) : Int) - (0 : Nat)) 1)]) S₆ (p := (la, LP acc)) (.head _)) hacc
    refine comp_block (ms₀ := [(it, RI (0 + (0 : Nat) * 1) (((3 : Nat) : Int) - (0 : Nat)) 1)]) S₆ (by decide) rfl (fun hp q => (it_range (B := B) (n := 3) (a := 0) (c := 1) hA.hd).self (i := 0) (hp _ (.head _)) q) fun D C h₇ tk₇ S₇ hfD hfC hDC => ?_
    refine comp_loop2 (n := 3) (m := n) (bs := []) (fun i k => decide (lastOf n T k = (i : Int))) hA.hd (by omega) (by omega) (by omega) (S₇.perm (List.Perm.swap ..)) ?hI ?hC ?fin2 (fun _ => rfl) (by rw [Ne, ofString_inj]; decide) rfl rfl rfl rfl (by decide)
    case hI =>
      intro i t acc' IP h tk hi S₈
      refine Call_ (ev_blt hG (stays_trans hGB (stays_trans hin6 S₈.keep)) (by simp) boot_range ?_)
      refine PyProof.Rows.callWith_type1 ?_
      walk_at "m"
      refine ev_cellB S₈.keep hsize ?_
      repeat walk_at "m"
      refine rng1 fun h₉ r₉ _ _ _ _ k₉ hr₉ => ?_
      exact ⟨h₉, _, r₉, _, _, _, rfl, rfl, k₉, hr₉⟩
    case hC =>
      intro i k t t' acc' it1 IP IP1 h tk hi hk S₈
      iterate 2 walk_at "m"
      refine ev_cellB S₈.keep hlast ?_
      repeat walk_at "m"
      refine it_s (ISeq.list (hlal.keeps S₈.keep)) (by omega) (by omega) (by simp; omega) fun t₂ => ?_
      rw [Int.toNat_natCast, lasts_getD hk]
      repeat walk_at "m"
      exact ⟨_, _, rfl, fun _ _ e => e, rfl⟩
    case fin2 =>
      intro h₈ tk₈ bs₈ acc₈ hacc₈ S₈
      change IntsAre acc₈ (nats (wayOf n T)) at hacc₈
      refine used_end (s := { s with heap := h₆, toks := tk₇ }) (ms₁ := []) S₆ hfD hfC S₈ (fun h₉ tk₉ S₉ => ?_)
      dsimp only
      simp only [putB, ofString_inj, String.reduceEq, reduceIte] at S₉
      -- the lists last and way are frozen
      obtain ⟨S₁₀, hfr, hBB⟩ := St.freeze (ms₀ := [(D, LP acc₈), (la, LP acc)]) S₉
      have hwB := IList.of (hfr _ (.head _)) hacc₈
      have hlB := IList.of (hfr _ (.tail _ (.head _))) hacc
      have htB := ht.keeps hBB
      have hcB : ∀ a ∈ tas, ITup _ a (c a) := fun a ha => (hc a ha).keeps hBB
      have hGB' := stays_trans hGB hBB
      generalize hideAll h₉ (L :: List.map (fun x => x.fst) [(L + 1, CP (some (.int (n : Nat) ts))), (L + 2, CP (some (.int (r : Nat) tr))), (L + 4, CP (some (.ref la)))]) = B' at S₁₀ hwB hlB htB hcB hGB' hBB
      walk_at "m"
      refine wpAny_For ?_
      refine Call_ (ev_blt hG (stays_trans hGB' S₁₀.keep) (by simp) boot_range ?_)
      refine PyProof.Rows.callWith_type1 ?_
      repeat walk_at "m"
      refine rng1 fun h₁₁ r₁₁ _ _ _ _ k₁₁ hr₁₁ => ?_
      have S₁₁ := S₁₀.grow k₁₁
      refine for_range n S₁₁ hr₁₁ (range_small (by omega) (by omega) (by omega) (by omega) (by omega) (by omega)) (by rw [rangeSize_1 (by omega)]; omega)
        (fun q bs ms => bs = ([("turns", .ref ta), ("rings", .int (g : Nat) tg), ("way", .ref D)] : List (Str × Value)) ∧ ms = [(L + 1, CP (some (.int (n : Nat) ts))), (L + 2, CP (some (.int (r : Nat) tr))), (L + 4, CP (some (.ref la)))])
        ⟨rfl, rfl⟩ ?step3 ?fin3 hA.hd
      case fin3 =>
        rintro h' tk' bs' ms' ⟨rfl, rfl⟩ S'
        dsimp only
        have SD := S'.sub (bs' := [("turns", .ref ta), ("way", .ref D), ("rings", .int (g : Nat) tg)]) (by walk_at "sub") (List.Sublist.refl _)
        with_reducible show wpAny _ _ (execs _ _) _ _ _
        exact law_D (s := { s with heap := h', toks := tk' }) hA hG hGB' SD htB hcB hlen hn0 hn hcl hr0 hrn hT hwB hlB hwl hwlt hg0 hgn hrg hring hread hmet h1 h2 (fun h'' tk'' k => hQ h'' tk'' (stays_trans hBB k))
      case step3 =>
        rintro q I bs' ms' h' tk' tk'' hq ⟨rfl, rfl⟩ S'
        simp only [putB, ofString_inj, String.reduceEq, reduceIte] at S'
        generalize RI ((0 : Int) + (q : Int) * 1 + 1) (((n : Nat) : Int) - q - 1) 1 = IP at S' ⊢
        have eq' : (0 : Int) + q * 1 = ((q : Nat) : Int) := by omega
        rw [eq'] at S'
        have hwq := hwlt q hq
        have hm1 : tas.getD q 0 ∈ tas := getD_mem (by omega)
        have hm2 : tas.getD ((wayOf n T).getD q 0) 0 ∈ tas := getD_mem (by omega)
        have hwy := hway q hq
        rw [hTl q hq, hTl _ hwq] at hwy
        repeat walk_at "m"
        refine it_s (ISeq.list (hwB.keeps S'.keep)) (by omega) (by omega) (by simp; omega) fun t₁ => ?_
        rw [Int.toNat_natCast, nats_getD]
        refine it_list (x := .ref (tas.getD ((wayOf n T).getD q 0) 0)) (htB.keeps S'.keep) (by omega) (by omega) (by rw [Int.toNat_natCast]; exact refs_get (by omega)) ?_
        repeat walk_at "m"
        refine it_list (x := .ref (tas.getD q 0)) (htB.keeps S'.keep) (by omega) (by omega) (by rw [Int.toNat_natCast]; exact refs_get (by omega)) ?_
        refine sl_some_none ?_
        walk_at "m"
        intro hA1 sl1 kA1 hsl1
        have SA1 := S'.grow kA1
        refine ts_from (a := 1) (((hcB _ hm1)).keeps SA1.keep) hsl1 (by omega) (by rw [hcl _ hm1]; omega) (by rw [hcl _ hm1]; omega) fun hA2 rA2 kA2 htA2 => ?_
        have SA2 := SA1.grow kA2
        repeat walk_at "m"
        refine it_list (x := .ref (tas.getD q 0)) (htB.keeps SA2.keep) (by omega) (by omega) (by rw [Int.toNat_natCast]; exact refs_get (by omega)) ?_
        refine sl_none_some ?_
        walk_at "m"
        intro hA3 sl3 kA3 hsl3
        have SA3 := SA2.grow kA3
        refine ts_upto (b := 1) ((hcB _ hm1).keeps SA3.keep) hsl3 (by rw [hcl _ hm1]; omega) fun hA4 rA4 kA4 htA4 => ?_
        have SA4 := SA3.grow kA4
        refine add_t (htA2.keeps (stays_trans kA3 kA4)) htA4 (by simp only [List.length_drop, List.length_take, hcl _ hm1]; omega) fun hA5 rA5 kA5 htA5 => ?_
        have SA5 := SA4.grow kA5
        refine ne_tup ((hcB _ hm2).keeps SA5.keep) htA5 (by have := hA.un; omega) ?_
        rw [hwy]
        have e1 : decide (List.drop 1 (c (tas.getD q 0)) ++ List.take 1 (c (tas.getD q 0)) ≠ List.drop 1 (c (tas.getD q 0)) ++ List.take 1 (c (tas.getD q 0))) = false := by simp
        rw [e1]
        repeat walk_at "m"
        exact ⟨hA5, _, _, _, rfl, ⟨rfl, rfl⟩, SA5.sub (by walk_at "sub") (List.Sublist.refl _)⟩
end Mine
end

/-! # MLawB -/
section
open PySem PySem.W PyProof.Rows PySem.Calls
set_option linter.unusedVariables false
set_option maxRecDepth 100000
namespace Mine
local macro_rules | `(tactic| walk_at "mem") => `(tactic| with_reducible repeat (first | exact List.mem_cons_self | refine List.mem_cons_of_mem _ ?_))
local macro_rules | `(tactic| walk_at "put") => `(tactic| (intro h' S'; simp only [putB, ofString_inj, String.reduceEq, reduceIte, List.filter, ne_eq, not_true_eq_false, not_false_eq_true, decide_true, decide_false, Bool.not_true, Bool.not_false] at S'; try dsimp only))
local macro_rules | `(tactic| walk_at "sub") => `(tactic| repeat (first | exact sub_nil | refine sub_cons (by walk_at "mem") ?_))
/- one step -/
local macro_rules | `(tactic| walk_at "m") => `(tactic| first
  | ((with_reducible show wpAny _ _ (eval (Expr.Name _ _) _) _ _ _); refine ev_loc (by assumption) (by walk_at "mem") ?_)
  | ((with_reducible show wpAny _ _ (eval (Expr.Name _ _) (envOfC _ _ _ _ _)) _ _ _); refine ev_cell (by rfl) (by assumption) (by walk_at "mem") ?_)
  | (with_reducible refine wpAny_Constant_int ?_)
  | (with_reducible refine wpAny_execs_nil ?_; try dsimp only)
  | (with_reducible refine wpAny_execs_cons ?_)
  | ((with_reducible show wpAny _ _ (exec (Stmt.Assign [Expr.Name _ _] _ _) _) _ _ _); refine wpAny_Assign_Name ?_)
  | ((with_reducible show wpAny _ _ (exec (Stmt.Assign [Expr.Subscript _ _ _] _ _) _) _ _ _); refine wpAny_Assign_Subscript ?_)
  | (with_reducible refine wpAny_Return_some ?_)
  | (with_reducible refine wpAny_If ?_)
  | (with_reducible refine wpAny_Break ?_; try dsimp only)
  | (with_reducible refine wpAny_Continue ?_; try dsimp only)
  | (with_reducible refine Subscript_ ?_)
  | (with_reducible refine wpAny_BinOp ?_)
  | ((with_reducible show wpAny _ _ (isTrue (Expr.Compare _ [_] [_] _) _ _) _ _ _); refine wpAny_isTrue_Compare1 ?_)
  | ((with_reducible show wpAny _ _ (eval (Expr.Compare _ [_] [_] _) _) _ _ _); refine wpAny_Compare1 ?_)
  | (with_reducible refine PyProof.Rows.isTrue_not ?_)
  | (with_reducible refine PyProof.Rows.isTrue_and_nil ?_)
  | (with_reducible refine PyProof.Rows.isTrue_and ?_)
  | (with_reducible refine PyProof.Rows.isTrue_or_nil ?_)
  | (with_reducible refine PyProof.Rows.isTrue_or ?_)
  | (with_reducible refine wpAny_truthy_bool ?_)
  | ((with_reducible show wpAny _ _ (exec (Stmt.Expr _ _) _) _ _ _); refine wpAny_Expr_any ?_)
  | ((with_reducible show wpAny _ _ (eval (Expr.IfExp _ _ _ _) _) _ _ _); refine wpAny_IfExp ?_)
  | ((with_reducible show wpAny _ _ (binaryOp Operator.Mult (Value.int _ _) (Value.int _ _)) _ _ _); refine PyProof.Rows.mul_int ?_ (by mul_fits))
  | ((with_reducible show wpAny _ _ (spliced (backTo _ (starEach [] _))) _ _ _); refine args_nil ?_)
  | ((with_reducible show wpAny _ _ (spliced (backTo _ (starEach (_ :: _) _))) _ _ _); refine args_cons ?_)
  | ((with_reducible show wpAny _ _ (eval (Expr.UnaryOp UnaryOp.USub _ _) _) _ _ _); refine PyProof.Rows.UnaryOp_ ?_)
  | (with_reducible refine PyProof.Rows.neg_int ?_)
  | (with_reducible refine PyProof.Rows.sub_int ?_)
  | (with_reducible refine PyProof.Rows.add_int ?_)
  | (with_reducible refine PyProof.Rows.lt_int ?_)
  | (with_reducible refine PyProof.Rows.gt_int ?_)
  | (with_reducible refine PyProof.Rows.eq_int ?_)
  | (with_reducible refine PyProof.Rows.ne_int ?_)
  | (with_reducible refine ite_t ?_)
  | (with_reducible refine ite_f ?_)
  | ((with_reducible show wpAny _ _ (storeName _ _ _) _ _ _); refine st_loc (by assumption) ?_; walk_at "put"))

theorem fmod_nat (a b : Nat) : ((a : Nat) : Int).fmod ((b : Nat) : Int) = ((a % b : Nat) : Int) := by
  rw [Int.fmod_eq_emod_of_nonneg _ (by omega)]; norm_cast
theorem fdiv_nat (a b : Nat) : ((a : Nat) : Int).fdiv ((b : Nat) : Int) = ((a / b : Nat) : Int) := by
  rw [Int.fdiv_eq_ediv_of_nonneg _ (by omega)]; norm_cast

set_option maxHeartbeats 16000000 in
theorem law_B {prog : Program} {w : World} {A : Around} {s : Shared} {G B : Heap} {L a : Addr} {cd : Value} {Q : Flow → Shared → Prop} {ta ra : Addr} {tas : List Nat} {c : Nat → List Int} {n r : Nat} {tr ts tg : Tok} {row : List Int}
    (hA : Ok A 6) (hG : Gl G) (hGB : G.StaysIn B)
    (S : St B L s.heap [("row", .ref ra), ("turns", .ref ta), ("rings", .int (n / r : Nat) tg)] [(L + 1, CP (some (.int (n : Nat) ts))), (L + 2, CP (some (.int (r : Nat) tr))), (L + 4, CP none)])
    (hrow : IList B ra row) (hrl : row.length = n)
    (ht : VList B ta (refs tas)) (hc : ∀ a ∈ tas, ITup B a (c a)) (hlen : tas.length = n) (hn0 : 0 < n) (hn : n < 64) (hcl : ∀ a ∈ tas, (c a).length = n)
    (P : PC row r (tas.map c))
    (hQ : ∀ h' tk, B.StaysIn h' → Q (.ret (.bool true)) { s with heap := h', toks := tk }) :
    wpAny (model prog w) A (execs (dLaw.body.drop 8) (lawEnv L a cd)) Q NoE s := by
  have hsl : (2 : Nat) ^ 20 ≤ sizeLine := by decide
  have hTl : ∀ k, k < n → (tas.map c).getD k [] = c (tas.getD k 0) := fun k hk => T_getD (by omega)
  obtain ⟨pos, dvd, has, plt, peq, proot, wlen, wlt, way, ring, read, met, first, last⟩ := P
  rw [hrl] at dvd plt peq proot wlen wlt way ring read met last
  have hg0 : 0 < n / r := by
    rcases Nat.eq_zero_or_pos (n / r) with h | h
    · rw [h, Nat.mul_zero] at dvd; omega
    · exact h
  have hgn : n / r ≤ n := Nat.div_le_self _ _
  have hrn : r ≤ n := by rw [← dvd]; exact Nat.le_mul_of_pos_right _ hg0
  generalize hg : n / r = g at *
  refine wpAny_execs_cons ?_
  iterate 2 walk_at "m"
  refine Call_ (ev_blt hG (stays_trans hGB S.keep) (by simp) boot_tuple ?_)
  refine PyProof.Rows.callWith_type1 ?_
  repeat walk_at "m"
  obtain ⟨vr, hvr, hir⟩ := id hrow
  have hvl := intsAre_len hir
  refine tup_of (VList.keeps hvr S.keep) (by omega) fun h₂ t₂ k₂ _ ht₂ => ?_
  have S₂ := S.grow k₂
  repeat walk_at "m"
  refine notIn_tups (ht.keeps S₂.keep) (fun a ha => (hc a ha).keeps S₂.keep) ⟨vr, ht₂, hir⟩ (by have := hA.un; omega) ?_
  have e1 : (!tas.any fun a => decide (c a = row)) = false := by
    obtain ⟨a', ha', e'⟩ := List.mem_map.mp has
    simp only [Bool.not_eq_false', List.any_eq_true, decide_eq_true_eq]
    exact ⟨a', ha', e'⟩
  rw [e1]
  iterate 4 walk_at "m"
  -- the groups
  refine wpAny_For ?_
  refine Call_ (ev_blt hG (stays_trans hGB S₂.keep) (by simp) boot_range ?_)
  refine PyProof.Rows.callWith_type1 ?_
  repeat walk_at "m"
  refine rng2 fun h₃ r₃ _ _ _ _ k₃ hr₃ => ?_
  have S₃ := S₂.grow k₃
  refine for_range (n - 1) S₃ hr₃ (range_small (by omega) (by omega) (by omega) (by omega) (by omega) (by omega)) (by rw [rangeSize_1 (by omega)]; omega)
    (fun q bs ms => bs = ([("row", .ref ra), ("turns", .ref ta), ("rings", .int (g : Nat) tg)] : List (Str × Value)) ∧ ms = [(L + 1, CP (some (.int (n : Nat) ts))), (L + 2, CP (some (.int (r : Nat) tr))), (L + 4, CP none)])
    ⟨rfl, rfl⟩ ?step ?fin hA.hd
  case step =>
    rintro q I bs' ms' h' tk' tk'' hq ⟨rfl, rfl⟩ S'
    simp only [putB, ofString_inj, String.reduceEq, reduceIte] at S'
    generalize RI ((1 : Int) + (q : Int) * 1 + 1) (((n - 1 : Nat) : Int) - q - 1) 1 = IP at S' ⊢
    have eq' : (1 : Int) + q * 1 = ((q + 1 : Nat) : Int) := by omega
    rw [eq'] at S'
    have hm1 : tas.getD q 0 ∈ tas := getD_mem (by omega)
    have hm2 : tas.getD (q + 1) 0 ∈ tas := getD_mem (by omega)
    have hlt := plt (q + 1) (by omega) (by omega)
    have heq := peq (q + 1) (by omega) (by omega)
    rw [Nat.add_sub_cancel, hTl q (by omega), hTl (q + 1) (by omega)] at hlt heq
    repeat walk_at "m"
    refine mod_int (by omega) ?_
    rw [fmod_nat]
    repeat walk_at "m"
    by_cases hz : (q + 1) % g = 0
    · have e1 : ((((q + 1) % g : Nat) : Int) == 0) = true := by rw [hz]; rfl
      have e2 : ((((q + 1) % g : Nat) : Int) != 0) = false := by rw [hz]; rfl
      rw [e1]
      repeat walk_at "m"
      refine it_list (x := .ref (tas.getD q 0)) (ht.keeps S'.keep) (by omega) (by omega) (by rw [← refs_get (show q < tas.length by omega)]; congr 1; omega) ?_
      repeat walk_at "m"
      refine it_list (x := .ref (tas.getD (q + 1) 0)) (ht.keeps S'.keep) (by omega) (by omega) (by rw [Int.toNat_natCast]; exact refs_get (by omega)) ?_
      refine lt_tup ((hc _ hm1).keeps S'.keep) ((hc _ hm2).keeps S'.keep) (by have := hA.un; omega) ?_
      rw [hlt hz]
      repeat walk_at "m"
      rw [show (!true) = false from rfl]
      repeat walk_at "m"
      refine mod_int (by omega) ?_
      rw [fmod_nat]
      repeat walk_at "m"
      rw [e2]
      repeat walk_at "m"
      exact ⟨h', _, _, _, rfl, ⟨rfl, rfl⟩, S'.sub (by walk_at "sub") (List.Sublist.refl _)⟩
    · have e1 : ((((q + 1) % g : Nat) : Int) == 0) = false := by rw [beq_eq_false_iff_ne]; omega
      have e2 : ((((q + 1) % g : Nat) : Int) != 0) = true := by rw [bne_iff_ne]; omega
      rw [e1]
      repeat walk_at "m"
      refine mod_int (by omega) ?_
      rw [fmod_nat]
      repeat walk_at "m"
      rw [e2]
      repeat walk_at "m"
      refine it_list (x := .ref (tas.getD q 0)) (ht.keeps S'.keep) (by omega) (by omega) (by rw [← refs_get (show q < tas.length by omega)]; congr 1; omega) ?_
      repeat walk_at "m"
      refine it_list (x := .ref (tas.getD (q + 1) 0)) (ht.keeps S'.keep) (by omega) (by omega) (by rw [Int.toNat_natCast]; exact refs_get (by omega)) ?_
      refine ne_tup ((hc _ hm1).keeps S'.keep) ((hc _ hm2).keeps S'.keep) (by have := hA.un; omega) ?_
      rw [heq hz]
      have e3 : decide (c (tas.getD (q + 1) 0) ≠ c (tas.getD (q + 1) 0)) = false := by simp
      rw [e3]
      repeat walk_at "m"
      exact ⟨h', _, _, _, rfl, ⟨rfl, rfl⟩, S'.sub (by walk_at "sub") (List.Sublist.refl _)⟩
  case fin =>
    rintro h' tk' bs' ms' ⟨rfl, rfl⟩ S'
    dsimp only
    walk_at "m"
    refine wpAny_For ?_
    refine Call_ (ev_blt hG (stays_trans hGB S'.keep) (by simp) boot_range ?_)
    refine PyProof.Rows.callWith_type1 ?_
    repeat walk_at "m"
    refine rng3 (by omega) (PyProof.noPylong_small (by omega)) fun h₄ r₄ _ _ _ _ k₄ hr₄ => ?_
    have S₄ := S'.grow k₄
    have hsize : Builtin.Range.rangeSize 0 (n : Int) (g : Int) = (r : Nat) := by
      unfold Builtin.Range.rangeSize
      rw [if_pos (by omega), if_pos (by omega)]
      have e1 : ((n : Int) - 0 - 1) = ((n - 1 : Nat) : Int) := by omega
      rw [e1]
      have e2 : (n - 1) / g = r - 1 := by
        refine Nat.div_eq_of_lt_le ?_ ?_
        · rw [Nat.sub_mul, Nat.one_mul]; omega
        · rw [show r - 1 + 1 = r by omega, dvd]; omega
      have e3 : ((n - 1 : Nat) : Int) / (g : Int) = (((n - 1) / g : Nat) : Int) := by norm_cast
      rw [e3, e2]; omega
    refine for_range r S₄ hr₄ (range_small (by omega) (by omega) (by omega) (by omega) (by omega) (by omega)) hsize
      (fun q bs ms => bs = ([("row", .ref ra), ("turns", .ref ta), ("rings", .int (g : Nat) tg)] : List (Str × Value)) ∧ ms = [(L + 1, CP (some (.int (n : Nat) ts))), (L + 2, CP (some (.int (r : Nat) tr))), (L + 4, CP none)])
      ⟨rfl, rfl⟩ ?step2 ?fin2 hA.hd
    case fin2 =>
      rintro h' tk' bs' ms' ⟨rfl, rfl⟩ S₅
      dsimp only
      have SC := S₅.sub (bs' := [("turns", .ref ta), ("rings", .int (g : Nat) tg)]) (by walk_at "sub") (List.Sublist.refl _)
      with_reducible show wpAny _ _ (execs _ _) _ _ _
      refine law_C (s := { s with heap := h', toks := tk' }) hA hG hGB SC ht hc hlen hn0 hn hcl pos hrn rfl wlen wlt hg0 hgn dvd way ring read met ?_ ?_ hQ
      · rw [← hTl 0 (by omega)]; exact first
      · rw [← hTl (n - 1) (by omega)]; exact last
    case step2 =>
      rintro q I bs' ms' h' tk' tk'' hq ⟨rfl, rfl⟩ S₅
      simp only [putB, ofString_inj, String.reduceEq, reduceIte] at S₅
      generalize RI ((0 : Int) + (q : Int) * (g : Int) + (g : Int)) (((r : Nat) : Int) - q - 1) (g : Int) = IP at S₅ ⊢
      have eq' : (0 : Int) + (q : Int) * (g : Int) = ((q * g : Nat) : Int) := by rw [Int.zero_add]; norm_cast
      rw [eq'] at S₅
      have hqg : q * g < n := by
        have : (q + 1) * g ≤ r * g := Nat.mul_le_mul_right _ hq
        rw [Nat.add_mul, Nat.one_mul] at this; omega
      have hm1 : tas.getD (q * g) 0 ∈ tas := getD_mem (by omega)
      generalize q * g = p at hqg hm1 S₅
      iterate 2 walk_at "m"
      walk_at "m"
      refine Call_ (ev_def dRoot hG (stays_trans hGB S₅.keep) fun f' hf' => ?_)
      refine call_fn hf' ?_
      repeat walk_at "m"
      refine it_list (x := .ref (tas.getD p 0)) (ht.keeps S₅.keep) (by omega) (by omega) (by rw [Int.toNat_natCast]; exact refs_get (by omega)) ?_
      repeat walk_at "m"
      refine ⟨stays_trans hGB S₅.keep, ?_⟩
      refine root_spec (hA.le (by omega)) hG (stays_trans hGB S₅.keep) hf' (.inl ((hc _ hm1).keeps S₅.keep)) (by rw [hcl _ hm1]; omega) (by rw [hcl _ hm1]; omega) (fun h₆ tk₆ r' t₆ k₆ hr' => ?_)
      have S₆ := S₅.grow k₆
      dsimp only
      have hrr : r' = r := proot p r' hqg (by rw [hTl p hqg]; exact hr')
      subst hrr
      repeat walk_at "m"
      have e3 : (((r' : Nat) : Int) != ((r' : Nat) : Int)) = false := by simp
      rw [e3]
      repeat walk_at "m"
      exact ⟨h₆, _, _, _, rfl, ⟨rfl, rfl⟩, S₆.sub (by walk_at "sub") (List.Sublist.refl _)⟩
end Mine
end

/-! # MLawA -/
section
open PySem PySem.W PyProof.Rows PySem.Calls
set_option linter.unusedVariables false
set_option maxRecDepth 100000
namespace Mine
local macro_rules | `(tactic| walk_at "mem") => `(tactic| with_reducible repeat (first | exact List.mem_cons_self | refine List.mem_cons_of_mem _ ?_))
local macro_rules | `(tactic| walk_at "put") => `(tactic| (intro h' S'; simp only [putB, ofString_inj, String.reduceEq, reduceIte, List.filter, ne_eq, not_true_eq_false, not_false_eq_true, decide_true, decide_false, Bool.not_true, Bool.not_false] at S'; try dsimp only))
local macro_rules | `(tactic| walk_at "sub") => `(tactic| repeat (first | exact sub_nil | refine sub_cons (by walk_at "mem") ?_))
/- one step -/
local macro_rules | `(tactic| walk_at "m") => `(tactic| first
  | ((with_reducible show wpAny _ _ (eval (Expr.Name _ _) _) _ _ _); refine ev_loc (by assumption) (by walk_at "mem") ?_)
  | ((with_reducible show wpAny _ _ (eval (Expr.Name _ _) (envOfC _ _ _ _ _)) _ _ _); refine ev_cell (by rfl) (by assumption) (by walk_at "mem") ?_)
  | (with_reducible refine wpAny_Constant_int ?_)
  | (with_reducible refine wpAny_execs_nil ?_; try dsimp only)
  | (with_reducible refine wpAny_execs_cons ?_)
  | ((with_reducible show wpAny _ _ (exec (Stmt.Assign [Expr.Name _ _] _ _) _) _ _ _); refine wpAny_Assign_Name ?_)
  | ((with_reducible show wpAny _ _ (exec (Stmt.Assign [Expr.Subscript _ _ _] _ _) _) _ _ _); refine wpAny_Assign_Subscript ?_)
  | (with_reducible refine wpAny_Return_some ?_)
  | (with_reducible refine wpAny_If ?_)
  | (with_reducible refine wpAny_Break ?_; try dsimp only)
  | (with_reducible refine wpAny_Continue ?_; try dsimp only)
  | (with_reducible refine Subscript_ ?_)
  | (with_reducible refine wpAny_BinOp ?_)
  | ((with_reducible show wpAny _ _ (isTrue (Expr.Compare _ [_] [_] _) _ _) _ _ _); refine wpAny_isTrue_Compare1 ?_)
  | ((with_reducible show wpAny _ _ (eval (Expr.Compare _ [_] [_] _) _) _ _ _); refine wpAny_Compare1 ?_)
  | (with_reducible refine PyProof.Rows.isTrue_not ?_)
  | (with_reducible refine PyProof.Rows.isTrue_and_nil ?_)
  | (with_reducible refine PyProof.Rows.isTrue_and ?_)
  | (with_reducible refine PyProof.Rows.isTrue_or_nil ?_)
  | (with_reducible refine PyProof.Rows.isTrue_or ?_)
  | (with_reducible refine wpAny_truthy_bool ?_)
  | ((with_reducible show wpAny _ _ (exec (Stmt.Expr _ _) _) _ _ _); refine wpAny_Expr_any ?_)
  | ((with_reducible show wpAny _ _ (eval (Expr.IfExp _ _ _ _) _) _ _ _); refine wpAny_IfExp ?_)
  | ((with_reducible show wpAny _ _ (binaryOp Operator.Mult (Value.int _ _) (Value.int _ _)) _ _ _); refine PyProof.Rows.mul_int ?_ (by mul_fits))
  | ((with_reducible show wpAny _ _ (spliced (backTo _ (starEach [] _))) _ _ _); refine args_nil ?_)
  | ((with_reducible show wpAny _ _ (spliced (backTo _ (starEach (_ :: _) _))) _ _ _); refine args_cons ?_)
  | ((with_reducible show wpAny _ _ (eval (Expr.UnaryOp UnaryOp.USub _ _) _) _ _ _); refine PyProof.Rows.UnaryOp_ ?_)
  | (with_reducible refine PyProof.Rows.neg_int ?_)
  | (with_reducible refine PyProof.Rows.sub_int ?_)
  | (with_reducible refine PyProof.Rows.add_int ?_)
  | (with_reducible refine PyProof.Rows.lt_int ?_)
  | (with_reducible refine PyProof.Rows.gt_int ?_)
  | (with_reducible refine PyProof.Rows.eq_int ?_)
  | (with_reducible refine PyProof.Rows.ne_int ?_)
  | (with_reducible refine ite_t ?_)
  | (with_reducible refine ite_f ?_)
  | ((with_reducible show wpAny _ _ (storeName _ _ _) _ _ _); refine st_loc (by assumption) ?_; walk_at "put"))

def HP (lt : Nat → Nat → Bool) (as : List Nat) : Prop := ∀ i, 0 < i → i < as.length → lt (as.getD i 0) (as.getD ((i - 1) / 2) 0) = false
abbrev ltc (c : Nat → List Int) : Nat → Nat → Bool := fun a b => ltL (c a) (c b)
def PushOk : Prop := ∀ (c : Nat → List Int) (as : List Nat) (x : Nat), HP (ltc c) as → HP (ltc c) (pushF (ltc c) as x) ∧ (pushF (ltc c) as x).Perm (x :: as)
def PopOk : Prop := ∀ (c : Nat → List Int) (as : List Nat), 0 < as.length → HP (ltc c) as →
  ((popF (ltc c) as).1 :: (popF (ltc c) as).2).Perm as ∧ HP (ltc c) (popF (ltc c) as).2 ∧ ∀ a ∈ (popF (ltc c) as).2, ltc c a (popF (ltc c) as).1 = false

theorem RootIs.pos {p : List Int} {r : Nat} (h : RootIs p r) (hp : 0 < p.length) : 0 < r := by
  obtain ⟨t, h1, h2⟩ := h
  have := h1.1.1
  rw [h2]; split <;> omega

def IP (xs : List Int) : OP := fun o => o.cls = .type "tuple" ∧ ∃ n, ∃ vs : List Value, o.data = .seq vs.toArray n ∧ IntsAre vs xs
theorem IP.itup {h : Heap} {a : Addr} {xs : List Int} (x : ∃ o, h.get? a = some o ∧ IP xs o) : ITup h a xs := by
  obtain ⟨o, e1, e2, n, vs, e3, e4⟩ := x; exact ⟨vs, ⟨o, e1, e2, n, e3⟩, e4⟩
theorem IP.of {h : Heap} {a : Addr} {vs : List Value} {xs : List Int} (x : IsTup h a vs.toArray) (hi : IntsAre vs xs) : ∃ o, h.get? a = some o ∧ IP xs o := by
  obtain ⟨o, e1, e2, n, e3⟩ := x; exact ⟨o, e1, e2, n, vs, e3, hi⟩

theorem rot_len (k : Nat) (row : List Int) : (rot k row).length = row.length := by
  simp only [rot, List.length_append, List.length_drop, List.length_take]; omega

set_option maxHeartbeats 16000000 in
theorem law_A2 {prog : Program} {w : World} {A : Around} {s : Shared} {G B : Heap} {L a : Addr} {cd : Value} {Q : Flow → Shared → Prop} {ra ha : Addr} {n r : Nat} {tr ts tg : Tok} {row : List Int}
    (hPL : PLaw) (hPush : PushOk) (hPop : PopOk)
    (hA : Ok A 6) (hG : Gl G) (hGB : G.StaysIn B)
    (S : St B L s.heap [("row", .ref ra), ("rings", .int (n / r : Nat) tg)] [(ha, LP (refs [])), (L + 1, CP (some (.int (n : Nat) ts))), (L + 2, CP (some (.int (r : Nat) tr))), (L + 3, CP (some (.ref ha))), (L + 4, CP none)])
    (hrow : IList B ra row) (hrl : row.length = n) (hn0 : 0 < n) (hn : n < 64) (hel : ∀ x ∈ row, x = 0 ∨ x = 1 ∨ x = 2) (hroot : RootIs row r)
    (hQ : ∀ h' tk, B.StaysIn h' → Q (.ret (.bool true)) { s with heap := h', toks := tk }) :
    wpAny (model prog w) A (execs (dLaw.body.drop 6) (lawEnv L a cd)) Q NoE s := by
  have hsl : (2 : Nat) ^ 20 ≤ sizeLine := by decide
  obtain ⟨vr, hvr, hir⟩ := id hrow
  have hvl := intsAre_len hir
  refine wpAny_execs_cons ?_
  refine wpAny_For ?_
  refine Call_ (ev_blt hG (stays_trans hGB S.keep) (by simp) boot_range ?_)
  refine PyProof.Rows.callWith_type1 ?_
  repeat walk_at "m"
  refine rng1 fun h₂ r₂ _ _ _ _ k₂ hr₂ => ?_
  have S₂ := S.grow k₂
  refine for_range n S₂ hr₂ (range_small (by omega) (by omega) (by omega) (by omega) (by omega) (by omega)) (by rw [rangeSize_1 (by omega)]; omega)
    (fun k bs ms => bs = ([("row", .ref ra), ("rings", .int (n / r : Nat) tg)] : List (Str × Value)) ∧ ∃ (c : Nat → List Int) (as us : List Nat),
      ms = [(ha, LP (refs as)), (L + 1, CP (some (.int (n : Nat) ts))), (L + 2, CP (some (.int (r : Nat) tr))), (L + 3, CP (some (.ref ha))), (L + 4, CP none)] ++ us.map (fun a => (a, IP (c a))) ∧
      as.Perm us ∧ us.length = k ∧ HP (ltc c) as ∧ us.map c = ((List.range k).map fun i => rot i row).reverse)
    ⟨rfl, fun _ => [], [], [], rfl, .nil, rfl, fun i h1 h2 => by simp at h2, rfl⟩ ?step ?fin hA.hd
  case step =>
    rintro k I bs' ms' h' tk' tk'' hk ⟨rfl, c, as, us, rfl, hau, hul, hHP, hmap⟩ S'
    simp only [putB, ofString_inj, String.reduceEq, reduceIte] at S'
    generalize RI ((0 : Int) + (k : Int) * 1 + 1) (((n : Nat) : Int) - k - 1) 1 = IPI at S' ⊢
    have eq' : (0 : Int) + k * 1 = ((k : Nat) : Int) := by omega
    rw [eq'] at S'
    iterate 2 walk_at "m"
    refine Call_ (ev_def dPush hG (stays_trans hGB S'.keep) fun f' hf' => ?_)
    refine call_fn hf' ?_
    walk_at "m"
    refine ev_cell (c := L + 3) rfl S' (.tail _ (.tail _ (.tail _ (.tail _ (.head _))))) ?_
    walk_at "m"
    refine Call_ (ev_blt hG (stays_trans hGB S'.keep) (by simp) boot_tuple ?_)
    refine PyProof.Rows.callWith_type1 ?_
    repeat walk_at "m"
    refine sl_some_none ?_
    walk_at "m"
    intro h₃ sl₃ k₃ hsl₃
    have S₃ := S'.grow k₃
    refine sl_from (VList.keeps hvr S₃.keep) hsl₃ (by omega) fun h₄ d₄ k₄ _ hd₄ => ?_
    have S₄ := S₃.grow k₄
    repeat walk_at "m"
    refine sl_none_some ?_
    walk_at "m"
    intro h₅ sl₅ k₅ hsl₅
    have S₅ := S₄.grow k₅
    refine sl_upto (VList.keeps hvr S₅.keep) hsl₅ (by omega) fun h₆ d₆ k₆ _ hd₆ => ?_
    have S₆ := S₅.grow k₆
    refine add_l (stays_list (stays_trans k₅ k₆) (LP.isList hd₄)) (LP.isList hd₆) (by simp only [List.length_drop, List.length_take]; omega) fun h₇ d₇ k₇ _ hd₇ => ?_
    have S₇ := S₆.grow k₇
    repeat walk_at "m"
    refine tup_of (LP.isList hd₇) (by simp only [List.length_append, List.length_drop, List.length_take]; omega) fun h₈ x k₈ hx₈ ht₈ => ?_
    have hirot : IntsAre (vr.drop k ++ vr.take k) (rot k row) := intsAre_append (intsAre_drop hir k) (intsAre_take hir k)
    have S₈ := S₇.alloc k₈ hx₈ (IP.of ht₈ hirot)
    repeat walk_at "m"
    -- the new tuple's address is none of the old ones
    have hxu : x ∉ us := fun hm => by
      have nd := S₈.nd
      rw [List.map_cons, List.nodup_cons] at nd
      exact nd.1 (by simp only [List.map_cons, List.map_append, List.map_map, List.mem_cons, List.mem_append, List.mem_map]; right; right; exact ⟨x, hm, rfl⟩)
    let c' : Nat → List Int := fun a => if a = x then rot k row else c a
    have hc'x : c' x = rot k row := if_pos rfl
    have hc' : ∀ a ∈ us, c' a = c a := fun a ha' => by
      have hne : a ≠ x := by rintro rfl; exact hxu ha'
      exact if_neg hne
    have hmapc : us.map c' = us.map c := List.map_congr_left hc'
    have hmapI : us.map (fun a => (a, IP (c' a))) = us.map (fun a => (a, IP (c a))) := List.map_congr_left fun a ha => by rw [hc' a ha]
    have hHP' : HP (ltc c') as := fun i h1 h2 => by
      have e1 := hc' _ (hau.mem_iff.mp (getD_mem h2))
      have e2 := hc' _ (hau.mem_iff.mp (getD_mem (show (i - 1) / 2 < as.length by omega)))
      show ltL (c' _) (c' _) = false
      rw [e1, e2]; exact hHP i h1 h2
    have hasl : as.length = k := by rw [hau.length_eq, hul]
    refine ⟨stays_trans hGB S₈.keep, ?_⟩
    refine push_spec (c := c') (hA.le (by omega)) hG (stays_trans hGB S₈.keep) (B_fresh hGB (S₈.mu (ha, LP (refs as)) (.tail _ (.tail _ (.head _)))).2.1) hf' (S₈.get (.tail _ (.tail _ (.head _)))) (fun a ha' => ?_) ?_ (by omega) (fun h₉ tk₉ k₉ l₉ => ?_)
    · have hau' := hau.mem_iff.mp ha'
      rw [hc' a hau']
      exact IP.itup (S₈.get (.tail _ (.tail _ (List.mem_append_right _ (List.mem_map.mpr ⟨a, hau', rfl⟩)))))
    · rw [hc'x]; exact IP.itup (S₈.get (.head _))
    · have S₉ := S₈.upd 2 rfl k₉ l₉
      obtain ⟨hp1, hp2⟩ := hPush c' as x hHP'
      dsimp only
      repeat walk_at "m"
      refine ⟨h₉, _, _, _, rfl, ⟨rfl, c', pushF (ltc c') as x, x :: us, rfl, hp2.trans (hau.cons x), by simp [hul], hp1, ?_⟩, ?_⟩
      · rw [List.map_cons, hmapc, hmap, hc'x, List.range_succ, List.map_append, List.reverse_append]; rfl
      · rw [List.map_cons, hmapI, hc'x]
        exact (S₉.sub (bs' := [("row", .ref ra), ("rings", .int (n / r : Nat) tg)]) (by walk_at "sub") (List.Sublist.refl _)).perm
          (List.perm_middle (l₁ := [(I, IPI), (ha, LP (refs (pushF (ltc c') as x))), (L + 1, CP (some (.int (n : Nat) ts))), (L + 2, CP (some (.int (r : Nat) tr))), (L + 3, CP (some (.ref ha))), (L + 4, CP none)]))
  case fin =>
    rintro h' tk' bs' ms' ⟨rfl, c, as, us, rfl, hau, hul, hHP, hmap⟩ S'
    dsimp only
    -- the tuples are the base's from here on
    have S₁ : St B L h' [("row", .ref ra), ("rings", .int (n / r : Nat) tg)] (us.map (fun a => (a, IP (c a))) ++ [(ha, LP (refs as)), (L + 1, CP (some (.int (n : Nat) ts))), (L + 2, CP (some (.int (r : Nat) tr))), (L + 3, CP (some (.ref ha))), (L + 4, CP none)]) :=
      S'.perm List.perm_append_comm
    obtain ⟨B', S₃, hfr, hBB⟩ : ∃ B', St B' L h' [("row", .ref ra), ("rings", .int (n / r : Nat) tg)] [(ha, LP (refs as)), (L + 1, CP (some (.int (n : Nat) ts))), (L + 2, CP (some (.int (r : Nat) tr))), (L + 3, CP (some (.ref ha))), (L + 4, CP none)] ∧
      (∀ p ∈ us.map (fun a => (a, IP (c a))), ∃ o, B'.get? p.1 = some o ∧ p.2 o) ∧ B.StaysIn B' := ⟨_, St.freeze S₁⟩
    have hcB : ∀ a ∈ us, ITup B' a (c a) := fun a ha' => IP.itup (hfr (a, IP (c a)) (List.mem_map.mpr ⟨a, ha', rfl⟩))
    have hrB := hrow.keeps hBB
    have hGB' := stays_trans hGB hBB
    clear S' S₁ hfr
    have hasl : as.length = n := by rw [hau.length_eq, hul]
    walk_at "m"
    refine lc_used (cl := ([("heap", L + 3)] : List (Str × Addr))) rfl rfl (by decide) ?_
    refine Call_ (ev_blt hG (stays_trans hGB' S₃.keep) (by simp) boot_range ?_)
    refine PyProof.Rows.callWith_type1 ?_
    repeat walk_at "m"
    refine rng1 fun h₄ r₄ _ _ _ _ k₄ hr₄ => ?_
    have S₄ := S₃.grow k₄
    refine iter_rng S₄ hr₄ (by omega) fun h₅ it S₅ k₅ => ?_
    have hin := inner_stays (ms₀ := [(it, RI (0 + (0 : Nat) * 1) (((n : Nat) : Int) - (0 : Nat)) 1), (ha, LP (refs as))]) S₅
    have hheap := inner_get (ms₀ := [(it, RI (0 + (0 : Nat) * 1) (((n : Nat) : Int) - (0 : Nat)) 1), (ha, LP (refs as))]) S₅ (p := (L + 3, CP (some (.ref ha)))) (.tail _ (.tail _ (.head _)))
    refine comp_used (P := fun i => RI (0 + i * 1) (n - i) 1) (ms₁ := [(ha, LP (refs as))]) S₅ (it_range hA.hd) (by omega) (by decide) rfl rfl
      (fun i acc msI => ∃ pp bs : List Nat, acc = refs pp ∧ msI = [(ha, LP (refs bs))] ∧ (pp ++ bs).Perm as ∧ HP (ltc c) bs ∧ pp.Pairwise (fun a b => ltc c b a = false) ∧ (∀ a ∈ pp, ∀ b ∈ bs, ltc c b a = false) ∧ pp.length = i)
      ⟨[], as, rfl, rfl, .refl _, hHP, .nil, (fun _ h => by cases h), rfl⟩ ?step2 ?fin2
    case step2 =>
      rintro C D i v acc msI h tk hi hv ⟨pp, bs, rfl, rfl, hperm, hHPb, hpw, hle, hpl⟩ hal S₆
      have hbl : bs.length = n - i := by have := hperm.length_eq; rw [List.length_append] at this; omega
      have hmem : ∀ a ∈ bs, a ∈ us := fun a hb => hau.mem_iff.mp (hperm.mem_iff.mp (List.mem_append_right _ hb))
      refine Call_ (ev_def dPop hG (stays_trans hGB' (stays_trans hin S₆.keep)) fun f' hf' => ?_)
      refine call_fn hf' ?_
      walk_at "m"
      refine ev_cellB S₆.keep hheap ?_
      repeat walk_at "m"
      refine ⟨stays_trans hGB' (stays_trans hin S₆.keep), ?_⟩
      refine pop_spec (c := c) (hA.le (by omega)) hG (stays_trans hGB' (stays_trans hin S₆.keep)) (B_fresh (stays_trans hGB' hin) (S₆.mu (ha, LP (refs bs)) (.tail _ (.tail _ (.head _)))).2.1) hf' (S₆.get (.tail _ (.tail _ (.head _))))
        (fun a hb => ((hcB a (hmem a hb)).keeps hin).keeps S₆.keep) (by omega) (by omega) (fun h₇ tk₇ k₇ l₇ => ?_)
      obtain ⟨q1, q2, q3⟩ := hPop c bs (by omega) hHPb
      have S₇ := S₆.upd 2 rfl k₇ l₇
      dsimp only [List.set] at S₇ ⊢
      refine ⟨h₇, _, _, _, rfl, ⟨pp ++ [(popF (ltc c) bs).1], (popF (ltc c) bs).2, by simp [refs], rfl, ?_, q2, ?_, ?_, by simp [hpl]⟩, S₇⟩
      · rw [List.append_assoc]
        exact (List.Perm.append_left pp q1).trans hperm
      · rw [List.pairwise_append]
        refine ⟨hpw, List.pairwise_singleton _ _, fun a h1 b h2 => ?_⟩
        rw [List.mem_singleton] at h2
        subst h2
        exact hle a h1 _ (q1.mem_iff.mp List.mem_cons_self)
      · intro a h1 b h2
        rcases List.mem_append.mp h1 with h1 | h1
        · exact hle a h1 b (q1.mem_iff.mp (List.mem_cons_of_mem _ h2))
        · rw [List.mem_singleton] at h1; subst h1; exact q3 b h2
    case fin2 =>
      rintro ta h₆ tk acc msF ⟨pp, bs, rfl, rfl, hperm, _, hpw, _, hpl⟩ _ hta S₆
      dsimp only
      simp only [putB, ofString_inj, String.reduceEq, reduceIte] at S₆
      have hb0 : bs = [] := by
        have := hperm.length_eq; rw [List.length_append] at this
        exact List.eq_nil_of_length_eq_zero (by omega)
      subst hb0
      rw [List.append_nil] at hperm
      have hpu : pp.Perm us := hperm.trans hau
      have S₆' : St B' L h₆ [("row", .ref ra), ("turns", .ref ta), ("rings", .int (n / r : Nat) tg)] ([(ta, LP (refs pp))] ++ [(L + 1, CP (some (.int (n : Nat) ts))), (L + 2, CP (some (.int (r : Nat) tr))), (L + 4, CP none)]) :=
        S₆.sub (by walk_at "sub") (.cons_cons _ (.cons_cons _ (.cons_cons _ (.cons _ (.cons_cons _ List.Sublist.slnil)))))
      obtain ⟨B2, S₇, hfr, hBB2⟩ : ∃ B2, St B2 L h₆ [("row", .ref ra), ("turns", .ref ta), ("rings", .int (n / r : Nat) tg)] [(L + 1, CP (some (.int (n : Nat) ts))), (L + 2, CP (some (.int (r : Nat) tr))), (L + 4, CP none)] ∧
        (∀ p ∈ [(ta, LP (refs pp))], ∃ o, B2.get? p.1 = some o ∧ p.2 o) ∧ B'.StaysIn B2 := ⟨_, St.freeze S₆'⟩
      have htB : VList B2 ta (refs pp) := LP.isList (hfr _ (.head _))
      have hTp : (pp.map c).Perm (rots row) := by
        refine (hpu.map c).trans ?_
        rw [hmap, rots, hrl]
        exact List.reverse_perm _
      have hTs : (pp.map c).Pairwise (fun a b => ltL b a = false) := by
        rw [List.pairwise_map]; exact hpw
      have hPC := hPL row r (pp.map c) (by omega) hel hroot hTp hTs
      with_reducible show wpAny _ _ (execs _ _) _ _ _
      refine law_B (s := { s with heap := h₆, toks := tk }) hA hG (stays_trans hGB' hBB2) S₇ (hrB.keeps hBB2) hrl htB (fun a ha' => (hcB a (hpu.mem_iff.mp ha')).keeps hBB2) hpl hn0 hn (fun a ha' => ?_) hPC
        (fun h'' tk'' k => hQ h'' tk'' (stays_trans hBB (stays_trans hBB2 k)))
      have : c a ∈ rots row := hTp.mem_iff.mp (List.mem_map.mpr ⟨a, ha', rfl⟩)
      obtain ⟨i, _, e⟩ := List.mem_map.mp this
      rw [← e, rot_len, hrl]
end Mine
end

/-! # PHeap2 -/
section
set_option linter.unusedVariables false
namespace Mine

theorem perm_of_swap (xs : List Nat) (i j x : Nat) (hi : i < xs.length) (hj : j < xs.length) (hij : i ≠ j) :
    ((xs.set i (xs.getD j 0)).set j x).Perm (xs.set i x) := by
  rw [List.perm_iff_count]
  intro a
  have e1 : xs.getD j 0 = xs[j] := by simp [List.getD_eq_getElem?_getD, hj]
  rw [e1, List.count_set (by simpa using hj), List.count_set hi, List.count_set hi]
  have e2 : (xs.set i xs[j])[j]'(by simpa using hj) = xs[j] := by rw [List.getElem_set_ne hij]
  rw [e2]
  have h1 : xs[i] = a → 1 ≤ xs.count a := fun h => List.count_pos_iff.mpr (h ▸ List.getElem_mem hi)
  have h2 : xs[j] = a → 1 ≤ xs.count a := fun h => List.count_pos_iff.mpr (h ▸ List.getElem_mem hj)
  by_cases c1 : xs[i] = a <;> by_cases c2 : xs[j] = a <;> by_cases c3 : x = a <;> simp_all <;> omega

section
variable (lt : Nat → Nat → Bool) (tr : ∀ a b c, lt b a = false → lt c b = false → lt c a = false) (asy : ∀ a b, lt a b = true → lt b a = false)
include tr asy

def HH (xs : List Nat) (p : Nat) : Prop :=
  (∀ i, 0 < i → i < xs.length → i ≠ p → (i - 1) / 2 ≠ p → lt (xs.getD i 0) (xs.getD ((i - 1) / 2) 0) = false) ∧
  (∀ i, 0 < i → i < xs.length → (i - 1) / 2 = p → 0 < p → lt (xs.getD i 0) (xs.getD ((p - 1) / 2) 0) = false)

theorem sdn_ok : ∀ (pos : Nat) (xs : List Nat) (x : Nat), pos < xs.length → HH lt xs pos → (∀ i, 0 < i → i < xs.length → (i - 1) / 2 = pos → lt (xs.getD i 0) x = false) →
    HP lt (sdn lt xs pos x) ∧ (sdn lt xs pos x).Perm (xs.set pos x) := by
  intro pos
  induction pos using Nat.strongRecOn with
  | ind pos ih =>
    intro xs x hp H hch
    by_cases hgo : 0 < pos ∧ lt x (xs.getD ((pos - 1) / 2) 0) = true
    · obtain ⟨h0, hlt⟩ := hgo
      rw [← sdn_go lt xs pos x h0 hlt]
      have hq : (pos - 1) / 2 < pos := by omega
      have hql : (pos - 1) / 2 < xs.length := by omega
      have gs : ∀ j, (xs.set pos (xs.getD ((pos - 1) / 2) 0)).getD j 0 = if pos = j then xs.getD ((pos - 1) / 2) 0 else xs.getD j 0 := fun j => getD_set xs pos j _ hp
      have key := ih ((pos - 1) / 2) hq (xs.set pos (xs.getD ((pos - 1) / 2) 0)) x (by simpa using hql)
      suffices hs : HH lt (xs.set pos (xs.getD ((pos - 1) / 2) 0)) ((pos - 1) / 2) ∧ (∀ i, 0 < i → i < (xs.set pos (xs.getD ((pos - 1) / 2) 0)).length → (i - 1) / 2 = (pos - 1) / 2 → lt ((xs.set pos (xs.getD ((pos - 1) / 2) 0)).getD i 0) x = false) by
        obtain ⟨r1, r2⟩ := key hs.1 hs.2
        exact ⟨r1, r2.trans (perm_of_swap xs pos ((pos - 1) / 2) x hp hql (by omega))⟩
      refine ⟨?_, ?_⟩
      · constructor
        · intro i i0 il hne hpar
          simp only [List.length_set] at il
          rw [gs, gs]
          by_cases c1 : pos = i
          · subst c1; exact absurd rfl hpar
          · rw [if_neg c1]
            by_cases c2 : pos = (i - 1) / 2
            · rw [if_pos c2]; exact H.2 i i0 il c2.symm h0
            · rw [if_neg c2]; exact H.1 i i0 il (Ne.symm c1) (Ne.symm c2)
        · intro i i0 il hpar hq0
          simp only [List.length_set] at il
          rw [gs, gs, if_neg (show ¬ pos = ((pos - 1) / 2 - 1) / 2 by omega)]
          have hup := H.1 ((pos - 1) / 2) hq0 hql (by omega) (by omega)
          by_cases c1 : pos = i
          · rw [if_pos c1]; exact hup
          · rw [if_neg c1]
            have := H.1 i i0 il (Ne.symm c1) (by omega)
            rw [hpar] at this
            exact tr _ _ _ hup this
      · intro i i0 il hpar
        simp only [List.length_set] at il
        rw [gs]
        by_cases c1 : pos = i
        · rw [if_pos c1]; exact asy _ _ hlt
        · rw [if_neg c1]
          have := H.1 i i0 il (Ne.symm c1) (by omega)
          rw [hpar] at this
          exact tr _ _ _ (asy _ _ hlt) this
    · have hstop : pos = 0 ∨ lt x (xs.getD ((pos - 1) / 2) 0) = false := by
        rcases Nat.eq_zero_or_pos pos with h | h
        · exact .inl h
        · right
          cases hc : lt x (xs.getD ((pos - 1) / 2) 0) with
          | false => rfl
          | true => exact absurd ⟨h, hc⟩ hgo
      rw [sdn_stop lt xs pos x hstop]
      refine ⟨?_, .refl _⟩
      intro i i0 il
      simp only [List.length_set] at il
      rw [getD_set xs pos i _ hp, getD_set xs pos _ _ hp]
      by_cases c1 : pos = i
      · subst c1
        rw [if_pos rfl, if_neg (by omega)]
        rcases hstop with h | h
        · omega
        · exact h
      · rw [if_neg c1]
        by_cases c2 : pos = (i - 1) / 2
        · rw [if_pos c2]; exact hch i i0 il c2.symm
        · rw [if_neg c2]; exact H.1 i i0 il (Ne.symm c1) (Ne.symm c2)

theorem sup_ok : ∀ (k : Nat) (p : Nat) (xs : List Nat), xs.length - p = k → p < xs.length → HH lt xs p →
    HH lt (sup lt xs p).1 (sup lt xs p).2 ∧ (sup lt xs p).2 < xs.length ∧ (sup lt xs p).1.length = xs.length ∧ ¬ 2 * (sup lt xs p).2 + 1 < xs.length ∧ ∀ x, ((sup lt xs p).1.set (sup lt xs p).2 x).Perm (xs.set p x) := by
  intro k
  induction k using Nat.strongRecOn with
  | ind k ih =>
    intro p xs hk hp H
    by_cases hgo : 2 * p + 1 < xs.length
    · rw [← sup_go lt xs p hgo]
      have hc1 := pick_gt lt xs p
      have hc2 := pick_lt lt xs p hgo
      have hpar : (pick lt xs p - 1) / 2 = p := by unfold pick; split <;> omega
      have hmin : ∀ i, 0 < i → i < xs.length → (i - 1) / 2 = p → lt (xs.getD i 0) (xs.getD (pick lt xs p) 0) = false := by
        intro i i0 il hi
        have refl : ∀ a, lt a a = false := fun a => by
          cases h : lt a a with
          | false => rfl
          | true => exact (asy a a h).symm.trans h ▸ rfl
        unfold pick
        split
        · rename_i hc
          rcases (show i = 2 * p + 1 ∨ i = 2 * p + 2 by omega) with rfl | rfl
          · exact hc.2
          · exact refl _
        · rename_i hc
          rcases (show i = 2 * p + 1 ∨ i = 2 * p + 2 by omega) with rfl | rfl
          · exact refl _
          · cases h : lt (xs.getD (2 * p + 1) 0) (xs.getD (2 * p + 2) 0) with
            | false => exact absurd ⟨il, h⟩ hc
            | true => exact asy _ _ h
      generalize pick lt xs p = c at hc1 hc2 hpar hmin
      have gs : ∀ j, (xs.set p (xs.getD c 0)).getD j 0 = if p = j then xs.getD c 0 else xs.getD j 0 := fun j => getD_set xs p j _ hp
      have HH' : HH lt (xs.set p (xs.getD c 0)) c := by
        constructor
        · intro i i0 il hne hpr
          simp only [List.length_set] at il
          rw [gs, gs]
          by_cases c1 : p = i
          · rw [if_pos c1, if_neg (by omega)]
            have := H.2 c (by omega) hc2 hpar (by omega)
            rw [c1] at this; exact this
          · rw [if_neg c1]
            by_cases c2 : p = (i - 1) / 2
            · rw [if_pos c2]; exact hmin i i0 il c2.symm
            · rw [if_neg c2]; exact H.1 i i0 il (Ne.symm c1) (Ne.symm c2)
        · intro i i0 il hpr hc0
          simp only [List.length_set] at il
          rw [gs, gs, if_neg (by omega), hpar, if_pos rfl]
          have := H.1 i i0 il (by omega) (by omega)
          rw [hpr] at this; exact this
      obtain ⟨r1, r2, r3, r4, r5⟩ := ih (xs.length - c) (by omega) c (xs.set p (xs.getD c 0)) (by simp) (by simpa using hc2) HH'
      simp only [List.length_set] at r2 r3 r4
      exact ⟨r1, r2, r3, r4, fun x => (r5 x).trans (perm_of_swap xs p c x hp hc2 (by omega))⟩
    · rw [sup_stop lt xs p hgo]
      exact ⟨H, hp, rfl, hgo, fun x => .refl _⟩

theorem up_ok (xs : List Nat) (h0 : 0 < xs.length) (H : HH lt xs 0) : HP lt (upF lt xs) ∧ (upF lt xs).Perm xs := by
  obtain ⟨r1, r2, r3, r4, r5⟩ := sup_ok lt tr asy _ 0 xs rfl h0 H
  unfold upF
  generalize (sup lt xs 0).1 = ys at r1 r3 r5
  generalize (sup lt xs 0).2 = q at r1 r2 r4 r5
  generalize hx : xs.getD 0 0 = x
  have gs : ∀ j, (ys.set q x).getD j 0 = if q = j then x else ys.getD j 0 := fun j => getD_set ys q j _ (by omega)
  have hH : HH lt (ys.set q x) q := by
    constructor
    · intro i i0 il hne hpr
      simp only [List.length_set] at il
      rw [gs, gs, if_neg (Ne.symm hne), if_neg (Ne.symm hpr)]
      exact r1.1 i i0 il hne hpr
    · intro i i0 il hpr
      simp only [List.length_set] at il
      omega
  obtain ⟨s1, s2⟩ := sdn_ok lt tr asy q (ys.set q x) x (by simp; omega) hH (fun i i0 il hpr => by simp only [List.length_set] at il; omega)
  refine ⟨s1, s2.trans ?_⟩
  rw [List.set_set]
  refine (r5 x).trans ?_
  have : xs.set 0 x = xs := by
    rw [← hx]
    cases xs with
    | nil => simp at h0
    | cons a r => simp
  rw [this]

theorem push_gen (xs : List Nat) (x : Nat) (H : HP lt xs) : HP lt (pushF lt xs x) ∧ (pushF lt xs x).Perm (x :: xs) := by
  have ga : ∀ j, j < xs.length → (xs ++ [x]).getD j 0 = xs.getD j 0 := fun j hj => by simp [List.getD_eq_getElem?_getD, List.getElem?_append_left hj]
  unfold pushF
  have hperm : ((xs ++ [x]).set xs.length x).Perm (x :: xs) := by
    have : (xs ++ [x]).set xs.length x = xs ++ [x] := by simp
    rw [this]; exact List.perm_append_comm
  have hH : HH lt (xs ++ [x]) xs.length := by
    constructor
    · intro i i0 il hne hpr
      rw [List.length_append, List.length_singleton] at il
      rw [ga i (by omega), ga _ (by omega)]
      exact H i i0 (by omega)
    · intro i i0 il hpr
      rw [List.length_append, List.length_singleton] at il
      omega
  obtain ⟨s1, s2⟩ := sdn_ok lt tr asy xs.length (xs ++ [x]) x (by simp) hH (fun i i0 il hpr => by rw [List.length_append, List.length_singleton] at il; omega)
  exact ⟨s1, s2.trans hperm⟩

theorem root_min (xs : List Nat) (H : HP lt xs) : ∀ i, i < xs.length → lt (xs.getD i 0) (xs.getD 0 0) = false := by
  have refl : ∀ a, lt a a = false := fun a => by
    cases h : lt a a with
    | false => rfl
    | true => exact (asy a a h).symm.trans h ▸ rfl
  intro i
  induction i using Nat.strongRecOn with
  | ind i ih =>
    intro hi
    rcases Nat.eq_zero_or_pos i with rfl | h0
    · exact refl _
    · exact tr _ _ _ (ih ((i - 1) / 2) (by omega) (by omega)) (H i h0 hi)

theorem pop_gen (xs : List Nat) (h0 : 0 < xs.length) (H : HP lt xs) :
    ((popF lt xs).1 :: (popF lt xs).2).Perm xs ∧ HP lt (popF lt xs).2 ∧ ∀ a ∈ (popF lt xs).2, lt a (popF lt xs).1 = false := by
  unfold popF
  split
  · rename_i h1
    obtain ⟨a, rfl⟩ : ∃ a, xs = [a] := List.length_eq_one_iff.mp (by omega)
    exact ⟨by simp, fun i _ h => by simp at h, fun _ h => by cases h⟩
  · rename_i h1
    obtain ⟨ys, x, rfl⟩ : ∃ ys x, xs = ys ++ [x] := ⟨xs.dropLast, xs.getLast (List.ne_nil_of_length_pos h0), (List.dropLast_concat_getLast _).symm⟩
    rw [List.length_append, List.length_singleton] at h1
    have hl : (ys ++ [x]).getD ((ys ++ [x]).length - 1) 0 = x := by simp
    rw [hl, List.dropLast_concat]
    obtain ⟨m, zs, rfl⟩ : ∃ m zs, ys = m :: zs := by
      cases ys with
      | nil => simp at h1
      | cons m zs => exact ⟨m, zs, rfl⟩
    have hH : HH lt ((m :: zs).set 0 x) 0 := by
      constructor
      · intro i i0 il hne hpr
        simp only [List.length_set] at il
        rw [getD_set _ _ _ _ (by simp), getD_set _ _ _ _ (by simp), if_neg (Ne.symm hne), if_neg (Ne.symm hpr)]
        have := H i i0 (by simp at il ⊢; omega)
        have ga : ∀ j, j < (m :: zs).length → ((m :: zs) ++ [x]).getD j 0 = (m :: zs).getD j 0 := fun j hj => by simp only [List.getD_eq_getElem?_getD, List.getElem?_append_left hj]
        rwa [ga i il, ga _ (by omega)] at this
      · intro i i0 il hpr h; omega
    obtain ⟨u1, u2⟩ := up_ok lt tr asy ((m :: zs).set 0 x) (by simp) hH
    have hm : ((m :: zs) ++ [x]).getD 0 0 = m := by simp
    dsimp only
    rw [hm]
    have hp : (m :: upF lt ((m :: zs).set 0 x)).Perm ((m :: zs) ++ [x]) := by
      refine (u2.cons m).trans ?_
      show (m :: x :: zs).Perm (m :: (zs ++ [x]))
      exact List.Perm.cons m (List.perm_append_comm (l₁ := [x]) (l₂ := zs))
    refine ⟨hp, u1, fun a ha => ?_⟩
    have hmem : a ∈ (m :: zs) ++ [x] := hp.mem_iff.mp (List.mem_cons_of_mem _ ha)
    obtain ⟨i, hi, e⟩ := List.mem_iff_getElem.mp hmem
    have := root_min lt tr asy _ H i hi
    rw [hm] at this
    have e' : ((m :: zs) ++ [x]).getD i 0 = a := by rw [List.getD_eq_getElem?_getD, List.getElem?_eq_getElem hi]; exact e
    rwa [e'] at this
end

/-! ### the order of int lists -/
theorem ltL_asymm : ∀ (a b : List Int), ltL a b = true → ltL b a = false
  | [], [], h => by simp [ltL] at h
  | [], _ :: _, _ => by simp [ltL]
  | _ :: _, [], h => by simp [ltL] at h
  | x :: xs, y :: ys, h => by
    simp only [ltL] at h ⊢
    by_cases hxy : x = y
    · subst hxy; simp only [if_true] at h ⊢; exact ltL_asymm xs ys h
    · rw [if_neg hxy] at h; rw [if_neg (Ne.symm hxy)]
      simp at h ⊢; omega
theorem ltL_trans : ∀ (a b c : List Int), ltL b a = false → ltL c b = false → ltL c a = false
  | [], _, [], _, _ => by simp [ltL]
  | [], _, _ :: _, _, _ => by simp [ltL]
  | _ :: _, [], _, h, _ => by simp [ltL] at h
  | _ :: _, _ :: _, [], _, h => by simp [ltL] at h
  | x :: xs, y :: ys, z :: zs, h1, h2 => by
    simp only [ltL] at h1 h2 ⊢
    by_cases hxy : y = x
    · subst hxy
      rw [if_pos rfl] at h1
      by_cases hyz : z = y
      · subst hyz; rw [if_pos rfl] at h2 ⊢; exact ltL_trans xs ys zs h1 h2
      · rw [if_neg hyz] at h2 ⊢; exact h2
    · rw [if_neg hxy] at h1
      by_cases hyz : z = y
      · subst hyz; rw [if_neg hxy]; exact h1
      · rw [if_neg hyz] at h2
        simp at h1 h2
        rw [if_neg (by omega)]; simp; omega

theorem pushOk : PushOk := fun c as x H => push_gen (ltc c) (fun _ _ _ => ltL_trans _ _ _) (fun _ _ => ltL_asymm _ _) as x H
theorem popOk : PopOk := fun c as h0 H => pop_gen (ltc c) (fun _ _ _ => ltL_trans _ _ _) (fun _ _ => ltL_asymm _ _) as h0 H
end Mine
end

/-! # PWord -/
section
set_option linter.unusedVariables false
namespace Mine

/-! ## rotations: by the places -/
theorem rot_getD (row : List Int) (k i : Nat) (hk : k ≤ row.length) (hi : i < row.length) : (rot k row).getD i 0 = row.getD ((i + k) % row.length) 0 := by
  unfold rot
  rw [List.getD_eq_getElem?_getD, List.getD_eq_getElem?_getD]
  congr 1
  rcases Nat.lt_or_ge (i + k) row.length with h | h
  · rw [Nat.mod_eq_of_lt h, List.getElem?_append_left (by rw [List.length_drop]; omega), List.getElem?_drop, Nat.add_comm]
  · rw [List.getElem?_append_right (by rw [List.length_drop]; omega), List.length_drop, List.getElem?_take]
    have e : (i + k) % row.length = i + k - row.length := by
      rw [Nat.mod_eq_sub_mod h, Nat.mod_eq_of_lt (by omega)]
    rw [e, if_pos (by omega)]
    congr 1; omega

theorem getD_ext {xs ys : List Int} (hl : xs.length = ys.length) (h : ∀ i, i < xs.length → xs.getD i 0 = ys.getD i 0) : xs = ys := by
  apply List.ext_getElem hl
  intro i h1 h2
  have := h i h1
  simpa [List.getD_eq_getElem?_getD, h1, h2] using this

/-- the row read round and round -/
def cyc (row : List Int) (i : Nat) : Int := row.getD (i % row.length) 0
theorem cyc_add (row : List Int) (i : Nat) : cyc row (i + row.length) = cyc row i := by unfold cyc; rw [Nat.add_mod_right]
theorem cyc_mul (row : List Int) (i k : Nat) : cyc row (i + row.length * k) = cyc row i := by unfold cyc; rw [Nat.add_mul_mod_self_left]
theorem cyc_mod (row : List Int) (i : Nat) : cyc row (i % row.length) = cyc row i := by unfold cyc; rw [Nat.mod_mod]
theorem rot_eq_iff (row : List Int) (a b : Nat) (ha : a ≤ row.length) (hb : b ≤ row.length) : rot a row = rot b row ↔ ∀ i, cyc row (i + a) = cyc row (i + b) := by
  constructor
  · intro h i
    rcases Nat.eq_zero_or_pos row.length with h0 | h0
    · have : row = [] := List.eq_nil_of_length_eq_zero h0
      subst this; rfl
    · have := congrArg (fun l => l.getD (i % row.length) 0) h
      simp only [rot_getD row a _ ha (Nat.mod_lt _ h0), rot_getD row b _ hb (Nat.mod_lt _ h0)] at this
      unfold cyc
      rw [Nat.mod_add_mod, Nat.mod_add_mod] at this
      exact this
  · intro h
    refine getD_ext (by rw [rot_len, rot_len]) fun i hi => ?_
    rw [rot_len] at hi
    rw [rot_getD row a i ha hi, rot_getD row b i hb hi]
    exact h i

/-- a turn of the ring by p leaves all in place -/
def Per (row : List Int) (p : Nat) : Prop := ∀ i, cyc row (i + p) = cyc row i
theorem per_len (row : List Int) : Per row row.length := fun i => cyc_add row i
theorem per_mul {row : List Int} {p : Nat} (h : Per row p) : ∀ k, Per row (p * k)
  | 0 => fun i => rfl
  | k + 1 => fun i => by rw [Nat.mul_succ, ← Nat.add_assoc, h, per_mul h k i]
theorem per_sub {row : List Int} {p q : Nat} (hp : Per row p) (hq : Per row q) (hle : q ≤ p) : Per row (p - q) := fun i => by
  rw [← hq (i + (p - q)), Nat.add_assoc, Nat.sub_add_cancel hle, hp]
theorem per_mod {row : List Int} {p q : Nat} (hp : Per row p) (hq : Per row q) : Per row (p % q) := by
  have := per_sub hp (per_mul hq (p / q)) (Nat.mul_div_le p q)
  rwa [show p - q * (p / q) = p % q by have := Nat.div_add_mod p q; omega] at this

theorem least_of (P : Nat → Prop) : ∀ n, P n → ∃ d, P d ∧ ∀ q, P q → d ≤ q := by
  intro n
  induction n using Nat.strongRecOn with
  | ind n ih =>
    intro h
    by_cases hc : ∃ q, q < n ∧ P q
    · obtain ⟨q, h1, h2⟩ := hc; exact ih q h1 h2
    · exact ⟨n, h, fun q hq => Nat.le_of_not_lt fun hl => hc ⟨q, hl, hq⟩⟩

/-- the root's length: the least turn that leaves all in place -/
def IsRoot (row : List Int) (d : Nat) : Prop := (0 < d ∧ Per row d) ∧ ∀ q, 0 < q ∧ Per row q → d ≤ q
theorem root_ex (row : List Int) (h : 0 < row.length) : ∃ d, IsRoot row d := least_of (fun q => 0 < q ∧ Per row q) row.length ⟨h, per_len row⟩
theorem IsRoot.dvd {row : List Int} {d q : Nat} (h : IsRoot row d) (hq : Per row q) : q % d = 0 := by
  rcases Nat.eq_zero_or_pos (q % d) with h0 | h0
  · exact h0
  · have := h.2 _ ⟨h0, per_mod hq h.1.2⟩
    have := Nat.mod_lt q h.1.1
    omega
theorem IsRoot.uniq {row : List Int} {d d' : Nat} (h : IsRoot row d) (h' : IsRoot row d') : d = d' := Nat.le_antisymm (h.2 _ h'.1) (h'.2 _ h.1)

/-- a period of the straight row -/
def Lin (row : List Int) (p : Nat) : Prop := ∀ j, j + p < row.length → row.getD (j + p) 0 = row.getD j 0
theorem lin_of_per {row : List Int} {p : Nat} (h : Per row p) : Lin row p := fun j hj => by
  have := h j
  unfold cyc at this
  rwa [Nat.mod_eq_of_lt hj, Nat.mod_eq_of_lt (by omega)] at this
theorem lin_mul {row : List Int} {p : Nat} (h : Lin row p) : ∀ k j, j + p * k < row.length → row.getD (j + p * k) 0 = row.getD j 0
  | 0, j, _ => rfl
  | k + 1, j, hj => by
    rw [Nat.mul_succ, ← Nat.add_assoc] at hj ⊢
    rw [h _ hj, lin_mul h k j (by omega)]
theorem bd_lin {row : List Int} {t : Nat} (ht : t < row.length) : Bd row row.length t ↔ Lin row (row.length - t) := by
  constructor
  · rintro ⟨_, h⟩ j hj
    rw [h j (by omega), Nat.add_comm]
  · intro h
    exact ⟨ht, fun j hj => by rw [Nat.add_comm]; exact (h j (by omega)).symm⟩

theorem root_is {row : List Int} {r : Nat} (h0 : 0 < row.length) (h : RootIs row r) : IsRoot row r := by
  obtain ⟨t, ⟨hb, hmax⟩, hr⟩ := h
  obtain ⟨d, hd⟩ := root_ex row h0
  have ht := hb.1
  have hlin := (bd_lin ht).mp hb
  have hdn : row.length % d = 0 := hd.dvd (per_len row)
  have hdle : d ≤ row.length := hd.2 _ ⟨h0, per_len row⟩
  have hsd : row.length - t ≤ d := by
    rcases Nat.lt_or_ge d row.length with hlt | hge
    · have hl := lin_of_per hd.1.2
      have hbd : Bd row row.length (row.length - d) := (bd_lin (by have := hd.1.1; omega)).mpr (by rwa [show row.length - (row.length - d) = d by omega])
      have := hmax _ hbd
      omega
    · omega
  generalize hst : row.length - t = st at hlin hsd hr
  have hst0 : 0 < st := by omega
  have key : Per row st → d = st := fun hp => Nat.le_antisymm (hd.2 _ ⟨hst0, hp⟩) hsd
  by_cases hc : row.length % st = 0
  · rw [if_pos hc] at hr
    subst hr
    have hper : Per row r := by
      intro i
      unfold cyc
      rw [Nat.add_mod]
      have hi := Nat.mod_lt i h0
      generalize i % row.length = i' at hi
      have hrn : r ≤ row.length := by omega
      rcases Nat.lt_or_ge (i' + r) row.length with hlt | hge
      · rcases Nat.lt_or_ge r row.length with h1 | h1
        · rw [Nat.mod_eq_of_lt h1, Nat.mod_eq_of_lt hlt]; exact hlin i' hlt
        · omega
      · have e1 : (i' + r % row.length) % row.length = i' + r - row.length := by
          rw [Nat.add_mod_mod, Nat.mod_eq_sub_mod hge, Nat.mod_eq_of_lt (by omega)]
        rw [e1]
        obtain ⟨m, hm⟩ : ∃ m, row.length = r * m := ⟨row.length / r, by have := Nat.div_add_mod row.length r; omega⟩
        have hm0 : 0 < m := by
          rcases Nat.eq_zero_or_pos m with h | h
          · rw [h, Nat.mul_zero] at hm; omega
          · exact h
        have e2 : i' = (i' + r - row.length) + r * (m - 1) := by
          have : r * m = r * (m - 1) + r := by rw [← Nat.mul_succ]; congr 1; omega
          omega
        have := lin_mul hlin (m - 1) (i' + r - row.length) (by omega)
        rw [← e2] at this
        exact this.symm
    rw [← key hper]; exact hd
  · rw [if_neg hc] at hr
    subst hr
    rcases Nat.lt_or_ge d row.length with hlt | hge
    · exfalso
      obtain ⟨m, hm⟩ : ∃ m, row.length = d * m := ⟨row.length / d, by have := Nat.div_add_mod row.length d; omega⟩
      have hm2 : 2 ≤ m := by
        rcases m with _ | _ | m
        · rw [Nat.mul_zero] at hm; omega
        · rw [Nat.zero_add, Nat.mul_one] at hm; omega
        · omega
      have h2d : 2 * d ≤ row.length := by
        rw [hm, Nat.mul_comm 2 d]; exact Nat.mul_le_mul_left d hm2
      have hmodd : ∀ i, cyc row i = cyc row (i % d) := fun i => by
        have := per_mul hd.1.2 (i / d) (i % d)
        rw [show i % d + d * (i / d) = i by have := Nat.div_add_mod i d; omega] at this
        exact this
      have hper : Per row st := by
        intro i
        have hi := Nat.mod_lt i hd.1.1
        have e1 : cyc row (i + st) = cyc row (i % d + st) := by
          have := per_mul hd.1.2 (i / d) (i % d + st)
          rw [show i % d + st + d * (i / d) = i + st by have := Nat.div_add_mod i d; omega] at this
          exact this
        rw [e1, hmodd i]
        unfold cyc
        rw [Nat.mod_eq_of_lt (show i % d + st < row.length by omega), Nat.mod_eq_of_lt (show i % d < row.length by omega)]
        exact hlin _ (by omega)
      have := key hper
      rw [← this] at hc
      exact hc hdn
    · have : d = row.length := by omega
      rwa [this] at hd

theorem cyc_rot (row : List Int) (k i : Nat) (hk : k ≤ row.length) : cyc (rot k row) i = cyc row (i + k) := by
  rcases Nat.eq_zero_or_pos row.length with h0 | h0
  · have : row = [] := List.eq_nil_of_length_eq_zero h0
    subst this; simp [cyc, rot]
  · unfold cyc
    rw [rot_len, rot_getD row k _ hk (Nat.mod_lt _ h0), Nat.mod_add_mod]
theorem per_rot {row : List Int} {k p : Nat} (hk : k ≤ row.length) : Per (rot k row) p ↔ Per row p := by
  constructor
  · intro h i
    have := h (i + (row.length - k))
    rw [cyc_rot row k _ hk, cyc_rot row k _ hk] at this
    rw [show i + (row.length - k) + p + k = i + p + row.length by omega, show i + (row.length - k) + k = i + row.length by omega, cyc_add, cyc_add] at this
    exact this
  · intro h i
    rw [cyc_rot row k _ hk, cyc_rot row k _ hk, show i + p + k = i + k + p by omega]
    exact h _
theorem root_rot {row : List Int} {k d : Nat} (hk : k ≤ row.length) : IsRoot (rot k row) d ↔ IsRoot row d := by
  unfold IsRoot
  simp only [per_rot hk]
end Mine
end

/-! # PWord2 -/
section
set_option linter.unusedVariables false
namespace Mine
/-! ## the sorted turns: each of the d different ones g times -/
theorem ltL_anti : ∀ (a b : List Int), ltL a b = false → ltL b a = false → a = b
  | [], [], _, _ => rfl
  | [], _ :: _, h, _ => by simp [ltL] at h
  | _ :: _, [], _, h => by simp [ltL] at h
  | x :: xs, y :: ys, h1, h2 => by
    simp only [ltL] at h1 h2
    by_cases hxy : x = y
    · subst hxy; simp only [if_true] at h1 h2; rw [ltL_anti xs ys h1 h2]
    · rw [if_neg hxy] at h1; rw [if_neg (Ne.symm hxy)] at h2
      simp at h1 h2; omega
theorem ltL_irrefl (a : List Int) : ltL a a = false := by
  cases h : ltL a a with
  | false => rfl
  | true => exact (ltL_asymm a a h).symm.trans h ▸ rfl
abbrev leL (a b : List Int) : Prop := ltL b a = false
theorem sorted_uniq {xs ys : List (List Int)} (p : xs.Perm ys) (h1 : xs.Pairwise leL) (h2 : ys.Pairwise leL) : xs = ys :=
  p.eq_of_pairwise (fun a b _ _ h1 h2 => ltL_anti a b h2 h1) h1 h2

theorem flatMap_rep_getD {α : Type} (df : α) (g : Nat) (hg : 0 < g) : ∀ (S : List α) (k : Nat), k < S.length * g → (S.flatMap (List.replicate g)).getD k df = S.getD (k / g) df
  | [], k, h => by simp at h
  | a :: S, k, h => by
    rw [List.flatMap_cons]
    rcases Nat.lt_or_ge k g with hk | hk
    · rw [Nat.div_eq_of_lt hk]
      simp [List.getD_eq_getElem?_getD, List.getElem?_append_left, hk]
    · have e : k / g = (k - g) / g + 1 := by rw [Nat.div_eq_sub_div hg hk]
      rw [e]
      have ih := flatMap_rep_getD df g hg S (k - g) (by rw [List.length_cons, Nat.add_mul, Nat.one_mul] at h; omega)
      simp only [List.getD_eq_getElem?_getD, List.getElem?_cons_succ] at ih ⊢
      rw [List.getElem?_append_right (by simpa using hk), List.length_replicate, ih]

theorem range_mul (d : Nat) : ∀ g, List.range (d * g) = (List.range g).flatMap fun j => (List.range d).map (d * j + ·)
  | 0 => by simp
  | g + 1 => by
    rw [Nat.mul_succ, List.range_add, range_mul d g, List.range_succ, List.flatMap_append]
    simp

theorem count_rep {α : Type} [BEq α] [LawfulBEq α] (v : α) (g : Nat) : ∀ R : List α, (R.flatMap (List.replicate g)).count v = g * R.count v
  | [] => by simp
  | a :: R => by
    rw [List.flatMap_cons, List.count_append, count_rep v g R, List.count_cons, List.count_replicate, Nat.mul_add]
    by_cases h : a = v
    · subst h; simp; omega
    · have : (a == v) = false := by simpa using h
      simp [this]
theorem count_flat {α : Type} [BEq α] [LawfulBEq α] (v : α) (R : List α) : ∀ g, ((List.range g).flatMap fun _ => R).count v = g * R.count v
  | 0 => by simp
  | g + 1 => by
    rw [List.range_succ, List.flatMap_append, List.count_append, count_flat v R g, Nat.add_mul]
    simp

/-- S: the different turns, sorted -/
theorem turns_ex {row : List Int} {d : Nat} {T : List (List Int)} (h0 : 0 < row.length) (hd : IsRoot row d) (hp : T.Perm (rots row)) (hs : T.Pairwise leL) :
    ∃ S : List (List Int), S.Perm ((List.range d).map fun k => rot k row) ∧ S.Pairwise leL ∧ T = S.flatMap (List.replicate (row.length / d)) := by
  let R := (List.range d).map fun k => rot k row
  let S := R.mergeSort (fun a b => !ltL b a)
  have hSR : S.Perm R := List.mergeSort_perm _ _
  have hSs : S.Pairwise leL := by
    have := List.pairwise_mergeSort (le := fun a b => !ltL b a) (fun a b c h1 h2 => by
      simp only [Bool.not_eq_true'] at h1 h2 ⊢; exact ltL_trans a b c h1 h2) (fun a b => by
      cases h : ltL b a with
      | false => simp
      | true => simp [ltL_asymm b a h]) R
    exact this.imp (fun h => by simpa using h)
  have hdn : row.length % d = 0 := hd.dvd (per_len row)
  have hdle : d ≤ row.length := hd.2 _ ⟨h0, per_len row⟩
  have hn : row.length = d * (row.length / d) := by have := Nat.div_add_mod row.length d; omega
  refine ⟨S, hSR, hSs, ?_⟩
  have hrots : rots row = (List.range (row.length / d)).flatMap fun _ => R := by
    unfold rots
    rw [show List.range row.length = List.range (d * (row.length / d)) by rw [← hn], range_mul, List.map_flatMap]
    rw [List.flatMap_def, List.flatMap_def]
    congr 1
    refine List.map_congr_left fun j hj => ?_
    rw [List.map_map]
    refine List.map_congr_left fun i hi => ?_
    rw [List.mem_range] at hj hi
    have hle : d * j + i ≤ row.length := by
      have : d * (j + 1) ≤ d * (row.length / d) := Nat.mul_le_mul_left d hj
      rw [Nat.mul_succ] at this; omega
    refine (rot_eq_iff row (d * j + i) i hle (by omega)).mpr fun q => ?_
    rw [show q + (d * j + i) = q + i + d * j by omega]
    exact per_mul hd.1.2 j _
  refine sorted_uniq ?_ hs ?_
  · refine hp.trans ?_
    rw [hrots, List.perm_iff_count]
    intro v
    rw [count_flat, count_rep, hSR.count_eq]
  · rw [List.pairwise_flatMap]
    refine ⟨fun a _ => ?_, hSs.imp fun {a b} h x hx y hy => ?_⟩
    · rw [List.pairwise_replicate]; right; exact ltL_irrefl a
    · rw [List.eq_of_mem_replicate hx, List.eq_of_mem_replicate hy]; exact h
end Mine
end

/-! # PWord3 -/
section
set_option linter.unusedVariables false
namespace Mine
theorem per_of_rot {row : List Int} {a b : Nat} (hab : a ≤ b) (hb : b ≤ row.length) (h : rot a row = rot b row) : Per row (b - a) := by
  have h' := (rot_eq_iff row a b (by omega) hb).mp h
  intro i
  have := h' (i + (row.length - a))
  rw [show i + (row.length - a) + a = i + row.length by omega, show i + (row.length - a) + b = i + (b - a) + row.length by omega, cyc_add, cyc_add] at this
  exact this.symm
theorem rots_nodup {row : List Int} {d : Nat} (h0 : 0 < row.length) (hd : IsRoot row d) : ((List.range d).map fun k => rot k row).Nodup := by
  have hdle : d ≤ row.length := hd.2 _ ⟨h0, per_len row⟩
  rw [List.Nodup, List.pairwise_map]
  refine (List.pairwise_lt_range (n := d)).imp_of_mem fun {a b} ha hb hlt => ?_
  rw [List.mem_range] at ha hb
  intro e
  have := hd.2 _ ⟨show 0 < b - a by omega, per_of_rot (by omega) (by omega) e⟩
  omega
/-- turning by one -/
theorem rot_one {row : List Int} {k : Nat} (h0 : 0 < row.length) (hk : k < row.length) : rot 1 (rot k row) = rot ((k + 1) % row.length) row := by
  refine getD_ext (by rw [rot_len, rot_len, rot_len]) fun i hi => ?_
  rw [rot_len, rot_len] at hi
  rw [rot_getD _ 1 i (by rw [rot_len]; omega) (by rw [rot_len]; exact hi), rot_len, rot_getD row k _ (by omega) (Nat.mod_lt _ h0), rot_getD row _ i (Nat.le_of_lt (Nat.mod_lt _ h0)) hi]
  congr 1
  rw [Nat.mod_add_mod, Nat.add_mod_mod]
  congr 1; omega
theorem rot_step {row : List Int} {k j : Nat} (h0 : 0 < row.length) (hj : j < row.length) : rot 1 (rot j (rot k row)) = rot ((j + 1) % row.length) (rot k row) := by
  have := rot_one (row := rot k row) (k := j) (by rw [rot_len]; exact h0) (by rw [rot_len]; exact hj)
  rwa [rot_len] at this
theorem rot_zero (row : List Int) : rot 0 row = row := by simp [rot]
end Mine
end

/-! # PWord4 -/
section
set_option linter.unusedVariables false
namespace Mine
/-! ## the least and the greatest turn: no border -/
theorem ltL_take : ∀ (k : Nat) (a b : List Int), a.length = b.length → ltL b a = false → ltL (b.take k) (a.take k) = false
  | 0, a, b, _, _ => by simp [ltL]
  | k + 1, [], [], _, _ => by simp [ltL]
  | k + 1, [], _ :: _, h, _ => by simp at h
  | k + 1, _ :: _, [], h, _ => by simp at h
  | k + 1, x :: xs, y :: ys, h, h1 => by
    simp only [List.take_succ_cons, ltL] at h1 ⊢
    by_cases hxy : y = x
    · rw [if_pos hxy] at h1 ⊢; exact ltL_take k xs ys (by simpa using h) h1
    · rw [if_neg hxy] at h1 ⊢; exact h1
theorem ltL_app : ∀ (u a b : List Int), ltL (u ++ a) (u ++ b) = ltL a b
  | [], a, b => rfl
  | x :: u, a, b => by simp only [List.cons_append, ltL, if_true]; exact ltL_app u a b

/-- the straight piece of the ring from a on, m long -/
def seg (M : List Int) (a m : Nat) : List Int := (List.range m).map fun i => cyc M (a + i)
theorem seg_len (M : List Int) (a m : Nat) : (seg M a m).length = m := by simp [seg]
theorem seg_add (M : List Int) (a m k : Nat) : seg M a (m + k) = seg M a m ++ seg M (a + m) k := by
  simp only [seg, List.range_add, List.map_append, List.map_map]
  congr 1
  refine List.map_congr_left fun i _ => ?_
  simp only [Function.comp_apply, Nat.add_assoc]
theorem seg_congr {M : List Int} {a b m : Nat} (h : ∀ i, i < m → cyc M (a + i) = cyc M (b + i)) : seg M a m = seg M b m :=
  List.map_congr_left fun i hi => h i (List.mem_range.mp hi)
theorem seg_inj {M : List Int} {a b m : Nat} (h : seg M a m = seg M b m) {i : Nat} (hi : i < m) : cyc M (a + i) = cyc M (b + i) := by
  have := congrArg (fun l => l[i]?) h
  simpa [seg, hi] using this
theorem take_rot {M : List Int} {k m : Nat} (hk : k ≤ M.length) (hm : m ≤ M.length) : (rot k M).take m = seg M k m := by
  refine getD_ext (by rw [List.length_take, rot_len, seg_len]; omega) fun i hi => ?_
  rw [List.length_take, rot_len] at hi
  have hi' : i < m := by omega
  have e1 : ((rot k M).take m).getD i 0 = (rot k M).getD i 0 := by
    simp only [List.getD_eq_getElem?_getD, List.getElem?_take, hi', if_true]
  rw [e1, rot_getD M k i hk (by omega)]
  simp [seg, hi', cyc, Nat.add_comm]

theorem no_border {M : List Int} {d b : Nat} (h0 : 0 < M.length) (hd : IsRoot M d) (hb0 : 0 < b) (hbd : b < d) (hbor : ∀ j, j < b → cyc M j = cyc M (d - b + j))
    (hcmp : (leL M (rot (d - b) M) ∧ leL M (rot b M)) ∨ (leL (rot (d - b) M) M ∧ leL (rot b M) M)) : False := by
  have hdle : d ≤ M.length := hd.2 _ ⟨h0, per_len M⟩
  have hM : M.take d = seg M 0 d := by
    have := take_rot (M := M) (k := 0) (m := d) (Nat.zero_le _) hdle
    rwa [rot_zero] at this
  -- u v = w u
  have huv : seg M 0 d = seg M 0 b ++ seg M b (d - b) := by
    have := seg_add M 0 b (d - b); rwa [show b + (d - b) = d by omega, Nat.zero_add] at this
  have hwu : seg M 0 d = seg M 0 (d - b) ++ seg M (d - b) b := by
    have := seg_add M 0 (d - b) b; rwa [show d - b + b = d by omega, Nat.zero_add] at this
  have h1 : (rot (d - b) M).take d = seg M 0 b ++ seg M 0 (d - b) := by
    rw [take_rot (by omega) hdle]
    have := seg_add M (d - b) b (d - b)
    rw [show b + (d - b) = d by omega] at this
    rw [this]
    congr 1
    · exact seg_congr fun i hi => by rw [Nat.zero_add]; exact (hbor i hi).symm
    · exact seg_congr fun i hi => by rw [show d - b + b + i = i + d by omega, hd.1.2, Nat.zero_add]
  have h2 : (rot b M).take (d - b) = seg M b (d - b) := take_rot (by omega) (by omega)
  have h3 : M.take (d - b) = seg M 0 (d - b) := by
    have := take_rot (M := M) (k := 0) (m := d - b) (Nat.zero_le _) (by omega)
    rwa [rot_zero] at this
  have hvw : seg M b (d - b) = seg M 0 (d - b) := by
    rcases hcmp with ⟨c1, c2⟩ | ⟨c1, c2⟩
    · have e1 := ltL_take d _ _ (by rw [rot_len]) c1
      rw [h1, hM, huv, ltL_app] at e1
      have e2 := ltL_take (d - b) _ _ (by rw [rot_len]) c2
      rw [h2, h3] at e2
      exact ltL_anti _ _ e2 e1
    · have e1 := ltL_take d _ _ (by rw [rot_len]) c1
      rw [h1, hM, huv, ltL_app] at e1
      have e2 := ltL_take (d - b) _ _ (by rw [rot_len]) c2
      rw [h2, h3] at e2
      exact ltL_anti _ _ e1 e2
  have hper : Per M b := by
    intro i
    have hmodd : ∀ i, cyc M i = cyc M (i % d) := fun i => by
      have := per_mul hd.1.2 (i / d) (i % d)
      rw [show i % d + d * (i / d) = i by have := Nat.div_add_mod i d; omega] at this
      exact this
    have e1 : cyc M (i + b) = cyc M (i % d + b) := by
      have := per_mul hd.1.2 (i / d) (i % d + b)
      rw [show i % d + b + d * (i / d) = i + b by have := Nat.div_add_mod i d; omega] at this
      exact this
    rw [e1, hmodd i]
    have hi := Nat.mod_lt i hd.1.1
    rcases Nat.lt_or_ge (i % d) (d - b) with hlt | hge
    · have := seg_inj hvw hlt
      rw [Nat.zero_add] at this
      rw [Nat.add_comm]; exact this
    · have := hbor (i % d - (d - b)) (by omega)
      rw [show d - b + (i % d - (d - b)) = i % d by omega] at this
      rw [← this, show i % d + b = i % d - (d - b) + d by omega, hd.1.2]
  have := hd.2 _ ⟨hb0, hper⟩
  omega

theorem mbd_zero {M : List Int} {d t : Nat} (h0 : 0 < M.length) (hd : IsRoot M d)
    (hcmp : (∀ k, k ≤ M.length → leL M (rot k M)) ∨ (∀ k, k ≤ M.length → leL (rot k M) M)) (hm : MBd (M.take d) d t) : t = 0 := by
  have hdle : d ≤ M.length := hd.2 _ ⟨h0, per_len M⟩
  rcases Nat.eq_zero_or_pos t with h | ht0
  · exact h
  · exfalso
    have htd := hm.1.1
    have hg : ∀ j, j < d → (M.take d).getD j 0 = cyc M j := fun j hj => by
      simp only [List.getD_eq_getElem?_getD, List.getElem?_take, hj, if_true, cyc]
      rw [Nat.mod_eq_of_lt (by omega)]
    refine no_border h0 hd ht0 htd (fun j hj => ?_) ?_
    · have := hm.1.2 j hj
      rwa [hg j (by omega), hg _ (by omega)] at this
    · rcases hcmp with h | h
      · exact .inl ⟨h _ (by omega), h _ (by omega)⟩
      · exact .inr ⟨h _ (by omega), h _ (by omega)⟩
end Mine
end

/-! # PWord5 -/
section
set_option linter.unusedVariables false
namespace Mine
/-! ## the way: the places sorted by the last sign, equal ones in their order -/
section
variable (n : Nat) (last : Nat → Int)
def wayG : List Nat := wy (fun i k => decide (last k = (i : Int))) n 3
def WR (a b : Nat) : Prop := last a < last b ∨ (last a = last b ∧ a < b)
theorem wayG_pairwise : (wayG n last).Pairwise (WR last) := by
  unfold wayG wy
  rw [List.pairwise_flatMap]
  refine ⟨fun i _ => ?_, ?_⟩
  · refine (List.pairwise_lt_range.filter _).imp_of_mem fun {a b} ha hb h => ?_
    have e1 := (List.mem_filter.mp ha).2
    have e2 := (List.mem_filter.mp hb).2
    simp only [decide_eq_true_eq] at e1 e2
    exact .inr ⟨by rw [e1, e2], h⟩
  · refine List.pairwise_lt_range.imp fun {i j} hij a ha b hb => ?_
    have e1 := (List.mem_filter.mp ha).2
    have e2 := (List.mem_filter.mp hb).2
    simp only [decide_eq_true_eq] at e1 e2
    left; rw [e1, e2]; omega
theorem WR_ne {a b : Nat} (h : WR last a b) : a ≠ b := by
  rintro rfl; rcases h with h | h <;> omega
theorem wayG_perm (h : ∀ k, k < n → last k = 0 ∨ last k = 1 ∨ last k = 2) : (wayG n last).Perm (List.range n) := by
  refine (List.perm_ext_iff_of_nodup ((wayG_pairwise n last).imp (WR_ne last)) List.nodup_range).mpr fun k => ?_
  unfold wayG wy
  simp only [List.mem_flatMap, List.mem_range, List.mem_filter, decide_eq_true_eq]
  constructor
  · rintro ⟨i, _, hk, _⟩; exact hk
  · intro hk
    rcases h k hk with e | e | e
    · exact ⟨0, by omega, hk, e⟩
    · exact ⟨1, by omega, hk, e⟩
    · exact ⟨2, by omega, hk, e⟩
end

theorem ltL_snoc : ∀ (u v : List Int) (c : Int), u.length = v.length → ltL (u ++ [c]) (v ++ [c]) = ltL u v
  | [], [], c, _ => by simp [ltL]
  | [], _ :: _, _, h => by simp at h
  | _ :: _, [], _, h => by simp at h
  | x :: u, y :: v, c, h => by
    simp only [List.cons_append, ltL]
    by_cases hxy : x = y
    · rw [if_pos hxy, if_pos hxy]; exact ltL_snoc u v c (by simpa using h)
    · rw [if_neg hxy, if_neg hxy]

/-- the last sign comes to the front -/
def rotR (v : List Int) : List Int := rot (v.length - 1) v
theorem rotR_eq {v : List Int} (h : 0 < v.length) : rotR v = v.getD (v.length - 1) 0 :: v.take (v.length - 1) := by
  unfold rotR rot
  rw [List.drop_eq_getElem_cons (by omega), List.drop_of_length_le (by omega)]
  simp [List.getD_eq_getElem?_getD, show v.length - 1 < v.length by omega]
theorem rot1_rotR {v : List Int} (h : 0 < v.length) : rot 1 (rotR v) = v := by
  unfold rotR
  rw [rot_one h (by omega), show v.length - 1 + 1 = v.length by omega, Nat.mod_self, rot_zero]

theorem rotR_le {a b : List Int} {n : Nat} (ha : a.length = n) (hb : b.length = n) (h0 : 0 < n)
    (h : a.getD (n - 1) 0 < b.getD (n - 1) 0 ∨ (a.getD (n - 1) 0 = b.getD (n - 1) 0 ∧ leL a b)) : leL (rotR a) (rotR b) := by
  show ltL (rotR b) (rotR a) = false
  rw [rotR_eq (by omega), rotR_eq (by omega), ha, hb]
  simp only [ltL]
  rcases h with h | ⟨h, hle⟩
  · rw [if_neg (by omega), decide_eq_false_iff_not]; omega
  · rw [if_pos h.symm]
    have split : ∀ v : List Int, v.length = n → v = v.take (n - 1) ++ [v.getD (n - 1) 0] := fun v hv => by
      rw [← List.take_append_drop (n - 1) v]
      congr 1
      · simp
      · rw [List.drop_eq_getElem_cons (by omega), List.drop_of_length_le (by omega)]
        simp [List.getD_eq_getElem?_getD, show n - 1 < v.length by omega]
    have hle' : ltL b a = false := hle
    rw [split a ha, split b hb, h, ltL_snoc _ _ _ (by simp [ha, hb])] at hle'
    exact hle'
end Mine
end

/-! # PWord6 -/
section
set_option linter.unusedVariables false
namespace Mine
theorem rots_rotR {row : List Int} (h0 : 0 < row.length) : ((rots row).map rotR).Perm (rots row) := by
  obtain ⟨m, hm⟩ : ∃ m, row.length = m + 1 := ⟨row.length - 1, by omega⟩
  have e : (rots row).map rotR = rot m row :: (List.range m).map fun k => rot k row := by
    unfold rots
    rw [hm, List.range_succ_eq_map, List.map_map, List.map_cons, List.map_map]
    congr 1
    · simp only [Function.comp_apply, rotR, rot_zero]; congr 1; omega
    · refine List.map_congr_left fun k hk => ?_
      rw [List.mem_range] at hk
      simp only [Function.comp_apply]
      have h1 : rot 1 (rot k row) = rot (k + 1) row := by
        rw [rot_one h0 (by omega), Nat.mod_eq_of_lt (by omega)]
      unfold rotR
      rw [rot_len]
      refine getD_ext (by rw [rot_len, rot_len, rot_len]) fun i hi => ?_
      rw [rot_len, rot_len] at hi
      rw [rot_getD _ _ i (by rw [rot_len]; omega) (by rw [rot_len]; exact hi), rot_len, rot_getD row (k + 1) _ (by omega) (Nat.mod_lt _ h0), rot_getD row k i (by omega) hi]
      congr 1
      rw [Nat.mod_add_mod, show i + (row.length - 1) + (k + 1) = i + k + row.length by omega, Nat.add_mod_right]
  rw [e]
  unfold rots
  rw [hm, List.range_succ, List.map_append]
  exact (List.perm_append_comm (l₁ := [rot m row]) (l₂ := (List.range m).map fun k => rot k row))

theorem list_eq_range {α : Type} (df : α) (T : List α) : T = (List.range T.length).map fun k => T.getD k df := by
  apply List.ext_getElem (by simp)
  intro i h1 h2
  simp [List.getD_eq_getElem?_getD, h1]

/-- Burrows and Wheeler's way -/
theorem way_ok {row : List Int} {T : List (List Int)} {n : Nat} (hn : row.length = n) (h0 : 0 < n) (hel : ∀ x ∈ row, x = 0 ∨ x = 1 ∨ x = 2) (hp : T.Perm (rots row)) (hs : T.Pairwise leL) :
    (wayOf n T).Perm (List.range n) ∧ (wayOf n T).Pairwise (WR (lastOf n T)) ∧ ∀ k, k < n → T.getD ((wayOf n T).getD k 0) [] = rot 1 (T.getD k []) := by
  have hTl : T.length = n := by rw [hp.length_eq]; simp [rots, hn]
  have hmem : ∀ k, k < n → T.getD k [] ∈ T := fun k hk => by
    rw [List.getD_eq_getElem?_getD, List.getElem?_eq_getElem (by omega)]; exact List.getElem_mem _
  have hrot : ∀ v ∈ T, ∃ k, k < n ∧ v = rot k row := fun v hv => by
    obtain ⟨k, hk, e⟩ := List.mem_map.mp (hp.mem_iff.mp hv)
    exact ⟨k, by simpa [hn] using List.mem_range.mp hk, e.symm⟩
  have hlen : ∀ v ∈ T, v.length = n := fun v hv => by obtain ⟨k, _, rfl⟩ := hrot v hv; rw [rot_len, hn]
  have hlast : ∀ k, k < n → lastOf n T k = 0 ∨ lastOf n T k = 1 ∨ lastOf n T k = 2 := fun k hk => by
    obtain ⟨j, hj, e⟩ := hrot _ (hmem k hk)
    unfold lastOf
    rw [e, rot_getD row j _ (by omega) (by omega)]
    have : (n - 1 + j) % row.length < row.length := Nat.mod_lt _ (by omega)
    rw [List.getD_eq_getElem?_getD, List.getElem?_eq_getElem this]
    exact hel _ (List.getElem_mem _)
  have hperm : (wayOf n T).Perm (List.range n) := wayG_perm n (lastOf n T) hlast
  have hpw : (wayOf n T).Pairwise (WR (lastOf n T)) := wayG_pairwise n (lastOf n T)
  refine ⟨hperm, hpw, fun k hk => ?_⟩
  have hZ : (wayOf n T).map (fun k => rotR (T.getD k [])) = T := by
    refine sorted_uniq ?_ ?_ hs
    · have e1 : (List.range n).map (fun k => rotR (T.getD k [])) = T.map rotR := by
        conv => rhs; rw [list_eq_range ([] : List Int) T, hTl]
        rw [List.map_map]; rfl
      refine (hperm.map _).trans ?_
      rw [e1]
      exact (hp.map rotR).trans ((rots_rotR (by omega)).trans hp.symm)
    · rw [List.pairwise_map]
      refine hpw.imp_of_mem fun {a b} ha hb hab => ?_
      have ha' : a < n := List.mem_range.mp (hperm.mem_iff.mp ha)
      have hb' : b < n := List.mem_range.mp (hperm.mem_iff.mp hb)
      refine rotR_le (hlen _ (hmem a ha')) (hlen _ (hmem b hb')) h0 ?_
      rcases hab with h | ⟨h1, h2⟩
      · exact .inl h
      · refine .inr ⟨h1, ?_⟩
        have := List.pairwise_iff_getElem.mp hs a b (by omega) (by omega) h2
        simpa [List.getD_eq_getElem?_getD, show a < T.length by omega, show b < T.length by omega] using this
  have hwl : (wayOf n T).length = n := by rw [hperm.length_eq, List.length_range]
  have hk' : T.getD k [] = rotR (T.getD ((wayOf n T).getD k 0) []) := by
    conv => lhs; rw [← hZ]
    simp [List.getD_eq_getElem?_getD, show k < (wayOf n T).length by omega]
  have hwk : (wayOf n T).getD k 0 < n := by
    have : (wayOf n T).getD k 0 ∈ wayOf n T := getD_mem (by omega)
    exact List.mem_range.mp (hperm.mem_iff.mp this)
  rw [hk', rot1_rotR (by rw [hlen _ (hmem _ hwk)]; exact h0)]
end Mine
end

/-! # PWord7 -/
section
set_option linter.unusedVariables false
namespace Mine
theorem shift_id (g c : Nat) (f : Nat → Nat) (hmono : ∀ p q, p < q → q < g → f p < f q) (hlo : ∀ q, q < g → c ≤ f q) (hhi : ∀ q, q < g → f q < c + g) : ∀ q, q < g → f q = c + q := by
  have h1 : ∀ q, q < g → c + q ≤ f q := by
    intro q
    induction q with
    | zero => intro h; have := hlo 0 h; omega
    | succ q ih => intro h; have := ih (by omega); have := hmono q (q + 1) (by omega) h; omega
  have h2 : ∀ k q, q + k + 1 = g → f q ≤ c + q := by
    intro k
    induction k with
    | zero => intro q h; have := hhi q (by omega); omega
    | succ k ih => intro q h; have := ih (q + 1) (by omega); have := hmono q (q + 1) (by omega) (by omega); omega
  intro q hq
  have := h1 q hq
  have := h2 (g - 1 - q) q (by omega)
  omega

/-- what is known of the sorted turns -/
structure TS (n d g : Nat) (S T : List (List Int)) (W : List Nat) : Prop where
  d0 : 0 < d
  g0 : 0 < g
  dg : d * g = n
  len : S.length = d
  nd : S.Nodup
  at_ : ∀ k, k < n → T.getD k [] = S.getD (k / g) []
  wl : W.length = n
  wlt : ∀ k, k < n → W.getD k 0 < n
  way : ∀ k, k < n → T.getD (W.getD k 0) [] = rot 1 (T.getD k [])
  inc : ∀ a b, a < b → b < n → T.getD (W.getD a 0) [] = T.getD (W.getD b 0) [] → W.getD a 0 < W.getD b 0

theorem nodup_getD {S : List (List Int)} (nd : S.Nodup) {i j : Nat} (hi : i < S.length) (hj : j < S.length) (h : S.getD i [] = S.getD j []) : i = j := by
  simp only [List.getD_eq_getElem?_getD, List.getElem?_eq_getElem hi, List.getElem?_eq_getElem hj, Option.getD_some] at h
  exact (List.getElem_inj nd).mp h

section
variable {n d g : Nat} {S T : List (List Int)} {W : List Nat} (H : TS n d g S T W)
include H
theorem TS.kq {p q : Nat} (hp : p < d) (hq : q < g) : p * g + q < n ∧ (p * g + q) / g = p := by
  have h1 : (p + 1) * g ≤ d * g := Nat.mul_le_mul_right g hp
  rw [Nat.add_mul, Nat.one_mul, H.dg] at h1
  refine ⟨by omega, ?_⟩
  rw [Nat.add_comm, Nat.mul_comm, Nat.add_mul_div_left _ _ H.g0, Nat.div_eq_of_lt hq, Nat.zero_add]
theorem TS.divlt {k : Nat} (hk : k < n) : k / g < d := by
  rw [Nat.div_lt_iff_lt_mul H.g0, H.dg]; exact hk

/-- a group goes to a group, place by place -/
theorem TS.group {p : Nat} (hp : p < d) : ∃ p', p' < d ∧ S.getD p' [] = rot 1 (S.getD p []) ∧ ∀ q, q < g → W.getD (p * g + q) 0 = p' * g + q := by
  have hT : ∀ q, q < g → T.getD (W.getD (p * g + q) 0) [] = rot 1 (S.getD p []) := fun q hq => by
    obtain ⟨h1, h2⟩ := H.kq hp hq
    rw [H.way _ h1, H.at_ _ h1, h2]
  have hk0 := H.kq hp H.g0
  have hw0 := H.wlt _ hk0.1
  refine ⟨W.getD (p * g + 0) 0 / g, H.divlt hw0, ?_, ?_⟩
  · rw [← H.at_ _ hw0]; exact hT 0 H.g0
  · have hdiv : ∀ q, q < g → W.getD (p * g + q) 0 / g = W.getD (p * g + 0) 0 / g := fun q hq => by
      have hw := H.wlt _ (H.kq hp hq).1
      refine nodup_getD H.nd (by rw [H.len]; exact H.divlt hw) (by rw [H.len]; exact H.divlt hw0) ?_
      rw [← H.at_ _ hw, ← H.at_ _ hw0, hT q hq, hT 0 H.g0]
    generalize W.getD (p * g + 0) 0 / g = c at hdiv
    have key := shift_id g (c * g) (fun q => W.getD (p * g + q) 0) (fun a b hab hb => ?_) (fun q hq => ?_) (fun q hq => ?_)
    · exact key
    · exact H.inc _ _ (by omega) (H.kq hp hb).1 (by rw [hT a (by omega), hT b hb])
    · show c * g ≤ W.getD (p * g + q) 0
      rw [← hdiv q hq]; exact Nat.div_mul_le_self _ _
    · show W.getD (p * g + q) 0 < c * g + g
      have := Nat.div_add_mod (W.getD (p * g + q) 0) g
      rw [hdiv q hq, Nat.mul_comm] at this
      have := Nat.mod_lt (W.getD (p * g + q) 0) H.g0
      omega
end
end Mine
end

/-! # PWord8 -/
section
set_option linter.unusedVariables false
namespace Mine
/-- the first turn, and how the others come from it -/
structure TM (n d g : Nat) (S T : List (List Int)) (W : List Nat) : Prop extends TS n d g S T W where
  n0 : 0 < n
  sl : ∀ p, p < d → (S.getD p []).length = n
  root : IsRoot (S.getD 0 []) d
  all : ∀ p, p < d → ∃ m, ∀ x, cyc (S.getD p []) x = cyc (S.getD 0 []) (x + m)

theorem cyc_inj {u v : List Int} (hl : u.length = v.length) (h : ∀ x, cyc u x = cyc v x) : u = v :=
  getD_ext hl fun i hi => by
    have := h i
    unfold cyc at this
    rwa [← hl, Nat.mod_eq_of_lt hi] at this

section
variable {n d g : Nat} {S T : List (List Int)} {W : List Nat} (H : TM n d g S T W)
include H
theorem TM.dn : d ≤ n := by
  have := H.root.2 _ ⟨show 0 < n from H.n0, by have := per_len (S.getD 0 []); rwa [H.sl 0 H.d0] at this⟩
  exact this

theorem TM.at_ring : ∀ j, plc W 0 j / g < d ∧ (∀ x, cyc (S.getD (plc W 0 j / g) []) x = cyc (S.getD 0 []) (x + j)) ∧ ∀ q, q < g → plc W q j = plc W 0 j / g * g + q
  | 0 => by
    have e : plc W 0 0 / g = 0 := by simp [plc]
    rw [e]
    refine ⟨H.d0, fun x => rfl, fun q hq => ?_⟩
    simp [plc]
  | j + 1 => by
    obtain ⟨h1, h2, h3⟩ := TM.at_ring j
    obtain ⟨p', a1, a2, a3⟩ := H.toTS.group h1
    have hq : ∀ q, q < g → plc W q (j + 1) = p' * g + q := fun q hq => by
      show W.getD (plc W q j) 0 = _
      rw [h3 q hq]; exact a3 q hq
    have e : plc W 0 (j + 1) / g = p' := by
      rw [hq 0 H.g0]; exact (H.toTS.kq a1 H.g0).2
    rw [e]
    refine ⟨a1, fun x => ?_, hq⟩
    rw [a2, cyc_rot _ 1 x (by rw [H.sl _ h1]; exact H.n0), h2]
    congr 1; omega

theorem TM.same {i j : Nat} (h : ∀ x, cyc (S.getD 0 []) (x + i) = cyc (S.getD 0 []) (x + j)) : plc W 0 i / g = plc W 0 j / g := by
  obtain ⟨h1, h2, h3⟩ := H.at_ring i
  obtain ⟨a1, a2, a3⟩ := H.at_ring j
  refine nodup_getD H.nd (by rw [H.len]; exact h1) (by rw [H.len]; exact a1) ?_
  refine cyc_inj (by rw [H.sl _ h1, H.sl _ a1]) fun x => ?_
  rw [h2, a2, h]

theorem TM.ring {q : Nat} (hq : q < g) : plc W q d = q := by
  obtain ⟨h1, h2, h3⟩ := H.at_ring d
  have e := H.same (i := d) (j := 0) fun x => H.root.1.2 x
  have e0 : plc W 0 0 / g = 0 := by simp [plc]
  rw [h3 q hq, e, e0]; omega

theorem TM.inj {i j : Nat} (hij : i < j) (hj : j < i + d) (h : plc W 0 i / g = plc W 0 j / g) : False := by
  obtain ⟨h1, h2, h3⟩ := H.at_ring i
  obtain ⟨a1, a2, a3⟩ := H.at_ring j
  have hp : Per (S.getD 0 []) (j - i) := fun x => by
    have e1 := h2 (x + n * i - i)
    have e2 := a2 (x + n * i - i)
    have hni : i ≤ n * i := Nat.le_mul_of_pos_left i H.n0
    rw [h, e2, show x + n * i - i + i = x + n * i by omega, show x + n * i - i + j = x + (j - i) + n * i by omega] at e1
    have := cyc_mul (S.getD 0 [])
    rw [H.sl 0 H.d0] at this
    rwa [this, this] at e1
  have := H.root.2 _ ⟨by omega, hp⟩
  omega

theorem TM.met : ((List.range g).flatMap fun q => (List.range d).map fun i => plc W q (i + 1)).Perm (List.range n) := by
  refine (List.perm_ext_iff_of_nodup ?_ List.nodup_range).mpr fun k => ?_
  · rw [List.Nodup, List.pairwise_flatMap]
    refine ⟨fun q hq => ?_, ?_⟩
    · rw [List.mem_range] at hq
      rw [List.pairwise_map]
      refine (List.pairwise_lt_range (n := d)).imp_of_mem fun {a b} ha hb hlt e => ?_
      rw [List.mem_range] at ha hb
      have ea := (H.at_ring (a + 1)).2.2 q hq
      have eb := (H.at_ring (b + 1)).2.2 q hq
      rw [ea, eb] at e
      have e' : plc W 0 (a + 1) / g * g = plc W 0 (b + 1) / g * g := by omega
      exact H.inj (show a + 1 < b + 1 by omega) (by omega) (Nat.eq_of_mul_eq_mul_right H.g0 e')
    · refine (List.pairwise_lt_range (n := g)).imp_of_mem fun {q q'} hq hq' hlt x hx y hy => ?_
      rw [List.mem_range] at hq hq'
      obtain ⟨a, ha, rfl⟩ := List.mem_map.mp hx
      obtain ⟨b, hb, rfl⟩ := List.mem_map.mp hy
      rw [(H.at_ring (a + 1)).2.2 q hq, (H.at_ring (b + 1)).2.2 q' hq']
      intro e
      have e1 := congrArg (· % g) e
      simp only [Nat.mul_add_mod_self_right, Nat.mod_eq_of_lt hq, Nat.mod_eq_of_lt hq'] at e1
      omega
  · rw [List.mem_flatMap, List.mem_range]
    constructor
    · rintro ⟨q, hq, hk⟩
      rw [List.mem_range] at hq
      obtain ⟨i, hi, rfl⟩ := List.mem_map.mp hk
      obtain ⟨h1, h2, h3⟩ := H.at_ring (i + 1)
      rw [h3 q hq]
      exact (H.toTS.kq h1 hq).1
    · intro hk
      have hp := H.toTS.divlt hk
      obtain ⟨m, hm⟩ := H.all _ hp
      refine ⟨k % g, List.mem_range.mpr (Nat.mod_lt _ H.g0), List.mem_map.mpr ?_⟩
      -- the step that meets it
      obtain ⟨i, hi, he⟩ : ∃ i, i < d ∧ ∃ c c', m + d * c = i + 1 + d * c' := by
        have hlt := Nat.mod_lt m H.d0
        have hdm := Nat.div_add_mod m d
        rcases Nat.eq_zero_or_pos (m % d) with h | h
        · refine ⟨d - 1, by have := H.d0; omega, 1, m / d, ?_⟩
          have := H.d0; omega
        · exact ⟨m % d - 1, by omega, 0, m / d, by omega⟩
      obtain ⟨c, c', he⟩ := he
      refine ⟨i, List.mem_range.mpr hi, ?_⟩
      obtain ⟨h1, h2, h3⟩ := H.at_ring (i + 1)
      rw [h3 _ (Nat.mod_lt _ H.g0)]
      have e : plc W 0 (i + 1) / g = k / g := by
        refine nodup_getD H.nd (by rw [H.len]; exact h1) (by rw [H.len]; exact hp) ?_
        refine cyc_inj (by rw [H.sl _ h1, H.sl _ hp]) fun x => ?_
        rw [h2, hm, ← per_mul H.root.1.2 c (x + m), ← per_mul H.root.1.2 c' (x + (i + 1))]
        congr 1; omega
      rw [e, Nat.mul_comm]; exact Nat.div_add_mod k g

theorem TM.read (hW : W = wayOf n T) {q : Nat} (hq : q < g) : (List.replicate g (readOf n T q d)).flatten = S.getD 0 [] := by
  have e : readOf n T q d = seg (S.getD 0 []) 0 d := by
    unfold readOf seg
    refine List.map_congr_left fun i hi => ?_
    rw [← hW]
    obtain ⟨h1, h2, h3⟩ := H.at_ring (i + 1)
    rw [h3 q hq]
    obtain ⟨k1, k2⟩ := H.toTS.kq h1 hq
    unfold lastOf
    rw [H.at_ _ k1, k2]
    have e1 := h2 (n - 1)
    have hn0 := H.n0
    rw [show n - 1 + (i + 1) = i + n by omega] at e1
    have e2 := cyc_add (S.getD 0 []) i
    rw [H.sl 0 H.d0] at e2
    rw [e2] at e1
    rw [Nat.zero_add, ← e1]
    unfold cyc
    rw [H.sl _ h1, Nat.mod_eq_of_lt (by omega)]
  rw [e]
  have key : ∀ c, (List.replicate c (seg (S.getD 0 []) 0 d)).flatten = seg (S.getD 0 []) 0 (d * c) := by
    intro c
    induction c with
    | zero => simp [seg]
    | succ c ih =>
      rw [List.replicate_succ', List.flatten_append, ih, Nat.mul_succ, seg_add]
      congr 1
      simp only [List.flatten_cons, List.flatten_nil, List.append_nil]
      refine seg_congr fun i hi => ?_
      rw [Nat.zero_add, Nat.zero_add, Nat.add_comm (d * c) i]
      exact (per_mul H.root.1.2 c i).symm
  rw [key, H.dg]
  have := take_rot (M := S.getD 0 []) (k := 0) (m := n) (Nat.zero_le _) (by rw [H.sl 0 H.d0]; omega)
  rw [← this, rot_zero]
  exact List.take_of_length_le (by rw [H.sl 0 H.d0]; omega)
end
end Mine
end

/-! # PWord9 -/
section
set_option linter.unusedVariables false
namespace Mine
theorem lt_of_le_ne {a b : List Int} (h : leL a b) (hne : a ≠ b) : ltL a b = true := by
  cases hc : ltL a b with
  | true => rfl
  | false => exact absurd (ltL_anti a b hc h) hne
theorem sorted_getD {S : List (List Int)} (hs : S.Pairwise leL) {i j : Nat} (hij : i ≤ j) (hj : j < S.length) : leL (S.getD i []) (S.getD j []) := by
  rcases Nat.eq_or_lt_of_le hij with rfl | hlt
  · exact ltL_irrefl _
  · have := List.pairwise_iff_getElem.mp hs i j (by omega) hj hlt
    simpa [List.getD_eq_getElem?_getD, show i < S.length by omega, hj] using this
theorem mem_getD {S : List (List Int)} {v : List Int} (h : v ∈ S) : ∃ i, i < S.length ∧ S.getD i [] = v := by
  obtain ⟨i, hi, e⟩ := List.mem_iff_getElem.mp h
  exact ⟨i, hi, by simp [List.getD_eq_getElem?_getD, hi, e]⟩
theorem rot_rot_mem {row : List Int} {j k : Nat} (h0 : 0 < row.length) (hj : j ≤ row.length) (hk : k ≤ row.length) : rot k (rot j row) ∈ rots row := by
  refine List.mem_map.mpr ⟨(j + k) % row.length, List.mem_range.mpr (Nat.mod_lt _ h0), ?_⟩
  refine cyc_inj (by rw [rot_len, rot_len, rot_len]) fun x => ?_
  rw [cyc_rot _ _ _ (Nat.le_of_lt (Nat.mod_lt _ h0)), cyc_rot _ _ _ (by rw [rot_len]; exact hk), cyc_rot _ _ _ hj]
  have := cyc_mul row (x + (j + k) % row.length) ((j + k) / row.length)
  rw [← this]
  congr 1
  have := Nat.div_add_mod (j + k) row.length
  omega

theorem plaw : PLaw := by
  intro row r T h0 hel hR hp hs
  have hd : IsRoot row r := root_is h0 hR
  have hs' : T.Pairwise leL := hs
  obtain ⟨S, hSp, hSs, hT⟩ := turns_ex h0 hd hp hs'
  generalize hn : row.length = n at *
  have hdn : n % r = 0 := by have := hd.dvd (per_len row); rwa [hn] at this
  have hdle : r ≤ n := hd.2 _ ⟨h0, by have := per_len row; rwa [hn] at this⟩
  have hdg : r * (n / r) = n := by have := Nat.div_add_mod n r; omega
  have hr0 := hd.1.1
  have hg0 : 0 < n / r := Nat.div_pos hdle hr0
  generalize hg : n / r = g at *
  have hSl : S.length = r := by rw [hSp.length_eq]; simp
  have hSn : S.Nodup := hSp.nodup_iff.mpr (rots_nodup (by omega) hd)
  have hTl : T.length = n := by rw [hp.length_eq]; simp [rots, hn]
  have hat : ∀ k, k < n → T.getD k [] = S.getD (k / g) [] := fun k hk => by
    rw [hT]; exact flatMap_rep_getD [] g hg0 S k (by rw [hSl, hdg]; exact hk)
  have hmem : ∀ k, k < n → T.getD k [] ∈ T := fun k hk => by
    rw [List.getD_eq_getElem?_getD, List.getElem?_eq_getElem (by omega)]; exact List.getElem_mem _
  have hSm : ∀ p, p < r → ∃ a, a < r ∧ S.getD p [] = rot a row := fun p hp => by
    have : S.getD p [] ∈ S := by rw [List.getD_eq_getElem?_getD, List.getElem?_eq_getElem (by omega)]; exact List.getElem_mem _
    obtain ⟨a, ha, e⟩ := List.mem_map.mp (hSp.mem_iff.mp this)
    exact ⟨a, List.mem_range.mp ha, e.symm⟩
  have hrot : ∀ v ∈ T, ∃ k, k < n ∧ v = rot k row := fun v hv => by
    obtain ⟨k, hk, e⟩ := List.mem_map.mp (hp.mem_iff.mp hv)
    exact ⟨k, by simpa [hn] using List.mem_range.mp hk, e.symm⟩
  obtain ⟨w1, w2, w3⟩ := way_ok hn h0 hel hp hs'
  have hwl : (wayOf n T).length = n := by rw [w1.length_eq, List.length_range]
  have hwlt : ∀ k, k < n → (wayOf n T).getD k 0 < n := fun k hk => by
    have : (wayOf n T).getD k 0 ∈ wayOf n T := getD_mem (by omega)
    exact List.mem_range.mp (w1.mem_iff.mp this)
  have H : TM n r g S T (wayOf n T) := by
    refine { d0 := hr0, g0 := hg0, dg := hdg, len := hSl, nd := hSn, at_ := hat, wl := hwl, wlt := hwlt, way := w3, inc := ?_, n0 := h0, sl := ?_, root := ?_, all := ?_ }
    · intro a b hab hb he
      have hw := List.pairwise_iff_getElem.mp w2 a b (by omega) (by omega) hab
      have ea : (wayOf n T).getD a 0 = (wayOf n T)[a]'(by omega) := by simp [List.getD_eq_getElem?_getD, show a < (wayOf n T).length by omega]
      have eb : (wayOf n T).getD b 0 = (wayOf n T)[b]'(by omega) := by simp [List.getD_eq_getElem?_getD, show b < (wayOf n T).length by omega]
      rw [← ea, ← eb] at hw
      rcases hw with h | h
      · unfold lastOf at h; rw [he] at h; exact absurd h (Int.lt_irrefl _)
      · exact h.2
    · intro p hp
      obtain ⟨a, _, e⟩ := hSm p hp
      rw [e, rot_len, hn]
    · obtain ⟨a, ha, e⟩ := hSm 0 hr0
      rw [e]; exact (root_rot (by omega)).mpr hd
    · intro p hp
      obtain ⟨a, ha, e⟩ := hSm p hp
      obtain ⟨b, hb, e'⟩ := hSm 0 hr0
      refine ⟨a + (n - b), fun x => ?_⟩
      rw [e, e', cyc_rot _ _ _ (by omega), cyc_rot _ _ _ (by omega)]
      have := cyc_add row (x + a)
      rw [← this]
      congr 1; omega
  have hle : ∀ i, i < n → ∀ k, k ≤ n → ∃ j, j < n ∧ rot k (T.getD i []) = T.getD j [] := fun i hi k hk => by
    obtain ⟨a, ha, e⟩ := hrot _ (hmem i hi)
    have : rot k (T.getD i []) ∈ T := by
      rw [e]; exact hp.mem_iff.mpr (rot_rot_mem (by omega) (by omega) (by omega))
    obtain ⟨j, hj, e2⟩ := mem_getD this
    exact ⟨j, by omega, e2.symm⟩
  have hTlen : ∀ i, i < n → (T.getD i []).length = n := fun i hi => by
    obtain ⟨a, ha, e⟩ := hrot _ (hmem i hi)
    rw [e, rot_len, hn]
  have hTroot : ∀ i, i < n → IsRoot (T.getD i []) r := fun i hi => by
    obtain ⟨a, ha, e⟩ := hrot _ (hmem i hi)
    rw [e]; exact (root_rot (by omega)).mpr hd
  have e0 : T.getD 0 [] = S.getD 0 [] := by have := hat 0 h0; rwa [Nat.zero_div] at this
  have P : PC row r T := by
    constructor <;> (try rw [hn]) <;> (try rw [hg])
    · exact hr0
    · exact hdg
    · refine hp.mem_iff.mpr (List.mem_map.mpr ⟨0, List.mem_range.mpr (by omega), rot_zero row⟩)
    · intro k k1 k2 k3
      rw [hat _ (by omega), hat _ k2]
      have hlt : (k - 1) / g < k / g := by
        rw [Nat.div_lt_iff_lt_mul hg0]
        have := Nat.div_add_mod k g
        rw [k3, Nat.mul_comm] at this
        omega
      have hkr : k / g < r := by rw [Nat.div_lt_iff_lt_mul hg0, hdg]; exact k2
      refine lt_of_le_ne (sorted_getD hSs (Nat.le_of_lt hlt) (by omega)) fun e => ?_
      have := nodup_getD hSn (by omega) (by omega) e
      omega
    · intro k k1 k2 k3
      rw [hat _ (by omega), hat _ k2]
      congr 1
      have h1 := Nat.div_add_mod k g
      have h2 := Nat.mod_lt k hg0
      have : k - 1 = (k % g - 1) + g * (k / g) := by omega
      rw [this, Nat.add_mul_div_left _ _ hg0, Nat.div_eq_of_lt (by omega), Nat.zero_add]
    · intro k r' hk h'
      exact (root_is (by rw [hTlen k hk]; exact h0) h').uniq (hTroot k hk)
    · exact hwl
    · exact hwlt
    · intro k hk; rw [w3 k hk]; rfl
    · intro q hq; exact H.ring hq
    · intro q hq; rw [e0]; exact H.read rfl hq
    · exact H.met
    · intro t ht
      refine mbd_zero (by rw [hTlen 0 h0]; exact h0) (hTroot 0 h0) (.inl fun k hk => ?_) ht
      rw [hTlen 0 h0] at hk
      obtain ⟨j, hj, e⟩ := hle 0 h0 k hk
      rw [e]; exact sorted_getD hs' (Nat.zero_le _) (by omega)
    · intro t ht
      have hl : n - 1 < n := by omega
      refine mbd_zero (by rw [hTlen _ hl]; exact h0) (hTroot _ hl) (.inr fun k hk => ?_) ht
      rw [hTlen _ hl] at hk
      obtain ⟨j, hj, e⟩ := hle _ hl k hk
      rw [e]; exact sorted_getD hs' (by omega) (by omega)
  exact P
end Mine
end

/-! # MLawA1 -/
section
open PySem PySem.W PyProof.Rows PySem.Calls
set_option linter.unusedVariables false
set_option maxRecDepth 100000
namespace Mine
local macro_rules | `(tactic| walk_at "mem") => `(tactic| with_reducible repeat (first | exact List.mem_cons_self | refine List.mem_cons_of_mem _ ?_))
local macro_rules | `(tactic| walk_at "put") => `(tactic| (intro h' S'; simp only [putB, ofString_inj, String.reduceEq, reduceIte, List.filter, ne_eq, not_true_eq_false, not_false_eq_true, decide_true, decide_false, Bool.not_true, Bool.not_false] at S'; try dsimp only))
local macro_rules | `(tactic| walk_at "sub") => `(tactic| repeat (first | exact sub_nil | refine sub_cons (by walk_at "mem") ?_))
/- one step -/
local macro_rules | `(tactic| walk_at "m") => `(tactic| first
  | ((with_reducible show wpAny _ _ (eval (Expr.Name _ _) _) _ _ _); refine ev_loc (by assumption) (by walk_at "mem") ?_)
  | ((with_reducible show wpAny _ _ (eval (Expr.Name _ _) (envOfC _ _ _ _ _)) _ _ _); refine ev_cell (by rfl) (by assumption) (by walk_at "mem") ?_)
  | (with_reducible refine wpAny_Constant_int ?_)
  | (with_reducible refine wpAny_execs_nil ?_; try dsimp only)
  | (with_reducible refine wpAny_execs_cons ?_)
  | ((with_reducible show wpAny _ _ (exec (Stmt.Assign [Expr.Name _ _] _ _) _) _ _ _); refine wpAny_Assign_Name ?_)
  | ((with_reducible show wpAny _ _ (exec (Stmt.Assign [Expr.Subscript _ _ _] _ _) _) _ _ _); refine wpAny_Assign_Subscript ?_)
  | (with_reducible refine wpAny_Return_some ?_)
  | (with_reducible refine wpAny_If ?_)
  | (with_reducible refine wpAny_Break ?_; try dsimp only)
  | (with_reducible refine wpAny_Continue ?_; try dsimp only)
  | (with_reducible refine Subscript_ ?_)
  | (with_reducible refine wpAny_BinOp ?_)
  | ((with_reducible show wpAny _ _ (isTrue (Expr.Compare _ [_] [_] _) _ _) _ _ _); refine wpAny_isTrue_Compare1 ?_)
  | ((with_reducible show wpAny _ _ (eval (Expr.Compare _ [_] [_] _) _) _ _ _); refine wpAny_Compare1 ?_)
  | (with_reducible refine PyProof.Rows.isTrue_not ?_)
  | (with_reducible refine PyProof.Rows.isTrue_and_nil ?_)
  | (with_reducible refine PyProof.Rows.isTrue_and ?_)
  | (with_reducible refine PyProof.Rows.isTrue_or_nil ?_)
  | (with_reducible refine PyProof.Rows.isTrue_or ?_)
  | (with_reducible refine wpAny_truthy_bool ?_)
  | ((with_reducible show wpAny _ _ (exec (Stmt.Expr _ _) _) _ _ _); refine wpAny_Expr_any ?_)
  | ((with_reducible show wpAny _ _ (eval (Expr.IfExp _ _ _ _) _) _ _ _); refine wpAny_IfExp ?_)
  | ((with_reducible show wpAny _ _ (binaryOp Operator.Mult (Value.int _ _) (Value.int _ _)) _ _ _); refine PyProof.Rows.mul_int ?_ (by mul_fits))
  | ((with_reducible show wpAny _ _ (spliced (backTo _ (starEach [] _))) _ _ _); refine args_nil ?_)
  | ((with_reducible show wpAny _ _ (spliced (backTo _ (starEach (_ :: _) _))) _ _ _); refine args_cons ?_)
  | ((with_reducible show wpAny _ _ (eval (Expr.UnaryOp UnaryOp.USub _ _) _) _ _ _); refine PyProof.Rows.UnaryOp_ ?_)
  | (with_reducible refine PyProof.Rows.neg_int ?_)
  | (with_reducible refine PyProof.Rows.sub_int ?_)
  | (with_reducible refine PyProof.Rows.add_int ?_)
  | (with_reducible refine PyProof.Rows.lt_int ?_)
  | (with_reducible refine PyProof.Rows.gt_int ?_)
  | (with_reducible refine PyProof.Rows.eq_int ?_)
  | (with_reducible refine PyProof.Rows.ne_int ?_)
  | (with_reducible refine ite_t ?_)
  | (with_reducible refine ite_f ?_)
  | ((with_reducible show wpAny _ _ (storeName _ _ _) _ _ _); refine st_loc (by assumption) ?_; walk_at "put"))

theorem flat_mem {k : Nat} {xs : List Int} {x : Int} (h : x ∈ (List.replicate k xs).flatten) : x ∈ xs := by
  obtain ⟨l, h1, h2⟩ := List.mem_flatten.mp h
  rw [List.eq_of_mem_replicate h1] at h2; exact h2

set_option maxHeartbeats 16000000 in
theorem law_A1 {prog : Program} {w : World} {A : Around} {s : Shared} {G B : Heap} {L a : Addr} {cd : Value} {Q : Flow → Shared → Prop} {sc : Addr} {xs : List Int}
    (hPL : PLaw) (hPush : PushOk) (hPop : PopOk)
    (hA : Ok A 6) (hG : Gl G) (hGB : G.StaysIn B)
    (S : St B L s.heap [("script", .ref sc)] [(L + 1, CP none), (L + 2, CP none), (L + 3, CP none), (L + 4, CP none)])
    (hsc : IList B sc xs) (hxl : xs.length ≤ 63)
    (hQ : ∀ h' tk, B.StaysIn h' → Q (.ret (.bool true)) { s with heap := h', toks := tk }) :
    wpAny (model prog w) A (execs dLaw.body (lawEnv L a cd)) Q NoE s := by
  have hsl : (2 : Nat) ^ 20 ≤ sizeLine := by decide
  obtain ⟨vx, hvx, hix⟩ := id hsc
  have hvl := intsAre_len hix
  refine wpAny_execs_cons ?_
  iterate 3 walk_at "m"
  walk_at "m"
  refine Call_ (ev_blt hG (stays_trans hGB S.keep) (by simp) boot_len ?_)
  refine PyProof.Rows.callWith_builtin1 ?_
  repeat walk_at "m"
  refine len_s (.inr (hsc.keeps S.keep)) (by omega) fun _ _ => ?_
  repeat walk_at "m"
  refine mod_int (by omega) ?_
  rw [show ((xs.length : Int)).fmod 3 = ((xs.length % 3 : Nat) : Int) from fmod_nat xs.length 3]
  iterate 3 walk_at "m"
  rename_i h₂ S₂
  have et : (1 : Int) + ((xs.length % 3 : Nat) : Int) = ((1 + xs.length % 3 : Nat) : Int) := by omega
  rw [et] at S₂
  have hm1 : 1 ≤ 1 + xs.length % 3 := by omega
  have hm3 : 1 + xs.length % 3 ≤ 3 := by omega
  generalize 1 + xs.length % 3 = m at S₂ hm1 hm3
  iterate 2 walk_at "m"
  refine wpAny_mono (Q := fun v s' => ∃ h' tk D vs base, s' = { s with heap := h', toks := tk } ∧ v = .ref D ∧ IntsAre vs base ∧ 1 ≤ base.length ∧ base.length ≤ 18 / m ∧ (∀ x ∈ base, x = 0 ∨ x = 1 ∨ x = 2) ∧
    ∃ tt, St B L h' [("script", .ref sc), ("times", .int (m : Nat) tt)] [(D, LP vs), (L + 1, CP none), (L + 2, CP none), (L + 3, CP none), (L + 4, CP none)]) ?or ?rest (fun _ _ h => h)
  case rest =>
    rintro v s' ⟨h₃, tk₃, D, vs, base, rfl, rfl, hvs, hb1, hb2, hbe, tt, S₃⟩
    have hvsl := intsAre_len hvs
    have hbm : base.length * m ≤ 18 := by
      rcases (show m = 1 ∨ m = 2 ∨ m = 3 by omega) with rfl | rfl | rfl <;> omega
    walk_at "m"
    refine mul_l S₃ (S₃.get (.head _)) (by omega) (by intro q; rw [q] at hvsl; simp at hvsl; omega) (by rw [Int.toNat_natCast]; rw [hvsl]; omega) (by omega) fun h₄ ra S₄ _ _ => ?_
    rw [Int.toNat_natCast] at S₄
    have hir := intsAre_rep hvs m
    have hel : ∀ x ∈ (List.replicate m base).flatten, x = 0 ∨ x = 1 ∨ x = 2 := fun x hx => hbe x (flat_mem hx)
    have hrl : (List.replicate m base).flatten.length = base.length * m := by simp [Nat.mul_comm]
    have hpos : 0 < base.length * m := Nat.mul_pos (by omega) (by omega)
    generalize (List.replicate m base).flatten = row at hir hel hrl
    generalize (List.replicate m vs).flatten = vr at S₄ hir
    generalize base.length * m = n at hrl hpos hbm
    -- row is frozen
    have S₄' : St B L h₄ [("script", .ref sc), ("times", .int (m : Nat) tt)] ([(ra, LP vr)] ++ [(L + 1, CP none), (L + 2, CP none), (L + 3, CP none), (L + 4, CP none)]) :=
      S₄.sub (fun _ h => h) (.cons_cons _ (.cons _ (List.Sublist.refl _)))
    obtain ⟨B', S₅, hfr, hBB⟩ : ∃ B', St B' L h₄ [("script", .ref sc), ("times", .int (m : Nat) tt)] [(L + 1, CP none), (L + 2, CP none), (L + 3, CP none), (L + 4, CP none)] ∧ (∀ p ∈ [(ra, LP vr)], ∃ o, B'.get? p.1 = some o ∧ p.2 o) ∧ B.StaysIn B' := ⟨_, St.freeze S₄'⟩
    have hrow : IList B' ra row := IList.of (hfr _ (.head _)) hir
    have hGB' := stays_trans hGB hBB
    clear S₄ S₄' hfr
    iterate 2 walk_at "m"
    rename_i h₆ S₆
    walk_at "m"
    refine Call_ (ev_blt hG (stays_trans hGB' S₆.keep) (by simp) boot_len ?_)
    refine PyProof.Rows.callWith_builtin1 ?_
    repeat walk_at "m"
    refine len_s (.inr (hrow.keeps S₆.keep)) (by omega) fun ts tk₇ => ?_
    rw [hrl]
    refine st_cell S₆ 0 rfl fun h₇ S₇ => ?_
    dsimp only [List.set] at S₇ ⊢
    iterate 2 walk_at "m"
    refine Call_ (ev_def dRoot hG (stays_trans hGB' S₇.keep) fun f' hf' => ?_)
    refine call_fn hf' ?_
    repeat walk_at "m"
    refine ⟨stays_trans hGB' S₇.keep, ?_⟩
    refine root_spec (hA.le (by omega)) hG (stays_trans hGB' S₇.keep) hf' (.inr (hrow.keeps S₇.keep)) (by omega) (by omega) (fun h₈ tk₈ r tr k₈ hr => ?_)
    have S₈ := S₇.grow k₈
    have hr0 := hr.pos (by omega)
    dsimp only
    refine st_cell S₈ 1 rfl fun h₉ S₉ => ?_
    dsimp only [List.set] at S₉ ⊢
    repeat walk_at "m"
    refine floordiv_int (by omega) ?_ (.inl (PyProof.noPylong_small ?_))
    · rw [fdiv_nat]
      iterate 2 walk_at "m"
      rename_i h₁₀ S₁₀
      iterate 1 walk_at "m"
      refine List_ ?_
      repeat walk_at "m"
      refine new_list S₁₀ (by simp) fun h₁₁ ha S₁₁ _ _ => ?_
      refine st_cell S₁₁ 3 rfl fun h₁₂ S₁₂ => ?_
      dsimp only [List.set] at S₁₂ ⊢
      have SA := S₁₂.sub (bs' := [("row", .ref ra), ("rings", .int (n / r : Nat) _)]) (by walk_at "sub") (List.Sublist.refl _)
      with_reducible show wpAny _ _ (execs _ _) _ _ _
      exact law_A2 (s := { s with heap := h₁₂, toks := _ }) hPL hPush hPop hA hG hGB' SA hrow hrl hpos (by omega) hel hr (fun h'' tk'' k => hQ h'' tk'' (stays_trans hBB k))
    · have : r ≤ n := by
        obtain ⟨t, _, e⟩ := hr
        rw [e]; split <;> omega
      omega
  case or =>
    refine PyProof.Rows.BoolOp_or ?_
    refine lc_plain (cl := []) rfl rfl (by decide) ?_
    walk_at "m"
    walk_at "m"
    refine sl_none_some ?_
    repeat walk_at "m"
    refine floordiv_int (by omega) ?_ (.inl (PyProof.noPylong_small (by omega)))
    rw [show ((18 : Int)).fdiv ((m : Nat) : Int) = ((18 / m : Nat) : Int) from fdiv_nat 18 m]
    intro h₃ sl₃ k₃ hsl₃
    have S₃ := S₂.grow k₃
    refine sl_upto (VList.keeps hvx S₃.keep) hsl₃ (by omega) fun h₄ d₄ k₄ hf₄ hd₄ => ?_
    have S₄ := S₃.alloc k₄ hf₄ hd₄
    refine iter_list S₄ (S₄.isList (.head _)) fun h₅ it S₅ k₅ => ?_
    have hin := inner_stays (ms₀ := [(it, LI d₄ 0)]) S₅
    have hdl : VList _ d₄ (vx.take (18 / m)) := LP.isList (inner_get (ms₀ := [(it, LI d₄ 0)]) S₅ (p := (d₄, LP (vx.take (18 / m)))) (.head _))
    have hdi : IntsAre (vx.take (18 / m)) (xs.take (18 / m)) := intsAre_take hix _
    have hdlen := intsAre_len hdi
    refine comp_plain (P := fun i => LI d₄ i) (ms₁ := []) S₅ (it_listI hA.hd hdl) (by simp; omega) (by decide) rfl rfl
      (fun i acc msI => msI = [] ∧ IntsAre acc (((xs.take (18 / m)).take i).map fun x => x.fmod 3)) ⟨rfl, .nil⟩ ?step ?fin
    case step =>
      rintro C D i v acc msI h tk hi hv ⟨rfl, hacc⟩ hal S₆
      have hi' : i < (xs.take (18 / m)).length := by omega
      obtain ⟨t, e⟩ := intsAre_get hdi hi'
      rw [e] at hv
      cases hv
      repeat walk_at "m"
      refine mod_int (by omega) ?_
      refine ⟨_, _, _, _, rfl, ⟨rfl, ?_⟩, S₆⟩
      have e2 : (xs.take (18 / m)).take (i + 1) = (xs.take (18 / m)).take i ++ [(xs.take (18 / m)).getD i 0] := by
        rw [List.take_add_one, List.getD_eq_getElem?_getD, List.getElem?_eq_getElem hi']; rfl
      rw [e2, List.map_append]
      exact intsAre_append hacc (.cons _ _ .nil)
    case fin =>
      rintro D h₆ tk₆ acc msF ⟨rfl, hacc⟩ hal hfD k₆ S₆
      rw [List.take_of_length_le (by omega)] at hacc
      have hlen := intsAre_len hacc
      rw [List.length_map] at hlen
      have hlt : (xs.take (18 / m)).length ≤ 18 / m := by rw [List.length_take]; omega
      have h18 : 18 / m ≤ 18 := Nat.div_le_self _ _
      have hm18 : 1 ≤ 18 / m := by rcases (show m = 1 ∨ m = 2 ∨ m = 3 by omega) with rfl | rfl | rfl <;> decide
      refine wpAny_truthy_list (S₆.isList (.head _)) (by simp; omega) ?_
      refine split_bool (fun hb => ?_) (fun hb => ?_)
      · have hne : 0 < acc.length := by
          cases acc with
          | nil => simp at hb
          | cons _ _ => simp
        refine ⟨h₆, _, D, acc, _, rfl, rfl, hacc, by rw [List.length_map]; omega, by rw [List.length_map]; omega, fun x hx => ?_, _, S₆.sub (fun _ h => h) (.cons_cons _ (.cons _ (List.Sublist.refl _)))⟩
        obtain ⟨y, _, rfl⟩ := List.mem_map.mp hx
        have h1 := Int.fmod_nonneg_of_pos y (show (0 : Int) < 3 by omega)
        have h2 := Int.fmod_lt_of_pos y (show (0 : Int) < 3 by omega)
        omega
      · refine PyProof.Rows.BoolOp_one ?_
        refine List_ ?_
        repeat walk_at "m"
        refine new_list S₆ (by simp; omega) fun h₇ a₇ S₇ _ _ => ?_
        exact ⟨h₇, _, a₇, _, [0], rfl, rfl, .cons 0 _ .nil, by simp, by simpa using hm18, by simp, _, S₇.sub (fun _ h => h) (.cons_cons _ (.cons _ (.cons _ (List.Sublist.refl _))))⟩
end Mine
end

/-! # the join -/
open PySem PySem.W PyProof.Rows
set_option maxRecDepth 100000 in
set_option maxHeartbeats 8000000 in
theorem PySem.Challenge.cw_nb0077_01_holds : PySem.Challenge.rw_nb0077_01.Holds := by
  open_k0
  rename_i w s₀ s₁ mg mb G Y fa o pm doc ho hg KX X V GL T BB TE TW w13 w12 MM w11 w10 hcd w9 hs0 hlay0 hL1 hr1 hl2 w8 w7 w6 w5 w4 hL ra w1 r0 hI hr hc1 hc2 K0 hD h₁ tk₁ F w3 w2 w1' w0 l3 l2 l1 l0 N0 X0
  refine wpAny_mono (Q := fun f s' => f = .ret (.bool true) ∧ ∃ h' tk, s' = { heap := h', gens := s₁.gens, drawn := s₁.drawn, toks := tk, os := s₁.os } ∧ s₁.heap.StaysIn h') (E := Mine.NoE) ?_ ?_ (fun _ _ x => x.elim)
  · have hSt : Mine.St s₁.heap s₁.heap.objs.size h₁ [("script", .ref w6)] [(s₁.heap.objs.size + 1, Mine.CP none), (s₁.heap.objs.size + 2, Mine.CP none), (s₁.heap.objs.size + 3, Mine.CP none), (s₁.heap.objs.size + 4, Mine.CP none)] := by
      refine ⟨⟨_, F.ns, ?_⟩, F.keep, Mine.get_ge (Nat.le_refl _), ?_, ?_⟩
      · intro p hp
        rw [List.mem_singleton.mp hp]
        rfl
      · intro p hp
        simp only [List.mem_cons, List.not_mem_nil, or_false] at hp
        have q3 := N0 _ (.head _)
        have q2 := N0 _ (.tail _ (.head _))
        have q1 := N0 _ (.tail _ (.tail _ (.head _)))
        have q0 := N0 _ (.tail _ (.tail _ (.tail _ (.head _))))
        rcases hp with rfl | rfl | rfl | rfl
        · exact ⟨q0.2.1, q0.2.2, _, q0.1, l0⟩
        · exact ⟨q1.2.1, q1.2.2, _, q1.1, l1⟩
        · exact ⟨q2.2.1, q2.2.2, _, q2.1, l2⟩
        · exact ⟨q3.2.1, q3.2.2, _, q3.1, l3⟩
      · simp
    have hGl : Mine.Gl s₁.heap := by
      refine ⟨mg, mb, T.g, T.b, T.nolimit, ?_, ?_⟩
      · intro d hd
        simp only [Mine.myDefs, List.mem_cons, List.not_mem_nil, or_false] at hd
        rcases hd with rfl | rfl | rfl | rfl | rfl | rfl
        · exact T.fn ⟨Mine.dTab.name, Mine.dTab.params, Mine.dTab.body, Mine.dTab.scope, Mine.dTab.pos⟩ (List.mem_of_getElem? (i := 0) rfl)
        · exact T.fn ⟨Mine.dPush.name, Mine.dPush.params, Mine.dPush.body, Mine.dPush.scope, Mine.dPush.pos⟩ (List.mem_of_getElem? (i := 1) rfl)
        · exact T.fn ⟨Mine.dPop.name, Mine.dPop.params, Mine.dPop.body, Mine.dPop.scope, Mine.dPop.pos⟩ (List.mem_of_getElem? (i := 2) rfl)
        · exact T.fn ⟨Mine.dDown.name, Mine.dDown.params, Mine.dDown.body, Mine.dDown.scope, Mine.dDown.pos⟩ (List.mem_of_getElem? (i := 3) rfl)
        · exact T.fn ⟨Mine.dUp.name, Mine.dUp.params, Mine.dUp.body, Mine.dUp.scope, Mine.dUp.pos⟩ (List.mem_of_getElem? (i := 4) rfl)
        · exact T.fn ⟨Mine.dRoot.name, Mine.dRoot.params, Mine.dRoot.body, Mine.dRoot.scope, Mine.dRoot.pos⟩ (List.mem_of_getElem? (i := 5) rfl)
      · intro x hx
        simp only [List.mem_cons, List.not_mem_nil, or_false] at hx
        rcases hx with rfl | rfl | rfl | rfl | rfl
        all_goals exact ⟨T.free _ (by decide +kernel) (by decide +kernel) (by decide +kernel) (by decide +kernel) (by decide +kernel), T.builtins _ (by decide)⟩
    exact Mine.law_A1 (s := { heap := h₁, gens := s₁.gens, drawn := s₁.drawn, toks := tk₁, os := s₁.os }) Mine.plaw Mine.pushOk Mine.popOk (Mine.Ok.deeper (k := 6) ⟨rfl, by decide, by decide⟩ _) hGl (fun _ _ e => e) hSt ⟨w5, hL, hI⟩ (by omega) (fun h' tk k => ⟨rfl, h', tk, rfl, k⟩)
  · rintro f s' ⟨rfl, h', tk, rfl, k⟩
    refine ⟨.inl ⟨_, _, [], rfl, ?_, .bool true, ?_, fun _ => ⟨.nil, fun _ h => nomatch h⟩⟩, k, rfl, hg⟩
    · exact raisesW_false (by wrow_none_raised)
    · exact postW_of (X := true == true) (by decide +kernel) (w_eq_bool (w_res rfl) w_lit) rfl
