import PyProof.Rows.All
import Wide.All
import OpenK.AllK
import Wide.FinOn
import Lean
import PySem.Challenge.RW_tv0006_01
set_option Elab.async false

namespace Mine

section
open PySem PySem.W PyProof.Rows
/-- the statements of the program that the head looks at -/
def view0 : Program := view PySem.Challenge.rw_tv0006_01.prog [0, 2, 3, 4, 5, 6, 8, 10, 11, 12, 13, 15, 18, 19, 20, 21, 22, 23, 24, 25, 26, 27, 28, 29, 30]
local macro_rules | `(tactic| o_head $H:term) => `(tactic| (
  refine holds_open (q := view0) (loose := [Str.ofString "_MIN_DIFF_LEN", Str.ofString "safe_repr"]) (Xt := fun s => xlAt view0 [(Str.ofString "_MIN_DIFF_LEN", WData.int 41)] s && recOk (RowW.records PySem.Challenge.rw_tv0006_01.row.toRowW) s) (XP := XL view0 [(Str.ofString "_MIN_DIFF_LEN", WData.int 41)]) (Yf := Hook.obs $H) (Ya := Hook.val $H) (YP := Hook.says $H) (N := 1618) ?hl (Hook.of $H) (Hook.keeps $H) (fun s e => xl_of s (Bool.and_eq_true_iff.mp e).1) XL.keeps (by rfl) (by rfl) (by rfl) (fun s e => recFacts_of (Bool.and_eq_true_iff.mp e).2) rfl (by first | assumption | decide +kernel) (by decide +kernel) ⟨rfl, rfl, rfl, rfl, rfl, by decide +kernel⟩ ?hw ?hc
  case hl => intro w; kernel_rfl))
set_option maxRecDepth 100000 in
set_option maxHeartbeats 8000000 in
open_top hd for PySem.Challenge.rw_tv0006_01
end

section
open PySem PySem.W PySem.Spec PySem.Calls PyProof.Rows
set_option linter.unusedVariables false
set_option maxRecDepth 100000
set_option maxHeartbeats 400000

abbrev P0 : Program := PySem.Challenge.rw_tv0006_01.row.prog

/-- what stays the same all along -/
structure Cx where
  w : World
  mg : Str → Option Value
  mb : Str → Option Value
  bm : Addr
  ob : Obj

abbrev Cx.M (c : Cx) : Model := model P0 c.w
noncomputable abbrev Cx.K (c : Cx) : Frag := hd.heap_39 c.w.params

/-- plain data -/
inductive PV where
  | none
  | bool (b : Bool)
  | int (i : Int)
  | str (s : List Nat)
  | fn (v : Value)
  | list (l : List PV)
  | tup (l : List PV)

abbrev seqObj (T : String) (items : List Value) (n : Nat) : Obj := { cls := .type T, data := .seq items.toArray n }

mutual
def Rep (V : List Addr) (h : Heap) : PV → Value → Prop
  | .none, v => v = .none
  | .bool b, v => v = .bool b
  | .int i, v => ∃ t, v = .int i t
  | .str x, v => ∃ t, v = .str ⟨x.toArray⟩ t
  | .fn f, v => v = f
  | .list l, v => ∃ a items n, v = .ref a ∧ a ∉ V ∧ h.get? a = some (seqObj "list" items n) ∧ RepL V h l items
  | .tup l, v => ∃ a items n, v = .ref a ∧ a ∉ V ∧ h.get? a = some (seqObj "tuple" items n) ∧ RepL V h l items
def RepL (V : List Addr) (h : Heap) : List PV → List Value → Prop
  | [], vs => vs = []
  | p :: ps, vs => ∃ v r, vs = v :: r ∧ Rep V h p v ∧ RepL V h ps r
end

mutual
theorem Rep.mono {V V' : List Addr} {h h' : Heap} (hk : ∀ a o, a ∉ V → h.get? a = some o → a ∉ V' ∧ h'.get? a = some o) : ∀ {p : PV} {v : Value}, Rep V h p v → Rep V' h' p v
  | .none, _, r => by simpa [Rep] using r
  | .bool _, _, r => by simpa [Rep] using r
  | .int _, _, r => by simpa [Rep] using r
  | .str _, _, r => by simpa [Rep] using r
  | .fn _, _, r => by simpa [Rep] using r
  | .list l, _, r => by
    rw [Rep] at r ⊢
    obtain ⟨a, items, n, rfl, ha, ho, hr⟩ := r
    obtain ⟨h1, h2⟩ := hk a _ ha ho
    exact ⟨a, items, n, rfl, h1, h2, RepL.mono hk hr⟩
  | .tup l, _, r => by
    rw [Rep] at r ⊢
    obtain ⟨a, items, n, rfl, ha, ho, hr⟩ := r
    obtain ⟨h1, h2⟩ := hk a _ ha ho
    exact ⟨a, items, n, rfl, h1, h2, RepL.mono hk hr⟩
theorem RepL.mono {V V' : List Addr} {h h' : Heap} (hk : ∀ a o, a ∉ V → h.get? a = some o → a ∉ V' ∧ h'.get? a = some o) : ∀ {l : List PV} {vs : List Value}, RepL V h l vs → RepL V' h' l vs
  | [], _, r => by simpa [RepL] using r
  | p :: ps, _, r => by
    rw [RepL] at r ⊢
    obtain ⟨v, r', rfl, h1, h2⟩ := r
    exact ⟨v, r', rfl, Rep.mono hk h1, RepL.mono hk h2⟩
end

theorem RepL.length {V : List Addr} {h : Heap} : ∀ {l : List PV} {vs : List Value}, RepL V h l vs → vs.length = l.length
  | [], _, r => by rw [RepL] at r; subst r; rfl
  | _ :: _, _, r => by
    rw [RepL] at r
    obtain ⟨v, r', rfl, _, h2⟩ := r
    simp [RepL.length h2]
theorem RepL.get {V : List Addr} {h : Heap} : ∀ {l : List PV} {vs : List Value}, RepL V h l vs → ∀ (i : Nat) (p : PV), l[i]? = some p → ∃ v, vs[i]? = some v ∧ Rep V h p v
  | [], _, _, _, _, e => by simp at e
  | q :: ps, _, r, i, p, e => by
    rw [RepL] at r
    obtain ⟨v, r', rfl, h1, h2⟩ := r
    cases i with
    | zero => simp at e; subst e; exact ⟨v, rfl, h1⟩
    | succ i =>
      simp at e
      obtain ⟨v', e', h'⟩ := RepL.get h2 i p e
      exact ⟨v', by simpa using e', h'⟩
theorem RepL.snoc {V : List Addr} {h : Heap} {p : PV} {v : Value} (hp : Rep V h p v) : ∀ {l : List PV} {vs : List Value}, RepL V h l vs → RepL V h (l ++ [p]) (vs ++ [v])
  | [], _, r => by
    rw [RepL] at r; subst r
    show RepL V h [p] [v]
    rw [RepL]; exact ⟨v, [], rfl, hp, by rw [RepL]⟩
  | q :: ps, _, r => by
    rw [RepL] at r
    obtain ⟨v', r', rfl, h1, h2⟩ := r
    show RepL V h (q :: (ps ++ [p])) (v' :: (r' ++ [v]))
    rw [RepL]
    exact ⟨v', r' ++ [v], rfl, h1, RepL.snoc hp h2⟩
theorem RepL.append {V : List Addr} {h : Heap} : ∀ {l l' : List PV} {vs vs' : List Value}, RepL V h l vs → RepL V h l' vs' → RepL V h (l ++ l') (vs ++ vs')
  | [], l', vs, vs', r, r' => by rw [RepL] at r; subst r; simpa using r'
  | q :: ps, l', _, vs', r, r' => by
    rw [RepL] at r
    obtain ⟨v', r2, rfl, h1, h2⟩ := r
    show RepL V h (q :: (ps ++ l')) (v' :: (r2 ++ vs'))
    rw [RepL]
    exact ⟨v', _, rfl, h1, RepL.append h2 r'⟩
theorem RepL.nil {V : List Addr} {h : Heap} : RepL V h [] [] := by rw [RepL]
theorem RepL.cons {V : List Addr} {h : Heap} {p : PV} {v : Value} {l vs} (hp : Rep V h p v) (hl : RepL V h l vs) : RepL V h (p :: l) (v :: vs) := by
  rw [RepL]; exact ⟨v, vs, rfl, hp, hl⟩
theorem RepL.take {V : List Addr} {h : Heap} : ∀ (n : Nat) {l : List PV} {vs : List Value}, RepL V h l vs → RepL V h (l.take n) (vs.take n)
  | 0, _, _, _ => by simp [RepL]
  | _ + 1, [], _, r => by rw [RepL] at r; subst r; simp [RepL]
  | n + 1, _ :: _, _, r => by
    rw [RepL] at r
    obtain ⟨v', r2, rfl, h1, h2⟩ := r
    simp only [List.take_succ_cons]
    exact RepL.cons h1 (RepL.take n h2)
theorem RepL.drop {V : List Addr} {h : Heap} : ∀ (n : Nat) {l : List PV} {vs : List Value}, RepL V h l vs → RepL V h (l.drop n) (vs.drop n)
  | 0, _, _, r => by simpa using r
  | _ + 1, [], _, r => by rw [RepL] at r; subst r; simp [RepL]
  | n + 1, _ :: _, _, r => by
    rw [RepL] at r
    obtain ⟨v', r2, rfl, h1, h2⟩ := r
    simp only [List.drop_succ_cons]
    exact RepL.drop n h2

/-- the code table of the def with generator expressions -/
def Tab (h : Heap) : Prop := ∃ ps, h.IsCode 60 56 ps ∧ h.TableAt 60 56 ps

structure GI (c : Cx) (h : Heap) : Prop where
  k : c.K.In h
  g : h.Ns mainGlobals c.mg
  b : h.Ns builtinsNs c.mb
  bi : ∀ x : Str, x ≠ Str.ofString "__name__" → c.mb x = bootBuiltins x
  nolimit : h.NoLimit
  nodigits : ∃ mc, h.Ns cStatics mc ∧ mc (Str.ofString "sys.int_max_str_digits") = none
  bmod : BMod h mainGlobals c.mg c.bm c.ob
  tab : Tab h

/-- addresses that the standing facts speak of -/
def GIdom (c : Cx) (a : Addr) : Prop := (∃ o, c.K.lookup a = some o) ∨ a = mainGlobals ∨ a = builtinsNs ∨ a = cStatics ∨ a = c.bm ∨ a = 56 ∨ a = 60

/-- what a step does to the generators' list -/
def GensOk (a b : Array GenState) : Prop := (AllBare a → AllBare b) ∧ a.size ≤ b.size
theorem GensOk.refl {a : Array GenState} : GensOk a a := ⟨id, Nat.le_refl _⟩
theorem GensOk.trans {a b d : Array GenState} (x : GensOk a b) (y : GensOk b d) : GensOk a d := ⟨fun h => y.1 (x.1 h), Nat.le_trans x.2 y.2⟩
structure Step (W : List Addr) (s s' : Shared) : Prop where
  keep : ∀ a o, a ∉ W → s.heap.get? a = some o → s'.heap.get? a = some o
  tab : Tab s.heap → Tab s'.heap
  bare : GensOk s.gens s'.gens
  drawn : s'.drawn = s.drawn
  os : s'.os = s.os

theorem Step.refl {W : List Addr} {s : Shared} : Step W s s := ⟨fun _ _ _ e => e, id, .refl, rfl, rfl⟩
theorem Step.trans {W : List Addr} {s s' s'' : Shared} (x : Step W s s') (y : Step W s' s'') : Step W s s'' :=
  ⟨fun a o ha e => y.keep a o ha (x.keep a o ha e), fun t => y.tab (x.tab t), x.bare.trans y.bare, y.drawn.trans x.drawn, y.os.trans x.os⟩
theorem Step.wide {W W' : List Addr} {s s' : Shared} (x : Step W s s') (h : ∀ a ∈ W, a ∈ W') : Step W' s s' :=
  ⟨fun a o ha e => x.keep a o (fun m => ha (h a m)) e, x.tab, x.bare, x.drawn, x.os⟩
/-- a step that leaves all that lay there -/
theorem Step.of_keep {W : List Addr} {s s' : Shared} (hk : ∀ a o, s.heap.get? a = some o → s'.heap.get? a = some o) (hb : GensOk s.gens s'.gens := by exact GensOk.refl) (hd : s'.drawn = s.drawn := by rfl) (ho : s'.os = s.os := by rfl) : Step W s s' :=
  ⟨fun a o _ e => hk a o e, fun t => by obtain ⟨ps, h1, h2⟩ := t; exact ⟨ps, h1.keeps hk, h2.keeps hk⟩, hb, hd, ho⟩

def Room (A : Around) (n : Nat) : Prop := A.handled = none ∧ (0 < n → A.depth + n < recursionLimit ∧ A.units + 20 * n < cLine ∧ A.guards = some [])
theorem Room.le {A : Around} {n m : Nat} (h : Room A n) (hm : m ≤ n) : Room A m := ⟨h.1, fun h0 => by
  obtain ⟨a, b, c⟩ := h.2 (by omega)
  exact ⟨by omega, by omega, c⟩⟩

structure GS (c : Cx) (V : List Addr) (s : Shared) : Prop where
  gi : GI c s.heap
  bare : AllBare s.gens
  vlive : ∀ a ∈ V, ∃ o, s.heap.get? a = some o
  v59 : 56 ∈ V

theorem classed (P : Params) : (hd.heap_39 P).lookup 56 = none := by rfl

theorem GI.live {c : Cx} {h : Heap} (x : GI c h) {a : Addr} (d : GIdom c a) : ∃ o, h.get? a = some o := by
  rcases d with ⟨o, e⟩ | rfl | rfl | rfl | rfl | rfl | rfl
  · exact ⟨o, x.k a o e⟩
  · obtain ⟨o, _, _, e, _⟩ := x.g; exact ⟨o, e⟩
  · obtain ⟨o, _, _, e, _⟩ := x.b; exact ⟨o, e⟩
  · obtain ⟨mc, ⟨o, _, _, e, _⟩, _⟩ := x.nolimit; exact ⟨o, e⟩
  · exact ⟨_, x.bmod.obj⟩
  · obtain ⟨ps, _, _, ht⟩ := x.tab; exact ⟨_, ht⟩
  · obtain ⟨ps, _, ⟨o, vs, e, _⟩, ht⟩ := x.tab; exact ⟨_, e⟩
theorem GI.fresh {c : Cx} {h : Heap} (x : GI c h) {a : Addr} (e : h.get? a = none) : ¬ GIdom c a := fun d => by
  obtain ⟨o, e'⟩ := x.live d
  rw [e] at e'; cases e'
theorem GI.keep {c : Cx} {h h' : Heap} (x : GI c h) (hk : ∀ a o, GIdom c a → a ≠ 56 → h.get? a = some o → h'.get? a = some o) (ht : Tab h') : GI c h' := by
  have ns : ∀ {a m}, GIdom c a → a ≠ 56 → h.Ns a m → h'.Ns a m := fun d ha ⟨o, es, ep, e, r⟩ => ⟨o, es, ep, hk _ _ d ha e, r⟩
  refine ⟨fun a o e => hk a o (.inl ⟨o, e⟩) (fun q => ?_) (x.k a o e), ns (.inr (.inl rfl)) (by decide) x.g, ns (.inr (.inr (.inl rfl))) (by decide) x.b, x.bi, ?_, ?_, ?_, ht⟩
  · subst q; rw [classed] at e; cases e
  · obtain ⟨mc, hn, e⟩ := x.nolimit; exact ⟨mc, ns (.inr (.inr (.inr (.inl rfl)))) (by decide) hn, e⟩
  · obtain ⟨mc, hn, e⟩ := x.nodigits; exact ⟨mc, ns (.inr (.inr (.inr (.inl rfl)))) (by decide) hn, e⟩
  · refine ⟨ns (.inr (.inl rfl)) (by decide) x.bmod.ns, x.bmod.name, x.bmod.ne, hk _ _ (.inr (.inr (.inr (.inr (.inl rfl))))) (fun q => ?_) x.bmod.obj, x.bmod.cls, x.bmod.dict, x.bmod.data⟩
    have h1 := x.bmod.obj
    have h2 := x.bmod.cls
    obtain ⟨ps, _, _, ht⟩ := x.tab
    rw [q, ht] at h1
    have h3 := Option.some.inj h1
    rw [← h3] at h2
    cases h2

theorem GI.step {c : Cx} {s s' : Shared} (x : GI c s.heap) (st : Step [56] s s') : GI c s'.heap :=
  x.keep (fun a o _ ha e => st.keep a o (by simpa using ha) e) (st.tab x.tab)

theorem GS.step {c : Cx} {V : List Addr} {s s' : Shared} (x : GS c V s) (st : Step [56] s s') : GS c V s' :=
  ⟨x.gi.step st, st.bare.1 x.bare, fun a ha => (by
    by_cases q : a = 56
    · subst q; obtain ⟨ps, _, _, ht⟩ := st.tab x.gi.tab; exact ⟨_, ht⟩
    · obtain ⟨o, e⟩ := x.vlive a ha; exact ⟨o, st.keep a o (by simpa using q) e⟩), x.v59⟩
theorem Rep.step {V W : List Addr} {s s' : Shared} {p : PV} {v : Value} (r : Rep V s.heap p v) (st : Step W s s') (hW : ∀ a ∈ W, a ∈ V) : Rep V s'.heap p v :=
  r.mono fun a o ha e => ⟨ha, st.keep a o (fun m => ha (hW a m)) e⟩
theorem RepL.step {V W : List Addr} {s s' : Shared} {p : List PV} {v : List Value} (r : RepL V s.heap p v) (st : Step W s s') (hW : ∀ a ∈ W, a ∈ V) : RepL V s'.heap p v :=
  r.mono fun a o ha e => ⟨ha, st.keep a o (fun m => ha (hW a m)) e⟩
theorem w59 {V : List Addr} (h : 56 ∈ V) : ∀ a ∈ [56], a ∈ V := fun a ha => by rw [List.mem_singleton.mp ha]; exact h

/-- a frame's state -/
structure FS (c : Cx) (env : Env) (V : List Addr) (Γ : List (Str × PV)) (s : Shared) : Prop extends GS c V s where
  vL : env.locals ∈ V
  vC : ∀ x a, (x, a) ∈ env.cells → a ∈ V
  farL : ¬ GIdom c env.locals
  farC : ∀ x a, (x, a) ∈ env.cells → ¬ GIdom c a
  apart : ∀ x y a b, env.cells.lookup x = some a → env.cells.lookup y = some b → x ≠ y → a ≠ b
  loc : ∃ m, s.heap.Ns env.locals m ∧ ∀ x p, Γ.lookup x = some p → env.kindOf x = some .local → ∃ v, m x = some v ∧ Rep V s.heap p v
  cel : ∀ x p, Γ.lookup x = some p → (env.kindOf x = some .cell ∨ env.kindOf x = some .free) → ∃ a v, env.cells.lookup x = some a ∧ s.heap.IsCell a (some v) ∧ Rep V s.heap p v
  mt : ∀ x, env.kindOf x = some .cell → ∃ a v, env.cells.lookup x = some a ∧ s.heap.IsCell a v

theorem FS.step {c : Cx} {env : Env} {V : List Addr} {Γ : List (Str × PV)} {s s' : Shared} (x : FS c env V Γ s) (st : Step [56] s s') : FS c env V Γ s' := by
  have n59 : ∀ {a o}, s.heap.get? a = some o → (∀ vs, o.data ≠ .fields vs) → a ≠ 56 := fun {a o} e hd q => by
    obtain ⟨ps, _, _, ht⟩ := x.gi.tab
    rw [q, ht] at e
    cases e
    exact hd _ rfl
  have cl : ∀ {a v}, s.heap.IsCell a v → s'.heap.IsCell a v := fun ⟨o, e, hd⟩ => ⟨o, st.keep _ o (by simpa using n59 e (by simp [hd])) e, hd⟩
  refine ⟨x.toGS.step st, x.vL, x.vC, x.farL, x.farC, x.apart, ?_, ?_, ?_⟩
  · obtain ⟨m, ⟨o, es, ep, e, hd, r⟩, hm⟩ := x.loc
    refine ⟨m, ⟨o, es, ep, st.keep _ o (by simpa using n59 e (by simp [hd])) e, hd, r⟩, fun y p hy hk => ?_⟩
    obtain ⟨v, hv, hr⟩ := hm y p hy hk
    exact ⟨v, hv, hr.step st (w59 x.v59)⟩
  · intro y p hy hk
    obtain ⟨a, v, h1, h2, h3⟩ := x.cel y p hy hk
    exact ⟨a, v, h1, cl h2, h3.step st (w59 x.v59)⟩
  · intro y hk
    obtain ⟨a, v, h1, h2⟩ := x.mt y hk
    exact ⟨a, v, h1, cl h2⟩

/-- an expression bears data -/
def Ev (c : Cx) (n : Nat) (env : Env) (V : List Addr) (Γ : List (Str × PV)) (e : Expr) (p : PV) : Prop :=
  ∀ A, Room A n → ∀ s (Q : Value → Shared → Prop) (E : Value → Shared → Prop), FS c env V Γ s →
    (∀ x s', Step [56] s s' → Rep V s'.heap p x → Q x s') → wpAny c.M A (eval e env) Q E s

/-- a value called with data bears data -/
def Calls (c : Cx) (n : Nat) (f : Value) (args : List PV) (p : PV) : Prop :=
  ∀ A, Room A n → ∀ V s vals (Q : Value → Shared → Prop) (E : Value → Shared → Prop), GS c V s → RepL V s.heap args vals →
    (∀ x s', Step [56] s s' → Rep V s'.heap p x → Q x s') → wpAny c.M A (call f vals) Q E s

theorem Ev.bind {c : Cx} {n : Nat} {env : Env} {V : List Addr} {Γ : List (Str × PV)} {e : Expr} {p : PV} (h : Ev c n env V Γ e p) {A : Around} (hA : Room A n) {s : Shared} {Q : Value → Shared → Prop} {E : Value → Shared → Prop}
    (F : FS c env V Γ s) (k : ∀ x s', Step [56] s s' → FS c env V Γ s' → Rep V s'.heap p x → Q x s') : wpAny c.M A (eval e env) Q E s :=
  h A hA s Q E F fun x s' st r => k x s' st (F.step st) r

section
variable {c : Cx} {n : Nat} {env : Env} {V : List Addr} {Γ : List (Str × PV)}

theorem Ev.le {m : Nat} {e : Expr} {p : PV} (h : Ev c m env V Γ e p) (hm : m ≤ n) : Ev c n env V Γ e p := fun A hA s Q E F k => h A (hA.le hm) s Q E F k

theorem Ev.local {x : Str} {pos : Pos} {p : PV} (hv : Γ.lookup x = some p) (hk : env.scope.kind = .function) (hl : env.kindOf x = some .local) (hd : (x == (Str.ofString "__debug__")) = false) : Ev c n env V Γ (.Name x pos) p := by
  intro A _ s Q E F k
  obtain ⟨m, hn, hm⟩ := F.loc
  obtain ⟨v, hv', hr⟩ := hm x p hv hl
  exact wpAny_Name (wpAny_loadName_local hk hl hn hv' (k v s .refl hr)) hd
theorem Ev.cell {x : Str} {pos : Pos} {p : PV} (hv : Γ.lookup x = some p) (hk : env.scope.kind = .function) (hl : env.kindOf x = some .cell) (hd : (x == (Str.ofString "__debug__")) = false) : Ev c n env V Γ (.Name x pos) p := by
  intro A _ s Q E F k
  obtain ⟨a, v, h1, h2, hr⟩ := F.cel x p hv (.inl hl)
  exact wpAny_Name (wpAny_loadName_cell hk hl h1 h2 (k v s .refl hr)) hd
theorem Ev.int {i : Int} {k : Nat} {pos : Pos} : Ev c n env V Γ (.Constant (.int i) k pos) (.int i) := by
  intro A _ s Q E F k
  exact wpAny_Constant_int (k _ _ (.of_keep fun _ _ e => e) (by rw [Rep]; exact ⟨_, rfl⟩))
theorem Ev.bool {b : Bool} {k : Nat} {pos : Pos} : Ev c n env V Γ (.Constant (.bool b) k pos) (.bool b) := by
  intro A _ s Q E F k
  exact wpAny_Constant_bool (k _ _ .refl (by rw [Rep]))
end
end

section
open PySem PySem.W PySem.Spec PySem.Calls PyProof.Rows
set_option linter.unusedVariables false
set_option maxRecDepth 100000
set_option maxHeartbeats 400000

theorem rep_int {V h i t} : Rep V h (.int i) (.int i t) := by rw [Rep]; exact ⟨t, rfl⟩
theorem rep_bool {V h b} : Rep V h (.bool b) (.bool b) := by rw [Rep]
theorem rep_none {V h} : Rep V h .none .none := by rw [Rep]
theorem rep_str {V h x t} : Rep V h (.str x) (.str ⟨x.toArray⟩ t) := by rw [Rep]; exact ⟨t, rfl⟩
theorem rep_str' {V h} {x : List Nat} {y : Str} {t} (e : y = ⟨x.toArray⟩) : Rep V h (.str x) (.str y t) := by rw [e]; exact rep_str
theorem rep_fn {V h v} : Rep V h (.fn v) v := by rw [Rep]
theorem of_int {V h i v} (r : Rep V h (.int i) v) : ∃ t, v = .int i t := by rwa [Rep] at r
theorem of_bool {V h b v} (r : Rep V h (.bool b) v) : v = .bool b := by rwa [Rep] at r
theorem of_none {V h v} (r : Rep V h .none v) : v = .none := by rwa [Rep] at r
theorem of_str {V h x v} (r : Rep V h (.str x) v) : ∃ t, v = .str ⟨x.toArray⟩ t := by rwa [Rep] at r
theorem of_fn {V h f v} (r : Rep V h (.fn f) v) : v = f := by rwa [Rep] at r
theorem of_list {V h l v} (r : Rep V h (.list l) v) : ∃ a items n, v = .ref a ∧ a ∉ V ∧ h.get? a = some (seqObj "list" items n) ∧ RepL V h l items := by rwa [Rep] at r
theorem of_tup {V h l v} (r : Rep V h (.tup l) v) : ∃ a items n, v = .ref a ∧ a ∉ V ∧ h.get? a = some (seqObj "tuple" items n) ∧ RepL V h l items := by rwa [Rep] at r
theorem rep_list {V h l a items n} (ha : a ∉ V) (ho : h.get? a = some (seqObj "list" items n)) (hr : RepL V h l items) : Rep V h (.list l) (.ref a) := by rw [Rep]; exact ⟨a, items, n, rfl, ha, ho, hr⟩
theorem rep_tup {V h l a items n} (ha : a ∉ V) (ho : h.get? a = some (seqObj "tuple" items n)) (hr : RepL V h l items) : Rep V h (.tup l) (.ref a) := by rw [Rep]; exact ⟨a, items, n, rfl, ha, ho, hr⟩
theorem isList_of {h : Heap} {a items n} (ho : h.get? a = some (seqObj "list" items n)) : h.IsList a items.toArray := ⟨_, ho, rfl, n, rfl⟩
theorem isTuple_of {h : Heap} {a items n} (ho : h.get? a = some (seqObj "tuple" items n)) : h.IsTuple a items.toArray := ⟨_, ho, rfl, n, rfl⟩

def BinF (c : Cx) (n : Nat) (op : Operator) (pa pb p : PV) : Prop :=
  ∀ A, Room A n → ∀ V s va vb (Q : Value → Shared → Prop) (E : Value → Shared → Prop), GS c V s → Rep V s.heap pa va → Rep V s.heap pb vb →
    (∀ x s', Step [56] s s' → Rep V s'.heap p x → Q x s') → wpAny c.M A (binaryOp op va vb) Q E s
def CmpF (c : Cx) (n : Nat) (op : CmpOp) (pa pb p : PV) : Prop :=
  ∀ A, Room A n → ∀ V s va vb (Q : Value → Shared → Prop) (E : Value → Shared → Prop), GS c V s → Rep V s.heap pa va → Rep V s.heap pb vb →
    (∀ x s', Step [56] s s' → Rep V s'.heap p x → Q x s') → wpAny c.M A (compareOp op va vb) Q E s
def TruF (c : Cx) (n : Nat) (pa : PV) (b : Bool) : Prop :=
  ∀ A, Room A n → ∀ V s va (Q : Bool → Shared → Prop) (E : Value → Shared → Prop), GS c V s → Rep V s.heap pa va → (∀ s', Step [56] s s' → Q b s') → wpAny c.M A (truthy va) Q E s

section
variable {c : Cx} {n : Nat} {env : Env} {V : List Addr} {Γ : List (Str × PV)}

/-- a test bears a bool -/
def Tst (c : Cx) (n : Nat) (env : Env) (V : List Addr) (Γ : List (Str × PV)) (e : Expr) (b : Bool) : Prop :=
  ∀ A, Room A n → ∀ s (Q : Bool → Shared → Prop) (E : Value → Shared → Prop), FS c env V Γ s → (∀ s', Step [56] s s' → Q b s') → wpAny c.M A (PySem.isTrue e env (eval e env)) Q E s

theorem Ev.bin {l r : Expr} {op : Operator} {pos : Pos} {pa pb p : PV} (hl : Ev c n env V Γ l pa) (hr : Ev c n env V Γ r pb) (hop : BinF c n op pa pb p) : Ev c n env V Γ (.BinOp l op r pos) p := by
  intro A hA s Q E F k
  refine wpAny_BinOp (hl.bind hA F fun a s₁ st₁ F₁ r₁ => hr.bind hA F₁ fun b s₂ st₂ F₂ r₂ => ?_)
  exact hop A hA V s₂ a b Q E F₂.toGS (r₁.step st₂ (w59 F.v59)) r₂ fun x s' st r => k x s' (st₁.trans (st₂.trans st)) r
theorem Ev.cmp {l r : Expr} {op : CmpOp} {pos : Pos} {pa pb p : PV} (hl : Ev c n env V Γ l pa) (hr : Ev c n env V Γ r pb) (hop : CmpF c n op pa pb p) (hb : behindInMarks op r = false := by rfl) : Ev c n env V Γ (.Compare l [op] [r] pos) p := by
  intro A hA s Q E F k
  refine wpAny_Compare1 (hl.bind hA F fun a s₁ st₁ F₁ r₁ => hr.bind hA F₁ fun b s₂ st₂ F₂ r₂ => ?_) hb
  exact hop A hA V s₂ a b Q E F₂.toGS (r₁.step st₂ (w59 F.v59)) r₂ fun x s' st r => k x s' (st₁.trans (st₂.trans st)) r
theorem Tst.cmp {l r : Expr} {op : CmpOp} {pos : Pos} {pa pb p : PV} {b : Bool} (hl : Ev c n env V Γ l pa) (hr : Ev c n env V Γ r pb) (hop : CmpF c n op pa pb p) (ht : TruF c n p b) (hb : behindInMarks op r = false := by rfl) : Tst c n env V Γ (.Compare l [op] [r] pos) b := by
  intro A hA s Q E F k
  refine wpAny_isTrue_Compare1 (hl.bind hA F fun a s₁ st₁ F₁ r₁ => hr.bind hA F₁ fun b s₂ st₂ F₂ r₂ => ?_) hb
  exact hop A hA V s₂ a b _ E F₂.toGS (r₁.step st₂ (w59 F.v59)) r₂ fun x s' st r => ht A hA V s' x Q E (F₂.toGS.step st) r fun s'' st' => k s'' (st₁.trans (st₂.trans (st.trans st')))
theorem Tst.val {e : Expr} {p : PV} {b : Bool} (he : Ev c n env V Γ e p) (ht : TruF c n p b)
    (hs : PySem.isTrue e env (eval e env) = (do let v ← eval e env; standAt (Expr.pos e); holding [v] (truthy v)) := by rfl) : Tst c n env V Γ e b := by
  intro A hA s Q E F k
  refine wpAny_isTrue_value (he.bind hA F fun x s₁ st₁ F₁ r₁ => ?_) hs
  exact ht A hA V s₁ x Q E F₁.toGS r₁ fun s'' st' => k s'' (st₁.trans st')
theorem Tst.not {e : Expr} {pos : Pos} {b : Bool} (he : Tst c n env V Γ e b) : Tst c n env V Γ (.UnaryOp .Not e pos) (!b) := by
  intro A hA s Q E F k
  exact isTrue_not (he A hA s _ E F fun s' st => k s' st)

theorem TruF.bool {b : Bool} : TruF c n (.bool b) b := by
  intro A _ V s va Q E _ r k
  rw [of_bool r]; exact wpAny_truthy_bool (k s .refl)
theorem TruF.int {i : Int} : TruF c n (.int i) (!(i == 0)) := by
  intro A _ V s va Q E _ r k
  obtain ⟨t, rfl⟩ := of_int r
  refine truthy_int ?_
  simpa [bne] using k s .refl

theorem BinF.add {a b : Int} : BinF c n .Add (.int a) (.int b) (.int (a + b)) := by
  intro A _ V s va vb Q E _ r₁ r₂ k
  obtain ⟨t, rfl⟩ := of_int r₁; obtain ⟨u, rfl⟩ := of_int r₂
  exact add_int (k _ _ (.of_keep fun _ _ e => e) rep_int)
theorem BinF.sub {a b : Int} : BinF c n .Sub (.int a) (.int b) (.int (a - b)) := by
  intro A _ V s va vb Q E _ r₁ r₂ k
  obtain ⟨t, rfl⟩ := of_int r₁; obtain ⟨u, rfl⟩ := of_int r₂
  exact sub_int (k _ _ (.of_keep fun _ _ e => e) rep_int)
theorem BinF.subB {a b : Bool} : BinF c n .Sub (.bool a) (.bool b) (.int (b2i a - b2i b)) := by
  intro A _ V s va vb Q E _ r₁ r₂ k
  rw [of_bool r₁, of_bool r₂]
  exact sub_bool (k _ _ (.of_keep fun _ _ e => e) rep_int)
theorem BinF.mod {a b : Int} (hb : b ≠ 0) : BinF c n .Mod (.int a) (.int b) (.int (a.fmod b)) := by
  intro A _ V s va vb Q E _ r₁ r₂ k
  obtain ⟨t, rfl⟩ := of_int r₁; obtain ⟨u, rfl⟩ := of_int r₂
  exact mod_int' hb (k _ _ (.of_keep fun _ _ e => e) rep_int)
theorem noPylong3 (a : Int) : Builtin.divisionGoesByPylong a 3 = false := by
  unfold Builtin.divisionGoesByPylong
  have : Nat.log2 3 = 1 := by decide
  simp [this]
theorem BinF.div3 {a : Int} : BinF c n .FloorDiv (.int a) (.int 3) (.int (a.fdiv 3)) := by
  intro A _ V s va vb Q E _ r₁ r₂ k
  obtain ⟨t, rfl⟩ := of_int r₁; obtain ⟨u, rfl⟩ := of_int r₂
  exact floordiv_int (by decide) (k _ _ (.of_keep fun _ _ e => e) rep_int) (.inl (noPylong3 a))
theorem str_append (a b : List Nat) : (⟨a.toArray⟩ : Str) ++ (⟨b.toArray⟩ : Str) = ⟨(a ++ b).toArray⟩ := by
  show Str.append _ _ = _
  unfold Str.append
  simp
theorem BinF.cat {a b : List Nat} (h : a.length + b.length ≤ sizeLine) : BinF c n .Add (.str a) (.str b) (.str (a ++ b)) := by
  intro A _ V s va vb Q E _ r₁ r₂ k
  obtain ⟨t, rfl⟩ := of_str r₁; obtain ⟨u, rfl⟩ := of_str r₂
  refine add_str (fun t' tk => ?_) (by simpa [Str.length] using h)
  rw [str_append]
  exact k _ _ (.of_keep fun _ _ e => e) rep_str
theorem txt_mul (a : List Nat) (k : Nat) : Txt.mul ⟨a.toArray⟩ (k : Int) = ⟨((List.replicate k a).flatten).toArray⟩ := by
  have key : ∀ (m : Nat) (acc : Array Nat), List.foldl (fun x y => x ++ y) acc (List.replicate m a.toArray) = (acc.toList ++ (List.replicate m a).flatten).toArray := by
    intro m
    induction m with
    | zero => intro acc; simp
    | succ m ih => intro acc; rw [List.replicate_succ, List.foldl_cons, ih]; simp [List.replicate_succ]
  unfold Txt.mul
  by_cases h0 : (k : Int) < 1
  · rw [if_pos h0]
    have : k = 0 := by omega
    subst this; rfl
  · rw [if_neg h0]
    split
    · rename_i h1
      rw [Bool.or_eq_true] at h1
      rcases h1 with h1 | h1
      · have : k = 1 := by have := beq_iff_eq.mp h1; omega
        subst this; simp
      · have h2 : a = [] := by
          have := beq_iff_eq.mp h1
          simpa [Str.length] using this
        subst h2
        simp
    · rw [Int.toNat_natCast, key]; simp
theorem BinF.rep {a : List Nat} {k : Nat} (h : a.length ≤ 1000) (hk : k ≤ 1000) : BinF c n .Mult (.str a) (.int k) (.str (List.replicate k a).flatten) := by
  intro A _ V s va vb Q E _ r₁ r₂ kk
  obtain ⟨t, rfl⟩ := of_str r₁; obtain ⟨u, rfl⟩ := of_int r₂
  refine SB.mul (mulOk_of 1000 1000 (by simpa [Str.length] using h) (by omega) (by omega) (by omega) (by omega)) fun t' tk => ?_
  rw [txt_mul]
  exact kk _ _ (.of_keep fun _ _ e => e) rep_str

theorem CmpF.eqI {a b : Int} : CmpF c n .Eq (.int a) (.int b) (.bool (a == b)) := by
  intro A _ V s va vb Q E _ r₁ r₂ k
  obtain ⟨t, rfl⟩ := of_int r₁; obtain ⟨u, rfl⟩ := of_int r₂
  exact eq_int (k _ _ .refl rep_bool)
theorem CmpF.gtI {a b : Int} : CmpF c n .Gt (.int a) (.int b) (.bool (decide (a > b))) := by
  intro A _ V s va vb Q E _ r₁ r₂ k
  obtain ⟨t, rfl⟩ := of_int r₁; obtain ⟨u, rfl⟩ := of_int r₂
  exact gt_int (k _ _ .refl rep_bool)
theorem CmpF.ltI {a b : Int} : CmpF c n .Lt (.int a) (.int b) (.bool (decide (a < b))) := by
  intro A _ V s va vb Q E _ r₁ r₂ k
  obtain ⟨t, rfl⟩ := of_int r₁; obtain ⟨u, rfl⟩ := of_int r₂
  exact lt_int (k _ _ .refl rep_bool)
theorem CmpF.leI {a b : Int} : CmpF c n .LtE (.int a) (.int b) (.bool (decide (a ≤ b))) := by
  intro A _ V s va vb Q E _ r₁ r₂ k
  obtain ⟨t, rfl⟩ := of_int r₁; obtain ⟨u, rfl⟩ := of_int r₂
  exact le_int (k _ _ .refl rep_bool)
theorem CmpF.geI {a b : Int} : CmpF c n .GtE (.int a) (.int b) (.bool (decide (a ≥ b))) := by
  intro A _ V s va vb Q E _ r₁ r₂ k
  obtain ⟨t, rfl⟩ := of_int r₁; obtain ⟨u, rfl⟩ := of_int r₂
  exact ge_int (k _ _ .refl rep_bool)
theorem CmpF.neI {a b : Int} : CmpF c n .NotEq (.int a) (.int b) (.bool (!(a == b))) := by
  intro A _ V s va vb Q E _ r₁ r₂ k
  obtain ⟨t, rfl⟩ := of_int r₁; obtain ⟨u, rfl⟩ := of_int r₂
  refine ne_int ?_
  simpa [bne] using k _ _ .refl rep_bool
theorem str_beq (a b : List Nat) : ((⟨a.toArray⟩ : Str) == (⟨b.toArray⟩ : Str)) = (a == b) := by
  have h : ((⟨a.toArray⟩ : Str) = (⟨b.toArray⟩ : Str)) ↔ a = b := by
    constructor
    · intro e; injection e with e; simpa using congrArg Array.toList e
    · intro e; rw [e]
  by_cases q : a = b
  · subst q; simp
  · have q' : ¬ ((⟨a.toArray⟩ : Str) = (⟨b.toArray⟩ : Str)) := fun e => q (h.mp e)
    rw [beq_eq_false_iff_ne.mpr q', beq_eq_false_iff_ne.mpr q]
theorem CmpF.gtS {a b : List Nat} : CmpF c n .Gt (.str a) (.str b) (.bool (decide (b < a))) := by
  intro A _ V s va vb Q E _ r₁ r₂ k
  obtain ⟨t, rfl⟩ := of_str r₁; obtain ⟨u, rfl⟩ := of_str r₂
  exact P.gt_str (k _ _ .refl rep_bool)
theorem CmpF.ltS {a b : List Nat} : CmpF c n .Lt (.str a) (.str b) (.bool (decide (a < b))) := by
  intro A _ V s va vb Q E _ r₁ r₂ k
  obtain ⟨t, rfl⟩ := of_str r₁; obtain ⟨u, rfl⟩ := of_str r₂
  exact P.lt_str (k _ _ .refl rep_bool)
theorem TruF.str {a : List Nat} (h : a.length < 1000000) : TruF c n (.str a) (!(a == [])) := by
  intro A _ V s va Q E _ r k
  obtain ⟨t, rfl⟩ := of_str r
  have e : ((((⟨a.toArray⟩ : Str).length : Int)) != 0) = !(a == []) := by
    cases a with
    | nil => rfl
    | cons x r => simp [Str.length, bne]; omega
  refine SBL.truthy (by simp only [Str.length, List.size_toArray]; omega) ?_
  rw [e]
  exact k _ (.of_keep fun _ _ e => e)
theorem CmpF.eqS {a b : List Nat} : CmpF c n .Eq (.str a) (.str b) (.bool (a == b)) := by
  intro A _ V s va vb Q E _ r₁ r₂ k
  obtain ⟨t, rfl⟩ := of_str r₁; obtain ⟨u, rfl⟩ := of_str r₂
  refine eq_str ?_
  rw [str_beq]
  exact k _ _ .refl rep_bool
theorem CmpF.neS {a b : List Nat} : CmpF c n .NotEq (.str a) (.str b) (.bool (!(a == b))) := by
  intro A _ V s va vb Q E _ r₁ r₂ k
  obtain ⟨t, rfl⟩ := of_str r₁; obtain ⟨u, rfl⟩ := of_str r₂
  refine ne_str ?_
  rw [show ((⟨a.toArray⟩ : Str) != (⟨b.toArray⟩ : Str)) = !(a == b) by rw [bne, str_beq]]
  exact k _ _ .refl rep_bool
end
end

section
open PySem PySem.W PySem.Spec PySem.Calls PyProof.Rows PySem.Builtin PySem.Builtin.Str
set_option linter.unusedVariables false
set_option maxRecDepth 100000
set_option maxHeartbeats 400000

/-- a bound of a cut, clipped -/
def clp (v : Option Int) (d n : Nat) : Nat := match v with
  | none => d
  | some i => if i < 0 then (i + n).toNat else min i.toNat n
def slc {α : Type} (x : List α) (l u : Option Int) : List α := (x.take (clp u x.length x.length)).drop (clp l 0 x.length)

theorem clp_int (v : Option Int) (d n : Nat) : (clp v d n : Int) = (match v with | none => (d : Int) | some i => max 0 (min (if i < 0 then i + n else i) n)) := by
  unfold clp
  cases v with
  | none => rfl
  | some i => dsimp only; split <;> omega
theorem sliceRange_one (a b : Nat) : sliceRange (a : Int) (b : Int) 1 = List.range' a (b - a) := by
  unfold sliceRange
  simp only [show (1 : Int) > 0 by decide, if_true]
  have hc : (if (a : Int) < (b : Int) then ((b : Int) - a + 1 - 1) / 1 else 0).toNat = b - a := by
    split <;> simp <;> omega
  simp only [hc]
  rw [List.range'_eq_map_range]
  apply List.map_congr_left
  intro k _
  omega
theorem strSlice_eq (l u : Option Int) (n : Nat) : strSliceIndices l u 1 n = List.range' (clp l 0 n) (clp u n n - clp l 0 n) := by
  rw [← sliceRange_one]
  rw [clp_int l 0 n, clp_int u n n]
  unfold strSliceIndices
  cases l <;> cases u <;> simp
theorem pick_range {α : Type} (x : List α) : ∀ (k a : Nat), a + k ≤ x.length → (List.range' a k).filterMap (x[·]?) = (x.drop a).take k
  | 0, a, _ => by simp
  | k + 1, a, h => by
    rw [List.range'_succ, List.filterMap_cons]
    have ha : a < x.length := by omega
    rw [List.getElem?_eq_getElem ha]
    dsimp only
    rw [pick_range x k (a + 1) (by omega), List.drop_eq_getElem_cons ha, List.take_succ_cons]
theorem clp_le (v : Option Int) (d n : Nat) (hd : d ≤ n) : clp v d n ≤ n := by
  unfold clp; cases v with
  | none => exact hd
  | some i => dsimp only; split <;> omega
theorem txt_slice (x : List Nat) (l u : Option Int) : Txt.slice ⟨x.toArray⟩ l u = ⟨(slc x l u).toArray⟩ := by
  have hl : (⟨x.toArray⟩ : Str).length = x.length := by simp [Str.length]
  unfold Txt.slice
  rw [hl, strSlice_eq]
  have hu := clp_le u x.length x.length (Nat.le_refl _)
  have hl' := clp_le l 0 x.length (Nat.zero_le _)
  have e : ((List.range' (clp l 0 x.length) (clp u x.length x.length - clp l 0 x.length)).filterMap ((⟨x.toArray⟩ : Str).cps[·]?)) = slc x l u := by
    have e1 : (fun i : Nat => (⟨x.toArray⟩ : Str).cps[i]?) = fun i : Nat => x[i]? := by funext i; simp
    rw [e1]
    unfold slc
    by_cases hlu : clp l 0 x.length ≤ clp u x.length x.length
    · rw [pick_range x _ _ (by omega), List.drop_take]
    · rw [show clp u x.length x.length - clp l 0 x.length = 0 by omega]
      rw [List.drop_eq_nil_of_le (by rw [List.length_take]; omega)]; simp
  split
  · rename_i h
    have h' : clp u x.length x.length - clp l 0 x.length = x.length := by simpa using h
    have : slc x l u = x := by
      unfold slc
      by_cases hx : x.length = 0
      · have := List.length_eq_zero_iff.mp hx; subst this; simp
      · have a1 : clp l 0 x.length = 0 := by omega
        have a2 : clp u x.length x.length = x.length := by omega
        rw [a1, a2]; simp
    rw [this]
  · rw [e]

section
variable {c : Cx} {n : Nat} {env : Env} {V : List Addr} {Γ : List (Str × PV)}

/-- a bound of a cut -/
def EvO (c : Cx) (n : Nat) (env : Env) (V : List Addr) (Γ : List (Str × PV)) : Option Expr → Option Int → Prop
  | none, l => l = none
  | some e, l => ∃ i, l = some i ∧ Ev c n env V Γ e (.int i)
def optV : Option Int → Value → Prop
  | none, v => v = .none
  | some i, v => ∃ t, v = .int i t

theorem EvO.bind {e : Option Expr} {l : Option Int} (h : EvO c n env V Γ e l) {A : Around} (hA : Room A n) {s : Shared} {Q : Value → Shared → Prop} {E : Value → Shared → Prop}
    (F : FS c env V Γ s) (k : ∀ x s', Step [56] s s' → FS c env V Γ s' → optV l x → Q x s') : wpAny c.M A (evalPart e env) Q E s := by
  cases e with
  | none => rw [EvO] at h; subst h; exact wpAny_evalPart_none (k _ _ .refl F rfl)
  | some e =>
    obtain ⟨i, rfl, h⟩ := h
    exact wpAny_evalPart_some (h.bind hA F fun x s' st F' r => k x s' st F' (of_int r))

theorem keptAll {h₀ : Heap} : KeptH (fun h => ∀ a o, h₀.get? a = some o → h.get? a = some o) := fun h ob p a o e => Heap.get?_push_of_some _ (p a o e)

/-- a cut of a text, at an object that holds the cut -/
theorem cut_at {prog : Program} {w : World} {A : Around} {s : Shared} {E : Value → Shared → Prop} {x : List Nat} {t : Tok} {l u : Option Int} {vl vu : Value} {Q : Value → Shared → Prop} (hl : optV l vl) (hu : optV u vu) (hx : x.length ≤ sizeLine)
    (k : ∀ h' t' tk, (∀ a o, s.heap.get? a = some o → h'.get? a = some o) → Q (.str ⟨(slc x l u).toArray⟩ t') { s with heap := h', toks := tk }) :
    ItemOn (model prog w) A E (.str ⟨x.toArray⟩ t) (.ref s.heap.objs.size) Q { s with heap := s.heap.push { cls := .type "slice", data := .fields #[vl, vu, .none] } } := by
  have hs : (⟨x.toArray⟩ : Str).length ≤ sizeLine := by simpa [Str.length] using hx
  have k' : ∀ (h' : Heap) (t' : Tok) (tk : Nat), (∀ a o, s.heap.get? a = some o → h'.get? a = some o) → Q (.str (Txt.slice ⟨x.toArray⟩ l u) t') { s with heap := h', toks := tk } := by
    intro h' t' tk hk; rw [txt_slice]; exact k h' t' tk hk
  cases l with
  | none =>
    rw [optV] at hl; subst hl
    cases u with
    | none => rw [optV] at hu; subst hu; exact SBH.sliceItem_nn keptAll (fun _ _ e => e) k' hs
    | some j => obtain ⟨tj, rfl⟩ := hu; exact SBH.sliceItem_ns keptAll (fun _ _ e => e) k' hs
  | some i =>
    obtain ⟨ti, rfl⟩ := hl
    cases u with
    | none => rw [optV] at hu; subst hu; exact SBH.sliceItem_sn keptAll (fun _ _ e => e) k' hs
    | some j => obtain ⟨tj, rfl⟩ := hu; exact SBH.sliceItem_ss keptAll (fun _ _ e => e) k' hs

theorem Ev.cut {value : Expr} {lo hi : Option Expr} {p pos : Pos} {x : List Nat} {l u : Option Int} (hv : Ev c n env V Γ value (.str x)) (hl : EvO c n env V Γ lo l) (hu : EvO c n env V Γ hi u) (hx : x.length ≤ sizeLine) :
    Ev c n env V Γ (.Subscript value (.Slice lo hi none p) pos) (.str (slc x l u)) := by
  intro A hA s Q E F k
  refine Subscript_ (hv.bind hA F fun o s₁ st₁ F₁ r₁ => wpAny_Slice (hl.bind hA F₁ fun vl s₂ st₂ F₂ ol => hu.bind hA F₂ fun vu s₃ st₃ F₃ ou => wpAny_evalPart_none ?_))
  obtain ⟨t, rfl⟩ := of_str r₁
  have hsl : subscripted (.Slice lo hi none p) false (.str ⟨x.toArray⟩ t) (.ref s₃.heap.objs.size) = operate [.ref s₃.heap.objs.size, .str ⟨x.toArray⟩ t] (getItem (.str ⟨x.toArray⟩ t) (.ref s₃.heap.objs.size)) := by with_unfolding_all rfl
  exact tail_of_ItemOn (cut_at ol ou hx fun h' t' tk hk => k _ _ (st₁.trans (st₂.trans (st₃.trans (.of_keep hk)))) rep_str) hsl (fun r => by cases value <;> rfl)

theorem charAt_eq (x : List Nat) (k : Nat) (h : k < x.length) : Txt.charAt ⟨x.toArray⟩ (k : Int) = some x[k] := by
  unfold Txt.charAt
  have : seqIndex? (k : Int) x.length = some k := by
    unfold seqIndex?
    simp
    omega
  simp [Str.length, this, h]

theorem Ev.sign {value slice : Expr} {pos : Pos} {x : List Nat} {k : Nat} {z : Nat} (hv : Ev c n env V Γ value (.str x)) (hi : Ev c n env V Γ slice (.int k)) (hz : x[k]? = some z) (hx : x.length < 1000000)
    (hsl : ∀ (t u : Tok), subscripted slice false (.str ⟨x.toArray⟩ t) (.int k u) = operate [.str ⟨x.toArray⟩ t, .int k u] (getItem (.str ⟨x.toArray⟩ t) (.int k u)) := by intros; rfl) :
    Ev c n env V Γ (.Subscript value slice pos) (.str [z]) := by
  intro A hA s Q E F kk
  refine Subscript_ (hv.bind hA F fun o s₁ st₁ F₁ r₁ => hi.bind hA F₁ fun vl s₂ st₂ F₂ ri => ?_)
  obtain ⟨t, rfl⟩ := of_str r₁
  obtain ⟨u, rfl⟩ := of_int ri
  have hk : k < x.length := by
    rcases Nat.lt_or_ge k x.length with h | h
    · exact h
    · rw [List.getElem?_eq_none h] at hz; cases hz
  have hit : Txt.item ⟨x.toArray⟩ (k : Int) = ⟨[z].toArray⟩ := by
    unfold Txt.item
    rw [charAt_eq x k hk]
    rw [List.getElem?_eq_getElem hk] at hz
    cases hz
    rfl
  refine tail_of_ItemOn (SB.item ?_ (by rw [charAt_eq x k hk]; rfl) (by rw [hit]; exact kk _ _ (st₁.trans (st₂.trans (.of_keep fun _ _ e => e))) rep_str)) (hsl t u) (fun r => ?_)
  · unfold fitsSsize; simp; omega
  · cases value <;> rfl

theorem Ev.itemT {value slice : Expr} {pos : Pos} {l : List PV} {k : Nat} {p : PV} (hv : Ev c n env V Γ value (.tup l)) (hi : Ev c n env V Γ slice (.int k)) (hz : l[k]? = some p) (hx : l.length < 1000000)
    (hsl : ∀ (t : Addr) (u : Tok), subscripted slice false (.ref t) (.int k u) = operate [.ref t, .int k u] (getItem (.ref t) (.int k u)) := by intros; rfl) :
    Ev c n env V Γ (.Subscript value slice pos) p := by
  intro A hA s Q E F kk
  refine Subscript_ (hv.bind hA F fun o s₁ st₁ F₁ r₁ => hi.bind hA F₁ fun vl s₂ st₂ F₂ ri => ?_)
  have r₂ := r₁.step st₂ (w59 F.v59)
  obtain ⟨a, items, m, rfl, ha, ho, hr⟩ := of_tup r₂
  obtain ⟨u, rfl⟩ := of_int ri
  obtain ⟨v, hv', rv⟩ := hr.get k p hz
  have hk : k < items.length := by
    rcases Nat.lt_or_ge k items.length with h | h
    · exact h
    · rw [List.getElem?_eq_none h] at hv'; cases hv'
  have hlen := hr.length
  refine item_tupleT (isTuple_of ho) (by omega) (by omega) (j := k) ?_ hv' (kk _ _ (st₁.trans st₂) rv) (hsl a u)
  unfold seqIndex?
  simp
  omega
theorem Ev.item {value slice : Expr} {pos : Pos} {l : List PV} {k : Nat} {p : PV} (hv : Ev c n env V Γ value (.list l)) (hi : Ev c n env V Γ slice (.int k)) (hz : l[k]? = some p) (hx : l.length < 1000000)
    (hsl : ∀ (t : Addr) (u : Tok), subscripted slice false (.ref t) (.int k u) = operate [.ref t, .int k u] (getItem (.ref t) (.int k u)) := by intros; rfl) :
    Ev c n env V Γ (.Subscript value slice pos) p := by
  intro A hA s Q E F kk
  refine Subscript_ (hv.bind hA F fun o s₁ st₁ F₁ r₁ => hi.bind hA F₁ fun vl s₂ st₂ F₂ ri => ?_)
  have r₂ := r₁.step st₂ (w59 F.v59)
  obtain ⟨a, items, m, rfl, ha, ho, hr⟩ := of_list r₂
  obtain ⟨u, rfl⟩ := of_int ri
  obtain ⟨v, hv', rv⟩ := hr.get k p hz
  have hk : k < items.length := by
    rcases Nat.lt_or_ge k items.length with h | h
    · exact h
    · rw [List.getElem?_eq_none h] at hv'; cases hv'
  have hlen := hr.length
  exact tail_any (isList_of ho).typeIs slot_list_getitem.lookup (wpAny_getItem_list (isList_of ho) (by omega) (by omega) (by simpa using hv') (kk _ _ (st₁.trans st₂) rv)) (hsl a u)
theorem slc_len {α : Type} (x : List α) (l u : Option Int) : (slc x l u).length ≤ x.length := by
  unfold slc; rw [List.length_drop, List.length_take]; omega
theorem clp_nat (k d n : Nat) : clp (some (k : Int)) d n = min k n := by
  unfold clp; dsimp only; rw [if_neg (by omega)]; simp
theorem slc_to {α : Type} (x : List α) (k : Nat) : slc x none (some (k : Int)) = x.take k := by
  unfold slc; rw [clp_nat]; show List.drop 0 _ = _
  rw [List.drop_zero, ← List.take_take, List.take_length]
theorem slc_from {α : Type} (x : List α) (k : Nat) : slc x (some (k : Int)) none = x.drop k := by
  unfold slc; rw [clp_nat]; show List.drop _ (x.take x.length) = _
  rw [List.take_length]
  by_cases h : k ≤ x.length
  · rw [Nat.min_eq_left h]
  · rw [Nat.min_eq_right (by omega), List.drop_length, List.drop_eq_nil_of_le (by omega)]
theorem slc_mid {α : Type} (x : List α) (a b : Nat) : slc x (some (a : Int)) (some (b : Int)) = (x.take b).drop a := by
  unfold slc; rw [clp_nat, clp_nat, ← List.take_take, List.take_length]
  by_cases h : a ≤ x.length
  · rw [Nat.min_eq_left h]
  · rw [Nat.min_eq_right (by omega), List.drop_eq_nil_of_le (by rw [List.length_take]; omega), List.drop_eq_nil_of_le (by rw [List.length_take]; omega)]
theorem slc_neg {α : Type} (x : List α) (k : Nat) (hk : 0 < k) : slc x (some (-(k : Int))) none = x.drop (x.length - k) := by
  unfold slc clp; dsimp only; rw [if_pos (by omega), List.take_length]
  congr 1; omega
theorem slicePick_eq (x : List Value) (l u : Option Int) : slicePick x.toArray l u none = (slc x l u).toArray := by
  have hb : sliceBounds l u none x.length = ((clp l 0 x.length : Int), (clp u x.length x.length : Int), 1) := by
    rw [clp_int l 0 x.length, clp_int u x.length x.length]
    unfold sliceBounds
    cases l <;> cases u <;> simp
  unfold slicePick
  rw [List.size_toArray, hb]
  dsimp only
  rw [sliceRange_one]
  have e1 : (fun i : Nat => x.toArray[i]?) = fun i : Nat => x[i]? := by funext i; simp
  rw [e1]
  have hu := clp_le u x.length x.length (Nat.le_refl _)
  unfold slc
  by_cases hlu : clp l 0 x.length ≤ clp u x.length x.length
  · rw [pick_range x _ _ (by omega), List.drop_take]
  · rw [show clp u x.length x.length - clp l 0 x.length = 0 by omega]
    rw [List.drop_eq_nil_of_le (by rw [List.length_take]; omega)]; simp
theorem slc_rep {h : Heap} {l : List PV} {vs : List Value} (r : RepL V h l vs) (a b : Option Int) : RepL V h (slc l a b) (slc vs a b) := by
  unfold slc
  rw [r.length]
  exact RepL.drop _ (RepL.take _ r)
theorem Ev.cutL {value : Expr} {lo hi : Option Expr} {p pos : Pos} {x : List PV} {l u : Option Int} (hv : Ev c n env V Γ value (.list x)) (hl : EvO c n env V Γ lo l) (hu : EvO c n env V Γ hi u) (hx : x.length ≤ sizeLine) :
    Ev c n env V Γ (.Subscript value (.Slice lo hi none p) pos) (.list (slc x l u)) := by
  intro A hA s Q E F k
  refine Subscript_ (hv.bind hA F fun o s₁ st₁ F₁ r₁ => wpAny_Slice (hl.bind hA F₁ fun vl s₂ st₂ F₂ ol => hu.bind hA F₂ fun vu s₃ st₃ F₃ ou => wpAny_evalPart_none ?_))
  obtain ⟨a, items, m, rfl, ha, ho, hr⟩ := of_list r₁
  have hl : ∀ {v o}, optV v o → IsPart o v := by
    intro v o h
    cases v with
    | none => rw [optV] at h; subst h; exact .none
    | some i => obtain ⟨t, rfl⟩ := h; exact .int _ _
  have st := st₁.trans (st₂.trans st₃)
  have r₃ := hr.step (st₂.trans st₃) (w59 F.v59)
  have ho₃ := (st₂.trans st₃).keep a _ (fun q => ha (w59 F.v59 a q)) ho
  generalize hH : s₃.heap.push { cls := Value.type "slice", data := Data.fields #[vl, vu, Value.none] } = H
  have hk : ∀ b o, s₃.heap.get? b = some o → H.get? b = some o := fun b o e => hH ▸ Heap.get?_push_of_some _ e
  have hsl : H.IsSliceOf s₃.heap.objs.size vl vu .none := ⟨_, hH ▸ Heap.get?_push_size _ rfl, rfl, rfl⟩
  have hsz : items.toArray.size ≤ sizeLine := by rw [List.size_toArray, hr.length]; exact hx
  refine tail_any (isList_of (hk _ _ ho₃)).typeIs slot_list_getitem.lookup (wpAny_getItem_list_slice (isList_of (hk _ _ ho₃)) hsl (hl ol) (hl ou) .none (by simp) ?_ hsz) (by with_unfolding_all rfl)
  rw [slicePick_eq]
  have hnew : (H.push { cls := Value.type "list", data := Data.seq (slc items l u).toArray }).get? H.objs.size = some (seqObj "list" (slc items l u) 0) := Heap.get?_push_size _ rfl
  have hkk : ∀ b o, s₃.heap.get? b = some o → (H.push { cls := Value.type "list", data := Data.seq (slc items l u).toArray }).get? b = some o := fun b o e => Heap.get?_push_of_some _ (hk b o e)
  refine k _ _ (st.trans (.of_keep hkk)) (rep_list (n := 0) (fun hm => ?_) hnew ((slc_rep r₃ l u).mono fun b o hb e => ⟨hb, hkk b o e⟩))
  obtain ⟨o, e⟩ := F₃.vlive _ hm
  have := Heap.lt_size (hk _ _ e)
  exact Nat.lt_irrefl _ this
end
end

section
open PySem PySem.W PySem.Spec PySem.Calls PyProof.Rows
set_option linter.unusedVariables false
set_option maxRecDepth 100000
set_option maxHeartbeats 400000

/-- what a frame's own statements may turn -/
def own (env : Env) : List Addr := 56 :: env.locals :: env.cells.map (·.2)

inductive Out where
  | next (Γ : List (Str × PV))
  | ret (p : PV)
def OutIs (c : Cx) (env : Env) (V : List Addr) : Out → Flow → Shared → Prop
  | .next Γ, f, s => f = .next ∧ FS c env V Γ s
  | .ret p, f, s => ∃ x, f = .ret x ∧ Rep V s.heap p x

def Ex (c : Cx) (n : Nat) (env : Env) (V : List Addr) (Γ : List (Str × PV)) (ss : List Stmt) (o : Out) : Prop :=
  ∀ A, Room A n → ∀ s (Q : Flow → Shared → Prop) (E : Value → Shared → Prop), FS c env V Γ s →
    (∀ f s', Step (own env) s s' → OutIs c env V o f s' → Q f s') → wpAny c.M A (execs ss env) Q E s
def St (c : Cx) (n : Nat) (env : Env) (V : List Addr) (Γ : List (Str × PV)) (st : Stmt) (o : Out) : Prop :=
  ∀ A, Room A n → ∀ s (Q : Flow → Shared → Prop) (E : Value → Shared → Prop), FS c env V Γ s →
    (∀ f s', Step (own env) s s' → OutIs c env V o f s' → Q f s') → wpAny c.M A (exec st env) Q E s

section
variable {c : Cx} {n : Nat} {env : Env} {V : List Addr} {Γ Γ' : List (Str × PV)}

theorem FS.ownV {s : Shared} (F : FS c env V Γ s) : ∀ a ∈ own env, a ∈ V := by
  intro a ha
  unfold own at ha
  rcases List.mem_cons.mp ha with rfl | ha
  · exact F.v59
  · rcases List.mem_cons.mp ha with rfl | ha
    · exact F.vL
    · obtain ⟨⟨x, b⟩, hm, rfl⟩ := List.mem_map.mp ha
      exact F.vC x b hm
theorem wOwn : ∀ a ∈ [56], a ∈ own env := fun a ha => by rw [List.mem_singleton.mp ha]; exact .head _

theorem Ex.nil : Ex c n env V Γ [] (.next Γ) := fun A _ s Q E F k => wpAny_execs_nil (k _ _ .refl ⟨rfl, F⟩)
theorem Ex.cons {st : Stmt} {rest : List Stmt} {o : Out} (h₁ : St c n env V Γ st (.next Γ')) (h₂ : Ex c n env V Γ' rest o) : Ex c n env V Γ (st :: rest) o := by
  intro A hA s Q E F k
  refine wpAny_execs_cons (h₁ A hA s _ E F fun f s₁ st₁ ho => ?_)
  obtain ⟨rfl, F₁⟩ := ho
  exact h₂ A hA s₁ Q E F₁ fun f s₂ st₂ ho => k f s₂ (st₁.trans st₂) ho
theorem Ex.ret {st : Stmt} {rest : List Stmt} {p : PV} (h₁ : St c n env V Γ st (.ret p)) : Ex c n env V Γ (st :: rest) (.ret p) := by
  intro A hA s Q E F k
  refine wpAny_execs_cons (h₁ A hA s _ E F fun f s₁ st₁ ho => ?_)
  obtain ⟨x, rfl, hr⟩ := ho
  exact k _ _ st₁ ⟨x, rfl, hr⟩
theorem St.ret {e : Expr} {pos : Pos} {p : PV} (h : Ev c n env V Γ e p) : St c n env V Γ (.Return (some e) pos) (.ret p) := by
  intro A hA s Q E F k
  exact wpAny_Return_some (h A hA s _ E F fun x s' st r => k _ _ (st.wide wOwn) ⟨x, rfl, r⟩)
theorem St.ifT {test : Expr} {body orelse : List Stmt} {pos : Pos} {o : Out} {b : Bool} (ht : Tst c n env V Γ test b) (he : b = true) (hb : Ex c n env V Γ body o) : St c n env V Γ (.If test body orelse pos) o := by
  subst he
  intro A hA s Q E F k
  refine wpAny_If (ht A hA s _ E F fun s' st => ?_)
  rw [if_pos rfl]
  exact hb A hA s' Q E (F.step st) fun f s₂ st₂ ho => k f s₂ ((st.wide wOwn).trans st₂) ho
theorem St.ifF {test : Expr} {body orelse : List Stmt} {pos : Pos} {o : Out} {b : Bool} (ht : Tst c n env V Γ test b) (he : b = false) (hb : Ex c n env V Γ orelse o) : St c n env V Γ (.If test body orelse pos) o := by
  subst he
  intro A hA s Q E F k
  refine wpAny_If (ht A hA s _ E F fun s' st => ?_)
  rw [if_neg (by simp)]
  exact hb A hA s' Q E (F.step st) fun f s₂ st₂ ho => k f s₂ ((st.wide wOwn).trans st₂) ho
theorem St.assert {test : Expr} {msg : Option Expr} {pos : Pos} {b : Bool} (ht : Tst c n env V Γ test b) (he : b = true) : St c n env V Γ (.Assert test msg pos) (.next Γ) := by
  subst he
  intro A hA s Q E F k
  have e : exec (.Assert test msg pos) env = (do standAt pos; if ← PySem.isTrue test env (eval test env) then pure .next else assertFails test.pos (evalOpt msg env)) := rfl
  rw [e]
  refine wpAny_bind (wpAny_standAt (wpAny_bind (ht A hA s _ E F fun s' st => ?_)))
  rw [if_pos rfl]
  exact wpAny_pure (k _ _ (st.wide wOwn) ⟨rfl, F.step st⟩)

theorem Tab.sameBut {h h' : Heap} {a : Addr} {o : Obj} (t : Tab h) (hs : Heap.SameBut a h h') (e : h.get? a = some o) (hd : ∀ vs, o.data ≠ .fields vs) : Tab h' := by
  obtain ⟨ps, ⟨o1, vs, file, tf, flags, tg, inF, text, tt, op, h1, h2, h3, h4, h5, h6, h7, h8, h9⟩, ⟨o', vs', g1, g2⟩, g3⟩ := t
  have n60 : 60 ≠ a := fun q => by rw [q, e] at h1; cases h1; exact hd _ h2
  have n59 : 56 ≠ a := fun q => by rw [q, e] at h8; cases h8; exact hd _ h9.1
  have k60 : h'.get? 60 = h.get? 60 := hs.2 _ n60
  have k59 : h'.get? 56 = h.get? 56 := hs.2 _ n59
  exact ⟨ps, ⟨o1, vs, file, tf, flags, tg, inF, text, tt, op, k60.trans h1, h2, h3, h4, h5, h6, h7, k59.trans h8, h9⟩, ⟨o', vs', k60.trans g1, g2⟩, k59.trans g3⟩

/-- one object turned, of the frame's own -/
theorem step_turn {s : Shared} {h' : Heap} {tk : Nat} {a : Addr} {o o' : Obj} {W : List Addr} (hs : Heap.SameBut a s.heap h') (e : s.heap.get? a = some o) (hd : ∀ vs, o.data ≠ .fields vs) (e' : h'.get? a = some o') (ha : a ∈ W) : Step W s { s with heap := h', toks := tk } := by
  refine ⟨fun b ob hb eb => (hs.2 b (fun q => hb (q ▸ ha))).trans eb, fun t => t.sameBut hs e hd, .refl, rfl, rfl⟩

theorem GS.turn {s : Shared} {h' : Heap} {tk : Nat} {a : Addr} {o o' : Obj} (G : GS c V s) (hs : Heap.SameBut a s.heap h') (e : s.heap.get? a = some o) (hd : ∀ vs, o.data ≠ .fields vs) (e' : h'.get? a = some o') (hf : ¬ GIdom c a) : GS c V { s with heap := h', toks := tk } := by
  have st : Step [a] s { s with heap := h', toks := tk } := step_turn hs e hd e' (.head _)
  refine ⟨G.gi.keep (fun b ob d _ eb => (hs.2 b (fun q => hf (q ▸ d))).trans eb) (st.tab G.gi.tab), st.bare.1 G.bare, fun b hb => (by
    by_cases q : b = a
    · subst q; exact ⟨o', e'⟩
    · obtain ⟨ob, eb⟩ := G.vlive b hb; exact ⟨ob, (hs.2 b q).trans eb⟩), G.v59⟩

theorem FS.store {s : Shared} {h' : Heap} {tk : Nat} {x : Str} {p : PV} {v : Value} {m m' : Str → Option Value} (F : FS c env V Γ s) (hm : s.heap.Ns env.locals m) (hl : env.kindOf x = some .local)
    (hn : h'.Ns env.locals m') (hm' : ∀ y, m' y = if y = x then some v else m y) (hs : Heap.SameBut env.locals s.heap h') (r : Rep V s.heap p v) : FS c env V ((x, p) :: Γ) { s with heap := h', toks := tk } := by
  obtain ⟨o, es, ep, e, hd, ek, ef⟩ := hm
  obtain ⟨o', es', ep', e', hd', ek', ef'⟩ := hn
  have hdd : ∀ vs, o.data ≠ .fields vs := by simp [hd]
  have kr : ∀ {q : PV} {u : Value}, Rep V s.heap q u → Rep V h' q u := fun r => r.mono fun a ob ha eo => ⟨ha, (hs.2 a (fun q => ha (q ▸ F.vL))).trans eo⟩
  have kc : ∀ {a u}, s.heap.IsCell a u → h'.IsCell a u := fun {a u} ⟨oc, ec, hc⟩ => ⟨oc, (hs.2 a (fun q => by rw [q, e] at ec; cases ec; rw [hd] at hc; cases hc)).trans ec, hc⟩
  refine ⟨F.toGS.turn hs e hdd e' F.farL, F.vL, F.vC, F.farL, F.farC, F.apart, ⟨m', ⟨o', es', ep', e', hd', ek', ef'⟩, fun y q hy hk => ?_⟩, fun y q hy hk => ?_, fun y hk => ?_⟩
  · rw [hm']
    rw [List.lookup_cons] at hy
    by_cases hyx : y = x
    · subst hyx
      rw [beq_self_eq_true] at hy
      cases hy
      exact ⟨v, if_pos rfl, kr r⟩
    · rw [beq_eq_false_iff_ne.mpr hyx] at hy
      rw [if_neg hyx]
      obtain ⟨m₀, ⟨o₀, es₀, ep₀, e₀, hd₀, ek₀, ef₀⟩, hm₀⟩ := F.loc
      rw [e] at e₀; cases e₀
      rw [hd] at hd₀; cases hd₀
      obtain ⟨u, hu, ru⟩ := hm₀ y q hy hk
      exact ⟨u, by rw [← ef, ef₀]; exact hu, kr ru⟩
  · rw [List.lookup_cons] at hy
    have hyx : y ≠ x := fun q => by subst q; rcases hk with hk | hk <;> (rw [hl] at hk; cases hk)
    rw [beq_eq_false_iff_ne.mpr hyx] at hy
    obtain ⟨a, u, h1, h2, h3⟩ := F.cel y q hy hk
    exact ⟨a, u, h1, kc h2, kr h3⟩
  · obtain ⟨a, u, h1, h2⟩ := F.mt y hk
    exact ⟨a, u, h1, kc h2⟩

theorem FS.storeC {s : Shared} {h' : Heap} {tk : Nat} {x : Str} {p : PV} {v : Value} {a : Addr} {u₀ : Option Value} (F : FS c env V Γ s) (hl : env.kindOf x = some .cell) (hc : env.cells.lookup x = some a) (h₀ : s.heap.IsCell a u₀)
    (hn : h'.IsCell a (some v)) (hs : Heap.SameBut a s.heap h') (r : Rep V s.heap p v) : FS c env V ((x, p) :: Γ) { s with heap := h', toks := tk } := by
  obtain ⟨o, e, hd⟩ := h₀
  obtain ⟨o', e', hd'⟩ := hn
  have hdd : ∀ vs, o.data ≠ .fields vs := by simp [hd]
  have ha : (x, a) ∈ env.cells := mem_of_lookup hc
  have kr : ∀ {q : PV} {u : Value}, Rep V s.heap q u → Rep V h' q u := fun r => r.mono fun b ob hb eo => ⟨hb, (hs.2 b (fun q => hb (q ▸ F.vC x a ha))).trans eo⟩
  refine ⟨F.toGS.turn hs e hdd e' (F.farC x a ha), F.vL, F.vC, F.farL, F.farC, F.apart, ?_, fun y q hy hk => ?_, fun y hk => ?_⟩
  · obtain ⟨m, ⟨oL, es, ep, eL, hdL, ekL, efL⟩, hm⟩ := F.loc
    have hne : env.locals ≠ a := fun q => by rw [q, e] at eL; cases eL; rw [hd] at hdL; cases hdL
    refine ⟨m, ⟨oL, es, ep, (hs.2 _ hne).trans eL, hdL, ekL, efL⟩, fun y q hy hk => ?_⟩
    rw [List.lookup_cons] at hy
    have hyx : y ≠ x := fun q => by subst q; rw [hl] at hk; cases hk
    rw [beq_eq_false_iff_ne.mpr hyx] at hy
    obtain ⟨w, hw, rw'⟩ := hm y q hy hk
    exact ⟨w, hw, kr rw'⟩
  · rw [List.lookup_cons] at hy
    by_cases hyx : y = x
    · subst hyx
      rw [beq_self_eq_true] at hy
      cases hy
      exact ⟨a, v, hc, ⟨o', e', hd'⟩, kr r⟩
    · rw [beq_eq_false_iff_ne.mpr hyx] at hy
      obtain ⟨b, w, h1, ⟨ob, h2, h2'⟩, h3⟩ := F.cel y q hy hk
      exact ⟨b, w, h1, ⟨ob, (hs.2 b (F.apart y x b a h1 hc hyx)).trans h2, h2'⟩, kr h3⟩
  · by_cases hyx : y = x
    · subst hyx; exact ⟨a, _, hc, ⟨o', e', hd'⟩⟩
    · obtain ⟨b, w, h1, ⟨ob, h2, h2'⟩⟩ := F.mt y hk
      exact ⟨b, w, h1, ⟨ob, (hs.2 b (F.apart y x b a h1 hc hyx)).trans h2, h2'⟩⟩

/-- a name stored -/
theorem store_local {A : Around} {s : Shared} {x : Str} {p : PV} {v : Value} {Q : Unit → Shared → Prop} {E : Value → Shared → Prop} (F : FS c env V Γ s) (hf : env.scope.kind = .function) (hl : env.kindOf x = some .local) (r : Rep V s.heap p v)
    (k : ∀ s', Step (own env) s s' → FS c env V ((x, p) :: Γ) s' → Q () s') : wpAny c.M A (storeName env x v) Q E s := by
  obtain ⟨m, hn, _⟩ := F.loc
  refine wpAny_storeName_local hl hn (fun h' hn' hs => ?_) (by rw [hf]; rfl)
  obtain ⟨o, es, ep, e, hd, _⟩ := id hn
  obtain ⟨o', _, _, e', _⟩ := id hn'
  exact k _ (step_turn hs e (by simp [hd]) e' (by unfold own; exact .tail _ (.head _))) (F.store hn hl hn' (fun y => rfl) hs r)
theorem store_cell {A : Around} {s : Shared} {x : Str} {p : PV} {v : Value} {Q : Unit → Shared → Prop} {E : Value → Shared → Prop} (F : FS c env V Γ s) (hf : env.scope.kind = .function) (hl : env.kindOf x = some .cell) (r : Rep V s.heap p v)
    (k : ∀ s', Step (own env) s s' → FS c env V ((x, p) :: Γ) s' → Q () s') : wpAny c.M A (storeName env x v) Q E s := by
  obtain ⟨a, u, hc, h₀⟩ := F.mt x hl
  refine wpAny_storeName_cell hf hl hc h₀ (fun h' hn' hs => ?_)
  obtain ⟨o, e, hd⟩ := id h₀
  obtain ⟨o', e', hd'⟩ := id hn'
  have ha : (x, a) ∈ env.cells := mem_of_lookup hc
  exact k _ (step_turn (tk := s.toks) hs e (by simp [hd]) e' (by unfold own; exact .tail _ (.tail _ (List.mem_map.mpr ⟨(x, a), ha, rfl⟩)))) (F.storeC (tk := s.toks) hl hc h₀ hn' hs r)
theorem St.assign {x : Str} {pos' pos : Pos} {e : Expr} {p : PV} (h : Ev c n env V Γ e p) (hf : env.scope.kind = .function) (hl : env.kindOf x = some .local)
    (hw : swapsWith e (some (.Name x pos')) pos.line env = pure false := by rfl) : St c n env V Γ (.Assign [.Name x pos'] e pos) (.next ((x, p) :: Γ)) := by
  intro A hA s Q E F k
  refine wpAny_Assign_Name (h.bind hA F fun v s₁ st₁ F₁ r₁ => ?_) hw
  exact store_local F₁ hf hl r₁ fun s' st F' => k _ _ ((st₁.wide wOwn).trans st) ⟨rfl, F'⟩
theorem St.assignC {x : Str} {pos' pos : Pos} {e : Expr} {p : PV} (h : Ev c n env V Γ e p) (hf : env.scope.kind = .function) (hl : env.kindOf x = some .cell)
    (hw : swapsWith e (some (.Name x pos')) pos.line env = pure false := by rfl) : St c n env V Γ (.Assign [.Name x pos'] e pos) (.next ((x, p) :: Γ)) := by
  intro A hA s Q E F k
  refine wpAny_Assign_Name (h.bind hA F fun v s₁ st₁ F₁ r₁ => ?_) hw
  exact store_cell F₁ hf hl r₁ fun s' st F' => k _ _ ((st₁.wide wOwn).trans st) ⟨rfl, F'⟩
end
end

section
open PySem PySem.W PySem.Spec PySem.Calls PyProof.Rows
set_option linter.unusedVariables false
set_option maxRecDepth 100000
set_option maxHeartbeats 400000

theorem bindL_out {kindOf : Str → Option NameKind} {x : Str} : ∀ {binds : List (Str × Value)} {m : Str → Option Value}, x ∉ binds.map (·.1) → bindL kindOf binds m x = m x
  | [], m, _ => rfl
  | (n, v) :: r, m, h => by
    rw [bindL, bindL_out (fun q => h (.tail _ q))]
    split
    · exact if_neg (show ¬ (x = n) from fun q => h (q ▸ .head _))
    · rfl
theorem bindC_out {kindOf : Str → Option NameKind} {x : Str} : ∀ {binds : List (Str × Value)} {m : Str → Option Value}, x ∉ binds.map (·.1) → bindC kindOf binds m x = m x
  | [], m, _ => rfl
  | (n, v) :: r, m, h => by
    rw [bindC, bindC_out (fun q => h (.tail _ q))]
    split
    · rfl
    · exact if_neg (show ¬ (x = n) from fun q => h (q ▸ .head _))
theorem zip_names {α : Type} {names : List Str} {vals : List α} {x : Str} (h : x ∉ names) : x ∉ (names.zip vals).map (·.1) := fun q => by
  obtain ⟨⟨a, b⟩, hm, rfl⟩ := List.mem_map.mp q
  exact h (List.of_mem_zip hm).1
theorem lookup_zip {α : Type} : ∀ {names : List Str} {vals : List α} {x : Str} {p : α}, (names.zip vals).lookup x = some p → x ∈ names
  | [], _, _, _, h => by simp at h
  | _ :: _, [], _, _, h => by simp at h
  | n :: ns, v :: vs, x, p, h => by
    rw [List.zip_cons_cons, List.lookup_cons] at h
    by_cases q : x = n
    · subst q; exact .head _
    · rw [beq_eq_false_iff_ne.mpr q] at h
      exact .tail _ (lookup_zip h)
theorem bindL_zip {V : List Addr} {h : Heap} {kindOf : Str → Option NameKind} : ∀ {names : List Str} {args : List PV} {vals : List Value} {m : Str → Option Value}, names.Nodup → RepL V h args vals →
    ∀ x p, (names.zip args).lookup x = some p → kindOf x = some .local → ∃ v, bindL kindOf (names.zip vals) m x = some v ∧ Rep V h p v
  | [], _, _, _, _, _, x, p, e, _ => by simp at e
  | _ :: _, [], _, _, _, _, x, p, e, _ => by simp at e
  | n :: ns, q :: ps, vals, m, hn, r, x, p, e, hk => by
    rw [RepL] at r
    obtain ⟨v, vs, rfl, h1, h2⟩ := r
    rw [List.zip_cons_cons, List.lookup_cons] at e
    rw [List.nodup_cons] at hn
    by_cases hx : x = n
    · subst hx
      rw [beq_self_eq_true] at e
      cases e
      refine ⟨v, ?_, h1⟩
      rw [List.zip_cons_cons, bindL, bindL_out (zip_names hn.1), if_pos hk, if_pos rfl]
    · rw [beq_eq_false_iff_ne.mpr hx] at e
      rw [List.zip_cons_cons, bindL]
      exact bindL_zip hn.2 h2 x p e hk
theorem bindC_zip {V : List Addr} {h : Heap} {kindOf : Str → Option NameKind} : ∀ {names : List Str} {args : List PV} {vals : List Value} {m : Str → Option Value}, names.Nodup → RepL V h args vals →
    ∀ x p, (names.zip args).lookup x = some p → kindOf x ≠ some .local → ∃ v, bindC kindOf (names.zip vals) m x = some v ∧ Rep V h p v
  | [], _, _, _, _, _, x, p, e, _ => by simp at e
  | _ :: _, [], _, _, _, _, x, p, e, _ => by simp at e
  | n :: ns, q :: ps, vals, m, hn, r, x, p, e, hk => by
    rw [RepL] at r
    obtain ⟨v, vs, rfl, h1, h2⟩ := r
    rw [List.zip_cons_cons, List.lookup_cons] at e
    rw [List.nodup_cons] at hn
    by_cases hx : x = n
    · subst hx
      rw [beq_self_eq_true] at e
      cases e
      refine ⟨v, ?_, h1⟩
      rw [List.zip_cons_cons, bindC, bindC_out (zip_names hn.1), if_neg hk, if_pos rfl]
    · rw [beq_eq_false_iff_ne.mpr hx] at e
      rw [List.zip_cons_cons, bindC]
      exact bindC_zip hn.2 h2 x p e hk

/-- the state in which a def's body starts -/
theorem FS.entry {c : Cx} {V : List Addr} {s s₁ : Shared} {env : Env} {m cm : Str → Option Value} {Γ : List (Str × PV)} (G : GS c V s) (x : InCallC s env.locals m env.cells cm s₁)
    (hnd : (env.cells.map (·.1)).Nodup) (hfree : ∀ y, env.kindOf y ≠ some .free) (hcells : ∀ y, env.kindOf y = some .cell → (env.cells.lookup y).isSome = true)
    (hloc : ∀ y p, Γ.lookup y = some p → env.kindOf y = some .local → ∃ v, m y = some v ∧ Rep V s.heap p v)
    (hcel : ∀ y p, Γ.lookup y = some p → env.kindOf y = some .cell → ∃ v, cm y = some v ∧ Rep V s.heap p v) :
    FS c env (env.locals :: env.cells.map (·.2) ++ V) Γ s₁ ∧ ∀ (W : List Addr), Step W s s₁ := by
  obtain ⟨h', tk, rfl, hk⟩ := x.done
  have st : ∀ (W : List Addr), Step W s { s with heap := h', toks := tk } := fun W => .of_keep hk
  have hnone : ∀ {a}, s.heap.objs.size ≤ a → s.heap.get? a = none := fun {a} ha => by
    cases e : s.heap.get? a with
    | none => rfl
    | some o => exact absurd (Heap.lt_size e) (Nat.not_lt.mpr ha)
  have hL : s.heap.objs.size ≤ env.locals := x.toInCall.fresh
  have hC : ∀ {y a}, (y, a) ∈ env.cells → s.heap.objs.size ≤ a := fun hm => Nat.le_of_lt (Nat.lt_of_le_of_lt hL (x.above _ _ hm))
  have cellAt : ∀ {y a}, (y, a) ∈ env.cells → env.cells.lookup y = some a := by
    intro y a hm
    clear hcel hloc hcells hfree x st hk hC hL
    revert hnd hm
    induction env.cells with
    | nil => intro _ hm; cases hm
    | cons q r ih =>
      intro hnd hm
      rw [List.map_cons, List.nodup_cons] at hnd
      rw [List.lookup_cons]
      rcases List.mem_cons.mp hm with rfl | hm
      · simp
      · have : y ≠ q.1 := fun e => hnd.1 (e ▸ List.mem_map.mpr ⟨(y, a), hm, rfl⟩)
        rw [beq_eq_false_iff_ne.mpr this]
        exact ih hnd.2 hm
  have rep : ∀ {p : PV} {v : Value}, Rep V s.heap p v → Rep (env.locals :: env.cells.map (·.2) ++ V) h' p v := fun r => r.mono fun a o ha e => by
    refine ⟨fun hm => ?_, hk a o e⟩
    rcases List.mem_append.mp hm with hm | hm
    · rcases List.mem_cons.mp hm with rfl | hm
      · rw [hnone hL] at e; cases e
      · obtain ⟨⟨y, b⟩, hb, rfl⟩ := List.mem_map.mp hm
        rw [hnone (hC hb)] at e; cases e
    · exact ha hm
  refine ⟨⟨⟨G.gi.step (st _), G.bare, fun a ha => ?_, List.mem_append.mpr (.inr G.v59)⟩, List.mem_append.mpr (.inl (.head _)), fun y a hm => List.mem_append.mpr (.inl (.tail _ (List.mem_map.mpr ⟨(y, a), hm, rfl⟩))),
    G.gi.fresh (hnone hL), fun y a hm => G.gi.fresh (hnone (hC hm)), fun y z a b h1 h2 hne => ?_, ⟨m, x.toInCall.ns, fun y p hy hl => ?_⟩, fun y p hy hl => ?_, fun y hl => ?_⟩, st⟩
  · rcases List.mem_append.mp ha with hm | hm
    · rcases List.mem_cons.mp hm with rfl | hm
      · obtain ⟨o, _, _, e, _⟩ := x.toInCall.ns; exact ⟨o, e⟩
      · obtain ⟨⟨y, b⟩, hb, rfl⟩ := List.mem_map.mp hm
        obtain ⟨o, e, _⟩ := x.cell y b (cellAt hb)
        exact ⟨o, e⟩
    · obtain ⟨o, e⟩ := G.vlive a hm; exact ⟨o, hk a o e⟩
  · intro hab
    have m1 := mem_of_lookup h1
    have m2 := mem_of_lookup h2
    have := x.apart
    rw [List.pairwise_iff_getElem] at this
    obtain ⟨i, hi, ei⟩ := List.getElem_of_mem m1
    obtain ⟨j, hj, ej⟩ := List.getElem_of_mem m2
    rcases Nat.lt_trichotomy i j with hij | hij | hij
    · exact this i j hi hj hij (by rw [ei, ej]; exact hab)
    · subst hij; rw [ei] at ej; cases ej; exact hne rfl
    · exact this j i hj hi hij (by rw [ei, ej]; exact hab.symm)
  · obtain ⟨v, hv, hr⟩ := hloc y p hy hl
    exact ⟨v, hv, rep hr⟩
  · rcases hl with hl | hl
    · obtain ⟨v, hv, hr⟩ := hcel y p hy hl
      obtain ⟨a, ha⟩ := Option.isSome_iff_exists.mp (hcells y hl)
      exact ⟨a, v, ha, hv ▸ x.cell y a ha, rep hr⟩
    · exact absurd hl (hfree y)
  · obtain ⟨a, ha⟩ := Option.isSome_iff_exists.mp (hcells y hl)
    exact ⟨a, _, ha, x.cell y a ha⟩

theorem Step.call {s s₁ s' : Shared} {env : Env} {m cm : Str → Option Value} (x : InCallC s env.locals m env.cells cm s₁) (st₀ : Step [56] s s₁) (st : Step (own env) s₁ s') : Step [56] s s' := by
  refine ⟨fun a o ha e => st.keep a o (fun hm => ?_) (st₀.keep a o ha e), fun t => st.tab (st₀.tab t), st₀.bare.trans st.bare, st.drawn.trans st₀.drawn, st.os.trans st₀.os⟩
  have hlt := Heap.lt_size e
  have hL : s.heap.objs.size ≤ env.locals := x.toInCall.fresh
  unfold own at hm
  rcases List.mem_cons.mp hm with rfl | hm
  · exact ha (.head _)
  · rcases List.mem_cons.mp hm with rfl | hm
    · exact Nat.lt_irrefl _ (Nat.lt_of_lt_of_le hlt hL)
    · obtain ⟨⟨y, b⟩, hb, rfl⟩ := List.mem_map.mp hm
      exact Nat.lt_irrefl _ (Nat.lt_trans (Nat.lt_of_lt_of_le hlt hL) (x.above _ _ hb))

theorem Room.deeper {A : Around} {n : Nat} {env : Env} (h : Room A (n + 1)) : Room (A.deeper env) n := ⟨h.1, fun h0 => by
  obtain ⟨a, b, g⟩ := h.2 (by omega)
  refine ⟨?_, ?_, g⟩
  · show A.depth + 1 + n < _; omega
  · show A.units + 3 + 20 * n < _; omega⟩

def cellNames (scope : Scope) : List (Str × NameKind) := scope.names.filter fun x => x.2 == .cell
theorem cellsFrom_names : ∀ (names : List (Str × NameKind)) (k : Nat) (acc : List (Str × Addr)), ((cellsFrom k names acc).map (·.1)) = ((names.filter fun x => x.2 == .cell).map (·.1)).reverse ++ acc.map (·.1)
  | [], k, acc => by simp [cellsFrom]
  | (y, kd) :: r, k, acc => by
    unfold cellsFrom
    by_cases h : (kd == NameKind.cell) = true
    · rw [if_pos h, cellsFrom_names r (k + 1) _, List.filter_cons, if_pos h]; simp
    · rw [if_neg h, cellsFrom_names r k _, List.filter_cons, if_neg h]

theorem all0 {P : List Value → Prop} (h : P []) : ∀ vals : List Value, vals.length = 0 → P vals := fun vals e => by rw [List.length_eq_zero_iff.mp e]; exact h
theorem all_cons {P : List Value → Prop} {k : Nat} (h : ∀ a l, l.length = k → P (a :: l)) (vals : List Value) (e : vals.length = k + 1) : P vals := by
  cases vals with
  | nil => cases e
  | cons a l => exact h a l (Nat.succ.inj e)
theorem all1 {P : List Value → Prop} (h : ∀ a, P [a]) (vals : List Value) (e : vals.length = 1) : P vals :=
  all_cons (fun a l hl => by rw [List.length_eq_zero_iff.mp hl]; exact h a) vals e
theorem all2 {P : List Value → Prop} (h : ∀ a b, P [a, b]) (vals : List Value) (e : vals.length = 2) : P vals :=
  all_cons (fun a l hl => all1 (P := fun l => P (a :: l)) (h a) l hl) vals e
theorem all3 {P : List Value → Prop} (h : ∀ a b d, P [a, b, d]) (vals : List Value) (e : vals.length = 3) : P vals :=
  all_cons (fun a l hl => all2 (P := fun l => P (a :: l)) (h a) l hl) vals e
theorem all4 {P : List Value → Prop} (h : ∀ a b d e, P [a, b, d, e]) (vals : List Value) (e : vals.length = 4) : P vals :=
  all_cons (fun a l hl => all3 (P := fun l => P (a :: l)) (h a) l hl) vals e

/-- a def of the text, called with its arguments by place -/
theorem Calls.def {c : Cx} {n : Nat} {f : Addr} {oc : Value} {od : Option Addr} {osl : Array (Option Value)} {fd : FuncData} {body : List Stmt} {names : List Str} {args : List PV} {p : PV}
    (ho : c.K.lookup f = some ⟨oc, od, .func fd, osl⟩) (hcd : codeIn c.K fd.code fd.qualname = true) (hbody : fd.body = .stmts body) (hbind : ∀ vals : List Value, vals.length = args.length → bindArgs fd ⟨vals, []⟩ = pure (names.zip vals)) (hclo : fd.closure = [])
    (hnames : names.Nodup) (hkind : (names.all fun y => fd.scope.names.lookup y == some .local || fd.scope.names.lookup y == some .cell) = true)
    (hcn : ((fd.scope.names.filter fun x => x.2 == .cell).map (·.1)).Nodup) (hfree : (fd.scope.names.all fun x => x.2 != .free) = true)
    (hb : ∀ L V, Ex c n (callEnvC fd L f) V (names.zip args) body (.ret p))
    (hco : fd.scope.isCoroutine = false := by rfl) (hgen : fd.scope.isGenerator = false := by rfl) (hk : fd.scope.kind = .function := by rfl) : Calls c (n + 1) (.ref f) args p := by
  intro A hA V s vals Q E G r k
  have hroom : A.depth < recursionLimit := by have := (hA.2 (by omega)).1; omega
  refine wpAny_call ?_
  have hkx : ∀ x ∈ names.zip vals, fd.scope.names.lookup x.1 = some .local ∨ (fd.scope.names.lookup x.1 = some .cell ∧ ((cellsFrom (s.heap.objs.size + 1) fd.scope.names []).lookup x.1).isSome = true) := by
    refine kindsX ?_ _
    rw [List.all_eq_true]
    intro x hx
    have := List.all_eq_true.mp hkind x.1 (List.of_mem_zip (a := x.1) (b := x.2) (by simpa using hx)).1
    exact this
  refine codeAny_call_cells hroom (G.gi.k _ _ ho) rfl G.gi.nolimit (codeRec_of G.gi.k hcd) hbody (hbind vals r.length) hclo hkx ?_ hco hgen hk
  intro s₁ x
  have hnd : ((callEnvC fd s.heap.objs.size f).cells.map (·.1)).Nodup := by
    show ((cellsFrom (s.heap.objs.size + 1) fd.scope.names []).map (·.1)).Nodup
    rw [cellsFrom_names]
    rw [List.map_nil, List.append_nil]
    exact List.pairwise_reverse.mpr (hcn.imp fun h => h.symm)
  have hfr : ∀ y, (callEnvC fd s.heap.objs.size f).kindOf y ≠ some .free := by
    intro y e
    have e' : fd.scope.names.lookup y = some .free := e
    have := List.all_eq_true.mp hfree _ (mem_of_lookup e')
    simp at this
  have hcl : ∀ y, (callEnvC fd s.heap.objs.size f).kindOf y = some .cell → ((callEnvC fd s.heap.objs.size f).cells.lookup y).isSome = true := fun y e => cellsFrom_some _ _ _ (.inl e)
  obtain ⟨F, st₀⟩ := FS.entry (Γ := names.zip args) G x hnd hfr hcl (fun y q hy hl => bindL_zip hnames r y q hy hl) (fun y q hy hl => bindC_zip hnames r y q hy (by rw [hl]; simp))
  refine wpAny_mono (hb _ _ _ hA.deeper s₁ (fun fl s' => ∃ v, fl = .ret v ∧ Step [56] s s' ∧ Rep V s'.heap p v) (fun _ _ => False) F fun fl s' st ho => ?_) ?_ (fun _ _ h => h.elim)
  · obtain ⟨v, rfl, hr⟩ := ho
    exact ⟨v, rfl, Step.call x (st₀ _) st, hr.mono fun a o ha e => ⟨fun hm => ha (List.mem_append.mpr (.inr hm)), e⟩⟩
  · rintro fl s' ⟨v, rfl, st, hr⟩
    exact k v s' st hr
end

section
open PySem PySem.W PySem.Spec PySem.Calls PyProof.Rows
set_option linter.unusedVariables false
set_option maxRecDepth 100000
set_option maxHeartbeats 400000

def plainE : Expr → Bool
  | .Starred .. => false
  | _ => true
theorem starEach_plain {e : Expr} {rest : List Expr} {env : Env} (h : plainE e = true) : starEach (e :: rest) env = (false, eval e env) :: starEach rest env := by
  cases e <;> first | rfl | cases h
theorem backTo_plain {pos : Pos} {t : Sem Value} {rest : List (Bool × Sem Value)} : backTo pos ((false, t) :: rest) = (false, t) :: backTo pos rest := rfl

section
variable {c : Cx} {n : Nat} {env : Env} {V : List Addr} {Γ Γ' : List (Str × PV)}

theorem Ev.glob {x : Str} {pos : Pos} {v : Value} {p : PV} (e : nsIn c.K mainGlobals x = some (some v)) (hp : ∀ h, Rep V h p v) (hk : env.scope.kind = .function) (hx : env.kindOf x = some .globalImplicit) (hg : env.globals = mainGlobals)
    (hd : (x == (Str.ofString "__debug__")) = false) : Ev c n env V Γ (.Name x pos) p := by
  intro A _ s Q E F k
  exact Name_function_global hk hx (loadGlobal_global (by rw [hg]; exact F.gi.g) (mg_of F.gi.k F.gi.g e) (k v s .refl (hp _))) hd
theorem Ev.bi {x : Str} {pos : Pos} {v : Value} {p : PV} (e : nsIn c.K mainGlobals x = some none) (hv : bootBuiltins x = some v) (hn : x ≠ Str.ofString "__name__") (hp : ∀ h, Rep V h p v) (hk : env.scope.kind = .function) (hx : env.kindOf x = some .globalImplicit) (hg : env.globals = mainGlobals) (hb : env.builtins = builtinsNs)
    (hd : (x == (Str.ofString "__debug__")) = false) : Ev c n env V Γ (.Name x pos) p := by
  intro A _ s Q E F k
  exact Name_function_global hk hx (loadGlobal_builtin (by rw [hg]; exact F.gi.g) (mg_none_of F.gi.k F.gi.g e) (by rw [hb]; exact F.gi.b) ((F.gi.bi x hn).trans hv) (k v s .refl (hp _))) hd

/-- expressions in a row bear data in a row -/
inductive EvL (c : Cx) (n : Nat) (env : Env) (V : List Addr) (Γ : List (Str × PV)) : List Expr → List PV → Prop
  | nil : EvL c n env V Γ [] []
  | cons {e es p ps} : Ev c n env V Γ e p → EvL c n env V Γ es ps → (hp : plainE e = true := by rfl) → EvL c n env V Γ (e :: es) (p :: ps)

theorem EvL.plain {es ps} (h : EvL c n env V Γ es ps) {pos : Pos} : (backTo pos (starEach es env)).any (·.1) = false := by
  induction h with
  | nil => rfl
  | cons _ _ hp ih => rw [starEach_plain hp, backTo_plain]; exact ih
theorem EvL.bind {es ps} (h : EvL c n env V Γ es ps) {A : Around} (hA : Room A n) {pos : Pos} {E : Value → Shared → Prop} :
    ∀ {s : Shared} {Q : List Value → Shared → Prop}, FS c env V Γ s → (∀ vs s', Step [56] s s' → FS c env V Γ s' → RepL V s'.heap ps vs → Q vs s') → wpAny c.M A (spliced (backTo pos (starEach es env))) Q E s := by
  induction h with
  | nil => intro s Q F k; exact wpAny_pure (k [] s .refl F .nil)
  | cons he hes hp ih =>
    intro s Q F k
    rw [starEach_plain hp, backTo_plain]
    rw [spliced]
    refine wpAny_bind (he.bind hA F fun v s₁ st₁ F₁ r₁ => ?_)
    refine wpAny_bind (wpAny_pure (wpAny_bind (wpAny_holding (ih F₁ fun vs s₂ st₂ F₂ r₂ => wpAny_pure ?_))))
    exact k _ _ (st₁.trans st₂) F₂ (.cons (r₁.step st₂ (w59 F.v59)) r₂)

/-- what is called by a call expression -/
def Callee (c : Cx) (f : Value) : Prop := ∀ {pos : Pos} {A : Around} {E : Value → Shared → Prop} {s : Shared} {Q : Value → Shared → Prop} {args : List (Bool × Sem Value)}, args.any (·.1) = false →
    wpAny c.M A (evalArgs f true args []) (fun a s₁ => c.K.In s₁.heap ∧ wpAny c.M A (call f ([] ++ a.pos) a.kw) Q E s₁) E s → wpAny c.M A (callWith pos f [] args []) Q E s
theorem Callee.fn {f : Value} (hk : keepIn c.K f = true) : Callee c f := fun ha h => callWith_of (by rw [ha]; rfl) (keeps_K hk) h
theorem Callee.builtin {id : String} : Callee c (.builtin id) := fun ha h => PySem.Calls.callWith_builtin ha (wpAny_mono h (fun _ _ x => x.2) fun _ _ x => x)
theorem Callee.type {T : String} : Callee c (.type T) := fun ha h => PySem.callWith_type ha (wpAny_mono h (fun _ _ x => x.2) fun _ _ x => x)

theorem Ev.call {x : Str} {np pos : Pos} {es : List Expr} {f : Value} {ps : List PV} {p : PV} (hf : Ev c n env V Γ (.Name x np) (.fn f)) (hc : Callee c f) (hes : EvL c n env V Γ es ps) (hcall : Calls c n f ps p) : Ev c n env V Γ (.Call (.Name x np) es [] pos) p := by
  intro A hA s Q E F k
  refine wpAny_Call_ofName (hf.bind hA F fun fv s₁ st₁ F₁ r₁ => ?_)
  rw [of_fn r₁]
  refine hc hes.plain ?_
  have fin : ∀ vs s₂, Step [56] s₁ s₂ → FS c env V Γ s₂ → RepL V s₂.heap ps vs → c.K.In s₂.heap ∧ wpAny c.M A (PySem.call f ([] ++ vs) []) Q E s₂ := fun vs s₂ st₂ F₂ r₂ =>
    ⟨F₂.gi.k, hcall A hA V s₂ vs Q E F₂.toGS r₂ fun x s' st r => k x s' (st₁.trans (st₂.trans st)) r⟩
  cases hes with
  | nil => exact evalArgs_nil3 (fin [] s₁ .refl F₁ .nil)
  | cons he hr hp =>
    have fin' := (EvL.cons he hr hp).bind (pos := pos) (E := E) hA F₁ fin
    rw [starEach_plain hp, backTo_plain] at fin' ⊢; exact evalArgs_plain fin'

theorem Ev.tup {es : List Expr} {k : Nat} {pos : Pos} {ps : List PV} (h : EvL c n env V Γ es ps) (hl : ps.length ≤ 1000) : Ev c n env V Γ (.Tuple es k pos) (.tup ps) := by
  intro A hA s Q E F kk
  refine Tuple_ (h.bind hA F fun vs s₁ st₁ F₁ r₁ => ?_)
  have hnew : (s₁.heap.push (seqObj "tuple" vs 0)).get? s₁.heap.objs.size = some (seqObj "tuple" vs 0) := Heap.get?_push_size _ rfl
  have hk : ∀ b o, s₁.heap.get? b = some o → (s₁.heap.push (seqObj "tuple" vs 0)).get? b = some o := fun b o e => Heap.get?_push_of_some _ e
  refine wpAny_newObj_type ?_ (by show vs.toArray.size ≤ sizeLine; rw [List.size_toArray, r₁.length]; exact Nat.le_trans hl (by decide))
  refine kk _ _ (st₁.trans (.of_keep hk)) (rep_tup (n := 0) (fun hm => ?_) hnew (r₁.mono fun b o hb e => ⟨hb, hk b o e⟩))
  obtain ⟨o, e⟩ := F₁.vlive _ hm
  exact Nat.lt_irrefl _ (Heap.lt_size e)
theorem Ev.lst {es : List Expr} {pos : Pos} {ps : List PV} (h : EvL c n env V Γ es ps) (hl : ps.length ≤ 1000) : Ev c n env V Γ (.List es pos) (.list ps) := by
  intro A hA s Q E F kk
  refine List_ (h.bind hA F fun vs s₁ st₁ F₁ r₁ => ?_)
  have hnew : (s₁.heap.push (seqObj "list" vs 0)).get? s₁.heap.objs.size = some (seqObj "list" vs 0) := Heap.get?_push_size _ rfl
  have hk : ∀ b o, s₁.heap.get? b = some o → (s₁.heap.push (seqObj "list" vs 0)).get? b = some o := fun b o e => Heap.get?_push_of_some _ e
  refine wpAny_newObj_type ?_ (by show vs.toArray.size ≤ sizeLine; rw [List.size_toArray, r₁.length]; exact Nat.le_trans hl (by decide))
  refine kk _ _ (st₁.trans (.of_keep hk)) (rep_list (n := 0) (fun hm => ?_) hnew (r₁.mono fun b o hb e => ⟨hb, hk b o e⟩))
  obtain ⟨o, e⟩ := F₁.vlive _ hm
  exact Nat.lt_irrefl _ (Heap.lt_size e)

theorem RepL.one {V h p vs} (r : RepL V h [p] vs) : ∃ v, vs = [v] ∧ Rep V h p v := by
  rw [RepL] at r
  obtain ⟨v, r', rfl, h1, h2⟩ := r
  rw [RepL] at h2; subst h2
  exact ⟨v, rfl, h1⟩
theorem RepL.two {V h p q vs} (r : RepL V h [p, q] vs) : ∃ v w, vs = [v, w] ∧ Rep V h p v ∧ Rep V h q w := by
  rw [RepL] at r
  obtain ⟨v, r', rfl, h1, h2⟩ := r
  obtain ⟨w, rfl, h3⟩ := RepL.one h2
  exact ⟨v, w, rfl, h1, h3⟩
theorem Calls.lenS {x : List Nat} (h : x.length < 1000000) : Calls c n (.builtin "len") [.str x] (.int x.length) := by
  intro A _ V s vals Q E G r k
  obtain ⟨v, rfl, hv⟩ := r.one
  obtain ⟨t, rfl⟩ := of_str hv
  refine SBL.len (by simp only [Str.length, List.size_toArray]; omega) ?_
  simp only [Str.length, List.size_toArray]
  exact k _ _ (.of_keep fun _ _ e => e) rep_int
theorem Calls.lenL {x : List PV} (h : x.length < 1000000) : Calls c n (.builtin "len") [.list x] (.int x.length) := by
  intro A _ V s vals Q E G r k
  obtain ⟨v, rfl, hv⟩ := r.one
  obtain ⟨a, items, m, rfl, ha, ho, hr⟩ := of_list hv
  refine len_list (isList_of ho) (by rw [List.size_toArray, hr.length]; omega) ?_
  rw [List.size_toArray, hr.length]
  exact k _ _ (.of_keep fun _ _ e => e) rep_int
theorem Calls.lenT {x : List PV} (h : x.length < 1000000) : Calls c n (.builtin "len") [.tup x] (.int x.length) := by
  intro A _ V s vals Q E G r k
  obtain ⟨v, rfl, hv⟩ := r.one
  obtain ⟨a, items, m, rfl, ha, ho, hr⟩ := of_tup hv
  refine len_tuple (isTuple_of ho) (by rw [List.size_toArray, hr.length]; omega) ?_
  rw [List.size_toArray, hr.length]
  exact k _ _ (.of_keep fun _ _ e => e) rep_int
end
end

section
open PySem PySem.W PySem.Spec PySem.Calls PyProof.Rows
set_option linter.unusedVariables false
set_option maxRecDepth 100000
set_option maxHeartbeats 400000

/-- the decimal signs of a count -/
def dec (n : Nat) : List Nat := (PySem.Str.ofString (toString (n : Int))).cps.toList
theorem dec_str (n : Nat) : PySem.Str.ofString (toString (n : Int)) = ⟨(dec n).toArray⟩ := by unfold dec; simp

theorem meets3 {x y : PySem.Str} {n : Int} {t tx ty tn : Tok} {b : Addr} (hn0 : 0 ≤ n) (hn1 : n < 10 ^ 10) (hx : x.length ≤ 1000000) (hy : y.length ≤ 1000000) :
    Meets (Builtin.«str.__mod__» ⟨[.str (PySem.Str.mk #[37, 115, 91, 37, 100, 32, 99, 104, 97, 114, 115, 93, 37, 115]) t, .ref b], []⟩)
      (fun _ R s => IsTup s.heap b #[.str x tx, .int n tn, .str y ty] ∧ ∀ t' k, R (.ok (.ret (.str (((x ++ PySem.Str.ofString "[") ++ PySem.Str.ofString (toString n)) ++ PySem.Str.ofString " chars]" ++ y) t'))) { s with toks := k }) := by
  kpt_run

theorem meets1 {n : Int} {t tn : Tok} (hn0 : 0 ≤ n) (hn1 : n < 10 ^ 10) (hl : n.natAbs.log2 < 1920) (hl' : ((n.natAbs : Nat) : Int).natAbs.log2 < 1920) :
    Meets (Builtin.«str.__mod__» ⟨[.str (PySem.Str.mk #[91, 37, 100, 32, 99, 104, 97, 114, 115, 93]) t, .int n tn], []⟩)
      (fun _ R s => ∀ t' k, R (.ok (.ret (.str ((PySem.Str.ofString "[" ++ PySem.Str.ofString (toString n)) ++ PySem.Str.ofString " chars]") t'))) { s with toks := k }) := by
  kpc_run
theorem meets0 {n : Int} {t tn : Tok} (hn0 : 0 ≤ n) (hn1 : n < 10 ^ 10) (hl : n.natAbs.log2 < 1920) (hl' : ((n.natAbs : Nat) : Int).natAbs.log2 < 1920) :
    Meets (Builtin.«str.__mod__» ⟨[.str (PySem.Str.mk #[37, 100]) t, .int n tn], []⟩)
      (fun _ R s => ∀ t' k, R (.ok (.ret (.str (PySem.Str.ofString (toString n)) t'))) { s with toks := k }) := by
  kpc_run
theorem ofs1 : PySem.Str.ofString "[" = ⟨[91].toArray⟩ := by decide +kernel
theorem ofs2 : PySem.Str.ofString " chars]" = ⟨[32, 99, 104, 97, 114, 115, 93].toArray⟩ := by decide +kernel
/-- a note of a count -/
def note (n : Nat) : List Nat := 91 :: (dec n ++ [32, 99, 104, 97, 114, 115, 93])
theorem shown_nat (n : Nat) (h : n < 10 ^ 10) : (n : Int).natAbs.log2 < 1920 := shown (N := 2 ^ 1920) (by omega) (by omega) (Int.le_refl _)
section
variable {c : Cx} {n : Nat} {env : Env} {V : List Addr} {Γ : List (Str × PV)}
theorem BinF.fmt1 {i : Nat} (hi : i < 10 ^ 10) : BinF c n .Mod (.str [91, 37, 100, 32, 99, 104, 97, 114, 115, 93]) (.int i) (.str (note i)) := by
  intro A _ V s va vb Q E _ r₁ r₂ k
  obtain ⟨t, rfl⟩ := of_str r₁; obtain ⟨u, rfl⟩ := of_int r₂
  refine KPc.mod_lit rfl (shown_nat i hi) (fun h1 h2 => meets1 (by omega) (by omega) h1 h2) fun t' tk => ?_
  rw [dec_str, ofs1, ofs2, str_append, str_append]
  exact k _ _ (.of_keep fun _ _ e => e) (rep_str' (by unfold note; simp))
theorem BinF.fmt0 {i : Nat} (hi : i < 10 ^ 10) : BinF c n .Mod (.str [37, 100]) (.int i) (.str (dec i)) := by
  intro A _ V s va vb Q E _ r₁ r₂ k
  obtain ⟨t, rfl⟩ := of_str r₁; obtain ⟨u, rfl⟩ := of_int r₂
  refine KPc.mod_lit rfl (shown_nat i hi) (fun h1 h2 => meets0 (by omega) (by omega) h1 h2) fun t' tk => ?_
  rw [dec_str]
  exact k _ _ (.of_keep fun _ _ e => e) rep_str
theorem BinF.fmt3 {x y : List Nat} {i : Nat} (hi : i < 10 ^ 10) (hx : x.length ≤ 1000000) (hy : y.length ≤ 1000000) :
    BinF c n .Mod (.str [37, 115, 91, 37, 100, 32, 99, 104, 97, 114, 115, 93, 37, 115]) (.tup [.str x, .int i, .str y]) (.str (x ++ note i ++ y)) := by
  intro A _ V s va vb Q E _ r₁ r₂ k
  obtain ⟨t, rfl⟩ := of_str r₁; obtain ⟨a, items, m, rfl, ha, ho, hr⟩ := of_tup r₂
  rw [RepL] at hr
  obtain ⟨v1, r', rfl, h1, h2⟩ := hr
  obtain ⟨v2, v3, rfl, h3, h4⟩ := h2.two
  obtain ⟨tx, rfl⟩ := of_str h1; obtain ⟨tn, rfl⟩ := of_int h3; obtain ⟨ty, rfl⟩ := of_str h4
  have hN : News {} (a + 1) s.heap [(a, seqObj "tuple" [.str ⟨x.toArray⟩ tx, .int i tn, .str ⟨y.toArray⟩ ty] m)] := by
    intro p hp
    rw [List.mem_singleton.mp hp]
    exact ⟨ho, Nat.ne_of_lt (Nat.lt_succ_self a), by rfl⟩
  refine KPt.mod_tuple hN (.head _) rfl (meets3 (by omega) (by omega) (by simpa [Str.length] using hx) (by simpa [Str.length] using hy)) fun t' tk => ?_
  rw [dec_str, ofs1, ofs2, str_append, str_append, str_append, str_append]
  exact k _ _ (.of_keep fun _ _ e => e) (rep_str' (by unfold note; simp))
end
end

section
open PySem PySem.W PySem.Spec PySem.Calls PyProof.Rows
set_option linter.unusedVariables false
set_option maxRecDepth 100000
set_option maxHeartbeats 400000

mutual
theorem Rep.monoS {V V' : List Addr} {h h' : Heap} (hk : ∀ a T items n, (T = "list" ∨ T = "tuple") → a ∉ V → h.get? a = some (seqObj T items n) → a ∉ V' ∧ h'.get? a = some (seqObj T items n)) : ∀ {p : PV} {v : Value}, Rep V h p v → Rep V' h' p v
  | .none, _, r => by simpa [Rep] using r
  | .bool _, _, r => by simpa [Rep] using r
  | .int _, _, r => by simpa [Rep] using r
  | .str _, _, r => by simpa [Rep] using r
  | .fn _, _, r => by simpa [Rep] using r
  | .list l, _, r => by
    rw [Rep] at r ⊢
    obtain ⟨a, items, n, rfl, ha, ho, hr⟩ := r
    obtain ⟨h1, h2⟩ := hk a _ _ _ (.inl rfl) ha ho
    exact ⟨a, items, n, rfl, h1, h2, RepL.monoS hk hr⟩
  | .tup l, _, r => by
    rw [Rep] at r ⊢
    obtain ⟨a, items, n, rfl, ha, ho, hr⟩ := r
    obtain ⟨h1, h2⟩ := hk a _ _ _ (.inr rfl) ha ho
    exact ⟨a, items, n, rfl, h1, h2, RepL.monoS hk hr⟩
theorem RepL.monoS {V V' : List Addr} {h h' : Heap} (hk : ∀ a T items n, (T = "list" ∨ T = "tuple") → a ∉ V → h.get? a = some (seqObj T items n) → a ∉ V' ∧ h'.get? a = some (seqObj T items n)) : ∀ {l : List PV} {vs : List Value}, RepL V h l vs → RepL V' h' l vs
  | [], _, r => by simpa [RepL] using r
  | p :: ps, _, r => by
    rw [RepL] at r ⊢
    obtain ⟨v, r', rfl, h1, h2⟩ := r
    exact ⟨v, r', rfl, Rep.monoS hk h1, RepL.monoS hk h2⟩
end

/-- an object that no data lies in -/
def Odd (o : Obj) : Prop := ∀ xs n, o.data ≠ .seq xs n
/-- addresses that a step may turn and that no frame speaks of -/
def Off (c : Cx) (V : List Addr) (s : Shared) (W : List Addr) : Prop := ∀ a ∈ W, a = 56 ∨ (a ∉ V ∧ ¬ GIdom c a ∧ ∀ o, s.heap.get? a = some o → Odd o)

section
variable {c : Cx} {n : Nat} {env : Env} {V W : List Addr} {Γ Γ' Δ : List (Str × PV)}

theorem Rep.off {s s' : Shared} {p : PV} {v : Value} (r : Rep V s.heap p v) (st : Step W s s') (h59 : 56 ∈ V) (ho : Off c V s W) : Rep V s'.heap p v := by
  refine r.monoS fun a T items n hT ha e => ⟨ha, st.keep a _ (fun hm => ?_) e⟩
  rcases ho a hm with rfl | ⟨_, _, h3⟩
  · exact ha h59
  · exact h3 _ e _ _ rfl
theorem RepL.off {s s' : Shared} {p : List PV} {v : List Value} (r : RepL V s.heap p v) (st : Step W s s') (h59 : 56 ∈ V) (ho : Off c V s W) : RepL V s'.heap p v := by
  refine r.monoS fun a T items n hT ha e => ⟨ha, st.keep a _ (fun hm => ?_) e⟩
  rcases ho a hm with rfl | ⟨_, _, h3⟩
  · exact ha h59
  · exact h3 _ e _ _ rfl
theorem GS.off {s s' : Shared} (G : GS c V s) (st : Step W s s') (ho : Off c V s W) : GS c V s' := by
  refine ⟨G.gi.keep (fun a o d ha e => st.keep a o (fun hm => ?_) e) (st.tab G.gi.tab), st.bare.1 G.bare, fun a ha => ?_, G.v59⟩
  · rcases ho a hm with q | ⟨_, h2, _⟩
    · exact ha q
    · exact h2 d
  · by_cases q : a = 56
    · subst q; obtain ⟨ps, _, _, ht⟩ := st.tab G.gi.tab; exact ⟨_, ht⟩
    · obtain ⟨o, e⟩ := G.vlive a ha
      refine ⟨o, st.keep a o (fun hm => ?_) e⟩
      rcases ho a hm with q' | ⟨h1, _, _⟩
      · exact q q'
      · exact h1 ha
theorem FS.off {s s' : Shared} (F : FS c env V Γ s) (st : Step W s s') (ho : Off c V s W) : FS c env V Γ s' := by
  have n59 : ∀ {a o}, s.heap.get? a = some o → (∀ vs, o.data ≠ .fields vs) → a ≠ 56 := fun {a o} e hd q => by
    obtain ⟨ps, _, _, ht⟩ := F.gi.tab
    rw [q, ht] at e
    cases e
    exact hd _ rfl
  have kp : ∀ {a o}, a ∈ V → s.heap.get? a = some o → (∀ vs, o.data ≠ .fields vs) → s'.heap.get? a = some o := fun {a o} hv e hd => st.keep a o (fun hm => by
    rcases ho a hm with q | ⟨h1, _, _⟩
    · exact n59 e hd q
    · exact h1 hv) e
  refine ⟨F.toGS.off st ho, F.vL, F.vC, F.farL, F.farC, F.apart, ?_, ?_, ?_⟩
  · obtain ⟨m, ⟨o, es, ep, e, hd, r⟩, hm⟩ := F.loc
    refine ⟨m, ⟨o, es, ep, kp F.vL e (by simp [hd]), hd, r⟩, fun y p hy hk => ?_⟩
    obtain ⟨v, hv, hr⟩ := hm y p hy hk
    exact ⟨v, hv, hr.off st F.v59 ho⟩
  · intro y p hy hk
    obtain ⟨a, v, h1, ⟨o, e, hd⟩, h3⟩ := F.cel y p hy hk
    exact ⟨a, v, h1, ⟨o, kp (F.vC y a (mem_of_lookup h1)) e (by simp [hd]), hd⟩, h3.off st F.v59 ho⟩
  · intro y hk
    obtain ⟨a, v, h1, ⟨o, e, hd⟩⟩ := F.mt y hk
    exact ⟨a, v, h1, ⟨o, kp (F.vC y a (mem_of_lookup h1)) e (by simp [hd]), hd⟩⟩

/-- what the one names, the other names alike -/
def Sub (Γ' Γ : List (Str × PV)) : Prop := ∀ x p, Γ'.lookup x = some p → Γ.lookup x = some p
theorem Sub.nil : Sub [] Γ := fun _ _ e => by cases e
theorem Sub.cons {x : Str} {p : PV} (h : Γ.lookup x = some p) (hs : Sub Γ' Γ) : Sub ((x, p) :: Γ') Γ := by
  intro y q e
  rw [List.lookup_cons] at e
  by_cases hy : y = x
  · subst hy; rw [beq_self_eq_true] at e; cases e; exact h
  · rw [beq_eq_false_iff_ne.mpr hy] at e; exact hs y q e
theorem Sub.consI {x : Str} {i j : Int} (h : Γ.lookup x = some (.int i)) (e : i = j) (hs : Sub Γ' Γ) : Sub ((x, .int j) :: Γ') Γ := e ▸ Sub.cons h hs
theorem Sub.refl : Sub Γ Γ := fun _ _ e => e
theorem FS.sub {s : Shared} (F : FS c env V Γ s) (h : Sub Γ' Γ) : FS c env V Γ' s :=
  ⟨F.toGS, F.vL, F.vC, F.farL, F.farC, F.apart, let ⟨m, hn, hm⟩ := F.loc; ⟨m, hn, fun x p e hk => hm x p (h x p e) hk⟩, fun x p e hk => F.cel x p (h x p e) hk, F.mt⟩
theorem Ex.weak {ss : List Stmt} (h : Ex c n env V Γ ss (.next Δ)) (hs : Sub Γ' Δ) : Ex c n env V Γ ss (.next Γ') :=
  fun A hA s Q E F k => h A hA s Q E F fun f s' st ho => k f s' st ⟨ho.1, ho.2.sub hs⟩
theorem Ex.pre {ss : List Stmt} {o : Out} (h : Ex c n env V Γ' ss o) (hs : Sub Γ' Γ) : Ex c n env V Γ ss o :=
  fun A hA s Q E F k => h A hA s Q E (F.sub hs) k

theorem Ev.cast {e : Expr} {p q : PV} (h : Ev c n env V Γ e p) (he : p = q) : Ev c n env V Γ e q := he ▸ h
theorem Ev.castI {e : Expr} {i j : Int} (h : Ev c n env V Γ e (.int i)) (he : i = j) : Ev c n env V Γ e (.int j) := he ▸ h
theorem Ev.castS {e : Expr} {i j : List Nat} (h : Ev c n env V Γ e (.str i)) (he : i = j) : Ev c n env V Γ e (.str j) := he ▸ h
/-- a while of k turns -/
theorem St.while {test : Expr} {body : List Stmt} {pos : Pos} (k : Nat) (G : Nat → List (Str × PV)) (h0 : Sub (G 0) Γ) (ht : ∀ i, i < k → ∃ b, b = true ∧ Tst c n env V (G i) test b) (hb : ∀ i, i < k → Ex c n env V (G i) body (.next (G (i + 1))))
    (hf : ∃ b, b = false ∧ Tst c n env V (G k) test b) : St c n env V Γ (.While test body [] pos) (.next (G k)) := by
  intro A hA s Q E F kk
  refine wpAny_While ?_
  refine codeAny_mono (codeAny_whileLoop (R := fun r s' => r = .ok .next ∧ Step (own env) s s' ∧ FS c env V (G k) s') (fun m s₁ => ∃ i, i ≤ k ∧ m = k - i ∧ FS c env V (G i) s₁ ∧ Step (own env) s s₁) (fun m s₁ hI => ?_) k ⟨0, Nat.zero_le _, by omega, F.sub h0, .refl⟩) ?_
  · obtain ⟨i, hi, rfl, F₁, st₁⟩ := hI
    by_cases hik : i < k
    · obtain ⟨b, rfl, htt⟩ := ht i hik
      refine htt _ hA s₁ _ _ F₁ fun s₂ st₂ => ?_
      rw [if_pos rfl]
      refine hb i hik _ hA s₂ _ _ (F₁.step st₂) fun f s₃ st₃ ho => ?_
      obtain ⟨rfl, F₃⟩ := ho
      exact ⟨k - (i + 1), by omega, i + 1, hik, rfl, F₃, st₁.trans ((st₂.wide wOwn).trans st₃)⟩
    · have : i = k := by omega
      subst this
      obtain ⟨b, rfl, hff⟩ := hf
      refine hff _ hA s₁ _ _ F₁ fun s₂ st₂ => ?_
      rw [if_neg (by simp)]
      exact wpAny_execs_nil ⟨rfl, st₁.trans (st₂.wide wOwn), F₁.step st₂⟩
  · rintro r s' ⟨rfl, st, F'⟩
    exact kk _ _ st ⟨rfl, F'⟩

/-- «and» of two tests -/
theorem Tst.and {a b : Expr} {pos : Pos} {p q : Bool} (ha : Tst c n env V Γ a p) (hb : p = true → Tst c n env V Γ b q) : Tst c n env V Γ (.BoolOp .And [a, b] pos) (p && q) := by
  intro A hA s Q E F k
  refine wpAny_isTrue_BoolOp (wpAny_allTrue_And_cons (ha A hA s _ E F fun s₁ st₁ => ?_))
  cases p with
  | false => simpa using k s₁ st₁
  | true =>
    simp only [if_true]
    refine wpAny_allTrue_And_cons (hb rfl A hA s₁ _ E (F.step st₁) fun s₂ st₂ => ?_)
    cases q with
    | false => simpa using k s₂ (st₁.trans st₂)
    | true =>
      simp only [if_true]
      exact wpAny_allTrue_And_nil (by simpa using k s₂ (st₁.trans st₂))
theorem Tst.or {a b : Expr} {pos : Pos} {p q : Bool} (ha : Tst c n env V Γ a p) (hb : p = false → Tst c n env V Γ b q) : Tst c n env V Γ (.BoolOp .Or [a, b] pos) (p || q) := by
  intro A hA s Q E F k
  refine wpAny_isTrue_BoolOp (wpAny_allTrue_Or_cons (ha A hA s _ E F fun s₁ st₁ => ?_))
  cases p with
  | true => simpa using k s₁ st₁
  | false =>
    simp only [Bool.false_eq_true, if_false]
    refine wpAny_allTrue_Or_cons (hb rfl A hA s₁ _ E (F.step st₁) fun s₂ st₂ => ?_)
    cases q with
    | true => simpa using k s₂ (st₁.trans st₂)
    | false =>
      simp only [Bool.false_eq_true, if_false]
      exact wpAny_allTrue_Or_nil (by simpa using k s₂ (st₁.trans st₂))
/-- x += e, upon ints -/
def IncF (c : Cx) (n : Nat) (op : Operator) (pa pb p : PV) : Prop :=
  ∀ A, Room A n → ∀ V s va vb (Q : Value → Shared → Prop) (E : Value → Shared → Prop), GS c V s → Rep V s.heap pa va → Rep V s.heap pb vb →
    (∀ x s', Step [56] s s' → Rep V s'.heap p x → Q x s') → wpAny c.M A (inplaceOp op va vb) Q E s
theorem IncF.add {a b : Int} : IncF c n .Add (.int a) (.int b) (.int (a + b)) := by
  intro A _ V s va vb Q E _ r₁ r₂ k
  obtain ⟨t, rfl⟩ := of_int r₁; obtain ⟨u, rfl⟩ := of_int r₂
  exact wpAny_iadd_int (k _ _ (.of_keep fun _ _ e => e) rep_int)
theorem IncF.sub {a b : Int} : IncF c n .Sub (.int a) (.int b) (.int (a - b)) := by
  intro A _ V s va vb Q E _ r₁ r₂ k
  obtain ⟨t, rfl⟩ := of_int r₁; obtain ⟨u, rfl⟩ := of_int r₂
  exact isub_int (k _ _ (.of_keep fun _ _ e => e) rep_int)
theorem St.aug {x : Str} {np pos : Pos} {op : Operator} {e : Expr} {px pe p : PV} (hx : Γ.lookup x = some px) (he : Ev c n env V Γ e pe) (hop : IncF c n op px pe p) (hf : env.scope.kind = .function) (hl : env.kindOf x = some .local) :
    St c n env V Γ (.AugAssign (.Name x np) op e pos) (.next ((x, p) :: Γ)) := by
  intro A hA s Q E F k
  obtain ⟨m, hn, hm⟩ := F.loc
  obtain ⟨v, hv', hr⟩ := hm x px hx hl
  refine wpAny_AugAssign_Name (wpAny_loadName_local hf hl hn hv' (he.bind hA F fun w s₁ st₁ F₁ r₁ => hop A hA V s₁ _ _ _ E F₁.toGS (hr.step st₁ (w59 F.v59)) r₁ fun z s₂ st₂ r₂ => ?_))
  exact store_local (F₁.step st₂) hf hl r₂ fun s' st F' => k _ _ (((st₁.trans st₂).wide wOwn).trans st) ⟨rfl, F'⟩
end
end

section
open PySem PySem.W PySem.Spec PySem.Calls PyProof.Rows
set_option linter.unusedVariables false
set_option maxRecDepth 100000
set_option maxHeartbeats 400000

/-- an iterator that is to yield data in a row, made since s₀ -/
def Source (c : Cx) (V : List Addr) (it : Value) (us : List PV) (s₀ s : Shared) : Prop :=
  ∃ I fp wr P St, it = .ref I ∧ (∀ A : Around, A.handled = none → Walks P0 c.w A I fp wr us.length P St) ∧ St 0 s.heap ∧ (∀ i p v, us[i]? = some p → P i v → Rep V s.heap p v) ∧ (∀ a ∈ fp, a ∉ V ∧ a < s.heap.objs.size) ∧ (∀ a ∈ wr, ¬ GIdom c a ∧ s₀.heap.get? a = none) ∧
    (∀ i h, St i h → ∀ a ∈ wr, ∀ o, h.get? a = some o → Odd o)

def EvI (c : Cx) (n : Nat) (env : Env) (V : List Addr) (Γ : List (Str × PV)) (e : Expr) (us : List PV) : Prop :=
  ∀ A, Room A n → ∀ s (Q : Value → Shared → Prop) (E : Value → Shared → Prop), FS c env V Γ s →
    (∀ it s', Step [56] s s' → Source c V it us s s' → Q it s') → wpAny c.M A (eval e env) (fun x s₁ => wpAny c.M A (pyIter x) Q E s₁) E s

section
variable {c : Cx} {n : Nat} {env : Env} {V W : List Addr} {Γ Γ' Δ : List (Str × PV)}

theorem push_keep {h : Heap} {o : Obj} : ∀ b o', h.get? b = some o' → (h.push o).get? b = some o' := fun b o' e => Heap.get?_push_of_some _ e
theorem push_fresh {h : Heap} : h.get? h.objs.size = none := by
  cases e : h.get? h.objs.size with
  | none => rfl
  | some o => exact absurd (Heap.lt_size e) (Nat.lt_irrefl _)
theorem GS.notIn {s : Shared} {a : Addr} (G : GS c V s) (e : s.heap.get? a = none) : a ∉ V := fun hm => by
  obtain ⟨o, e'⟩ := G.vlive a hm
  rw [e] at e'; cases e'
theorem get_lt {h : Heap} {a : Addr} {o : Obj} (e : h.get? a = some o) : a < h.objs.size := Heap.lt_size e

theorem IsListIter.odd {h : Heap} {I l i} (x : h.IsListIter I l i) : ∀ o, h.get? I = some o → Odd o := fun o e => by
  obtain ⟨o', e', hc, hd⟩ := x
  rw [e] at e'; cases e'
  unfold Odd
  rw [hd]
  exact fun _ _ q => by cases q
theorem IsTupleIter.odd {h : Heap} {I l i} (x : h.IsTupleIter I l i) : ∀ o, h.get? I = some o → Odd o := fun o e => by
  obtain ⟨o', e', hc, hd⟩ := x
  rw [e] at e'; cases e'
  unfold Odd
  rw [hd]
  exact fun _ _ q => by cases q

theorem EvI.list {e : Expr} {us : List PV} (he : Ev c n env V Γ e (.list us)) : EvI c n env V Γ e us := by
  intro A hA s Q E F k
  refine he.bind hA F fun x s₁ st₁ F₁ r₁ => ?_
  obtain ⟨a, items, m, rfl, ha, ho, hr⟩ := of_list r₁
  refine wpAny_pyIter_list (isList_of ho) ?_
  have hne : a ≠ s₁.heap.objs.size := Nat.ne_of_lt (get_lt ho)
  have hI := push_fresh (h := s₁.heap)
  refine k _ _ (st₁.trans (.of_keep push_keep)) ⟨s₁.heap.objs.size, [s₁.heap.objs.size, a], [s₁.heap.objs.size], fun i v => items.toArray[i]? = some v, fun i h => h.IsListIter s₁.heap.objs.size a i ∧ h.IsList a items.toArray, rfl, fun A' h' => ?_, ⟨⟨_, Heap.get?_push_size _ rfl, rfl, rfl⟩, isList_of (push_keep _ _ ho)⟩, fun i p v hp hv => ?_, ?_, ?_, ?_⟩
  · rw [show us.length = items.toArray.size by rw [List.size_toArray, hr.length]]
    exact Walks.list h' _ a hne items.toArray
  · obtain ⟨w, hw, rw'⟩ := hr.get i p hp
    have hv : items.toArray[i]? = some v := hv
    rw [List.getElem?_toArray] at hv
    rw [hw] at hv; cases hv
    exact rw'.mono fun b o hb e => ⟨hb, push_keep b o e⟩
  · intro b hb
    have hsz : (s₁.heap.push { cls := Value.type "list_iterator", data := Data.fields #[Value.ref a, Value.int 0 0] }).objs.size = s₁.heap.objs.size + 1 := Heap.size_push ..
    rcases List.mem_cons.mp hb with rfl | hb
    · exact ⟨F₁.notIn hI, by show _ < (Heap.push _ _).objs.size; rw [hsz]; exact Nat.lt_succ_self _⟩
    · rw [List.mem_singleton.mp hb]
      exact ⟨ha, by show _ < (Heap.push _ _).objs.size; rw [hsz]; exact Nat.lt_succ_of_lt (get_lt ho)⟩
  · intro b hb
    rw [List.mem_singleton.mp hb]
    refine ⟨F₁.gi.fresh hI, ?_⟩
    cases e : s.heap.get? s₁.heap.objs.size with
    | none => rfl
    | some o =>
      have hn : s₁.heap.objs.size ≠ 56 := fun q => by
        obtain ⟨ps, _, _, ht⟩ := F₁.gi.tab
        exact absurd (get_lt ht) (by rw [q]; exact Nat.lt_irrefl _)
      have := st₁.keep _ o (by simpa using hn) e
      rw [hI] at this; cases this
  · intro i h st b hb
    rw [List.mem_singleton.mp hb]
    exact IsListIter.odd st.1
theorem EvI.tup {e : Expr} {us : List PV} (he : Ev c n env V Γ e (.tup us)) : EvI c n env V Γ e us := by
  intro A hA s Q E F k
  refine he.bind hA F fun x s₁ st₁ F₁ r₁ => ?_
  obtain ⟨a, items, m, rfl, ha, ho, hr⟩ := of_tup r₁
  refine wpAny_pyIter_tuple (isTuple_of ho) ?_
  have hne : a ≠ s₁.heap.objs.size := Nat.ne_of_lt (get_lt ho)
  have hI := push_fresh (h := s₁.heap)
  refine k _ _ (st₁.trans (.of_keep push_keep)) ⟨s₁.heap.objs.size, [s₁.heap.objs.size, a], [s₁.heap.objs.size], fun i v => items.toArray[i]? = some v, fun i h => h.IsTupleIter s₁.heap.objs.size a i ∧ h.IsTuple a items.toArray, rfl, fun A' h' => ?_, ⟨⟨_, Heap.get?_push_size _ rfl, rfl, rfl⟩, isTuple_of (push_keep _ _ ho)⟩, fun i p v hp hv => ?_, ?_, ?_, ?_⟩
  · rw [show us.length = items.toArray.size by rw [List.size_toArray, hr.length]]
    exact Walks.tuple h' _ a hne items.toArray
  · obtain ⟨w, hw, rw'⟩ := hr.get i p hp
    have hv : items.toArray[i]? = some v := hv
    rw [List.getElem?_toArray] at hv
    rw [hw] at hv; cases hv
    exact rw'.mono fun b o hb e => ⟨hb, push_keep b o e⟩
  · intro b hb
    have hsz : (s₁.heap.push { cls := Value.type "tuple_iterator", data := Data.fields #[Value.ref a, Value.int 0 0] }).objs.size = s₁.heap.objs.size + 1 := Heap.size_push ..
    rcases List.mem_cons.mp hb with rfl | hb
    · exact ⟨F₁.notIn hI, by show _ < (Heap.push _ _).objs.size; rw [hsz]; exact Nat.lt_succ_self _⟩
    · rw [List.mem_singleton.mp hb]
      exact ⟨ha, by show _ < (Heap.push _ _).objs.size; rw [hsz]; exact Nat.lt_succ_of_lt (get_lt ho)⟩
  · intro b hb
    rw [List.mem_singleton.mp hb]
    refine ⟨F₁.gi.fresh hI, ?_⟩
    cases e : s.heap.get? s₁.heap.objs.size with
    | none => rfl
    | some o =>
      have hn : s₁.heap.objs.size ≠ 56 := fun q => by
        obtain ⟨ps, _, _, ht⟩ := F₁.gi.tab
        exact absurd (get_lt ht) (by rw [q]; exact Nat.lt_irrefl _)
      have := st₁.keep _ o (by simpa using hn) e
      rw [hI] at this; cases this
  · intro i h st b hb
    rw [List.mem_singleton.mp hb]
    exact IsTupleIter.odd st.1

theorem fresh_since {s s₁ : Shared} {a : Addr} (G : GS c V s₁) (st : Step [56] s s₁) (e : s₁.heap.get? a = none) : s.heap.get? a = none := by
  cases e' : s.heap.get? a with
  | none => rfl
  | some o =>
    have hn : a ≠ 56 := fun q => by
      obtain ⟨ps, _, _, ht⟩ := G.gi.tab
      rw [q, ht] at e; cases e
    have := st.keep _ o (by simpa using hn) e'
    rw [e] at this; cases this

/-- a loop over data in a row -/
theorem St.for {x : Str} {px pos : Pos} {iter : Expr} {body : List Stmt} {us : List PV} (G : Nat → List (Str × PV)) (hi : EvI c n env V Γ iter us) (h0 : Sub (G 0) Γ) (hf : env.scope.kind = .function) (hx : env.kindOf x = some .local ∨ env.kindOf x = some .cell)
    (hb : ∀ i p, us[i]? = some p → Ex c n env V ((x, p) :: G i) body (.next (G (i + 1)))) (hs : ∀ v, foldedSetIterable iter env v = pure v := by intro _; rfl) : St c n env V Γ (.For (.Name x px) iter body [] pos) (.next (G us.length)) := by
  intro A hA s Q E F k
  refine wpAny_For (hi A hA s _ E F fun it s₂ st₂ src => ?_) hs
  obtain ⟨I, fp, wr, P, T, rfl, hW, hT, hP, hfp, hwr, hodd⟩ := src
  have F₂ := F.step st₂
  have W := hW A hA.1
  have hwrV : ∀ a ∈ wr, a ∉ V := fun a ha => (hfp a (W.sub a ha)).1
  refine codeAny_mono (codeAny_forLoop_any (R := fun r s' => r = .ok .next ∧ Step (own env) s s' ∧ FS c env V (G us.length) s')
    (fun m s₁ => ∃ i, i ≤ us.length ∧ m = us.length + 1 - i ∧ T i s₁.heap ∧ FS c env V (G i) s₁ ∧ Step (own env ++ wr) s₂ s₁) (fun m s₁ hI => ?_) (us.length + 1) ⟨0, Nat.zero_le _, rfl, hT, F₂.sub h0, .refl⟩) ?_
  · obtain ⟨i, hi', rfl, hTi, F₁, st₁⟩ := hI
    have offW : Off c V s₁ wr := fun a ha => .inr ⟨hwrV a ha, (hwr a ha).1, hodd i _ hTi a ha⟩
    have tabW : ∀ {h' : Heap}, (∀ b o, b ∉ wr → s₁.heap.get? b = some o → h'.get? b = some o) → Tab s₁.heap → Tab h' := by
      rintro h' hk ⟨ps, ⟨o, vs, file, tf, flags, tg, inF, text, tt, op, h1, h2, h3, h4, h5, h6, h7, h8, h9⟩, ⟨o', vs', g1, g2⟩, g3⟩
      have n60 : 60 ∉ wr := fun hm => (hwr _ hm).1 (by simp [GIdom])
      have n59 : 56 ∉ wr := fun hm => (hwr _ hm).1 (by simp [GIdom])
      exact ⟨ps, ⟨o, vs, file, tf, flags, tg, inF, text, tt, op, hk _ _ n60 h1, h2, h3, h4, h5, h6, h7, hk _ _ n59 h8, h9⟩, ⟨o', vs', hk _ _ n60 g1, g2⟩, hk _ _ n59 g3⟩
    by_cases hlt : i < us.length
    · obtain ⟨p, hp⟩ : ∃ p, us[i]? = some p := ⟨us[i], List.getElem?_eq_getElem hlt⟩
      refine W.item i s₁ _ _ hlt hTi fun v h' tk hPv hT' hk => ?_
      have stn : Step wr s₁ { s₁ with heap := h', toks := tk } := ⟨fun a o ha e => hk a o ha e, tabW hk, .refl, rfl, rfl⟩
      have F' := F₁.off stn offW
      have rv : Rep V h' p v := by
        have r0 := hP i p v hp hPv
        have r1 : Rep V s₁.heap p v := by
          refine r0.monoS fun a Tn items m hTn ha e => ⟨ha, st₁.keep a _ (fun hm => ?_) e⟩
          rcases List.mem_append.mp hm with hm | hm
          · exact ha (F₁.ownV a hm)
          · exact hodd 0 _ hT a hm _ e _ _ rfl
        exact r1.off stn F₁.v59 offW
      show wpAny _ A (letOwnedTupleGo (.Name x px) (.ref I) v) _ _ _
      refine wpAny_pure ?_
      have cont : ∀ s₃, Step (own env) { s₁ with heap := h', toks := tk } s₃ → FS c env V ((x, p) :: G i) s₃ → wpAny c.M A (execs body env) (fun f s₃ => match f with
            | .next | .cont => ∃ m, m < us.length + 1 - i ∧ ∃ i, i ≤ us.length ∧ m = us.length + 1 - i ∧ T i s₃.heap ∧ FS c env V (G i) s₃ ∧ Step (own env ++ wr) s₂ s₃
            | .brk => (fun (r : Result) s' => r = Except.ok Flow.next ∧ Step (own env) s s' ∧ FS c env V (G us.length) s') (.ok .next) s₃
            | .ret v => (fun (r : Result) s' => r = Except.ok Flow.next ∧ Step (own env) s s' ∧ FS c env V (G us.length) s') (.ok (.ret v)) s₃) (notedBy c.M A env fun e s' => (fun (r : Result) s' => r = Except.ok Flow.next ∧ Step (own env) s s' ∧ FS c env V (G us.length) s') (.error e) s') s₃ := by
        intro s₃ st₃ F₃
        refine hb i p hp A hA s₃ _ _ F₃ fun f s₄ st₄ ho => ?_
        obtain ⟨rfl, F₄⟩ := ho
        refine ⟨us.length + 1 - (i + 1), by omega, i + 1, hlt, rfl, ?_, F₄, ?_⟩
        · refine W.frame _ _ _ hT' fun b hb o e => (st₃.trans st₄).keep b o (fun hm => (hfp b hb).1 (F₁.ownV b hm)) e
        · refine st₁.trans ((stn.wide fun a ha => List.mem_append.mpr (.inr ha)).trans ((st₃.trans st₄).wide fun a ha => List.mem_append.mpr (.inl ha)))
      refine wpAny_assign_Name ?_
      rcases hx with hx | hx
      · exact store_local F' hf hx rv fun s₃ st₃ F₃ => cont s₃ st₃ F₃
      · exact store_cell F' hf hx rv fun s₃ st₃ F₃ => cont s₃ st₃ F₃
    · have hie : i = us.length := by omega
      subst hie
      refine W.done s₁ _ _ hTi fun h' tk hk => ?_
      have stn : Step wr s₁ { s₁ with heap := h', toks := tk } := ⟨fun a o ha e => hk a o ha e, tabW hk, .refl, rfl, rfl⟩
      refine wpAny_execs_nil ⟨rfl, ?_, F₁.off stn offW⟩
      have st' : Step (own env ++ wr) s { s₁ with heap := h', toks := tk } := (st₂.wide fun a ha => List.mem_append.mpr (.inl (wOwn a ha))).trans (st₁.trans (stn.wide fun a ha => List.mem_append.mpr (.inr ha)))
      refine ⟨fun a o ha e => ?_, st'.tab, st'.bare, st'.drawn, st'.os⟩
      refine st'.keep a o (fun hm => ?_) e
      rcases List.mem_append.mp hm with hm | hm
      · exact ha hm
      · rw [(hwr a hm).2] at e; cases e
  · rintro r s' ⟨rfl, st, F'⟩
    exact k _ _ st ⟨rfl, F'⟩

/-- the rowI from a on, m of them -/
def rowI (a : Int) (m : Nat) : List PV := (List.range m).map fun (i : Nat) => PV.int (a + (i : Int))
theorem rowI_len {a : Int} {m : Nat} : (rowI a m).length = m := by simp [rowI]
theorem rowI_get {a : Int} {m i : Nat} {p : PV} (h : (rowI a m)[i]? = some p) : i < m ∧ p = .int (a + i) := by
  have hi : i < m := by
    rcases Nat.lt_or_ge i m with h' | h'
    · exact h'
    · rw [List.getElem?_eq_none (by rw [rowI_len]; exact h')] at h; cases h
  refine ⟨hi, ?_⟩
  simp [rowI, hi] at h
  exact h.symm
theorem range_src {A : Around} {s s₁ : Shared} {E : Value → Shared → Prop} {Q : Value → Shared → Prop} {r : Addr} {a b : Int} {t u v : Tok} {m : Nat} (hA : Room A n) (F₁ : FS c env V Γ s₁) (st₁ : Step [56] s s₁) (hr : IsRange s₁.heap r a b 1 t u v) (ha : -(2 ^ 60) < a ∧ a < 2 ^ 60) (hb : b = a + m) (hm : m < 1000000)
    (k : ∀ it s', Step [56] s s' → Source c V it (rowI a m) s s' → Q it s') : wpAny c.M A (pyIter (.ref r)) Q E s₁ := by
  have hsz : Builtin.Range.rangeSize a b 1 = ((m : Nat) : Int) := by
    unfold Builtin.Range.rangeSize
    simp
    omega
  refine wpAny_pyIter_range hr ?_ ?_
  · exact small_one (by omega) (by omega) (by omega) (by omega)
  · rw [hsz]
    have hI := push_fresh (h := s₁.heap)
    refine k _ _ (st₁.trans (.of_keep push_keep)) ⟨s₁.heap.objs.size, [s₁.heap.objs.size], [s₁.heap.objs.size], (fun i v => ∃ t, v = .int (a + (i : Int)) t), (fun i h => IsRangeIter h s₁.heap.objs.size (a + (i : Nat) * 1) ((m : Int) - (i : Nat)) 1), rfl, fun A' h' => ?_, ?_, ?_, ?_, ?_, ?_⟩
    · rw [rowI_len]; exact LCg.range_walks h' a m
    · have : IsRangeIter _ s₁.heap.objs.size a m 1 := Heap.get?_push_size s₁.heap (o := { cls := .type "range_iterator", data := .fields #[rawInt a, rawInt m, rawInt 1] }) rfl
      simpa using this
    · intro i p w hp hw
      obtain ⟨_, rfl⟩ := rowI_get hp
      obtain ⟨t, rfl⟩ := hw
      exact rep_int
    · intro b hb
      rw [List.mem_singleton.mp hb]
      exact ⟨F₁.notIn hI, by show _ < (Heap.push _ _).objs.size; rw [Heap.size_push]; exact Nat.lt_succ_self _⟩
    · intro b hb
      rw [List.mem_singleton.mp hb]
      exact ⟨F₁.gi.fresh hI, fresh_since F₁.toGS st₁ hI⟩
    · intro i h st b hb o e
      rw [List.mem_singleton.mp hb] at e
      have st' : h.get? s₁.heap.objs.size = some _ := st
      rw [st'] at e
      cases e
      exact fun _ _ q => by cases q
theorem EvI.range1 {np pos : Pos} {e : Expr} {m : Nat} (hf : Ev c n env V Γ (.Name (Str.ofString "range") np) (.fn (.type "range"))) (he : Ev c n env V Γ e (.int m)) (hm : m < 1000000) (hp : plainE e = true := by rfl) : EvI c n env V Γ (.Call (.Name (Str.ofString "range") np) [e] [] pos) (rowI 0 m) := by
  intro A hA s Q E F k
  refine wpAny_Call_ofName (hf.bind hA F fun fv s₁ st₁ F₁ r₁ => ?_)
  rw [of_fn r₁]
  refine (Callee.type (c := c)) (EvL.cons he .nil hp).plain ?_
  have fin := (EvL.cons he .nil hp).bind (pos := pos) (E := E) (Q := fun vs s₂ => c.K.In s₂.heap ∧ wpAny c.M A (PySem.call (.type "range") ([] ++ vs) []) (fun x s₃ => wpAny c.M A (pyIter x) Q E s₃) E s₂) hA F₁ (fun vs s₂ st₂ F₂ r₂ => ?_)
  · rw [starEach_plain hp, backTo_plain] at fin ⊢; exact evalArgs_plain fin
  · refine ⟨F₂.gi.k, ?_⟩
    obtain ⟨v, rfl, rv⟩ := r₂.one
    obtain ⟨t, rfl⟩ := of_int rv
    refine call_range_1 ?_
    have st₃ : Step [56] s₂ { s₂ with heap := s₂.heap.push { cls := .type "range", data := .fields #[.int 0 s₂.toks, .int m t, .int 1 (s₂.toks + 1)] }, toks := s₂.toks + 1 + 1 } := .of_keep push_keep
    exact range_src hA (F₂.step st₃) (st₁.trans (st₂.trans st₃)) (IsRange.new ..) (by omega) (by omega) hm k
end
end

section
open PySem PySem.W PySem.Spec PySem.Calls PyProof.Rows
set_option linter.unusedVariables false
set_option maxRecDepth 100000
set_option maxHeartbeats 400000

section
variable {c : Cx} {n : Nat} {env : Env} {V W : List Addr} {Γ Γ' Δ : List (Str × PV)}

theorem store_local1 {A : Around} {s : Shared} {x : Str} {p : PV} {v : Value} {Q : Unit → Shared → Prop} {E : Value → Shared → Prop} (F : FS c env V Γ s) (hf : env.scope.kind = .function) (hl : env.kindOf x = some .local) (r : Rep V s.heap p v)
    (k : ∀ s', Step [env.locals] s s' → FS c env V ((x, p) :: Γ) s' → Q () s') : wpAny c.M A (storeName env x v) Q E s := by
  obtain ⟨m, hn, _⟩ := F.loc
  refine wpAny_storeName_local hl hn (fun h' hn' hs => ?_) (by rw [hf]; rfl)
  obtain ⟨o, es, ep, e, hd, _⟩ := id hn
  obtain ⟨o', _, _, e', _⟩ := id hn'
  exact k _ (step_turn hs e (by simp [hd]) e' (.head _)) (F.store hn hl hn' (fun y => rfl) hs r)

/-- an object of a frame's dark set turned, that is none of its own -/
theorem FS.other {s : Shared} {h' : Heap} {tk : Nat} {a : Addr} {o o' : Obj} (F : FS c env V Γ s) (ha : a ∈ V) (hg : ¬ GIdom c a) (hL : a ≠ env.locals) (hC : ∀ y, (y, a) ∉ env.cells) (hs : Heap.SameBut a s.heap h') (e : s.heap.get? a = some o) (hd : ∀ vs, o.data ≠ .fields vs) (e' : h'.get? a = some o') :
    FS c env V Γ { s with heap := h', toks := tk } := by
  have kr : ∀ {q : PV} {u : Value}, Rep V s.heap q u → Rep V h' q u := fun r => r.mono fun b ob hb eo => ⟨hb, (hs.2 b (fun q => hb (q ▸ ha))).trans eo⟩
  refine ⟨F.toGS.turn hs e hd e' hg, F.vL, F.vC, F.farL, F.farC, F.apart, ?_, fun y q hy hk => ?_, fun y hk => ?_⟩
  · obtain ⟨m, ⟨oL, es, ep, eL, hdL, r⟩, hm⟩ := F.loc
    refine ⟨m, ⟨oL, es, ep, (hs.2 _ (Ne.symm hL)).trans eL, hdL, r⟩, fun y q hy hk => ?_⟩
    obtain ⟨w, hw, rw'⟩ := hm y q hy hk
    exact ⟨w, hw, kr rw'⟩
  · obtain ⟨b, w, h1, ⟨ob, h2, h2'⟩, h3⟩ := F.cel y q hy hk
    exact ⟨b, w, h1, ⟨ob, (hs.2 b (fun q => hC y (q ▸ mem_of_lookup h1))).trans h2, h2'⟩, kr h3⟩
  · obtain ⟨b, w, h1, ⟨ob, h2, h2'⟩⟩ := F.mt y hk
    exact ⟨b, w, h1, ⟨ob, (hs.2 b (fun q => hC y (q ▸ mem_of_lookup h1))).trans h2, h2'⟩⟩

/-- what a comprehension's block knows of the frame's names -/
def Cap (env cenv : Env) (Γ Γc : List (Str × PV)) : Prop := ∀ y p, Γc.lookup y = some p → Γ.lookup y = some p ∧ (env.kindOf y = some .cell ∨ env.kindOf y = some .free) ∧ cenv.kindOf y ≠ some .local ∧ ∃ a, cenv.cells.lookup y = some a ∧ env.cells.lookup y = some a
theorem Cap.nil {cenv : Env} : Cap env cenv Γ [] := fun _ _ e => by cases e
theorem Cap.cons {cenv : Env} {y : Str} {p : PV} {a : Addr} {Γc : List (Str × PV)} (h1 : Γ.lookup y = some p) (h2 : env.kindOf y = some .cell ∨ env.kindOf y = some .free) (h3 : cenv.kindOf y ≠ some .local) (h4 : cenv.cells.lookup y = some a) (h5 : env.cells.lookup y = some a) (h : Cap env cenv Γ Γc) : Cap env cenv Γ ((y, p) :: Γc) := by
  intro z q e
  rw [List.lookup_cons] at e
  by_cases hz : z = y
  · subst hz; rw [beq_self_eq_true] at e; cases e; exact ⟨h1, h2, h3, a, h4, h5⟩
  · rw [beq_eq_false_iff_ne.mpr hz] at e; exact h z q e

/-- the tests of a comprehension -/
inductive Tsts (c : Cx) (n : Nat) (env : Env) (V : List Addr) (Γ : List (Str × PV)) : List Expr → Bool → Prop
  | nil : Tsts c n env V Γ [] true
  | one {e b} : Tst c n env V Γ e b → Tsts c n env V Γ [e] b
theorem Tsts.bind {ifs : List Expr} {b : Bool} (h : Tsts c n env V Γ ifs b) {A : Around} (hA : Room A n) {s : Shared} {Q : Bool → Shared → Prop} {E : Value → Shared → Prop} (F : FS c env V Γ s) (k : ∀ s', Step [56] s s' → Q b s') :
    wpAny c.M A (forIn ifs true fun e r => if r = true then do let ok ← PySem.isTrue e env (eval e env); pure (ForInStep.yield ok) else pure (ForInStep.yield r)) Q E s := by
  cases h with
  | nil => exact wpAny_tests_nil (k s .refl)
  | one h => exact wpAny_tests_one (h A hA s Q E F k)

theorem lookup_relabel_cell {env : Env} : ∀ {names : List (Str × NameKind)} {x : Str}, (∀ y ∈ names, y.2 ≠ .cell) →
    (names.map fun (n, k) => if (k == NameKind.free && env.scope.kind == .function && env.kindOf n == some .cell) then (n, NameKind.cell) else (n, k)).lookup x = some .cell → env.kindOf x = some .cell
  | [], _, _, h => by simp at h
  | (m, k) :: r, x, hc, h => by
    rw [List.map_cons, List.lookup_cons] at h
    by_cases hq : (k == NameKind.free && env.scope.kind == .function && env.kindOf m == some .cell) = true
    · simp only [hq, if_true] at h
      by_cases hx : x = m
      · subst hx
        simp only [Bool.and_eq_true, beq_iff_eq] at hq
        exact hq.2
      · rw [beq_eq_false_iff_ne.mpr hx] at h
        exact lookup_relabel_cell (fun y hy => hc y (.tail _ hy)) h
    · simp only [hq] at h
      by_cases hx : x = m
      · subst hx
        simp at h
        exact absurd h (hc _ (.head _))
      · simp [beq_eq_false_iff_ne.mpr hx] at h
        exact lookup_relabel_cell (fun y hy => hc y (.tail _ hy)) (by simpa using h)

theorem Tab.keeps {h h' : Heap} (hk : ∀ a o, h.get? a = some o → h'.get? a = some o) (t : Tab h) : Tab h' :=
  (Step.of_keep (W := []) (s := { heap := h }) (s' := { heap := h' }) hk).tab t
/-- the frame of a comprehension's block -/
theorem FS.comp {s s₂ : Shared} {scope : Scope} {cl : List (Str × Addr)} {C : Addr} {Vx : List Addr} {Γc : List (Str × PV)} (F : FS c env V Γ s₂) (st : ∀ a o, s₂.heap.get? a = some o → s.heap.get? a = some o) (hb : s.gens = s₂.gens) (hC : s₂.heap.get? C = none) (hn : s.heap.Ns C fun _ => none)
    (hVx : ∀ a ∈ Vx, ∃ o, s.heap.get? a = some o) (hVf : ∀ a ∈ Vx, s₂.heap.get? a = none) (hCx : C ∈ Vx)
    (hcl : ∀ y a, (y, a) ∈ cl → env.cells.lookup y = some a) (hcell : ∀ y ∈ scope.names, y.2 ≠ .cell) (hmt : ∀ y, (compEnvC scope cl C env).kindOf y = some .cell → (cl.lookup y).isSome = true) (hcap : Cap env (compEnvC scope cl C env) Γ Γc) :
    FS c (compEnvC scope cl C env) (Vx ++ V) Γc s := by
  have rep : ∀ {p : PV} {v : Value}, Rep V s₂.heap p v → Rep (Vx ++ V) s.heap p v := fun r => r.mono fun a o ha e => by
    refine ⟨fun hm => ?_, st a o e⟩
    rcases List.mem_append.mp hm with hm | hm
    · rw [hVf a hm] at e; cases e
    · exact ha hm
  have sub : ∀ y a, cl.lookup y = some a → env.cells.lookup y = some a := fun y a e => hcl y a (mem_of_lookup e)
  refine ⟨⟨F.gi.keep (fun a o _ _ e => st a o e) (F.gi.tab.keeps st), by rw [hb]; exact F.bare, fun a ha => ?_, List.mem_append.mpr (.inr F.v59)⟩, List.mem_append.mpr (.inl hCx), fun y a hm => List.mem_append.mpr (.inr (F.vC y a (mem_of_lookup (hcl y a hm)))), F.gi.fresh hC, fun y a hm => F.farC y a (mem_of_lookup (hcl y a hm)),
    fun y z a b h1 h2 hne => F.apart y z a b (sub _ _ h1) (sub _ _ h2) hne, ⟨_, hn, fun y p hy hl => absurd hl (hcap y p hy).2.2.1⟩, fun y p hy hk => ?_, fun y hk => ?_⟩
  · rcases List.mem_append.mp ha with hm | hm
    · exact hVx a hm
    · obtain ⟨o, e⟩ := F.vlive a hm; exact ⟨o, st a o e⟩
  · obtain ⟨h1, h2, _, a, h4, h5⟩ := hcap y p hy
    obtain ⟨a', v, e1, ⟨o, e2, hd⟩, e3⟩ := F.cel y p h1 h2
    rw [h5] at e1; cases e1
    exact ⟨a, v, h4, ⟨o, st a o e2, hd⟩, rep e3⟩
  · obtain ⟨a, e⟩ := Option.isSome_iff_exists.mp (hmt y hk)
    obtain ⟨a', v, e1, ⟨o, e2, hd⟩⟩ := F.mt y (lookup_relabel_cell hcell hk)
    rw [sub _ _ e] at e1; cases e1
    exact ⟨a, v, e, ⟨o, st a o e2, hd⟩⟩

theorem tab_of_keep {c : Cx} {s : Shared} {wr : List Addr} {h' : Heap} (hwr : ∀ a ∈ wr, ¬ GIdom c a) (hk : ∀ b o, b ∉ wr → s.heap.get? b = some o → h'.get? b = some o) : Tab s.heap → Tab h' := by
  rintro ⟨ps, ⟨o, vs, file, tf, flags, tg, inF, text, tt, op, h1, h2, h3, h4, h5, h6, h7, h8, h9⟩, ⟨o', vs', g1, g2⟩, g3⟩
  have n60 : 60 ∉ wr := fun hm => (hwr _ hm) (by simp [GIdom])
  have n59 : 56 ∉ wr := fun hm => (hwr _ hm) (by simp [GIdom])
  exact ⟨ps, ⟨o, vs, file, tf, flags, tg, inF, text, tt, op, hk _ _ n60 h1, h2, h3, h4, h5, h6, h7, hk _ _ n59 h8, h9⟩, ⟨o', vs', hk _ _ n60 g1, g2⟩, hk _ _ n59 g3⟩

/-- the loop of a list comprehension, from the iterator on -/
theorem comp_core {elt iter : Expr} {x : Str} {px pos : Pos} {ifs : List Expr} {scope : Scope} {cl : List (Str × Addr)} {us : List PV} {Γc : List (Str × PV)} {kp : PV → Bool} {f : PV → PV} {A : Around} {s s₂ : Shared} {it : Value} {E : Value → Shared → Prop} {RR : Value → Addr → Result → Shared → Prop}
    (hA : Room A n) (F₂ : FS c env V Γ s₂) (st₂ : Step [56] s s₂) (src : Source c V it us s s₂)
    (hcl : ∀ y a, (y, a) ∈ cl → env.cells.lookup y = some a) (hcell : ∀ y ∈ scope.names, y.2 ≠ .cell) (hkind : scope.kind = .function) (hmt : ∀ C y, (compEnvC scope cl C env).kindOf y = some .cell → (cl.lookup y).isSome = true)
    (hx : ∀ C, (compEnvC scope cl C env).kindOf x = some .local) (hcap : ∀ C, Cap env (compEnvC scope cl C env) Γ Γc) (hxc : Γc.lookup x = none) (hus : us.length ≤ 1000000)
    (ht : ∀ C V' u, u ∈ us → Tsts c n (compEnvC scope cl C env) V' ((x, u) :: Γc) ifs (kp u)) (he : ∀ C V' u, u ∈ us → kp u = true → Ev c n (compEnvC scope cl C env) V' ((x, u) :: Γc) elt (f u))
    (hRR : ∀ D C s' m ys nn, s.heap.get? D = none → s'.heap.Ns C m → C ∉ V → s.heap.get? C = none → C ≠ D → ¬ GIdom c C → s'.heap.get? D = some (seqObj "list" ys nn) → D ∉ V → RepL (D :: C :: V) s'.heap ((us.filter kp).map f) ys → Step [56] s s' → FS c env V Γ s' → RR (.ref D) C (.ok .next) s') :
    wpAny c.M A (newList []) (fun acc s₃ => wpAny c.M A (newFunctionEnv scope env.globals cl [] env.qual none .none (some env)) (fun cenv s₄ => codeAny c.M A (.compStart (.ListComp elt [⟨.Name x px, iter, ifs, 0⟩] scope pos) 0 it acc { cenv with scope := relabel scope env }) (RR acc cenv.locals) s₄) E s₃) E s₂ := by
  obtain ⟨I, fp, wr, P, T, rfl, hW, hT, hP, hfp, hwr, hodd⟩ := src
  have W := hW A hA.1
  refine wpAny_newObj_type (wpAny_newFunctionEnv hcell (by intro y hy; simp at hy) (fun h₁ hns₁ hsb₁ => ?_) hkind)
  dsimp only at hns₁ hsb₁ ⊢
  generalize hH2 : s₂.heap.push { cls := .type "list", dict := none, data := .seq ([] : List Value).toArray } = H2 at hns₁ hsb₁ ⊢
  generalize hDe : s₂.heap.objs.size = D
  have hC2 : H2.objs.size = D + 1 := by rw [← hH2, Heap.size_push, hDe]
  have hCD : D + 1 ≠ D := Nat.succ_ne_self D
  rw [hC2] at hns₁ hsb₁ ⊢
  have gD : s₂.heap.get? D = none := by rw [← hDe]; exact push_fresh
  have gC : s₂.heap.get? (D + 1) = none := by
    cases e : s₂.heap.get? (D + 1) with
    | none => rfl
    | some o => exact absurd (get_lt e) (by rw [hDe]; exact Nat.not_lt.mpr (Nat.le_succ D))
  have ltD : ∀ {b o}, s₂.heap.get? b = some o → b < D := fun e => by rw [← hDe]; exact get_lt e
  have old : ∀ b o, s₂.heap.get? b = some o → h₁.get? b = some o := fun b o e => hsb₁.extBut b o (Nat.ne_of_lt (Nat.lt_succ_of_lt (ltD e))) (Heap.get?_push_of_some _ (hH2 ▸ Heap.get?_push_of_some _ e))
  have oldD : h₁.get? D = some (seqObj "list" [] 0) := hsb₁.extBut _ _ (Ne.symm hCD) (Heap.get?_push_of_some _ (by rw [← hH2, ← hDe]; exact Heap.get?_push_size _ rfl))
  have hDfp : D ∉ fp := fun hm => by have := (hfp _ hm).2; rw [hDe] at this; exact Nat.lt_irrefl _ this
  have hCfp : D + 1 ∉ fp := fun hm => by have := (hfp _ hm).2; rw [hDe] at this; exact absurd this (Nat.not_lt.mpr (Nat.le_succ D))
  have hDwr : D ∉ wr := fun hm => hDfp (W.sub _ hm)
  have hCwr : D + 1 ∉ wr := fun hm => hCfp (W.sub _ hm)
  have hDV : D ∉ V := F₂.notIn gD
  have hCV : D + 1 ∉ V := F₂.notIn gC
  have hDg : ¬ GIdom c D := F₂.gi.fresh gD
  have hCg : ¬ GIdom c (D + 1) := F₂.gi.fresh gC
  have hwrV : ∀ a ∈ wr, a ∉ V := fun a ha => (hfp a (W.sub a ha)).1
  have hnsC : h₁.Ns (D + 1) fun _ => none := by
    have e : (fun y : Str => ([] : List (Str × Value)).reverse.lookup y) = fun _ => none := by funext y; rfl
    rw [← e]; exact hns₁
  have lam : compEnvC scope cl (D + 1) env = { newEnv scope (D + 1) env.globals cl env.qual none .none (some env) builtinsNs with scope := relabel scope env } := rfl
  generalize hs₃ : ({ s₂ with heap := h₁, toks := s₂.toks + ([] : List (Str × Value)).length } : Shared) = s₃
  have F₃ : FS c (compEnvC scope cl (D + 1) env) ([D, D + 1] ++ V) Γc s₃ := by
    subst hs₃
    refine FS.comp F₂ old rfl gC hnsC (fun a ha => ?_) (fun a ha => ?_) (by simp) hcl hcell (hmt _) (hcap _)
    · rcases List.mem_cons.mp ha with rfl | ha
      · exact ⟨_, oldD⟩
      · rw [List.mem_singleton.mp ha]; obtain ⟨o, _, _, e, _⟩ := hnsC; exact ⟨o, e⟩
    · rcases List.mem_cons.mp ha with rfl | ha
      · exact gD
      · rw [List.mem_singleton.mp ha]; exact gC
  have T₃ : T 0 s₃.heap := by subst hs₃; exact W.frame _ _ _ hT fun b _ o e => old b o e
  have keep₃ : ∀ b o, s₂.heap.get? b = some o → s₃.heap.get? b = some o := by subst hs₃; exact old
  have bare₃ : GensOk s₂.gens s₃.gens := by subst hs₃; exact .refl
  have dr₃ : s₃.drawn = s₂.drawn := by subst hs₃; rfl
  have os₃ : s₃.os = s₂.os := by subst hs₃; rfl
  have D₃ : s₃.heap.get? D = some (seqObj "list" [] 0) := by subst hs₃; exact oldD
  generalize hce : compEnvC scope cl (D + 1) env = cenv at F₃
  have hcL : cenv.locals = D + 1 := by rw [← hce]; rfl
  have hcC : cenv.cells = cl := by rw [← hce]; rfl
  have hxk : cenv.kindOf x = some .local := by rw [← hce]; exact hx _
  have hck : cenv.scope.kind = .function := by rw [← hce]; exact hkind
  have ht' : ∀ V' u, u ∈ us → Tsts c n cenv V' ((x, u) :: Γc) ifs (kp u) := by rw [← hce]; exact ht _
  have he' : ∀ V' u, u ∈ us → kp u = true → Ev c n cenv V' ((x, u) :: Γc) elt (f u) := by rw [← hce]; exact he _
  have hDcl : ∀ y, (y, D) ∉ cenv.cells := fun y hm => hDV (F₂.vC y D (mem_of_lookup (hcl y D (hcC ▸ hm))))
  -- the loop
  have loop : codeAny c.M A (.compLoop (.ListComp elt [⟨.Name x px, iter, ifs, 0⟩] scope pos) 0 (.ref I) (.ref D) cenv) (RR (.ref D) (D + 1)) s₃ := by
    refine codeAny_compLoop_tests (fun m s₁ => ∃ i ys nn, i ≤ us.length ∧ m = us.length + 1 - i ∧ T i s₁.heap ∧ s₁.heap.get? D = some (seqObj "list" ys nn) ∧ RepL ([D, D + 1] ++ V) s₁.heap (((us.take i).filter kp).map f) ys ∧ FS c cenv ([D, D + 1] ++ V) Γc s₁ ∧ Step (56 :: D :: (D + 1) :: wr) s₃ s₁) (fun m s₁ hI => ?_) (us.length + 1)
      ⟨0, [], 0, Nat.zero_le _, rfl, T₃, D₃, by simp [RepL], F₃, .refl⟩
    obtain ⟨i, ys, nn, hi, rfl, hTi, hD₁, hys, F₁, st₁⟩ := hI
    have offW : Off c ([D, D + 1] ++ V) s₁ wr := fun a ha => .inr ⟨fun hm => (by
      rcases List.mem_append.mp hm with hm | hm
      · rcases List.mem_cons.mp hm with rfl | hm
        · exact hDwr ha
        · rw [List.mem_singleton.mp hm] at ha; exact hCwr ha
      · exact hwrV a ha hm), (hwr a ha).1, hodd i _ hTi a ha⟩
    by_cases hlt : i < us.length
    · obtain ⟨p, hp⟩ : ∃ p, us[i]? = some p := ⟨us[i], List.getElem?_eq_getElem hlt⟩
      have hpm : p ∈ us := List.mem_of_getElem? hp
      refine W.item i s₁ _ _ hlt hTi fun v h' tk hPv hT' hk => ?_
      have stn : Step wr s₁ { s₁ with heap := h', toks := tk } := ⟨fun a o ha e => hk a o ha e, tab_of_keep (fun a ha => (hwr a ha).1) hk, .refl, rfl, rfl⟩
      have F' := F₁.off stn offW
      have rv : Rep ([D, D + 1] ++ V) h' p v := by
        have r0 := hP i p v hp hPv
        have r1 : Rep ([D, D + 1] ++ V) s₁.heap p v := by
          refine r0.monoS fun a Tn items m hTn ha e => ⟨fun hm => ?_, st₁.keep a _ (fun hm => ?_) (keep₃ _ _ e)⟩
          · rcases List.mem_append.mp hm with hm | hm
            · rcases List.mem_cons.mp hm with rfl | hm
              · rw [gD] at e; cases e
              · rw [List.mem_singleton.mp hm, gC] at e; cases e
            · exact ha hm
          · rcases List.mem_cons.mp hm with rfl | hm
            · exact ha F₂.v59
            · rcases List.mem_cons.mp hm with rfl | hm
              · rw [gD] at e; cases e
              · rcases List.mem_cons.mp hm with rfl | hm
                · rw [gC] at e; cases e
                · exact hodd 0 _ hT a hm _ e _ _ rfl
        exact r1.off stn F₁.v59 offW
      have hD' : h'.get? D = some (seqObj "list" ys nn) := hk _ _ hDwr hD₁
      have hys' : RepL ([D, D + 1] ++ V) h' (((us.take i).filter kp).map f) ys := hys.off stn F₁.v59 offW
      refine wpAny_assign_Name (store_local1 F' hck hxk rv fun s₂' st₂' F₂' => ?_)
      refine (ht' _ p hpm).bind hA F₂' fun s₃' st₃' => ?_
      have stAll : Step (56 :: D :: (D + 1) :: wr) s₃ s₃' := st₁.trans ((stn.wide fun a ha => .tail _ (.tail _ (.tail _ ha))).trans ((st₂'.wide fun a ha => by rw [List.mem_singleton.mp ha, hcL]; simp).trans (st₃'.wide fun a ha => by rw [List.mem_singleton.mp ha]; simp)))
      have F₃' := F₂'.step st₃'
      have k23 : ∀ {a o}, a ≠ D + 1 → a ≠ 56 → h'.get? a = some o → s₃'.heap.get? a = some o := fun {a o} h1 h2 e => st₃'.keep a o (by simpa using h2) (st₂'.keep a o (by rw [hcL]; simpa using h1) e)
      have n59D : D ≠ 56 := fun q => hDV (q ▸ F₂.v59)
      have hD₃ : s₃'.heap.get? D = some (seqObj "list" ys nn) := k23 (Ne.symm hCD) n59D hD'
      have hys₃ : RepL ([D, D + 1] ++ V) s₃'.heap (((us.take i).filter kp).map f) ys := hys'.mono fun a o ha e => ⟨ha, k23 (fun q => ha (by rw [q]; simp)) (fun q => ha (by rw [q]; exact List.mem_append.mpr (.inr F₂.v59))) e⟩
      have hT₃ : T (i + 1) s₃'.heap := W.frame _ _ _ hT' fun b hb o e => k23 (fun q => hCfp (q ▸ hb)) (fun q => (hfp b hb).1 (q ▸ F₂.v59)) e
      have htake : (us.take (i + 1)).filter kp = (us.take i).filter kp ++ (if kp p then [p] else []) := take_succ_filter kp us i p hp
      have subx : Sub Γc ((x, p) :: Γc) := fun y q e => by
        rw [List.lookup_cons]
        by_cases hy : y = x
        · subst hy; rw [hxc] at e; cases e
        · rw [beq_eq_false_iff_ne.mpr hy]; exact e
      cases hkp : kp p with
      | false =>
        rw [if_neg (by simp)]
        refine ⟨us.length + 1 - (i + 1), by omega, i + 1, ys, nn, hlt, rfl, hT₃, hD₃, ?_, F₃'.sub subx, stAll⟩
        rw [htake, hkp]; simpa using hys₃
      | true =>
        rw [if_pos rfl]
        refine he' _ p hpm hkp A hA s₃' _ _ F₃' fun y s₄ st₄ ry => ?_
        have hD₄ : s₄.heap.get? D = some (seqObj "list" ys nn) := st₄.keep _ _ (by simpa using n59D) hD₃
        have hlen : ys.length ≤ 1000000 := by
          rw [hys₃.length, List.length_map]
          exact Nat.le_trans (List.length_filter_le _ _) (Nat.le_trans (by rw [List.length_take]; omega) hus)
        refine wpAny_list_append_plain (items := ys.toArray) ⟨nn, hD₄⟩ (fun h₅ hp₅ hs₅ => ?_) (by rw [List.size_toArray]; exact Nat.le_trans hlen (by decide))
        obtain ⟨n5, e5⟩ := hp₅
        rw [List.push_toArray] at e5
        have F₄ := F₃'.step st₄
        have F₅ := F₄.other (h' := h₅) (tk := s₄.toks) (by simp) hDg (by rw [hcL]; exact Ne.symm hCD) hDcl hs₅ hD₄ (by simp [seqObj]) e5
        have st₅ : Step [D] s₄ { s₄ with heap := h₅ } := step_turn (tk := s₄.toks) hs₅ hD₄ (by simp [seqObj]) e5 (.head _)
        refine ⟨us.length + 1 - (i + 1), by omega, i + 1, ys ++ [y], n5, hlt, rfl, ?_, e5, ?_, F₅.sub subx, stAll.trans ((st₄.wide fun a ha => by rw [List.mem_singleton.mp ha]; simp).trans (st₅.wide fun a ha => by rw [List.mem_singleton.mp ha]; simp))⟩
        · exact W.frame _ _ _ hT₃ fun b hb o e => st₅.keep b o (by simpa using fun q : b = D => hDfp (q ▸ hb)) (st₄.keep b o (by simpa using fun q : b = 56 => (hfp b hb).1 (q ▸ F₂.v59)) e)
        · rw [htake, hkp]
          simp only [if_true, List.map_append, List.map_cons, List.map_nil]
          refine RepL.snoc (ry.mono fun a o ha e => ⟨ha, st₅.keep a o (by simpa using fun q : a = D => ha (by rw [q]; simp)) e⟩) ?_
          exact (hys₃.step st₄ (w59 (List.mem_append.mpr (.inr F₂.v59)))).mono fun a o ha e => ⟨ha, st₅.keep a o (by simpa using fun q : a = D => ha (by rw [q]; simp)) e⟩
    · have hie : i = us.length := by omega
      subst hie
      refine W.done s₁ _ _ hTi fun h' tk hk => ?_
      have stn : Step wr s₁ { s₁ with heap := h', toks := tk } := ⟨fun a o ha e => hk a o ha e, tab_of_keep (fun a ha => (hwr a ha).1) hk, .refl, rfl, rfl⟩
      have F' := F₁.off stn offW
      rw [List.take_length] at hys
      have stA : Step (56 :: D :: (D + 1) :: wr) s₂ { s₁ with heap := h', toks := tk } := by
        refine Step.trans (s' := s₃) ⟨fun a o _ e => keep₃ a o e, ?_, bare₃, dr₃, os₃⟩ (st₁.trans (stn.wide fun a ha => .tail _ (.tail _ (.tail _ ha))))
        exact Tab.keeps keep₃
      have offA : Off c V s₂ (56 :: D :: (D + 1) :: wr) := by
        intro a ha
        rcases List.mem_cons.mp ha with rfl | ha
        · exact .inl rfl
        · rcases List.mem_cons.mp ha with rfl | ha
          · exact .inr ⟨hDV, hDg, fun o e => by rw [gD] at e; cases e⟩
          · rcases List.mem_cons.mp ha with rfl | ha
            · exact .inr ⟨hCV, hCg, fun o e => by rw [gC] at e; cases e⟩
            · exact .inr ⟨hwrV a ha, (hwr a ha).1, hodd 0 _ hT a ha⟩
      have gsD : s.heap.get? D = none := fresh_since F₂.toGS st₂ gD
      have gsC : s.heap.get? (D + 1) = none := fresh_since F₂.toGS st₂ gC
      obtain ⟨m, hnm, _⟩ := F'.loc
      rw [hcL] at hnm
      refine hRR D (D + 1) _ m ys nn gsD hnm hCV gsC hCD hCg (hk _ _ hDwr hD₁) hDV ?_ ?_ (F₂.off stA offA)
      · exact hys.off stn F₁.v59 offW
      · have stS : Step (56 :: D :: (D + 1) :: wr) s { s₁ with heap := h', toks := tk } := (st₂.wide fun a ha => by rw [List.mem_singleton.mp ha]; simp).trans stA
        refine ⟨fun a o ha e => stS.keep a o (fun hm => ?_) e, stS.tab, stS.bare, stS.drawn, stS.os⟩
        rcases List.mem_cons.mp hm with rfl | hm
        · exact ha (.head _)
        · rcases List.mem_cons.mp hm with rfl | hm
          · rw [gsD] at e; cases e
          · rcases List.mem_cons.mp hm with rfl | hm
            · rw [gsC] at e; cases e
            · rw [(hwr a hm).2] at e; cases e
  show codeAny c.M A (.compStart (.ListComp elt [⟨.Name x px, iter, ifs, 0⟩] scope pos) 0 (.ref I) (.ref D) (compEnvC scope cl (D + 1) env)) (RR (.ref D) (D + 1)) s₃
  rw [hce]
  exact codeAny_compStart_list loop (W.self 0 _ _ _ T₃ loop)
end
end

section
open PySem PySem.W PySem.Spec PySem.Calls PyProof.Rows
set_option linter.unusedVariables false
set_option maxRecDepth 100000
set_option maxHeartbeats 400000

section
variable {c : Cx} {n : Nat} {env : Env} {V W : List Addr} {Γ Γ' Δ : List (Str × PV)}

/-- what a comprehension's text must be -/
structure CompOK (env : Env) (scope : Scope) (cl : List (Str × Addr)) (x : Str) (Γ Γc : List (Str × PV)) : Prop where
  clos : closureFor scope env = pure cl
  sub : ∀ y a, (y, a) ∈ cl → env.cells.lookup y = some a
  cell : ∀ y ∈ scope.names, y.2 ≠ .cell
  kind : scope.kind = .function
  names : ∀ y ∈ scope.names, y.2 = .local → scope.names.lookup y.1 = some .local
  mt : ∀ C y, (compEnvC scope cl C env).kindOf y = some .cell → (cl.lookup y).isSome = true
  tgt : ∀ C, (compEnvC scope cl C env).kindOf x = some .local
  cap : ∀ C, Cap env (compEnvC scope cl C env) Γ Γc
  xc : Γc.lookup x = none

theorem comp_end {s' : Shared} {D C : Addr} {m : Str → Option Value} {ys : List Value} {nn : Nat} {l : List PV} {h' : Heap} (hns : s'.heap.Ns C m) (hCV : C ∉ V) (hCD : C ≠ D) (hD : s'.heap.get? D = some (seqObj "list" ys nn)) (hDV : D ∉ V) (hr : RepL (D :: C :: V) s'.heap l ys) (hs : Heap.SameBut C s'.heap h') :
    Rep V h' (.list l) (.ref D) :=
  rep_list hDV ((hs.2 D (Ne.symm hCD)).trans hD) (hr.mono fun a o ha e => ⟨fun hm => ha (.tail _ (.tail _ hm)), (hs.2 a (fun q => ha (by rw [q]; simp))).trans e⟩)

theorem step_C {s s' : Shared} {C : Addr} {m : Str → Option Value} {h' : Heap} (st : Step [56] s s') (hns : s'.heap.Ns C m) (hC : s.heap.get? C = none) (hs : Heap.SameBut C s'.heap h') : Step [56] s { s' with heap := h' } := by
  obtain ⟨o, es, ep, e, hd, _⟩ := hns
  refine ⟨fun a ob ha eb => (hs.2 a (fun q => by rw [q, hC] at eb; cases eb)).trans (st.keep a ob ha eb), fun t => (st.tab t).sameBut hs e (by simp [hd]), st.bare, st.drawn, st.os⟩

theorem Ev.comp {elt iter : Expr} {x : Str} {px pos : Pos} {ifs : List Expr} {scope : Scope} {cl : List (Str × Addr)} {us : List PV} {Γc : List (Str × PV)} (kp : PV → Bool) (f : PV → PV)
    (hi : EvI c n env V Γ iter us) (hok : CompOK env scope cl x Γ Γc) (hus : us.length ≤ 1000000)
    (ht : ∀ C V' u, u ∈ us → Tsts c n (compEnvC scope cl C env) V' ((x, u) :: Γc) ifs (kp u)) (he : ∀ C V' u, u ∈ us → kp u = true → Ev c n (compEnvC scope cl C env) V' ((x, u) :: Γc) elt (f u))
    (hs : ∀ v, foldedSetIterable iter env v = pure v := by intro _; rfl) :
    Ev c n env V Γ (.ListComp elt [⟨.Name x px, iter, ifs, 0⟩] scope pos) (.list ((us.filter kp).map f)) := by
  intro A hA s Q E F k
  rw [eval_ListComp]
  refine wpAny_comprehension_free (use := none) rfl hs hok.clos hok.kind hok.names (hi A hA s _ E F fun it s₂ st₂ src => ?_)
  refine comp_core hA (F.step st₂) st₂ src hok.sub hok.cell hok.kind hok.mt hok.tgt hok.cap hok.xc hus ht he ?_
  intro D C s' m ys nn hgD hns hCV hgC hCD hCg hD hDV hr st F'
  refine ⟨m, hns, fun h' hs' => k _ _ (step_C st hns hgC hs') (comp_end hns hCV hCD hD hDV hr hs')⟩

/-- x = [..] whose store stands within the comprehension -/
theorem St.assignComp {elt iter : Expr} {x : Str} {px pos pos' apos : Pos} {z : Str} {ifs : List Expr} {scope : Scope} {cl : List (Str × Addr)} {us : List PV} {Γc : List (Str × PV)} (kp : PV → Bool) (f : PV → PV)
    (hi : EvI c n env V Γ iter us) (hok : CompOK env scope cl x Γ Γc) (hus : us.length ≤ 1000000)
    (ht : ∀ C V' u, u ∈ us → Tsts c n (compEnvC scope cl C env) V' ((x, u) :: Γc) ifs (kp u)) (he : ∀ C V' u, u ∈ us → kp u = true → Ev c n (compEnvC scope cl C env) V' ((x, u) :: Γc) elt (f u))
    (hf : env.scope.kind = .function) (hl : env.kindOf z = some .local) (hw : swapsWith (.ListComp elt [⟨.Name x px, iter, ifs, 0⟩] scope pos) (some (.Name z pos')) apos.line env = pure true)
    (hs : ∀ v, foldedSetIterable iter env v = pure v := by intro _; rfl) :
    St c n env V Γ (.Assign [.Name z pos'] (.ListComp elt [⟨.Name x px, iter, ifs, 0⟩] scope pos) apos) (.next ((z, .list ((us.filter kp).map f)) :: Γ)) := by
  intro A hA s Q E F k
  rw [exec_Assign_Name_used _ _ _ _ hw]
  refine wpAny_bind (wpAny_standAt (wpAny_bind ?_))
  show wpAny c.M A (do let _ ← comprehension (.ListComp elt [⟨.Name x px, iter, ifs, 0⟩] scope pos) scope env _ (newList []) false (eval iter env) (some (PySem.assign (.Name z pos') env))) _ _ s
  refine wpAny_bind (wpAny_mono (wpAny_comprehension_free (use := some (PySem.assign (.Name z pos') env)) (Q := fun _ s' => Q .next s') rfl hs hok.clos hok.kind hok.names (hi A hA s _ E F fun it s₂ st₂ src => ?_)) (fun _ s' hq => wpAny_pure (wpAny_pure hq)) fun _ _ e => e)
  refine comp_core hA (F.step st₂) st₂ src hok.sub hok.cell hok.kind hok.mt hok.tgt hok.cap hok.xc hus ht he ?_
  intro D C s' m ys nn hgD hns hCV hgC hCD hCg hD hDV hr st F'
  show wpAny c.M A (PySem.assign (.Name z pos') env (.ref D)) _ _ s'
  have hrep : Rep V s'.heap (.list ((us.filter kp).map f)) (.ref D) := rep_list hDV hD (hr.mono fun a o ha e => ⟨fun hm => ha (.tail _ (.tail _ hm)), e⟩)
  have hCL : C ≠ env.locals := fun q => hCV (q ▸ F.vL)
  refine wpAny_assign_Name (store_local1 F' hf hl hrep fun s₃ st₃ F₃ => ⟨m, ?_, fun h' hs' => ?_⟩)
  · obtain ⟨o, es, ep, e, r⟩ := hns
    exact ⟨o, es, ep, st₃.keep C o (by simpa using hCL) e, r⟩
  · obtain ⟨oC, es, ep, eC, hdC, _⟩ := id hns
    have eC₃ : s₃.heap.get? C = some oC := st₃.keep C oC (by simpa using hCL) eC
    have st4 : Step [C] s₃ { s₃ with heap := h' } := ⟨fun a o ha e => (hs'.2 a (by simpa using ha)).trans e, fun t => t.sameBut hs' eC₃ (by simp [hdC]), .refl, rfl, rfl⟩
    have hoff : Off c V s₃ [C] := fun a ha => by
      rw [List.mem_singleton.mp ha]
      refine .inr ⟨hCV, hCg, fun o e => ?_⟩
      rw [eC₃] at e; cases e
      unfold Odd
      rw [hdC]
      exact fun _ _ q => by cases q
    refine k _ _ ?_ ⟨rfl, F₃.off st4 hoff⟩
    have stA : Step (C :: own env) s { s₃ with heap := h' } := (st.wide fun a ha => .tail _ (wOwn a ha)).trans ((st₃.wide fun a ha => by rw [List.mem_singleton.mp ha]; unfold own; simp).trans (st4.wide fun a ha => by rw [List.mem_singleton.mp ha]; simp))
    refine ⟨fun a o ha e => stA.keep a o (fun hm => ?_) e, stA.tab, stA.bare, stA.drawn, stA.os⟩
    rcases List.mem_cons.mp hm with rfl | hm
    · rw [hgC] at e; cases e
    · exact ha hm
end
end

section
open PySem PySem.W PySem.Spec PySem.Calls PyProof.Rows PySem.SeqAt
set_option linter.unusedVariables false
set_option maxRecDepth 100000
set_option maxHeartbeats 400000

theorem all_eq {α : Type} [DecidableEq α] : ∀ (xs ys : List α), xs.length = ys.length → (List.range xs.length).all (fun j => decide (xs[j]? = ys[j]?)) = decide (xs = ys) := by
  intro xs ys h
  by_cases e : xs = ys
  · subst e; simp
  · rw [decide_eq_false e]
    rw [List.all_eq_false]
    apply Classical.byContradiction
    intro hn
    apply e
    apply List.ext_getElem h
    intro i h1 h2
    apply Classical.byContradiction
    intro hne
    apply hn
    refine ⟨i, List.mem_range.mpr h1, ?_⟩
    simp [h1, h2, hne]

theorem RepL.inj {α : Type} {g : α → PV} {V : List Addr} {h : Heap} (hg : ∀ v x y, Rep V h (g x) v → Rep V h (g y) v → x = y) : ∀ {xs ys : List α} {vs : List Value}, RepL V h (xs.map g) vs → RepL V h (ys.map g) vs → xs = ys
  | [], [], _, _, _ => rfl
  | [], y :: ys, _, r, r' => by
    have h1 := r.length; have h2 := r'.length; rw [h1] at h2; simp at h2
  | x :: xs, [], _, r, r' => by
    have h1 := r.length; have h2 := r'.length; rw [h1] at h2; simp at h2
  | x :: xs, y :: ys, vs, r, r' => by
    rw [List.map_cons, RepL] at r r'
    obtain ⟨v, r1, rfl, a1, a2⟩ := r
    obtain ⟨v', r1', e, b1, b2⟩ := r'
    injection e with e1 e2
    subst e1 e2
    rw [hg _ _ _ a1 b1, RepL.inj hg a2 b2]

structure EqG {α : Type} [DecidableEq α] (g : α → PV) (k : Nat) : Prop where
  eq : ∀ A V s v w x y, A.units + k < cLine → Rep V s.heap (g x) v → Rep V s.heap (g y) w → EqAt A s v w (decide (x = y))
  inj : ∀ V h v x y, Rep V h (g x) v → Rep V h (g y) v → x = y

theorem EqG.int : EqG PV.int 0 := ⟨fun A V s v w x y _ r r' => by
  obtain ⟨t, rfl⟩ := of_int r; obtain ⟨u, rfl⟩ := of_int r'
  exact (MeetsSeq.EqGives.int x y t u).at A s, fun V h v x y r r' => by
  obtain ⟨t, rfl⟩ := of_int r; obtain ⟨u, e⟩ := of_int r'
  injection e⟩
theorem str_inj {x y : List Nat} (e : (⟨x.toArray⟩ : Str) = ⟨y.toArray⟩) : x = y := by
  injection e with e
  simpa using congrArg Array.toList e
theorem EqG.str : EqG PV.str 0 := ⟨fun A V s v w x y _ r r' => by
  obtain ⟨t, rfl⟩ := of_str r; obtain ⟨u, rfl⟩ := of_str r'
  have := (SeqRoads2.EqGives.str ⟨x.toArray⟩ ⟨y.toArray⟩ t u).at A s
  have e : ((⟨x.toArray⟩ : Str).cps.toList == (⟨y.toArray⟩ : Str).cps.toList) = decide (x = y) := by
    show (x == y) = _
    by_cases q : x = y
    · subst q; simp
    · rw [beq_eq_false_iff_ne.mpr q, decide_eq_false q]
  rwa [e] at this, fun V h v x y r r' => by
  obtain ⟨t, rfl⟩ := of_str r; obtain ⟨u, e⟩ := of_str r'
  injection e with e; exact str_inj e⟩

section
variable {α : Type} [DecidableEq α] {g : α → PV} {k : Nat}
theorem EqG.items (G : EqG g k) {A : Around} {V : List Addr} {s : Shared} {xs ys : List α} {vs ws : List Value} (hu : A.units + (k + 1) < cLine) (r : RepL V s.heap (xs.map g) vs) (r' : RepL V s.heap (ys.map g) ws) :
    ∀ j (h1 : j < vs.toArray.size) (h2 : j < ws.toArray.size), EqAt A.in1 s vs.toArray[j] ws.toArray[j] (decide (xs[j]? = ys[j]?)) := by
  intro j h1 h2
  have l1 := r.length
  have l2 := r'.length
  rw [List.length_map] at l1 l2
  have h1' : j < xs.length := by rw [List.size_toArray] at h1; omega
  have h2' : j < ys.length := by rw [List.size_toArray] at h2; omega
  obtain ⟨v, hv, rv⟩ := r.get j (g xs[j]) (by simp [h1'])
  obtain ⟨w, hw, rw'⟩ := r'.get j (g ys[j]) (by simp [h2'])
  rw [List.getElem?_eq_some_iff] at hv hw
  obtain ⟨_, hv⟩ := hv
  obtain ⟨_, hw⟩ := hw
  have e : decide (xs[j]? = ys[j]?) = decide (xs[j] = ys[j]) := by simp [h1', h2']
  rw [e, List.getElem_toArray, List.getElem_toArray, hv, hw]
  exact G.eq A.in1 V s v w _ _ (by show A.units + 1 + k < cLine; omega) rv rw'
theorem EqG.rcL (G : EqG g k) {A : Around} {V : List Addr} {s : Shared} {xs ys : List α} {a b : Addr} {vs ws : List Value} {n m : Nat} (hu : A.units + (k + 1) < cLine) (ha : s.heap.get? a = some (seqObj "list" vs n)) (hb : s.heap.get? b = some (seqObj "list" ws m)) (r : RepL V s.heap (xs.map g) vs) (r' : RepL V s.heap (ys.map g) ws) :
    RcAt A s (.ref a) (.ref b) (decide (xs = ys)) := by
  have l1 := r.length
  have l2 := r'.length
  rw [List.length_map] at l1 l2
  by_cases hl : xs.length = ys.length
  · rw [← all_eq xs ys hl]
    have := RcAt.lists (isList_of ha) (isList_of hb) (by rw [List.size_toArray, List.size_toArray]; omega) (by omega) (G.items hu r r')
    rwa [List.size_toArray, l1] at this
  · rw [decide_eq_false (fun e => hl (by rw [e]))]
    exact RcAt.lists_lengths (isList_of ha) (isList_of hb) (by rw [List.size_toArray, List.size_toArray]; simp; omega) (by omega)
theorem EqG.list (G : EqG g k) : EqG (fun xs : List α => PV.list (xs.map g)) (k + 1) := ⟨fun A V s v w x y hu r r' => by
  obtain ⟨a, vs, n, rfl, ha, ho, hr⟩ := of_list r
  obtain ⟨b, ws, m, rfl, hb, ho', hr'⟩ := of_list r'
  by_cases hab : a = b
  · subst hab
    rw [ho] at ho'
    have e : vs = ws := by
      injection ho' with e; injection e with _ _ e; injection e with e; simpa using congrArg Array.toList e
    subst e
    have := RepL.inj (G.inj V s.heap) hr hr'
    subst this
    simpa using EqAt.same (A := A) (s := s) (.ref a)
  · exact EqAt.of_refs hab (G.rcL hu ho ho' hr hr'), fun V h v x y r r' => by
  obtain ⟨a, vs, n, rfl, ha, ho, hr⟩ := of_list r
  obtain ⟨b, ws, m, e, hb, ho', hr'⟩ := of_list r'
  injection e with e; subst e
  rw [ho] at ho'
  have e : vs = ws := by
    injection ho' with e; injection e with _ _ e; injection e with e; simpa using congrArg Array.toList e
  subst e
  exact RepL.inj (G.inj V h) hr hr'⟩

variable {c : Cx} {n : Nat}
theorem CmpF.eqL (G : EqG g k) {xs ys : List α} (hk : k ≤ 5 := by decide) (hn : 0 < n := by decide) : CmpF c n .Eq (.list (xs.map g)) (.list (ys.map g)) (.bool (decide (xs = ys))) := by
  intro A hA V s va vb Q E _ r₁ r₂ kk
  obtain ⟨a, vs, n, rfl, ha, ho, hr⟩ := of_list r₁
  obtain ⟨b, ws, m, rfl, hb, ho', hr'⟩ := of_list r₂
  exact G.rcL (by have := (hA.2 hn).2.1; omega) ho ho' hr hr' P0 c.w E Q (kk _ _ .refl rep_bool)
theorem CmpF.neL (G : EqG g k) {xs ys : List α} (hk : k ≤ 5 := by decide) (hn : 0 < n := by decide) : CmpF c n .NotEq (.list (xs.map g)) (.list (ys.map g)) (.bool (!decide (xs = ys))) := by
  intro A hA V s va vb Q E _ r₁ r₂ kk
  obtain ⟨a, vs, n, rfl, ha, ho, hr⟩ := of_list r₁
  obtain ⟨b, ws, m, rfl, hb, ho', hr'⟩ := of_list r₂
  have hu : A.units + 20 < cLine := by have := (hA.2 hn).2.1; omega
  have l1 := hr.length
  have l2 := hr'.length
  rw [List.length_map] at l1 l2
  by_cases hl : xs.length = ys.length
  · have := RcNeAt.lists (isList_of ho) (isList_of ho') (by rw [List.size_toArray, List.size_toArray]; omega) (by omega) (G.items (A := A) (by omega) hr hr')
    rw [List.size_toArray, l1, all_eq xs ys hl] at this
    exact this P0 c.w E Q (kk _ _ .refl rep_bool)
  · rw [decide_eq_false (fun e => hl (by rw [e]))] at kk
    exact RcNeAt.lists_lengths (isList_of ho) (isList_of ho') (by rw [List.size_toArray, List.size_toArray]; simp; omega) (by omega) P0 c.w E Q (kk _ _ .refl rep_bool)
theorem tup_all {xs ys : List α} : ((List.range (min xs.length ys.length)).all (fun j => decide (xs[j]? = ys[j]?)) && xs.length == ys.length) = decide (xs = ys) := by
  by_cases hl : xs.length = ys.length
  · rw [← hl, Nat.min_self, all_eq xs ys hl]; simp
  · rw [decide_eq_false (fun e => hl (by rw [e])), beq_eq_false_iff_ne.mpr hl, Bool.and_false]
theorem CmpF.eqT (G : EqG g k) {xs ys : List α} (hk : k ≤ 5 := by decide) (hn : 0 < n := by decide) : CmpF c n .Eq (.tup (xs.map g)) (.tup (ys.map g)) (.bool (decide (xs = ys))) := by
  intro A hA V s va vb Q E _ r₁ r₂ kk
  obtain ⟨a, vs, n, rfl, ha, ho, hr⟩ := of_tup r₁
  obtain ⟨b, ws, m, rfl, hb, ho', hr'⟩ := of_tup r₂
  have hu : A.units + 20 < cLine := by have := (hA.2 hn).2.1; omega
  have l1 := hr.length
  have l2 := hr'.length
  rw [List.length_map] at l1 l2
  have := RcAt.tuples (isTuple_of ho) (isTuple_of ho') (by omega) (G.items (A := A) (by omega) hr hr')
  rw [List.size_toArray, List.size_toArray, l1, l2, tup_all] at this
  exact this P0 c.w E Q (kk _ _ .refl rep_bool)
theorem CmpF.neT (G : EqG g k) {xs ys : List α} (hk : k ≤ 5 := by decide) (hn : 0 < n := by decide) : CmpF c n .NotEq (.tup (xs.map g)) (.tup (ys.map g)) (.bool (!decide (xs = ys))) := by
  intro A hA V s va vb Q E _ r₁ r₂ kk
  obtain ⟨a, vs, n, rfl, ha, ho, hr⟩ := of_tup r₁
  obtain ⟨b, ws, m, rfl, hb, ho', hr'⟩ := of_tup r₂
  have hu : A.units + 20 < cLine := by have := (hA.2 hn).2.1; omega
  have l1 := hr.length
  have l2 := hr'.length
  rw [List.length_map] at l1 l2
  have := RcNeAt.tuples (isTuple_of ho) (isTuple_of ho') (by omega) (G.items (A := A) (by omega) hr hr')
  rw [List.size_toArray, List.size_toArray, l1, l2, tup_all] at this
  exact this P0 c.w E Q (kk _ _ .refl rep_bool)
end

section
variable {c : Cx} {n : Nat}
theorem CmpF.isT {a b : String} : CmpF c n .Is (.fn (.type a)) (.fn (.type b)) (.bool (Value.type a == Value.type b)) := by
  intro A _ V s va vb Q E _ r₁ r₂ k
  rw [of_fn r₁, of_fn r₂]
  exact wpAny_is_plain rfl (k _ _ .refl rep_bool)
theorem CmpF.isNotT {a b : String} : CmpF c n .IsNot (.fn (.type a)) (.fn (.type b)) (.bool (!(Value.type a == Value.type b))) := by
  intro A _ V s va vb Q E _ r₁ r₂ k
  rw [of_fn r₁, of_fn r₂]
  exact wpAny_isNot_plain rfl (k _ _ .refl rep_bool)
theorem Calls.typeS {x : List Nat} : Calls c n (.type "type") [.str x] (.fn (.type "str")) := by
  intro A _ V s vals Q E G r k
  obtain ⟨v, rfl, hv⟩ := r.one
  obtain ⟨t, rfl⟩ := of_str hv
  exact call_type_of (typeIs_str s _ t) (by decide) (k _ _ .refl rep_fn)
theorem Calls.typeT {x : List PV} : Calls c n (.type "type") [.tup x] (.fn (.type "tuple")) := by
  intro A _ V s vals Q E G r k
  obtain ⟨v, rfl, hv⟩ := r.one
  obtain ⟨a, items, m, rfl, ha, ho, hr⟩ := of_tup hv
  exact call_type_of ⟨_, ho, rfl⟩ (by decide) (k _ _ .refl rep_fn)
theorem Calls.isIntInt {i : Int} : Calls c n (.builtin "isinstance") [.int i, .fn (.type "int")] (.bool true) := by
  intro A _ V s vals Q E G r k
  obtain ⟨v, w, rfl, hv, hw⟩ := r.two
  obtain ⟨t, rfl⟩ := of_int hv
  rw [of_fn hw]
  exact call_isinstance_yes (typeIs_int _ _ _) meta_int sub_int_int (k _ _ .refl rep_bool)
theorem TruF.tup {l : List PV} (hl : l.length < 1000000) : TruF c n (.tup l) (!l.isEmpty) := by
  intro A hA V s va Q E _ r k
  obtain ⟨a, vs, m, rfl, ha, ho, hr⟩ := of_tup r
  have e : (!vs.toArray.isEmpty) = (!l.isEmpty) := by
    have := hr.length
    cases vs <;> cases l <;> simp at this ⊢
  refine truthy_tuple ⟨_, ho, rfl, _, rfl⟩ (by rw [List.size_toArray, hr.length]; omega) ?_
  rw [e]
  exact k _ (.of_keep fun _ _ e => e)
theorem Calls.isIntBool {i : Int} : Calls c n (.builtin "isinstance") [.int i, .fn (.type "bool")] (.bool false) := by
  intro A _ V s vals Q E G r k
  obtain ⟨v, w, rfl, hv, hw⟩ := r.two
  obtain ⟨t, rfl⟩ := of_int hv
  rw [of_fn hw]
  exact call_isinstance (isinstance_false_int (by decide +kernel) F.isi_meta_bool F.sub_int_bool) (k _ _ (.of_keep fun _ _ e => e) rep_bool)
end
end

section
open PySem PySem.W PySem.Spec PySem.Calls PyProof.Rows PySem.SeqAt
set_option linter.unusedVariables false
set_option maxRecDepth 100000
set_option maxHeartbeats 400000

theorem CmpOf.strs_lt {prog : Program} {w : World} {A : Around} {P : Nat → Value → Prop} (val : Nat → List Nat) (hval : ∀ i v, P i v → ∃ t, v = .str ⟨(val i).toArray⟩ t) :
    CmpOf prog w A .Lt P (fun i j => decide (val i < val j)) := fun i j vi vj s Q E hi hj h => by
  obtain ⟨t, rfl⟩ := hval i vi hi
  obtain ⟨u, rfl⟩ := hval j vj hj
  exact richCompare_gives (op := .Lt) (typeIs_str s _ t) (typeIs_str s _ u) F.slot_str_lt F.entry_str_lt (F.args_str_lt_2 _ _) (gives_str_lt _ _ t u) (fun x => nomatch x) h
theorem CmpOf.strs_gt {prog : Program} {w : World} {A : Around} {P : Nat → Value → Prop} (val : Nat → List Nat) (hval : ∀ i v, P i v → ∃ t, v = .str ⟨(val i).toArray⟩ t) :
    CmpOf prog w A .Gt P (fun i j => decide (val j < val i)) := fun i j vi vj s Q E hi hj h => by
  obtain ⟨t, rfl⟩ := hval i vi hi
  obtain ⟨u, rfl⟩ := hval j vj hj
  exact richCompare_gives (op := .Gt) (typeIs_str s _ t) (typeIs_str s _ u) F.slot_str_gt F.entry_str_gt (F.args_str_gt_2 _ _) (gives_str_gt _ _ t u) (fun x => nomatch x) h

theorem argBest_le (bt : Nat → Nat → Bool) : ∀ k, argBest bt k ≤ k
  | 0 => Nat.le_refl _
  | k + 1 => by unfold argBest; split; exact Nat.le_refl _; exact Nat.le_succ_of_le (argBest_le bt k)
/-- the best one is not beaten -/
theorem argBest_best {α : Type} (lt : α → α → Bool) (val : Nat → α) (hirr : ∀ x, lt x x = false) (htr : ∀ x y z, lt x y = true → lt y z = true → lt x z = true) :
    ∀ k j, j ≤ k → lt (val j) (val (argBest (fun i j => lt (val i) (val j)) k)) = false
  | 0, j, h => by have : j = 0 := by omega
                  subst this; exact hirr _
  | k + 1, j, h => by
    unfold argBest
    split
    · rename_i hb
      rcases Nat.lt_or_ge j (k + 1) with hj | hj
      · cases e : lt (val j) (val (k + 1)) with
        | false => rfl
        | true =>
          have ih := argBest_best lt val hirr htr k j (by omega)
          rw [htr _ _ _ e hb] at ih; cases ih
      · have : j = k + 1 := by omega
        subst this; exact hirr _
    · rename_i hb
      rcases Nat.lt_or_ge j (k + 1) with hj | hj
      · exact argBest_best lt val hirr htr k j (by omega)
      · have : j = k + 1 := by omega
        subst this
        simpa using hb

theorem lt_anti {x y : List Nat} (h1 : ¬ x < y) (h2 : ¬ y < x) : x = y := List.le_antisymm (List.not_lt.mp h2) (List.not_lt.mp h1)

section
variable {c : Cx} {n : Nat}
theorem rep_val {V : List Addr} {h : Heap} {xs : List (List Nat)} {items : List Value} (r : RepL V h (xs.map .str) items) (i : Nat) (v : Value) (e : items.toArray[i]? = some v) : ∃ t, v = .str ⟨(xs.getD i []).toArray⟩ t := by
  have hl := r.length
  rw [List.length_map] at hl
  have hi : i < xs.length := by
    rw [List.getElem?_toArray] at e
    obtain ⟨hi, _⟩ := List.getElem?_eq_some_iff.mp e
    omega
  obtain ⟨w, hw, rw'⟩ := r.get i (.str xs[i]) (by simp [hi])
  rw [List.getElem?_toArray, hw] at e
  cases e
  obtain ⟨t, rfl⟩ := of_str rw'
  exact ⟨t, by simp [hi]⟩
theorem rep_valI {V : List Addr} {h : Heap} {xs : List Int} {items : List Value} (r : RepL V h (xs.map .int) items) (i : Nat) (v : Value) (e : items.toArray[i]? = some v) : ∃ t, v = .int (xs.getD i 0) t := by
  have hl := r.length
  rw [List.length_map] at hl
  have hi : i < xs.length := by
    rw [List.getElem?_toArray] at e
    obtain ⟨hi, _⟩ := List.getElem?_eq_some_iff.mp e
    omega
  obtain ⟨w, hw, rw'⟩ := r.get i (.int xs[i]) (by simp [hi])
  rw [List.getElem?_toArray, hw] at e
  cases e
  obtain ⟨t, rfl⟩ := of_int rw'
  exact ⟨t, by simp [hi]⟩
theorem step_fresh {W : List Addr} {s s' : Shared} {h' : Heap} {tk : Nat} {I : Addr} (hI : s.heap.get? I = none) (hk : ∀ b o, b ∉ [I] → s.heap.get? b = some o → h'.get? b = some o) : Step W s { s with heap := h', toks := tk } :=
  .of_keep fun a o e => hk a o (by simp; rintro rfl; rw [hI] at e; cases e) e

theorem Calls.minS {xs : List (List Nat)} {m : List Nat} (hm : m ∈ xs) (hmin : ∀ x ∈ xs, ¬ x < m) : Calls c n (.builtin "min") [.tup (xs.map .str)] (.str m) := by
  intro A hA V s vals Q E G r k
  obtain ⟨v, rfl, hv⟩ := r.one
  obtain ⟨a, items, mm, rfl, ha, ho, hr⟩ := of_tup hv
  have hlen : items.length = xs.length := by rw [hr.length, List.length_map]
  have hpos : 0 < xs.length := List.length_pos_of_mem hm
  refine call_min_walk (wpAny_pyIter_tuple (isTuple_of ho) ?_)
  have hne : a ≠ s.heap.objs.size := Nat.ne_of_lt (get_lt ho)
  refine ⟨s.heap.objs.size, [s.heap.objs.size, a], [s.heap.objs.size], items.toArray.size, fun i v => items.toArray[i]? = some v, fun i h => h.IsTupleIter s.heap.objs.size a i ∧ h.IsTuple a items.toArray, _, rfl, Walks.tuple (A := A.in1) hA.1 _ a hne items.toArray, ⟨⟨_, Heap.get?_push_size _ rfl, rfl, rfl⟩, isTuple_of (push_keep _ _ ho)⟩, ?_, by rw [List.size_toArray]; omega, CmpOf.strs_lt (fun i => xs.getD i []) (rep_val hr), ?_⟩
  · intro b hb
    show b < (Heap.push _ _).objs.size
    rw [Heap.size_push]
    rcases List.mem_cons.mp hb with rfl | hb
    · exact Nat.lt_succ_self _
    · rw [List.mem_singleton.mp hb]; exact Nat.lt_succ_of_lt (get_lt ho)
  · intro v h' tk hP hk
    obtain ⟨t, rfl⟩ := rep_val hr _ v hP
    have hb := argBest_le (fun i j => decide (xs.getD i [] < xs.getD j [])) (items.toArray.size - 1)
    have hbest := argBest_best (fun x y : List Nat => decide (x < y)) (fun i => xs.getD i []) (fun x => by simpa using List.lt_irrefl x) (fun x y z h1 h2 => by simp only [decide_eq_true_eq] at *; exact List.lt_trans h1 h2) (items.toArray.size - 1)
    rw [List.size_toArray, hlen] at *
    generalize argBest (fun i j => decide (xs.getD i [] < xs.getD j [])) (xs.length - 1) = q at *
    have e : xs.getD q [] = m := by
      obtain ⟨j, hj, ej⟩ := List.getElem_of_mem hm
      have h1 := hbest j (by omega)
      have h2 := hmin (xs.getD q []) (by rw [List.getD_eq_getElem?_getD, List.getElem?_eq_getElem (by omega)]; exact List.getElem_mem _)
      rw [show xs.getD j [] = m by rw [List.getD_eq_getElem?_getD, List.getElem?_eq_getElem hj]; exact ej] at h1
      exact lt_anti h2 (by simpa using h1)
    have e' : xs.getD q [] = m := e
    show Q _ _
    rw [e']
    refine k _ _ (.of_keep fun b o eb => hk b o ?_ (push_keep _ _ eb)) rep_str
    simp; exact Nat.ne_of_lt (get_lt eb)
theorem Calls.maxS {xs : List (List Nat)} {m : List Nat} (hm : m ∈ xs) (hmin : ∀ x ∈ xs, ¬ m < x) : Calls c n (.builtin "max") [.tup (xs.map .str)] (.str m) := by
  intro A hA V s vals Q E G r k
  obtain ⟨v, rfl, hv⟩ := r.one
  obtain ⟨a, items, mm, rfl, ha, ho, hr⟩ := of_tup hv
  have hlen : items.length = xs.length := by rw [hr.length, List.length_map]
  have hpos : 0 < xs.length := List.length_pos_of_mem hm
  refine call_max_walk (wpAny_pyIter_tuple (isTuple_of ho) ?_)
  have hne : a ≠ s.heap.objs.size := Nat.ne_of_lt (get_lt ho)
  refine ⟨s.heap.objs.size, [s.heap.objs.size, a], [s.heap.objs.size], items.toArray.size, fun i v => items.toArray[i]? = some v, fun i h => h.IsTupleIter s.heap.objs.size a i ∧ h.IsTuple a items.toArray, _, rfl, Walks.tuple (A := A.in1) hA.1 _ a hne items.toArray, ⟨⟨_, Heap.get?_push_size _ rfl, rfl, rfl⟩, isTuple_of (push_keep _ _ ho)⟩, ?_, by rw [List.size_toArray]; omega, CmpOf.strs_gt (fun i => xs.getD i []) (rep_val hr), ?_⟩
  · intro b hb
    show b < (Heap.push _ _).objs.size
    rw [Heap.size_push]
    rcases List.mem_cons.mp hb with rfl | hb
    · exact Nat.lt_succ_self _
    · rw [List.mem_singleton.mp hb]; exact Nat.lt_succ_of_lt (get_lt ho)
  · intro v h' tk hP hk
    obtain ⟨t, rfl⟩ := rep_val hr _ v hP
    have hb := argBest_le (fun i j => decide (xs.getD j [] < xs.getD i [])) (items.toArray.size - 1)
    have hbest := argBest_best (fun x y : List Nat => decide (y < x)) (fun i => xs.getD i []) (fun x => by simpa using List.lt_irrefl x) (fun x y z h1 h2 => by simp only [decide_eq_true_eq] at *; exact List.lt_trans h2 h1) (items.toArray.size - 1)
    rw [List.size_toArray, hlen] at *
    generalize argBest (fun i j => decide (xs.getD j [] < xs.getD i [])) (xs.length - 1) = q at *
    have e : xs.getD q [] = m := by
      obtain ⟨j, hj, ej⟩ := List.getElem_of_mem hm
      have h1 := hbest j (by omega)
      have h2 := hmin (xs.getD q []) (by rw [List.getD_eq_getElem?_getD, List.getElem?_eq_getElem (by omega)]; exact List.getElem_mem _)
      rw [show xs.getD j [] = m by rw [List.getD_eq_getElem?_getD, List.getElem?_eq_getElem hj]; exact ej] at h1
      exact lt_anti (by simpa using h1) h2
    have e' : xs.getD q [] = m := e
    show Q _ _
    rw [e']
    refine k _ _ (.of_keep fun b o eb => hk b o ?_ (push_keep _ _ eb)) rep_str
    simp; exact Nat.ne_of_lt (get_lt eb)
theorem Calls.minI {xs : List Int} {m : Int} (hm : m ∈ xs) (hmin : ∀ x ∈ xs, m ≤ x) : Calls c n (.builtin "min") [.list (xs.map .int)] (.int m) := by
  intro A hA V s vals Q E G r k
  obtain ⟨v, rfl, hv⟩ := r.one
  obtain ⟨a, items, mm, rfl, ha, ho, hr⟩ := of_list hv
  have hlen : items.length = xs.length := by rw [hr.length, List.length_map]
  have hpos : 0 < xs.length := List.length_pos_of_mem hm
  refine call_min_walk (wpAny_pyIter_list (isList_of ho) ?_)
  have hne : a ≠ s.heap.objs.size := Nat.ne_of_lt (get_lt ho)
  refine ⟨s.heap.objs.size, [s.heap.objs.size, a], [s.heap.objs.size], items.toArray.size, fun i v => items.toArray[i]? = some v, fun i h => h.IsListIter s.heap.objs.size a i ∧ h.IsList a items.toArray, _, rfl, Walks.list (A := A.in1) hA.1 _ a hne items.toArray, ⟨⟨_, Heap.get?_push_size _ rfl, rfl, rfl⟩, isList_of (push_keep _ _ ho)⟩, ?_, by rw [List.size_toArray]; omega, CmpOf.ints_lt (fun i => xs.getD i 0) (rep_valI hr), ?_⟩
  · intro b hb
    show b < (Heap.push _ _).objs.size
    rw [Heap.size_push]
    rcases List.mem_cons.mp hb with rfl | hb
    · exact Nat.lt_succ_self _
    · rw [List.mem_singleton.mp hb]; exact Nat.lt_succ_of_lt (get_lt ho)
  · intro v h' tk hP hk
    obtain ⟨t, rfl⟩ := rep_valI hr _ v hP
    have hb := argBest_le (fun i j => decide (xs.getD i 0 < xs.getD j 0)) (items.toArray.size - 1)
    have hbest := argBest_best (fun x y : Int => decide (x < y)) (fun i => xs.getD i 0) (fun x => by simp) (fun x y z h1 h2 => by simp only [decide_eq_true_eq] at *; omega) (items.toArray.size - 1)
    rw [List.size_toArray, hlen] at *
    generalize argBest (fun i j => decide (xs.getD i 0 < xs.getD j 0)) (xs.length - 1) = q at *
    have e : xs.getD q 0 = m := by
      obtain ⟨j, hj, ej⟩ := List.getElem_of_mem hm
      have h1 := hbest j (by omega)
      have h2 := hmin (xs.getD q 0) (by rw [List.getD_eq_getElem?_getD, List.getElem?_eq_getElem (by omega)]; exact List.getElem_mem _)
      rw [show xs.getD j 0 = m by rw [List.getD_eq_getElem?_getD, List.getElem?_eq_getElem hj]; exact ej] at h1
      have h1' : ¬ m < xs.getD q 0 := by simpa using h1
      omega
    have e' : xs.getD q 0 = m := e
    show Q _ _
    rw [e']
    refine k _ _ (.of_keep fun b o eb => hk b o ?_ (push_keep _ _ eb)) rep_int
    simp; exact Nat.ne_of_lt (get_lt eb)
theorem Calls.max2 {a b : Int} : Calls c n (.builtin "max") [.int a, .int b] (.int (max a b)) := by
  intro A hA V s vals Q E G r k
  obtain ⟨v, w, rfl, hv, hw⟩ := r.two
  obtain ⟨t, rfl⟩ := of_int hv
  obtain ⟨u, rfl⟩ := of_int hw
  refine call_max_two ?_
  have ho : (s.heap.push { cls := .type "tuple", data := .seq #[.int a t, .int b u] }).get? s.heap.objs.size = some (seqObj "tuple" [.int a t, .int b u] 0) := Heap.get?_push_size _ rfl
  generalize hs : (s.heap.push { cls := .type "tuple", data := .seq #[.int a t, .int b u] }) = H at ho
  have hsz : H.objs.size = s.heap.objs.size + 1 := by rw [← hs, Heap.size_push]
  have hkeep : ∀ b o, s.heap.get? b = some o → H.get? b = some o := fun b o e => by rw [← hs]; exact push_keep _ _ e
  have hr : RepL [] H ([a, b].map .int) [.int a t, .int b u] := .cons rep_int (.cons rep_int .nil)
  refine wpAny_pyIter_tuple (isTuple_of ho) ?_
  refine ⟨H.objs.size, [H.objs.size, s.heap.objs.size], [H.objs.size], 2, fun i v => [Value.int a t, Value.int b u].toArray[i]? = some v, fun i h => h.IsTupleIter H.objs.size s.heap.objs.size i ∧ h.IsTuple s.heap.objs.size [Value.int a t, Value.int b u].toArray, _, rfl, Walks.tuple (A := A.in1) hA.1 _ s.heap.objs.size (by rw [hsz]; exact Nat.ne_of_lt (Nat.lt_succ_self _)) [Value.int a t, Value.int b u].toArray, ⟨⟨_, Heap.get?_push_size _ rfl, rfl, rfl⟩, isTuple_of (push_keep _ _ ho)⟩, ?_, by decide, CmpOf.ints_gt (fun i => [a, b].getD i 0) (rep_valI hr), ?_⟩
  · intro b hb
    show b < (Heap.push _ _).objs.size
    rw [Heap.size_push]
    rcases List.mem_cons.mp hb with rfl | hb
    · exact Nat.lt_succ_self _
    · rw [List.mem_singleton.mp hb, hsz]; exact Nat.lt_succ_of_lt (Nat.lt_succ_self _)
  · intro v h' tk hP hk
    obtain ⟨t', rfl⟩ := rep_valI hr _ v hP
    have e : [a, b].getD (argBest (fun i j => decide ([a, b].getD i 0 > [a, b].getD j 0)) (2 - 1)) 0 = max a b := by
      show [a, b].getD (if decide (b > a) = true then 1 else 0) 0 = _
      by_cases h : b > a
      · simp [h]; omega
      · simp [h]; omega
    rw [e]
    refine k _ _ (.of_keep fun b o eb => hk b o ?_ (push_keep _ _ (hkeep _ _ eb))) rep_int
    simp; rw [hsz]; exact Nat.ne_of_lt (Nat.lt_succ_of_lt (get_lt eb))
end
end

section
open PySem PySem.W PySem.Spec PySem.Calls PyProof.Rows PySem.SeqAt
set_option linter.unusedVariables false
set_option maxRecDepth 100000
set_option maxHeartbeats 400000
open PySem.Builtin PySem.Builtin.Str in
theorem occ_full (s sub : PySem.Str) (hi : Nat) : ∀ (l : List Nat) (a : Array Nat) (f : Nat), 1 ≤ a.size → (forIn l (a, f) (StrLaws.occBody s sub hi 1)).run.fst = a
  | [], _, _, _ => rfl
  | b :: l, a, f, h => by
    rw [List.forIn_cons]
    unfold StrLaws.occBody
    rw [if_neg (fun hc => by have := hc.1.1.1; simp at this; subst this; simp at h)]
    exact occ_full s sub hi l a f h
open PySem.Builtin PySem.Builtin.Str in
theorem occ_first (s sub : PySem.Str) (hi i : Nat) (hit : i + sub.length ≤ hi ∧ subAt s sub i = true) : ∀ (k a f : Nat), f ≤ a → a ≤ i → i < a + k → (∀ j, a ≤ j → j < i → ¬ (j + sub.length ≤ hi ∧ subAt s sub j = true)) →
    (forIn (List.range' a k) ((#[] : Array Nat), f) (StrLaws.occBody s sub hi 1)).run.fst = #[i]
  | 0, a, f, _, h1, h2, _ => by omega
  | k + 1, a, f, hf, h1, h2, hno => by
    rw [List.range'_succ, List.forIn_cons]
    unfold StrLaws.occBody
    by_cases e : a = i
    · subst e
      rw [if_pos ⟨⟨⟨by simp, hf⟩, hit.1⟩, hit.2⟩]
      exact occ_full s sub hi _ _ _ (by simp)
    · rw [if_neg (fun hc => hno a (Nat.le_refl _) (by omega) ⟨hc.1.2, hc.2⟩)]
      exact occ_first s sub hi i hit k (a + 1) f (by omega) (by omega) (by omega) (fun j hj hji => hno j (by omega) hji)
/-- y stands in x at i and not before -/
def FirstAt (x y : List Nat) (i : Nat) : Prop := (i + y.length ≤ x.length ∧ (x.drop i).take y.length = y) ∧ ∀ j, j < i → ¬ (j + y.length ≤ x.length ∧ (x.drop j).take y.length = y)
theorem occ_at {x y : List Nat} {i : Nat} (h : FirstAt x y i) : PySem.Builtin.Str.occurrences ⟨x.toArray⟩ ⟨y.toArray⟩ 0 (⟨x.toArray⟩ : PySem.Str).length 1 = [i] := by
  have e : ∀ j, (j + (⟨y.toArray⟩ : PySem.Str).length ≤ (⟨x.toArray⟩ : PySem.Str).length ∧ PySem.Builtin.Str.subAt ⟨x.toArray⟩ ⟨y.toArray⟩ j = true) ↔ (j + y.length ≤ x.length ∧ (x.drop j).take y.length = y) := fun j => by
    rw [StrLaws.subAt_eq]; simp [PySem.Str.length]
  have hlen : (⟨x.toArray⟩ : PySem.Str).length = x.length := by simp [PySem.Str.length]
  rw [StrLaws.occ_eq, occ_first _ _ _ i ((e i).mpr h.1) _ 0 0 (Nat.le_refl _) (Nat.zero_le _) (by have := h.1.1; rw [hlen]; omega) (fun j _ hj hc => h.2 j hj ((e j).mp hc))]

section
variable {c : Cx} {n : Nat} {env : Env} {V : List Addr} {Γ : List (PySem.Str × PV)}
/-- what a method's receiver is -/
def Recv (T : String) (p : PV) : Prop := ∀ V s v, Rep V s.heap p v → PySem.Shared.TypeIs s v T ∧ ∀ a, v = .ref a → ∃ ob, s.heap.get? a = some ob ∧ ob.dict = none
theorem Recv.str {x} : Recv "str" (.str x) := fun V s v r => by
  obtain ⟨t, rfl⟩ := of_str r
  exact ⟨typeIs_str _ _ _, fun a e => by cases e⟩
theorem Recv.list {x} : Recv "list" (.list x) := fun V s v r => by
  obtain ⟨a, vs, n, rfl, ha, ho, hr⟩ := of_list r
  exact ⟨⟨_, ho, rfl⟩, fun b e => by injection e with e; subst e; exact ⟨_, ho, rfl⟩⟩
theorem Ev.meth {o e : Expr} {name : PySem.Str} {apos pos : Pos} {T id : String} {po pe p : PV} (ho : Ev c n env V Γ o po) (he : Ev c n env V Γ e pe) (hcall : Calls c n (.builtin id) [po, pe] p) (hrecv : Recv T po)
    (pa : PlainAttrs T) (slot : Slot T name id) (hty : typeOf (.builtin id) = pure (.type "method_descriptor"))
    (hbase : attributeBase o name env (eval o env) = eval o env := by rfl) (hline : (apos.endLine == pos.line) = true := by rfl) (hp : plainE e = true := by rfl) :
    Ev c n env V Γ (.Call (.Attribute o name apos) [e] [] pos) p := by
  intro A hA s Q E F k
  have hst : starEach [e] env = [(false, eval e env)] := by rw [starEach_plain hp]; rfl
  refine Call_method1 hbase hst hline (ho.bind hA F fun ov s₁ st₁ F₁ r₁ => ?_)
  obtain ⟨h1, h2⟩ := hrecv V s₁ ov r₁
  refine ⟨T, id, pa, slot, hty, h1, h2, ?_⟩
  refine PySem.Calls.callWith_builtin rfl ?_
  refine evalArgs_plain ?_
  refine Calls.spliced_cons (he.bind hA F₁ fun v s₂ st₂ F₂ r₂ => Calls.spliced_nil ?_)
  exact hcall A hA V s₂ [ov, v] Q E F₂.toGS (.cons (r₁.step st₂ (w59 F.v59)) (.cons r₂ .nil)) fun x s' st r => k x s' (st₁.trans (st₂.trans st)) r

theorem Calls.indexS {x y : List Nat} {i : Nat} (h : FirstAt x y i) : Calls c n (.builtin "str.index") [.str x, .str y] (.int i) := by
  intro A _ V s vals Q E G r k
  obtain ⟨v, w, rfl, hv, hw⟩ := r.two
  obtain ⟨t, rfl⟩ := of_str hv; obtain ⟨u, rfl⟩ := of_str hw
  exact call_gives PySem.F.slot_str_index (typeIs_str _ _ _) PySem.F.entry_str_index (PySem.F.args_str_index_2 _ _) (gives_str_index _ _ t u i [] (occ_at h)) (k _ _ (.of_keep fun _ _ e => e) rep_int)
theorem Ev.indexS {o e : Expr} {apos pos : Pos} {x y : List Nat} {i : Nat} (ho : Ev c n env V Γ o (.str x)) (he : Ev c n env V Γ e (.str y)) (h : FirstAt x y i)
    (hbase : attributeBase o (Str.ofString "index") env (eval o env) = eval o env := by rfl) (hline : (apos.endLine == pos.line) = true := by rfl) (hp : plainE e = true := by rfl) :
    Ev c n env V Γ (.Call (.Attribute o (Str.ofString "index") apos) [e] [] pos) (.int i) :=
  Ev.meth ho he (Calls.indexS h) Recv.str PySem.F.plainAttrs_str PySem.F.slot_str_index PySem.F.type_str_index hbase hline hp

theorem RepL.ints {V : List Addr} {h : Heap} : ∀ {xs : List Int} {vs : List Value}, RepL V h (xs.map .int) vs → IntsAre vs xs
  | [], _, r => by rw [List.map_nil, RepL] at r; subst r; exact .nil
  | x :: xs, _, r => by
    rw [List.map_cons, RepL] at r
    obtain ⟨v, r', rfl, h1, h2⟩ := r
    obtain ⟨t, rfl⟩ := of_int h1
    exact .cons x t (RepL.ints h2)
theorem RepL.strs {V : List Addr} {h : Heap} : ∀ {xs : List (List Nat)} {vs : List Value}, RepL V h (xs.map .str) vs → StrsAre vs (xs.map fun x => ⟨x.toArray⟩)
  | [], _, r => by rw [List.map_nil, RepL] at r; subst r; exact .nil
  | x :: xs, _, r => by
    rw [List.map_cons, RepL] at r
    obtain ⟨v, r', rfl, h1, h2⟩ := r
    obtain ⟨t, rfl⟩ := of_str h1
    exact .cons _ t (RepL.strs h2)
theorem RepL.readsI {V : List Addr} {h : Heap} : ∀ {xs : List Int} {vs : List Value}, RepL V h (xs.map .int) vs → ReadsAll h vs (xs.map .int) []
  | [], _, r => by rw [List.map_nil, RepL] at r; subst r; exact .nil
  | x :: xs, _, r => by
    rw [List.map_cons, RepL] at r
    obtain ⟨v, r', rfl, h1, h2⟩ := r
    obtain ⟨t, rfl⟩ := of_int h1
    exact .cons (.int x t) (RepL.readsI h2)

theorem isIdx {α : Type} [BEq α] [LawfulBEq α] {xs : List α} {k : α} (h : k ∈ xs) : xs.idxOf k < xs.length := List.idxOf_lt_length_iff.mpr h
theorem Calls.indexI {xs : List Int} {k : Int} (hk : k ∈ xs) (hl : xs.length < 1000000) : Calls c n (.builtin "list.index") [.list (xs.map .int), .int k] (.int (xs.idxOf k : Nat)) := by
  intro A _ V s vals Q E G r kk
  obtain ⟨v, w, rfl, hv, hw⟩ := r.two
  obtain ⟨a, vs, m, rfl, ha, ho, hr⟩ := of_list hv; obtain ⟨u, rfl⟩ := of_int hw
  have hlen : vs.length = xs.length := by rw [hr.length, List.length_map]
  have hj := isIdx hk
  have hi := RepL.ints hr
  refine call_meets PySem.F.slot_list_index ⟨_, ho, rfl⟩ PySem.F.entry_list_index (PySem.F.args_list_index_2 _ _)
    (list_indexAt a vs.toArray m none #[] (.int k u) (isInt k) (xs.idxOf k) (by simpa [hlen] using hj) (by omega) ?_ ?_) ⟨ho, fun y hy => (eq_isInt k u hi y (by simpa using hy)).at _ _, kk _ _ (.of_keep fun _ _ e => e) rep_int⟩
  · show isInt k vs[xs.idxOf k] = true
    rw [isInt_at k hi _ (by omega) hj]
    simpa using List.getElem_idxOf hj
  · intro j hjs hlt
    show isInt k vs[j] = false
    rw [isInt_at k hi j (by simpa using hjs) (by omega)]
    have := List.not_of_lt_findIdx (p := (· == k)) (xs := xs) (i := j) (by simpa [List.idxOf] using hlt)
    simpa using this
theorem Ev.indexI {o e : Expr} {apos pos : Pos} {xs : List Int} {k : Int} (ho : Ev c n env V Γ o (.list (xs.map .int))) (he : Ev c n env V Γ e (.int k)) (h : k ∈ xs) (hl : xs.length < 1000000)
    (hbase : attributeBase o (Str.ofString "index") env (eval o env) = eval o env := by rfl) (hline : (apos.endLine == pos.line) = true := by rfl) (hp : plainE e = true := by rfl) :
    Ev c n env V Γ (.Call (.Attribute o (Str.ofString "index") apos) [e] [] pos) (.int (xs.idxOf k : Nat)) :=
  Ev.meth ho he (Calls.indexI h hl) Recv.list PySem.F.plainAttrs_list PySem.F.slot_list_index PySem.F.type_list_index hbase hline hp

/-- strings put in a row -/
def joinF (sep : List Nat) : List (List Nat) → List Nat
  | [] => []
  | [x] => x
  | x :: y :: r => x ++ sep ++ joinF sep (y :: r)
theorem join_eq' (sep : List Nat) : ∀ xs : List (List Nat), Str.join ⟨sep.toArray⟩ (xs.map fun x => ⟨x.toArray⟩) = ⟨(joinF sep xs).toArray⟩
  | [] => rfl
  | [x] => rfl
  | x :: y :: r => by
    have ih := join_eq' sep (y :: r)
    show ((⟨x.toArray⟩ : PySem.Str) ++ ⟨sep.toArray⟩) ++ Str.join ⟨sep.toArray⟩ ((y :: r).map fun x => ⟨x.toArray⟩) = _
    rw [ih, str_append, str_append]; rfl
theorem join_eq (sep : List Nat) (xs : List (List Nat)) : Txt.join ⟨sep.toArray⟩ (xs.map fun x => ⟨x.toArray⟩) = ⟨(joinF sep xs).toArray⟩ := by
  unfold Txt.join
  rw [StrLaws.glued_eq_join, join_eq']
theorem Calls.join {sep : List Nat} {xs : List (List Nat)} (hok : (xs.map (·.length)).sum + xs.length * sep.length ≤ 16777216) : Calls c n (.builtin "str.join") [.str sep, .list (xs.map .str)] (.str (joinF sep xs)) := by
  intro A _ V s vals Q E G r k
  obtain ⟨v, w, rfl, hv, hw⟩ := r.two
  obtain ⟨t, rfl⟩ := of_str hv; obtain ⟨a, vs, m, rfl, ha, ho, hr⟩ := of_list hw
  refine join_list (isList_of ho) (by simpa using RepL.strs hr) (by simpa [PySem.Str.length, Function.comp_def] using hok) fun t' k' => ?_
  rw [join_eq]
  exact k _ _ (.of_keep fun _ _ e => e) rep_str
theorem Ev.join {o e : Expr} {apos pos : Pos} {sep : List Nat} {xs : List (List Nat)} (ho : Ev c n env V Γ o (.str sep)) (he : Ev c n env V Γ e (.list (xs.map .str))) (hok : (xs.map (·.length)).sum + xs.length * sep.length ≤ 16777216)
    (hbase : attributeBase o (Str.ofString "join") env (eval o env) = eval o env := by rfl) (hline : (apos.endLine == pos.line) = true := by rfl) (hp : plainE e = true := by rfl) :
    Ev c n env V Γ (.Call (.Attribute o (Str.ofString "join") apos) [e] [] pos) (.str (joinF sep xs)) :=
  Ev.meth ho he (Calls.join hok) Recv.str PySem.F.plainAttrs_str PySem.F.slot_str_join PySem.F.type_str_join hbase hline hp

theorem Calls.intDec {k : Nat} (hk : k < 10 ^ 10) : Calls c n (.type "int") [.str (dec k)] (.int k) := by
  intro A _ V s vals Q E G r kk
  obtain ⟨v, rfl, hv⟩ := r.one
  obtain ⟨t, rfl⟩ := of_str hv
  rw [← dec_str]
  exact PySem.W.KIN.call_num (by omega) (by omega) (kk _ _ (.of_keep fun _ _ e => e) rep_int)

/-- signs that repr leaves as they are -/
def plainC (c : Nat) : Bool := c == 32 || c == 33 || c == 45 || c == 66 || c == 97 || c == 98
theorem plain_char {c : Nat} (h : plainC c = true) : PySem.Builtin.Str.reprChar 39 c = [c] := by
  unfold plainC at h
  simp only [Bool.or_eq_true, beq_iff_eq] at h
  rcases h with ((((rfl | rfl) | rfl) | rfl) | rfl) | rfl <;> decide +kernel
theorem repr_plain (x : List Nat) (h : ∀ c ∈ x, plainC c = true) : reprText ⟨x.toArray⟩ = ⟨(39 :: (x ++ [39])).toArray⟩ := by
  have hq : reprQuote ⟨x.toArray⟩ = 39 := by
    unfold reprQuote
    rw [if_neg]
    simp
    intro h39
    exact absurd (h 39 h39) (by decide)
  have key : ∀ (l : List Nat) (acc : Array Nat), (∀ c ∈ l, plainC c = true) → l.foldl (fun out c => out ++ (PySem.Builtin.Str.reprChar 39 c).toArray) acc = acc ++ l.toArray := by
    intro l
    induction l with
    | nil => intro acc _; simp
    | cons a l ih =>
      intro acc hl
      rw [List.foldl_cons, ih _ (fun c hc => hl c (.tail _ hc)), plain_char (hl a (.head _))]
      simp
  unfold reprText
  rw [hq]
  rw [← Array.foldl_toList]
  rw [key _ _ (by simpa using h)]
  simp
theorem Calls.reprS {x : List Nat} (h : ∀ c ∈ x, plainC c = true) (hl : x.length ≤ 1000000) : Calls c n (.builtin "repr") [.str x] (.str (39 :: (x ++ [39]))) := by
  intro A _ V s vals Q E G r k
  obtain ⟨v, rfl, hv⟩ := r.one
  obtain ⟨t, rfl⟩ := of_str hv
  refine PySem.P.repr_of_str ?_ ?_
  · rw [repr_plain x h]
    exact k _ _ (.of_keep fun _ _ e => e) rep_str
  · rw [repr_plain x h]; simp [PySem.Str.length]; unfold sizeLine; omega
/-- the text of a list of counts -/
def listF (xs : List Nat) : List Nat := 91 :: (joinF [44, 32] (xs.map dec) ++ [93])
theorem text_from : ∀ (xs : List Nat) (k : Nat) (acc : List Nat), textFrom k ⟨acc.toArray⟩ (xs.map fun x => ⟨(dec x).toArray⟩) = ⟨(acc ++ (if xs = [] then [] else if k > 0 then [44, 32] ++ joinF [44, 32] (xs.map dec) else joinF [44, 32] (xs.map dec))).toArray⟩
  | [], k, acc => by simp [textFrom]
  | x :: xs, k, acc => by
    have hs : (Str.ofString (if k > 0 then ", " else "") : PySem.Str) = ⟨(if k > 0 then [44, 32] else []).toArray⟩ := by
      by_cases h : k > 0
      · rw [if_pos h, if_pos h]; decide +kernel
      · rw [if_neg h, if_neg h]; decide +kernel
    rw [List.map_cons, textFrom]
    show textFrom (k + 1) (((⟨acc.toArray⟩ : PySem.Str) ++ Str.ofString (if k > 0 then ", " else "")) ++ ⟨(dec x).toArray⟩) _ = _
    rw [hs, str_append, str_append, text_from xs (k + 1)]
    congr 2
    cases xs with
    | nil => by_cases h : k > 0 <;> simp [h, joinF]
    | cons y r => by_cases h : k > 0 <;> simp [h, joinF]
theorem shown_ints : ∀ xs : List Nat, PyData.shownAll ((xs.map fun x : Nat => (x : Int)).map .int) = xs.map fun x => ⟨(dec x).toArray⟩
  | [] => rfl
  | x :: xs => by
    rw [List.map_cons, List.map_cons, PyData.shownAll, shown_ints xs, List.map_cons, PyData.shown]
    congr 1
theorem showable_ints : ∀ xs : List Nat, (∀ x ∈ xs, x < 10 ^ 10) → PyData.showableAll ((xs.map fun x : Nat => (x : Int)).map .int) = true
  | [], _ => rfl
  | x :: xs, hx => by
    rw [List.map_cons, List.map_cons, PyData.showableAll, showable_ints xs (fun y hy => hx y (.tail _ hy))]
    have := shown_nat x (hx x (.head _))
    simp [PyData.showable]
    simpa using this
theorem nodict_ints : ∀ xs : List Nat, PyData.hasDictAll ((xs.map fun x : Nat => (x : Int)).map .int) = false
  | [] => rfl
  | x :: xs => by rw [List.map_cons, List.map_cons, PyData.hasDictAll, nodict_ints xs]; rfl
theorem depth_ints : ∀ xs : List Nat, PyData.depthAll ((xs.map fun x : Nat => (x : Int)).map .int) = 0
  | [] => rfl
  | x :: xs => by rw [List.map_cons, List.map_cons, PyData.depthAll, depth_ints xs]; rfl
theorem Calls.reprL {xs : List Nat} (hx : ∀ x ∈ xs, x < 10 ^ 10) (hl : (listF xs).length ≤ 1000000) (hn : 0 < n) : Calls c n (.builtin "repr") [.list (xs.map fun x : Nat => .int (x : Int))] (.str (listF xs)) := by
  intro A hA V s vals Q E G r k
  obtain ⟨v, rfl, hv⟩ := r.one
  obtain ⟨a, vs, m, rfl, ha, ho, hr⟩ := of_list hv
  have e0 : (xs.map fun x : Nat => PV.int (x : Int)) = (xs.map fun x : Nat => (x : Int)).map PV.int := by simp
  rw [e0] at hr
  have rd : Reads s.heap (.ref a) (.list ((xs.map fun x : Nat => (x : Int)).map .int)) [a] := .list ho rfl rfl (by simpa using RepL.readsI hr)
  have hshow : PyData.shown (.list ((xs.map fun x : Nat => (x : Int)).map .int)) = ⟨(listF xs).toArray⟩ := by
    rw [PyData.shown, shown_ints]
    unfold listText
    have e1 : (Str.ofString "[" : PySem.Str) = ⟨[91].toArray⟩ := by decide +kernel
    have e2 : (Str.ofString "]" : PySem.Str) = ⟨[93].toArray⟩ := by decide +kernel
    show textFrom 0 (Str.ofString "[") _ ++ Str.ofString "]" = _
    rw [e1, e2, text_from, str_append]
    unfold listF
    cases xs <;> simp [joinF]
  refine repr_of_reads' rd (showable_ints xs hx) (PyData.noDict_hsm (nodict_ints xs)) (hA.2 hn).2.2 ?_ (fun _ _ e => e) (fun h' u tk hk => ?_) (by rw [hshow]; simp only [PySem.Str.length, List.size_toArray]; unfold sizeLine; omega)
  · have := (hA.2 hn).2.1
    have hd : PyData.depth (.list ((xs.map fun x : Nat => (x : Int)).map .int)) = 1 := by
      show PyData.depthAll _ + 1 = 1
      rw [depth_ints]
    rw [hd]; omega
  · rw [hshow]
    exact k _ _ (.of_keep hk) rep_str
end
end

section
open PySem PySem.W PySem.Spec PySem.Calls PyProof.Rows PySem.SeqAt
set_option linter.unusedVariables false
set_option maxRecDepth 100000
set_option maxHeartbeats 400000

theorem turn_new {c : Cx} {V : List Addr} {s s' : Shared} {a : Addr} {o o' : Obj} {h' : Heap} (st : Step [56] s s') (G' : GS c V s') (hf : s.heap.get? a = none) (hg : ¬ GIdom c a) (hs : Heap.SameBut a s'.heap h') (e : s'.heap.get? a = some o) (hd : ∀ vs, o.data ≠ .fields vs) (e' : h'.get? a = some o') :
    Step [56] s { s' with heap := h' } ∧ GS c V { s' with heap := h' } := by
  have G2 := G'.turn (tk := s'.toks) hs e hd e' hg
  refine ⟨⟨fun b ob hb eb => (hs.2 b (fun q => by rw [q, hf] at eb; cases eb)).trans (st.keep b ob hb eb), fun t => (st.tab t).sameBut hs e hd, st.bare, st.drawn, st.os⟩, G2⟩
theorem push_new {c : Cx} {V : List Addr} {s s' : Shared} {o : Obj} (st : Step [56] s s') (G' : GS c V s') : Step [56] s { s' with heap := s'.heap.push o } ∧ GS c V { s' with heap := s'.heap.push o } := by
  have q : Step [56] s' { s' with heap := s'.heap.push o } := .of_keep push_keep
  exact ⟨st.trans q, G'.step q⟩

/-- pairs of a key and the same text -/
inductive Twin : List (Value × Value) → List (List Nat) → Prop
  | nil : Twin [] []
  | cons {p : Value × Value} {x : List Nat} {ps ss} : (∃ t u, p = (Value.str ⟨x.toArray⟩ t, Value.str ⟨x.toArray⟩ u)) → Twin ps ss → Twin (p :: ps) (x :: ss)
theorem twin_zip {V : List Addr} {h : Heap} : ∀ {xs : List (List Nat)} {ks vs : List Value}, RepL V h (xs.map .str) ks → RepL V h (xs.map .str) vs → Twin (ks.zip vs) xs
  | [], _, _, r, r' => by rw [List.map_nil, RepL] at r r'; subst r r'; exact .nil
  | x :: xs, _, _, r, r' => by
    rw [List.map_cons, RepL] at r r'
    obtain ⟨k, ks, rfl, a1, a2⟩ := r
    obtain ⟨v, vs, rfl, b1, b2⟩ := r'
    obtain ⟨t, rfl⟩ := of_str a1
    obtain ⟨u, rfl⟩ := of_str b1
    exact .cons ⟨t, u, rfl⟩ (twin_zip a2 b2)
theorem twin_mem {ps : List (Value × Value)} {ss : List (List Nat)} (h : Twin ps ss) : ∀ p ∈ ps, ∃ (x : List Nat) (t u : Tok), x ∈ ss ∧ p = (Value.str ⟨x.toArray⟩ t, Value.str ⟨x.toArray⟩ u) := by
  induction h with
  | nil => intro p hp; cases hp
  | cons h1 _ ih =>
    intro p hp
    rcases List.mem_cons.mp hp with rfl | hp
    · obtain ⟨t, u, e⟩ := h1; exact ⟨_, t, u, .head _, e⟩
    · obtain ⟨x, t, u, hx, e⟩ := ih p hp; exact ⟨x, t, u, .tail _ hx, e⟩
theorem twin_keys {ps : List (Value × Value)} {ss : List (List Nat)} (h : Twin ps ss) : ps.map (fun p => (strOf p.1).cps.toList) = ss := by
  induction h with
  | nil => rfl
  | cons h1 _ ih => obtain ⟨t, u, rfl⟩ := h1; rw [List.map_cons, ih]; rfl
/-- what a sort by key leaves -/
theorem twin_out {V : List Addr} {h : Heap} {arr : Array Keyed} {ps : List (Value × Value)} {xs ys : List (List Nat)} (ht : Twin ps xs) (hp : arr.toList.Perm ps) (hs : SortedToK strKind arr arr.size) (hy : ys.Perm xs) (hys : ys.Pairwise (fun a b => ¬ b < a)) :
    RepL V h (ys.map .str) (arr.map (·.2)).toList := by
  have hm : ∀ p ∈ arr.toList, ∃ (x : List Nat) (t u : Tok), p = (Value.str ⟨x.toArray⟩ t, Value.str ⟨x.toArray⟩ u) := fun p hp' => by
    obtain ⟨x, t, u, _, e⟩ := twin_mem ht p (hp.mem_iff.mp hp')
    exact ⟨x, t, u, e⟩
  have e : arr.toList.map (fun p => (strOf p.1).cps.toList) = ys := by
    refine List.Perm.eq_of_pairwise (le := fun a b => ¬ b < a) (fun a b _ _ h1 h2 => lt_anti h2 h1) ?_ hys ?_
    · rw [List.pairwise_iff_getElem]
      intro i j hi hj hij
      have hi' : i < arr.size := by simpa using hi
      have hj' : j < arr.size := by simpa using hj
      have h1 := hs i j (Nat.le_of_lt hij) hj'
      obtain ⟨x, t, u, ex⟩ := hm arr[i] (by simp)
      obtain ⟨y, t', u', ey⟩ := hm arr[j] (by simp)
      rw [KK_str hi' (x := ⟨x.toArray⟩) (t := t) (q := arr[i].2) (by rw [ex]), KK_str hj' (x := ⟨y.toArray⟩) (t := t') (q := arr[j].2) (by rw [ey])] at h1
      change decide (y.toArray.toList < x.toArray.toList) = false at h1
      simp only [List.getElem_map, Array.getElem_toList]
      rw [ex, ey]
      simpa [strOf] using h1
    · exact ((hp.map _).trans (by rw [twin_keys ht])).trans hy.symm
  rw [← e, Array.toList_map, List.map_map]
  clear e hp hs
  revert hm
  generalize arr.toList = l
  intro hm
  induction l with
  | nil => exact RepL.nil
  | cons p l ih =>
    obtain ⟨x, t, u, rfl⟩ := hm p (.head _)
    exact .cons rep_str (ih fun q hq => hm q (.tail _ hq))

section
variable {c : Cx} {n : Nat}
theorem keysofs {arr : Array Keyed} {ps : List (Value × Value)} {xs : List (List Nat)} (ht : Twin ps xs) (e : arr.toList = ps) : KeysOf strKind arr := by
  intro p hp
  rw [e] at hp
  obtain ⟨x, t, u, _, rfl⟩ := twin_mem ht p hp
  exact ⟨x, by simp⟩

set_option maxHeartbeats 8000000 in
theorem sortKeyed {f : Value} {xs ys : List (List Nat)} (hf : ∀ x, Calls c 1 f [.str x] (.str x)) (hy : ys.Perm xs) (hys : ys.Pairwise (fun a b => ¬ b < a)) (h64 : xs.length < 64) {A : Around} (hA : Room A n) (hn : 2 ≤ n) {V : List Addr} {s : Shared} {l : Addr} {vs : List Value} {m : Nat} {Q : Value → Shared → Prop} {E : Value → Shared → Prop}
    (ht : ∀ x, Builtin.«list.sort» ⟨[.ref x], [(Str.ofString "key", f)]⟩ = ksk_tree x f false)
    (G : GS c V s) (hl : s.heap.get? l = some (seqObj "list" vs m)) (hr : RepL V s.heap (xs.map .str) vs) (k : ∀ x s', Step [56] s s' → Rep V s'.heap (.list (ys.map .str)) x → Q x s') :
    wpAny c.M A (PySem.call (.builtin "sorted") [.ref l] [(Str.ofString "key", f)]) Q E s := by
  have hlen : vs.length = xs.length := by rw [hr.length, List.length_map]
  have hAr : Room A.in1.in1 1 := ⟨hA.1, fun _ => by
    obtain ⟨a, b, g⟩ := hA.2 (by omega)
    exact ⟨by show A.depth + 1 < _; omega, by show A.units + 1 + 1 + 20 * 1 < _; omega, g⟩⟩
  refine call_function_entry_kw kind_sorted plain_sorted entry_sorted (ksk_s1 _ _) ?_
  unfold Builtin.«sorted»
  refine wpAny_bind (m := checkCount "sorted" 1 1 _) (wpAny_pure ?_)
  refine wpAny_bind (collect_list (isList_of hl) ?_ (by rw [sizeLine_eq]; omega))
  refine wpAny_bind (wpAny_newList ?_ (by rw [sizeLine_eq]; omega))
  -- the list that is to be sorted
  have hI := push_fresh (h := s.heap)
  obtain ⟨st1, G1⟩ := push_new (o := PyProof.Rows.seqObj "list" #[] 0) (Step.refl (W := [56]) (s := s)) G
  have hs1 := Heap.SameBut.update (s.heap.push (PyProof.Rows.seqObj "list" #[] 0)) s.heap.objs.size (Obj.mapSeq (· ++ vs.toArray))
  have e1 : (s.heap.push (PyProof.Rows.seqObj "list" #[] 0)).get? s.heap.objs.size = some (PyProof.Rows.seqObj "list" #[] 0) := Heap.get?_push_size _ rfl
  have e1' := get?_update_seq e1 (· ++ vs.toArray)
  obtain ⟨st2, G2⟩ := turn_new st1 G1 hI (G.gi.fresh hI) hs1 e1 (by simp) e1'
  obtain ⟨st3, G3⟩ := push_new (o := PyProof.Rows.seqObj "list" vs.toArray 0) st2 G2
  have hsz : ((s.heap.push (PyProof.Rows.seqObj "list" #[] 0)).update s.heap.objs.size (Obj.mapSeq (· ++ vs.toArray))).objs.size = s.heap.objs.size + 1 := by
    rw [Heap.size_update, Heap.size_push]
  have ho : (((s.heap.push (PyProof.Rows.seqObj "list" #[] 0)).update s.heap.objs.size (Obj.mapSeq (· ++ vs.toArray))).push (PyProof.Rows.seqObj "list" vs.toArray 0)).get? (s.heap.objs.size + 1) = some (PyProof.Rows.seqObj "list" vs.toArray 0) := by
    rw [← hsz]; exact Heap.get?_push_size _ rfl
  show wpAny _ _ _ _ _ { s with heap := ((s.heap.push (PyProof.Rows.seqObj "list" #[] 0)).update s.heap.objs.size (Obj.mapSeq (· ++ vs.toArray))).push (PyProof.Rows.seqObj "list" vs.toArray 0) }
  rw [hsz]
  have hfa : s.heap.get? (s.heap.objs.size + 1) = none := by
    cases e : s.heap.get? (s.heap.objs.size + 1) with
    | none => rfl
    | some o => exact absurd (get_lt e) (Nat.not_lt.mpr (Nat.le_succ _))
  generalize (((s.heap.push (PyProof.Rows.seqObj "list" #[] 0)).update s.heap.objs.size (Obj.mapSeq (· ++ vs.toArray))).push (PyProof.Rows.seqObj "list" vs.toArray 0)) = H at st3 G3 ho ⊢
  generalize s.heap.objs.size + 1 = a at ho hfa ⊢
  have hga := G.gi.fresh hfa
  have haV := G.notIn hfa
  refine wpAny_bind (wpAny_holding (wpAny_call_entry_kw slot_list_sort ⟨_, ho, rfl⟩ entry_list_sort ?body (ksk_l1 _ _)))
  case body =>
    show wpAny c.M A.in1.in1 (Builtin.«list.sort» ⟨[.ref a], [(Str.ofString "key", f)]⟩) _ _ _
    rw [ht]
    unfold ksk_tree
    refine wpAny_bind (listItems_at ho rfl ?_)
    refine wpAny_bind (listUpdate_at ho rfl ?_ (by rw [List.size_toArray, sizeLine_eq]; omega) (Nat.zero_le _))
    have hs4 := Heap.SameBut.update H a (Obj.mapSeq fun _ => (#[] : Array Value))
    obtain ⟨c1, e4⟩ : ∃ c1, (H.update a (Obj.mapSeq fun _ => (#[] : Array Value))).get? a = some (PyProof.Rows.seqObj "list" #[] c1) := ⟨_, get?_update_seq ho fun _ => #[]⟩
    obtain ⟨st4, G4⟩ := turn_new st3 G3 hfa hga hs4 ho (by simp) e4
    refine wpAny_bind (seqEpoch_at e4 rfl ?_)
    refine wpAny_bind (wpAny_newTuple ?_ (by show vs.length ≤ _; rw [sizeLine_eq]; omega))
    obtain ⟨st5, G5⟩ := push_new (o := { cls := .type "tuple", data := .seq vs.toArray }) st4 G4
    have e5 : ((H.update a (Obj.mapSeq fun _ => (#[] : Array Value))).push { cls := .type "tuple", data := .seq vs.toArray }).get? a = _ := push_keep _ _ e4
    refine wpAny_bind (wpAny_newList ?_ (Nat.zero_le _))
    generalize hH5 : ((H.update a (Obj.mapSeq fun _ => (#[] : Array Value))).push { cls := .type "tuple", data := .seq vs.toArray }) = H5 at st5 G5 e5
    obtain ⟨st6, G6⟩ := push_new (o := { cls := .type "list", data := .seq ([] : List Value).toArray }) st5 G5
    have hfK := push_fresh (h := H5)
    have hfKs : s.heap.get? H5.objs.size = none := fresh_since G5 st5 hfK
    have hgK := G.gi.fresh hfKs
    have e6 := push_keep (o := { cls := .type "list", data := .seq ([] : List Value).toArray }) _ _ e5
    have eK : (H5.push { cls := .type "list", data := .seq ([] : List Value).toArray }).get? H5.objs.size = some (PyProof.Rows.seqObj "list" #[] 0) := Heap.get?_push_size _ rfl
    have hKa : H5.objs.size ≠ a := fun q => by rw [q] at hfK; rw [e5] at hfK; cases hfK
    show wpAny c.M A.in1.in1 (holding _ (ksk_rest a f false vs.toArray c1 (.ref H5.objs.size))) _ _ { s with heap := H5.push { cls := .type "list", data := .seq ([] : List Value).toArray } }
    refine wpAny_holding ?_
    generalize H5.push { cls := .type "list", data := .seq ([] : List Value).toArray } = H6 at st6 G6 e6 eK ⊢
    generalize H5.objs.size = K at hfKs hgK eK hKa ⊢
    unfold ksk_rest
    refine wpAny_bind (wpAny_rule ?_)
    first
      | rw [List.forIn_toArray]
      | (rw [← Array.forIn_toList]; simp only [List.toList_toArray])
    refine wpAny_bind (ksk_fold (fun i s' => Step [56] s s' ∧ GS c V s' ∧ s'.heap.get? a = some (PyProof.Rows.seqObj "list" #[] c1) ∧ ∃ ks e, s'.heap.get? K = some (PyProof.Rows.seqObj "list" ks e) ∧ RepL V s.heap ((xs.take i).map .str) ks.toList) vs 0 _
      ⟨st6, G6, e6, #[], 0, eK, by simp [RepL]⟩ ?step ?done)
    case step =>
      rintro j x s' hx ⟨stj, Gj, ea, ks, ce, ek, rk⟩
      simp only [Nat.zero_add] at rk ⊢
      have hj : j < xs.length := by
        have := (List.getElem?_eq_some_iff.mp hx).1; omega
      obtain ⟨v, hv, rv⟩ := hr.get j (.str xs[j]) (by simp [hj])
      rw [hx] at hv; cases hv
      obtain ⟨t, rfl⟩ := of_str rv
      have hks : ks.size ≤ xs.length := by
        have := rk.length
        rw [Array.length_toList, List.length_map, List.length_take] at this
        omega
      refine wpAny_bind (wpAny_attempt (hf xs[j] A.in1.in1 hAr V s' _ _ _ Gj (.cons rep_str .nil) fun y s'' st'' ry => ?_))
      obtain ⟨ty, rfl⟩ := of_str ry
      dsimp only
      have n59 : ∀ {b : Addr} {o : Obj}, s'.heap.get? b = some o → (∀ vs, o.data ≠ .fields vs) → b ≠ 56 := fun {b o} e hd q => by
        obtain ⟨ps, _, _, ht⟩ := Gj.gi.tab
        rw [q, ht] at e; cases e
        exact hd _ rfl
      have ek' := st''.keep K _ (by simpa using n59 ek (by simp)) ek
      have ea' := st''.keep a _ (by simpa using n59 ea (by simp)) ea
      have hs7 := Heap.SameBut.update s''.heap K (Obj.mapSeq (·.push (Value.str ⟨xs[j].toArray⟩ ty)))
      have ek7 := get?_update_seq ek' (·.push (Value.str ⟨xs[j].toArray⟩ ty))
      obtain ⟨st7, G7⟩ := turn_new (stj.trans st'') (Gj.step st'') hfKs hgK hs7 ek' (by simp) ek7
      refine wpAny_bind (listUpdate_at ek' rfl ?_ (by rw [sizeLine_eq]; omega) (Nat.le_trans (Nat.le_of_eq (Array.size_push ..)) (by rw [sizeLine_eq]; omega)))
      refine wpAny_pure ⟨rfl, st7, G7, (hs7.2 a (Ne.symm hKa)).trans ea', _, _, ek7, ?_⟩
      rw [Array.toList_push, show xs.take (j + 1) = xs.take j ++ [xs[j]] by rw [List.take_add_one]; simp [hj]]
      rw [List.map_append]
      exact rk.snoc rep_str
    case done =>
      rintro s' ⟨stj, Gj, ea, ks, ce, ek, rk⟩
      rw [Nat.zero_add, hlen, List.take_length] at rk
      try dsimp only
      refine wpAny_bind (listItems_at ek rfl ?_)
      have hks : ks.size = xs.length := by
        have := rk.length
        rw [Array.length_toList, List.length_map] at this
        exact this
      have twin := twin_zip rk hr
      have hzl : (ks.zip vs.toArray).toList = ks.toList.zip vs := ksk_zip ks vs
      have hzs : (ks.zip vs.toArray).size = xs.length := by rw [Array.size_zip, hks, List.size_toArray, hlen, Nat.min_self]
      -- what is left once the array is sorted
      have fin : ∀ st : SortSt, (arrOf st).Perm (ks.zip vs.toArray) → failedOf st = none → SortedToK strKind (arrOf st) (arrOf st).size →
          wpAny c.M A.in1.in1 (ksk_tail a false c1 (.ref K) st) (fun fin s' => ∃ v, fin = .done (.ret v) ∧ wpAny c.M A.in1 (pure (Fin.done (.ret (.ref a)))) (fun fin s' => ∃ v, fin = .done (.ret v) ∧ Q v s') E s') E s' := by
        intro st hp hfl hso
        have hps := Array.perm_iff_toList_perm.mp hp
        rw [hzl] at hps
        have hout := fun V h => twin_out (V := V) (h := h) twin hps hso hy hys
        have hsz2 : (arrOf st).size = xs.length := by rw [hp.size_eq, hzs]
        have hs8 := Heap.SameBut.update s'.heap K (Obj.mapSeq fun _ => (#[] : Array Value))
        have ek8 := get?_update_seq ek (fun _ => (#[] : Array Value))
        obtain ⟨st8, G8⟩ := turn_new stj Gj hfKs hgK hs8 ek (by simp) ek8
        have ea8 := (hs8.2 a (Ne.symm hKa)).trans ea
        have hs9 := Heap.SameBut.update (s'.heap.update K (Obj.mapSeq fun _ => (#[] : Array Value))) a (Obj.mapSeq fun _ => (arrOf st).map (·.2))
        obtain ⟨n9, ea9⟩ : ∃ n9, ((s'.heap.update K (Obj.mapSeq fun _ => (#[] : Array Value))).update a (Obj.mapSeq fun _ => (arrOf st).map (·.2))).get? a = some (PyProof.Rows.seqObj "list" ((arrOf st).map (·.2)) n9) := ⟨_, get?_update_seq ea8 (fun _ => (arrOf st).map (·.2))⟩
        obtain ⟨st9, G9⟩ := turn_new st8 G8 hfa hga hs9 ea8 (by simp) ea9
        unfold ksk_tail
        try dsimp only
        refine wpAny_bind (listUpdate_at ek rfl ?_ (by rw [sizeLine_eq]; omega) (Nat.zero_le _))
        refine wpAny_bind (wpAny_letGo ?_)
        refine wpAny_bind (seqEpoch_at ea8 rfl ?_)
        simp only [Bool.false_eq_true, if_false]
        refine wpAny_bind (listUpdate_at ea8 rfl ?_ (Nat.zero_le _) (by rw [Array.size_map, hsz2, sizeLine_eq]; omega))
        rw [hfl]
        simp only [bne_self_eq_false, Bool.false_eq_true, if_false]
        refine wpAny_pure ⟨_, rfl, wpAny_pure ⟨_, rfl, k _ _ st9 (rep_list (n := n9) haV ?_ (hout V _))⟩⟩
        exact ea9.trans (by show _ = some ({ cls := .type "list", data := .seq (Array.map (·.2) (arrOf st)).toList.toArray n9 } : Obj); rw [Array.toArray_toList])
      show wpAny c.M A.in1.in1 (ksk_end a false vs.toArray c1 (.ref K) ks) _ _ s'
      unfold ksk_end
      try dsimp only
      simp only [Bool.false_eq_true, if_false]
      by_cases h2 : vs.toArray.size < 2
      · rw [if_pos h2, if_pos h2]
        refine wpAny_bind (wpAny_pure ?_)
        rw [StateT.run_pure]
        refine wpAny_bind (wpAny_pure ?_)
        try dsimp only
        refine fin (SortSt.mk' general' (ks.zip vs.toArray) #[] 7 none) (Array.Perm.refl _) rfl ?_
        intro i j hij hj
        have hj' : j < (ks.zip vs.toArray).size := hj
        rw [hzs] at hj'
        rw [List.size_toArray] at h2
        have : i = j := by omega
        subst this; exact KeyOrd.kle_refl _
      · rw [if_neg h2, if_neg h2]
        rw [List.size_toArray] at h2
        have hkind : keyKind' ks = pure oneType' := by
          have hst := RepL.strs rk
          cases e : ks.toList with
          | nil => have := congrArg List.length e; rw [Array.length_toList, hks] at this; exact absurd this (by simp only [List.length_nil]; omega)
          | cons v₁ r =>
            cases e' : r with
            | nil => rw [e'] at e; have := congrArg List.length e; rw [Array.length_toList, hks] at this; exact absurd this (by simp only [List.length_cons, List.length_nil]; omega)
            | cons v₂ r2 =>
              rw [e'] at e
              have := keyKind_strs (v₁ := v₁) (v₂ := v₂) (vs := r2) (by rw [← e]; exact hst)
              rw [← e, Array.toArray_toList] at this
              exact this
        rw [hkind]
        refine wpAny_bind (wpAny_pure ?_)
        refine wpAny_bind (wpAny_mono (wpS_sortRunsK (κ := strKind) strKind_oneLt (a₀ := ks.zip vs.toArray) (st := SortSt.mk' oneType' (ks.zip vs.toArray) #[] 7 none)
          (Q := fun _ st' => (arrOf st').Perm (ks.zip vs.toArray) ∧ failedOf st' = none ∧ SortedToK strKind (arrOf st') (ks.zip vs.toArray).size)
          (keysofs twin hzl) ⟨Array.Perm.refl _, rfl, rfl, rfl⟩ (by rw [hzs]; omega) (by rw [hzs]; exact h64) fun st' a1 a2 a3 => ⟨a1, a2, a3⟩) ?_ fun _ _ e => e)
        rintro ⟨⟨⟩, st'⟩ s'' ⟨rfl, hp, hf', hso⟩
        try dsimp only
        exact fin st' hp hf' (by rw [hp.size_eq]; exact hso)
end
end

section
open PySem PySem.W PySem.Spec PySem.Calls PyProof.Rows PySem.SeqAt
open PySem.AutoSeq1 (wpAny_loadPart')
set_option linter.unusedVariables false
set_option maxRecDepth 100000
set_option maxHeartbeats 1000000

/-- data that lies in no object -/
def Flt : PV → Prop
  | .int _ => True
  | .str _ => True
  | _ => False
theorem Rep.flt {V V' : List Addr} {h h' : Heap} {p : PV} {v : Value} (hf : Flt p) (r : Rep V h p v) : Rep V' h' p v := by
  cases p <;> first | exact hf.elim | simpa [Rep] using r
theorem RepL.flt {V V' : List Addr} {h h' : Heap} : ∀ {ps : List PV} {vs : List Value}, (∀ p ∈ ps, Flt p) → RepL V h ps vs → RepL V' h' ps vs
  | [], _, _, r => by rw [RepL] at r; subst r; exact .nil
  | p :: ps, _, hf, r => by
    rw [RepL] at r
    obtain ⟨v, r', rfl, h1, h2⟩ := r
    exact .cons (h1.flt (hf p (.head _))) (RepL.flt (fun q hq => hf q (.tail _ hq)) h2)

/-- an iterator that yields flat data in a row, and may turn what X names -/
structure WM (c : Cx) (Ai : Around) (s₀ : Shared) (V : List Addr) (I : Addr) (us : List PV) (X fp : List Addr) (St : Nat → Shared → Prop) : Prop where
  flat : ∀ p ∈ us, Flt p
  hX : ∀ a ∈ X, a = 56 ∨ a ∈ fp
  gs : ∀ i s, St i s → GS c V s
  live : ∀ i s, St i s → ∀ a ∈ fp, ∃ o, s.heap.get? a = some o
  frame : ∀ i (s : Shared) S o o' h', St i s → s₀.heap.get? S = none → s.heap.get? S = some o → (∀ vs, o.data ≠ .fields vs) → Heap.SameBut S s.heap h' → h'.get? S = some o' → St i { s with heap := h' }
  grow : ∀ i (s : Shared) o, St i s → St i { s with heap := s.heap.push o }
  item : ∀ i s (Q : Option Value → Shared → Prop) (E : Value → Shared → Prop) p, us[i]? = some p → St i s → (∀ v s', Step X s s' → Rep V s'.heap p v → St (i + 1) s' → Q (some v) s') → wpAny c.M Ai (pyNext (.ref I)) Q E s
  done : ∀ s (Q : Option Value → Shared → Prop) (E : Value → Shared → Prop), St us.length s → (∀ s', Step X s s' → GS c V s' → Q none s') → wpAny c.M Ai (pyNext (.ref I)) Q E s
  self : ∀ (A : Around) i s (Q : Value → Shared → Prop) (E : Value → Shared → Prop), St i s → Q (.ref I) s → wpAny c.M A (pyIter (.ref I)) Q E s

theorem Room.in1 {A : Around} {m k : Nat} (h : Room A m) (hk : k + 1 ≤ m) : Room A.in1 k := ⟨h.1, fun h0 => by
  obtain ⟨a, b, g⟩ := h.2 (by omega)
  exact ⟨by show A.depth + k < _; omega, by show A.units + 1 + 20 * k < _; omega, g⟩⟩
theorem Room.ins {A : Around} {m : Nat} {j : Nat} (h : Room A (m + 1)) (hj : j ≤ 20) : Room { A with units := A.units + j } m := ⟨h.1, fun h0 => by
  obtain ⟨a, b, g⟩ := h.2 (by omega)
  exact ⟨by show A.depth + m < _; omega, by show A.units + j + 20 * m < _; omega, g⟩⟩

section
variable {c : Cx} {s₀ : Shared} {V : List Addr} {I : Addr} {us : List PV} {X fp : List Addr} {St : Nat → Shared → Prop}

theorem extend_loopM {A : Around} (W : WM c A.in1 s₀ V I us X fp St) (hn : us.length ≤ 1000000) (S : Addr) (hSf : S ∉ fp) (hS0 : s₀.heap.get? S = none) (hS59 : S ≠ 56) (res : Value) {R : Result → Shared → Prop} :
    ∀ (k i : Nat) (s : Shared) (acc : Array Value) (cc : Nat), us.length - i = k → i ≤ us.length → St i s → s.heap.get? S = some { cls := .type "list", dict := none, data := .seq acc cc, slots := #[] } → RepL V s.heap (us.take i) acc.toList →
    (∀ s' acc' c', Step (S :: X) s s' → GS c V s' → s'.heap.get? S = some { cls := .type "list", dict := none, data := .seq acc' c', slots := #[] } → RepL V s'.heap us acc'.toList → R (.ok (.ret res)) s') →
    codeAny c.M A (.builtin "list.extend.loop" ⟨[.ref S, .ref I, res], []⟩) R s := by
  have hSX : S ∉ X := fun h => by
    rcases W.hX S h with q | q
    · exact hS59 q
    · exact hSf q
  have hsub : ∀ b ∈ X, b ∈ S :: X := fun b hb => List.mem_cons_of_mem _ hb
  intro k
  induction k with
  | zero =>
    intro i s acc cc hk hi hst hS hacc hR
    have hin : i = us.length := by omega
    subst hin
    refine codeAny_builtin F.entry_extend_loop ?_
    rw [Around.under_plainId F.plain_extend_loop _]
    show wpAny _ A.in1 (pyNext (.ref I) >>= _) _ _ s
    refine wpAny_bind (W.done s _ _ hst fun s' hm G' => ?_)
    rw [List.take_length] at hacc
    exact wpAny_pure (hR s' acc cc (hm.wide hsub) G' (hm.keep S _ hSX hS) (hacc.flt W.flat))
  | succ k ih =>
    intro i s acc cc hk hi hst hS hacc hR
    have hlt : i < us.length := by omega
    obtain ⟨p, hp⟩ : ∃ p, us[i]? = some p := ⟨us[i], List.getElem?_eq_getElem hlt⟩
    have hlen : acc.size = i := by
      have := hacc.length
      rw [Array.length_toList, List.length_take] at this
      omega
    refine codeAny_builtin F.entry_extend_loop ?_
    rw [Around.under_plainId F.plain_extend_loop _]
    show wpAny _ A.in1 (pyNext (.ref I) >>= _) _ _ s
    refine wpAny_bind (W.item i s _ _ p hp hst fun v s' hm rv hst' => ?_)
    have hS' := hm.keep S _ hSX hS
    show wpAny _ A.in1 (updateSeq S (·.push v) >>= _) _ _ _
    refine wpAny_bind ?_
    have hs2 := Heap.SameBut.update s'.heap S (Obj.mapSeq (·.push v))
    have hS2 := Heap.get?_update_self (Obj.mapSeq (·.push v)) hS' rfl
    have st2 : Step [S] s' { s' with heap := s'.heap.update S (Obj.mapSeq (·.push v)) } := ⟨fun a o ha e => (hs2.2 a (by simpa using ha)).trans e, fun t => t.sameBut hs2 hS' (by simp), .refl, rfl, rfl⟩
    have hst2 := W.frame _ s' S _ _ _ hst' hS0 hS' (by simp) hs2 hS2
    refine wpAny_updateSeq hS' rfl (wpAny_pure ⟨plainId_quiet F.plain_extend_loop _, ih (i + 1) _ (acc.push v) _ (by omega) hlt hst2 hS2 ?_ fun s'' acc' c' hm'' G'' hS'' hacc' => ?_⟩)
      (by rw [hlen, sizeLine_eq]; omega) (by show (acc.push v).size ≤ sizeLine + 1; rw [Array.size_push, hlen, sizeLine_eq]; omega)
    · rw [Array.toList_push, show us.take (i + 1) = us.take i ++ [p] by rw [List.take_add_one, hp]; rfl]
      exact RepL.snoc (rv.flt (W.flat p (List.mem_of_getElem? hp))) (hacc.flt fun q hq => W.flat q (List.mem_of_mem_take hq))
    · exact hR s'' acc' c' ((hm.wide hsub).trans ((st2.wide fun a ha => by rw [List.mem_singleton.mp ha]; exact .head _).trans hm'')) G'' hS'' hacc'

theorem collectM {T : String} {A : Around} {E : Value → Shared → Prop} {s : Shared} {Q : List Value → Shared → Prop} (W : WM c A.in1 s V I us X fp St) (hn : us.length ≤ 1000000) (hT : ∀ i s, St i s → s.TypeIs (.ref I) T) (hst : St 0 s) (hI : I ∈ fp)
    (nl : typeLookup (.type T) "__len__" = pure none) (nh : typeLookup (.type T) "__length_hint__" = pure none) (t1 : (Value.type T == Value.type "list") = false) (t2 : (Value.type T == Value.type "tuple") = false)
    (hQ : ∀ s' vs, Step (s.heap.objs.size :: X) s s' → GS c V s' → RepL V s'.heap us vs → Q vs s') : wpAny c.M A (collect (.ref I)) Q E s := by
  have G := W.gs 0 s hst
  have hfr := push_fresh (h := s.heap)
  have hSf : s.heap.objs.size ∉ fp := fun hm => by obtain ⟨o, e⟩ := W.live 0 s hst _ hm; rw [hfr] at e; cases e
  have hSI : s.heap.objs.size ≠ I := fun e => hSf (e ▸ hI)
  have hSV := G.notIn hfr
  have hS59 : s.heap.objs.size ≠ 56 := fun q => hSV (q ▸ G.v59)
  unfold collect
  refine wpAny_bind (wpAny_runValue (codeAny_builtin F.entry_proto_collect ?_))
  rw [Around.under_plainId F.plain_proto_collect _]
  show wpAny _ A.in1 (newList [] >>= fun l => again (.builtin "list.__iadd__" ⟨[l, .ref I], []⟩)) _ _ s
  refine wpAny_bind (wpAny_newObj_type ?_)
  refine wpAny_pure ⟨plainId_quiet F.plain_list_iadd _, codeAny_builtin F.entry_list_iadd ?_⟩
  rw [Around.under_plainId F.plain_list_iadd _]
  have hst₁ := W.grow 0 s { cls := .type "list", data := .seq ([] : List Value).toArray } hst
  show wpAny _ A.in1 (Builtin.List.listExtendWith (.ref s.heap.objs.size) (.ref I) (.ref s.heap.objs.size)) _ _ _
  unfold Builtin.List.listExtendWith
  refine wpAny_bind (wpAny_typeOf (hT 0 _ hst₁) ?_)
  have h1 : Builtin.List.listSameRef (.ref s.heap.objs.size) (.ref I) = false := by simp [Builtin.List.listSameRef, hSI]
  simp only [h1, t1, t2, Bool.or_false, Bool.false_eq_true, if_false]
  refine wpAny_bind (W.self _ 0 _ _ _ hst₁ ?_)
  refine wpAny_bind (wpAny_holding ?_)
  unfold Builtin.List.listLengthHint
  refine wpAny_bind (wpAny_specialOf (hT 0 _ hst₁) nl ?_)
  show wpAny _ A.in1 (specialOf (Value.ref I) (Str.ofString "__length_hint__") >>= _) _ _ _
  refine wpAny_bind (wpAny_specialOf (hT 0 _ hst₁) nh ?_)
  refine wpAny_pure ?_
  show wpAny _ A.in1 (rule "list.extend.makes-room" >>= fun _ => Builtin.List.listTouch (.ref s.heap.objs.size) >>= fun _ =>
    again (.builtin "list.extend.loop" ⟨[.ref s.heap.objs.size, .ref I, .ref s.heap.objs.size], []⟩)) _ _ _
  refine wpAny_bind (wpAny_rule ?_)
  have hS₁ : (s.heap.push { cls := .type "list", data := .seq ([] : List Value).toArray }).get? s.heap.objs.size = some { cls := .type "list", data := .seq ([] : List Value).toArray } := Heap.get?_push_size _ rfl
  refine wpAny_bind ?_
  show wpAny _ A.in1 (updateSeq s.heap.objs.size (·.push .none) >>= fun _ => updateSeq s.heap.objs.size (·.pop)) _ _ _
  refine wpAny_bind (wpAny_updateSeq hS₁ rfl ?_)
  have hS₂ := Heap.get?_update_self (Obj.mapSeq (·.push Value.none)) hS₁ rfl
  have hb₂ := Heap.SameBut.update (s.heap.push { cls := .type "list", data := .seq ([] : List Value).toArray }) s.heap.objs.size (Obj.mapSeq (·.push Value.none))
  have hst₂ := W.frame 0 _ _ _ _ _ hst₁ hfr hS₁ (by simp) hb₂ hS₂
  refine wpAny_updateSeq hS₂ rfl ?_
  have hS₃ := Heap.get?_update_self (Obj.mapSeq (·.pop)) hS₂ rfl
  have hb₃ := Heap.SameBut.update ((s.heap.push { cls := .type "list", data := .seq ([] : List Value).toArray }).update s.heap.objs.size (Obj.mapSeq (·.push Value.none))) s.heap.objs.size (Obj.mapSeq (·.pop))
  have hst₃ := W.frame 0 _ _ _ _ _ hst₂ hfr hS₂ (by simp [Obj.mapSeq]) hb₃ hS₃
  have st₀ : Step [s.heap.objs.size] s { s with heap := s.heap.push { cls := .type "list", data := .seq ([] : List Value).toArray } } := .of_keep push_keep
  have st₂ : Step [s.heap.objs.size] { s with heap := s.heap.push { cls := .type "list", data := .seq ([] : List Value).toArray } } { s with heap := (s.heap.push { cls := .type "list", data := .seq ([] : List Value).toArray }).update s.heap.objs.size (Obj.mapSeq (·.push Value.none)) } :=
    ⟨fun a o ha e => (hb₂.2 a (by simpa using ha)).trans e, fun t => t.sameBut hb₂ hS₁ (by simp), .refl, rfl, rfl⟩
  have st₃ : Step [s.heap.objs.size] { s with heap := (s.heap.push { cls := .type "list", data := .seq ([] : List Value).toArray }).update s.heap.objs.size (Obj.mapSeq (·.push Value.none)) } { s with heap := ((s.heap.push { cls := .type "list", data := .seq ([] : List Value).toArray }).update s.heap.objs.size (Obj.mapSeq (·.push Value.none))).update s.heap.objs.size (Obj.mapSeq (·.pop)) } :=
    ⟨fun a o ha e => (hb₃.2 a (by simpa using ha)).trans e, fun t => t.sameBut hb₃ hS₂ (by simp [Obj.mapSeq]), .refl, rfl, rfl⟩
  have stA := (st₀.trans st₂).trans st₃
  refine wpAny_pure ⟨plainId_quiet F.plain_extend_loop _, extend_loopM (A := A) W hn _ hSf hfr hS59 _ us.length 0 _ _ _ rfl (Nat.zero_le _) hst₃ hS₃ (by simp [RepL, Obj.mapSeq]) fun s' acc' c' hm G' hS' hacc => ?_⟩
  refine wpAny_bind (wpAny_load hS' ?_)
  exact wpAny_pure (hQ s' acc'.toList ((stA.wide fun a ha => by rw [List.mem_singleton.mp ha]; exact .head _).trans hm) G' hacc)
end
end

section
open PySem PySem.W PySem.Spec PySem.Calls PyProof.Rows PySem.SeqAt
open PySem.AutoSeq1 (wpAny_loadPart')
set_option linter.unusedVariables false
set_option maxRecDepth 100000
set_option maxHeartbeats 1000000
section
variable {c : Cx} {V : List Addr} {I : Addr} {us : List PV} {X fp : List Addr} {St : Nat → Shared → Prop}
theorem map_no_len : typeLookup (.type "map") "__len__" = pure none := by rw [typeLookup_type, builtinLookup_eq_fast]; kernel_rfl
theorem map_no_hint : typeLookup (.type "map") "__length_hint__" = pure none := by rw [typeLookup_type, builtinLookup_eq_fast]; kernel_rfl

theorem code_tuple_map {A : Around} {E : Value → Shared → Prop} {s : Shared} {Q₁ : Value → Shared → Prop} (W : WM c A.in1.in1 s V I us X fp St) (hn : us.length ≤ 1000000) (hT : ∀ i s, St i s → s.TypeIs (.ref I) "map") (hst : St 0 s) (hI : I ∈ fp)
    (h : ∀ s' vs, Step (s.heap.objs.size :: X) s s' → GS c V s' → RepL V s'.heap us vs → Q₁ (.ref s'.heap.objs.size) { s' with heap := s'.heap.push { cls := .type "tuple", data := .seq vs.toArray } }) :
    codeAny c.M A (.call (.builtin "tuple.__new__") ⟨[.type "tuple", .ref I], []⟩) (wants Q₁ E) s := by
  refine codeAny_of_tree ?_
  show wpAny _ A.in1 (do checkBuiltinCall "tuple.__new__" ⟨[.type "tuple", .ref I], []⟩; again (.builtin "tuple.__new__" ⟨[.type "tuple", .ref I], []⟩)) _ _ s
  refine wpAny_bind (wpAny_of_eq (F.newCall_tuple_1 _) (wpAny_pure ⟨plainId_quiet F.plain_tuple_new _, codeAny_builtin F.entry_tuple_new ?_⟩))
  rw [Around.under_plainId F.plain_tuple_new _]
  have hsub := sub_tuple_self
  have hinit := init_tuple_lookup
  have hmh := madeHere_tuple
  have hTI := hT 0 s hst
  wp_walk using wpAny_typeOf hTI, collectM W hn hT hst hI map_no_len map_no_hint (by decide) (by decide)
  intro s' vs hm G' hr
  show wpAny _ _ (Builtin.Tuple.tupleExact vs.toArray >>= fun v => ret v) _ _ _
  unfold Builtin.Tuple.tupleExact
  refine wpAny_bind (wpAny_newObj_type ?_ (by show vs.toArray.size ≤ sizeLine; rw [List.size_toArray, hr.length, sizeLine_eq]; omega))
  exact wpAny_pure (h s' vs hm G' hr)

theorem call_tuple_map {A : Around} {E : Value → Shared → Prop} {s : Shared} {Q : Value → Shared → Prop} (W : WM c A.in1.in1.in1 s V I us X fp St) (hn : us.length ≤ 1000000) (hT : ∀ i s, St i s → s.TypeIs (.ref I) "map") (hst : St 0 s) (hI : I ∈ fp)
    (h : ∀ x s', Step X s s' → Rep V s'.heap (.tup us) x → Q x s') :
    wpAny c.M A (PySem.call (.type "tuple") [.ref I]) Q E s := by
  refine callType_codes (Q₁ := fun obj s₁ => s₁.TypeIs obj "tuple" ∧ Q obj s₁) F.called_tuple (F.typeCall_tuple_1 _) F.entry_object_init
    (code_tuple_map (A := A.in1) W hn hT hst hI fun s' vs hm G' hr => ⟨⟨_, Heap.get?_push_size _ rfl, rfl⟩, ?_⟩) fun obj s₁ h₁ => ?_
  · have hnew : (s'.heap.push (seqObj "tuple" vs 0)).get? s'.heap.objs.size = some (seqObj "tuple" vs 0) := Heap.get?_push_size _ rfl
    have st2 : Step X s' { s' with heap := s'.heap.push (seqObj "tuple" vs 0) } := .of_keep push_keep
    have st1 : Step X s s' := ⟨fun a o ha e => hm.keep a o (fun q => by
      rcases List.mem_cons.mp q with q | q
      · exact absurd (get_lt e) (by rw [q]; exact Nat.lt_irrefl _)
      · exact ha q) e, hm.tab, hm.bare, hm.drawn, hm.os⟩
    exact h _ _ (st1.trans st2) (rep_tup (n := 0) (G'.notIn push_fresh) hnew (hr.flt W.flat))
  · exact ⟨h₁.1, F.args_object_init_2 obj _, object_init_meets F.called_tuple.init.lookup F.called_tuple.made (by decide) P0 c.w A.in1 _ s₁ ⟨h₁.1, rfl, h₁.2⟩⟩

theorem code_tuple_gen {A : Around} {E : Value → Shared → Prop} {s : Shared} {Q₁ : Value → Shared → Prop} (W : WM c A.in1.in1 s V I us X fp St) (hn : us.length ≤ 1000000) (hT : ∀ i s, St i s → s.TypeIs (.ref I) "generator") (hst : St 0 s) (hI : I ∈ fp)
    (h : ∀ s' vs, Step (s.heap.objs.size :: X) s s' → GS c V s' → RepL V s'.heap us vs → Q₁ (.ref s'.heap.objs.size) { s' with heap := s'.heap.push { cls := .type "tuple", data := .seq vs.toArray } }) :
    codeAny c.M A (.call (.builtin "tuple.__new__") ⟨[.type "tuple", .ref I], []⟩) (wants Q₁ E) s := by
  refine codeAny_of_tree ?_
  show wpAny _ A.in1 (do checkBuiltinCall "tuple.__new__" ⟨[.type "tuple", .ref I], []⟩; again (.builtin "tuple.__new__" ⟨[.type "tuple", .ref I], []⟩)) _ _ s
  refine wpAny_bind (wpAny_of_eq (F.newCall_tuple_1 _) (wpAny_pure ⟨plainId_quiet F.plain_tuple_new _, codeAny_builtin F.entry_tuple_new ?_⟩))
  rw [Around.under_plainId F.plain_tuple_new _]
  have hsub := sub_tuple_self
  have hinit := init_tuple_lookup
  have hmh := madeHere_tuple
  have hTI := hT 0 s hst
  wp_walk using wpAny_typeOf hTI, collectM W hn hT hst hI F.gen_no_len F.gen_no_hint (by decide) (by decide)
  intro s' vs hm G' hr
  show wpAny _ _ (Builtin.Tuple.tupleExact vs.toArray >>= fun v => ret v) _ _ _
  unfold Builtin.Tuple.tupleExact
  refine wpAny_bind (wpAny_newObj_type ?_ (by show vs.toArray.size ≤ sizeLine; rw [List.size_toArray, hr.length, sizeLine_eq]; omega))
  exact wpAny_pure (h s' vs hm G' hr)

theorem call_tuple_gen {A : Around} {E : Value → Shared → Prop} {s : Shared} {Q : Value → Shared → Prop} (W : WM c A.in1.in1.in1 s V I us X fp St) (hn : us.length ≤ 1000000) (hT : ∀ i s, St i s → s.TypeIs (.ref I) "generator") (hst : St 0 s) (hI : I ∈ fp)
    (h : ∀ x s', Step X s s' → Rep V s'.heap (.tup us) x → Q x s') :
    wpAny c.M A (PySem.call (.type "tuple") [.ref I]) Q E s := by
  refine callType_codes (Q₁ := fun obj s₁ => s₁.TypeIs obj "tuple" ∧ Q obj s₁) F.called_tuple (F.typeCall_tuple_1 _) F.entry_object_init
    (code_tuple_gen (A := A.in1) W hn hT hst hI fun s' vs hm G' hr => ⟨⟨_, Heap.get?_push_size _ rfl, rfl⟩, ?_⟩) fun obj s₁ h₁ => ?_
  · have hnew : (s'.heap.push (seqObj "tuple" vs 0)).get? s'.heap.objs.size = some (seqObj "tuple" vs 0) := Heap.get?_push_size _ rfl
    have st2 : Step X s' { s' with heap := s'.heap.push (seqObj "tuple" vs 0) } := .of_keep push_keep
    have st1 : Step X s s' := ⟨fun a o ha e => hm.keep a o (fun q => by
      rcases List.mem_cons.mp q with q | q
      · exact absurd (get_lt e) (by rw [q]; exact Nat.lt_irrefl _)
      · exact ha q) e, hm.tab, hm.bare, hm.drawn, hm.os⟩
    exact h _ _ (st1.trans st2) (rep_tup (n := 0) (G'.notIn push_fresh) hnew (hr.flt W.flat))
  · exact ⟨h₁.1, F.args_object_init_2 obj _, object_init_meets F.called_tuple.init.lookup F.called_tuple.made (by decide) P0 c.w A.in1 _ s₁ ⟨h₁.1, rfl, h₁.2⟩⟩
end
end

section
open PySem PySem.W PySem.Spec PySem.Calls PyProof.Rows PySem.SeqAt
open PySem.AutoSeq1 (wpAny_loadPart')
set_option linter.unusedVariables false
set_option maxRecDepth 100000
set_option maxHeartbeats 1000000
open Sem (wp)

theorem owner_map : Manifest.owners.lookup (String.ofList ['p', 'a', 'm'].reverse) = some Manifest.sig_map := by kernel_rfl
theorem slot_map_init : Slot "map" "__init__" "object.__init__" :=
  .of (owner := "object") (n := "__init__") (by rw [typeLookup_type, builtinLookup_eq_fast]; kernel_rfl) (by decide +kernel) (by decide +kernel) (by decide +kernel)
    (by first | exact .inl (by decide +kernel) | exact .inr (by decide +kernel)) (by rw [isSubtype_type]; kernel_rfl)
theorem slot_map_next : Slot "map" "__next__" "map.__next__" :=
  .of (owner := "map") (n := "__next__") (by rw [typeLookup_type, builtinLookup_eq_fast]; kernel_rfl) (by decide +kernel) (by decide +kernel) (by decide +kernel)
    (by first | exact .inl (by decide +kernel) | exact .inr (by decide +kernel)) (by rw [isSubtype_type]; kernel_rfl)
theorem slot_map_iter : Slot "map" "__iter__" "map.__iter__" :=
  .of (owner := "map") (n := "__iter__") (by rw [typeLookup_type, builtinLookup_eq_fast]; kernel_rfl) (by decide +kernel) (by decide +kernel) (by decide +kernel)
    (by first | exact .inl (by decide +kernel) | exact .inr (by decide +kernel)) (by rw [isSubtype_type]; kernel_rfl)
theorem entry_map_next : entryFor table "map.__next__" = some Builtin.«map.__next__» := entryFor_of_tree (by kernel_rfl)
theorem entry_map_new : entryFor table "map.__new__" = some Builtin.«map.__new__» := entryFor_of_tree (by kernel_rfl)
theorem entry_map_iter : entryFor table "map.__iter__" = some Builtin.«dict_keyiterator.__iter__» :=
  entryFor_alias (id' := "dict_keyiterator.__iter__") (by kernel_rfl) (by first | rfl | decide +kernel | (unfold String.splitOn; simp +decide [String.splitOnAux])) (by decide +kernel) (by kernel_rfl)
theorem args_map_next_1 (a : Value) : argsOk "map.__next__" ⟨[a], []⟩ := by
  unfold argsOk; rw [signature?_of (id := "map.__next__") (n := ['_', '_', 't', 'x', 'e', 'n', '_', '_']) (o := ['p', 'a', 'm']) (by kernel_rfl) owner_map]; kernel_rfl
theorem args_map_iter_1 (a : Value) : argsOk "map.__iter__" ⟨[a], []⟩ := by
  unfold argsOk; rw [signature?_of (id := "map.__iter__") (n := ['_', '_', 'r', 'e', 't', 'i', '_', '_']) (o := ['p', 'a', 'm']) (by kernel_rfl) owner_map]; kernel_rfl
theorem mro_map : mroOf (.type "map") = pure [.type "map", .type "object"] := by rw [mroOf_type]; kernel_rfl
theorem lookup_map_new : typeLookup (.type "map") "__new__" = pure (some (.builtin "map.__new__")) := by rw [typeLookup_type, builtinLookup_eq_fast]; kernel_rfl
theorem called_map : TypeCalled "map" "map.__new__" "object.__init__" :=
  ⟨by decide +kernel, by decide +kernel, ⟨_, _, mro_map⟩, madeBy_type mro_map lookup_map_new (by decide +kernel), by decide +kernel, by rw [isSubtype_type]; kernel_rfl, slot_map_init⟩
theorem typeCall_map_2 (a b : Value) : checkTypeCall "map" ⟨[a, b], []⟩ = pure () := by kernel_rfl
theorem newCall_map_2 (a b : Value) : checkBuiltinCall "map.__new__" ⟨[.type "map", a, b], []⟩ = pure () := by kernel_rfl
theorem sub_map : isSubtype (.type "map") (.type "map") = pure true := by rw [isSubtype_type]; kernel_rfl

abbrev mapObj (T : Addr) (f : Value) : Obj := { cls := .type "map", data := .fields #[.ref T, f] }

section
variable {prog : Program} {w : World} {A : Around} {E : Value → Shared → Prop} {s : Shared}

theorem nextOf_tuple_item {it l : Addr} {i : Nat} {items} {x : Value} {Q : Value → Shared → Prop} (hit : s.heap.IsTupleIter it l i)
    (hl : s.heap.IsTuple l items) (hx : items[i]? = some x)
    (hQ : ∀ h', h'.IsTupleIter it l (i + 1) → Heap.SameBut it s.heap h' → Q x { s with heap := h' }) :
    wpAny (model prog w) A (Builtin.SmallTypes.nextOf (.ref it)) Q E s := by
  obtain ⟨o, ho, hc, hd⟩ := id hit
  obtain ⟨ol, hol, _, nl, hdl⟩ := hl
  unfold Builtin.SmallTypes.nextOf
  refine wpAny_bind (wpAny_callSpecial?_slot (name := Str.ofString "__next__") hit.typeIs F.slot_tuple_iterator_next
    (wpAny_call_entry F.slot_tuple_iterator_next hit.typeIs F.entry_tuple_iterator_next ?_ (F.args_tuple_iterator_next_1 _)))
  show wpAny _ _ (field (.ref it) 0 >>= _) _ _ s
  refine wpAny_bind (wpAny_field ho hd (x := .ref l) rfl ?_)
  show wpAny _ _ (if (Value.ref l == Value.none) = true then _ else _) _ _ s
  rw [if_neg (show ¬ ((Value.ref l == Value.none) = true) from Bool.false_ne_true)]
  show wpAny _ _ (field (.ref it) 1 >>= _) _ _ s
  refine wpAny_bind (wpAny_field ho hd (x := .int i 0) rfl ?_)
  show wpAny _ _ (seqItems? (.ref l) >>= _) _ _ s
  refine wpAny_bind (wpAny_seqItems hol hdl ?_)
  simp only [Int.toNat_natCast, hx]
  refine wpAny_bind (wpAny_setField ho hd (by simp) (wpAny_pure ⟨x, rfl, wpAny_pure (hQ _ ?_ (Heap.SameBut.update ..))⟩))
  exact ⟨_, Heap.get?_update_self _ ho (Obj.isFreed_of_fields (Obj.data_mapFields hd _)), (Obj.cls_mapFields ..).trans hc, by
    rw [Obj.data_mapFields hd]; simp [rawInt]⟩
theorem nextOf_tuple_end {it l : Addr} {i : Nat} {items} {Q : Value → Shared → Prop} (hh : A.handled = none)
    (hit : s.heap.IsTupleIter it l i) (hl : s.heap.IsTuple l items) (hx : items[i]? = none)
    (hE : ∀ h' e, Heap.ExtBut it s.heap h' → (∃ o, h'.get? e = some o ∧ o.cls = .type "StopIteration") → E (.ref e) { s with heap := h' }) :
    wpAny (model prog w) A (Builtin.SmallTypes.nextOf (.ref it)) Q E s := by
  obtain ⟨o, ho, hc, hd⟩ := id hit
  obtain ⟨ol, hol, _, nl, hdl⟩ := hl
  unfold Builtin.SmallTypes.nextOf
  refine wpAny_bind (wpAny_callSpecial?_slot (name := Str.ofString "__next__") hit.typeIs F.slot_tuple_iterator_next
    (wpAny_call_entry F.slot_tuple_iterator_next hit.typeIs F.entry_tuple_iterator_next ?_ (F.args_tuple_iterator_next_1 _)))
  show wpAny _ _ (field (.ref it) 0 >>= _) _ _ s
  refine wpAny_bind (wpAny_field ho hd (x := .ref l) rfl ?_)
  show wpAny _ _ (if (Value.ref l == Value.none) = true then _ else _) _ _ s
  rw [if_neg (show ¬ ((Value.ref l == Value.none) = true) from Bool.false_ne_true)]
  show wpAny _ _ (field (.ref it) 1 >>= _) _ _ s
  refine wpAny_bind (wpAny_field ho hd (x := .int i 0) rfl ?_)
  show wpAny _ _ (seqItems? (.ref l) >>= _) _ _ s
  refine wpAny_bind (wpAny_seqItems hol hdl ?_)
  simp only [Int.toNat_natCast, hx]
  refine wpAny_bind (wpAny_rule (wpAny_bind (wpAny_setField ho hd (by simp) ?_)))
  show wpAny _ _ (newExc (.type "StopIteration") [] >>= _) _ _ _
  refine wpAny_bind ?_
  simp only [newExc, newTuple]
  refine wpAny_bind (wpAny_newObj_type ?_ (by size_fits))
  refine wpAny_bind (m := firstArgMember _ _) (wpAny_of_eq (a := Value.none) (by first | rfl | (simp only [firstArgMember]; rfl)) ?_)
  refine wpAny_newObj_type ?_ (by size_fits)
  simp only [raiseNew]
  refine wpAny_bind (wpAny_handled ?_)
  first | rw [show A.in1.handled = none from hh] | rw [hh]
  refine wpAny_bind (wpAny_pure (wpAny_throw ?_))
  exact hE _ _ (((Heap.SameBut.update ..).extBut.push _).push _) ⟨_, Heap.get?_push_size _ rfl, rfl⟩

theorem pyNext_map_item {M T it l : Addr} {f : Value} {nT i : Nat} {items} {x : Value} {Q : Option Value → Shared → Prop} (hM : s.heap.get? M = some (mapObj T f)) (hT : s.heap.get? T = some (seqObj "tuple" [.ref it] nT)) (hit : s.heap.IsTupleIter it l i)
    (hl : s.heap.IsTuple l items) (hx : items[i]? = some x) (hMi : M ≠ it)
    (hQ : ∀ h', h'.IsTupleIter it l (i + 1) → Heap.SameBut it s.heap h' → ∀ E' : Value → Shared → Prop, wpAny (model prog w) A.in1 (call f [x]) (fun v s' => Q (some v) s') E' { s with heap := h' }) :
    wpAny (model prog w) A (pyNext (.ref M)) Q E s := by
  have hty : s.TypeIs (.ref M) "map" := ⟨_, hM, rfl⟩
  unfold pyNext
  refine wpAny_bind (wpAny_attempt (wpAny_callSpecial?_slot (name := Str.ofString "__next__") hty slot_map_next
    (wpAny_call_entry slot_map_next hty entry_map_next ?_ (args_map_next_1 _))))
  show wpAny _ _ (field (.ref M) 0 >>= _) _ _ s
  refine wpAny_bind (wpAny_field hM rfl (x := .ref T) rfl ?_)
  show wpAny _ _ (seqItems? (.ref T) >>= _) _ _ s
  refine wpAny_bind (wpAny_seqItems hT rfl ?_)
  dsimp only
  rw [← Array.forIn_toList]
  show wpAny _ _ (forIn [Value.ref it] (#[] : Array Value) _ >>= _) _ _ s
  rw [List.forIn_cons]
  refine wpAny_bind (wpAny_bind (wpAny_bind (wpAny_holding (nextOf_tuple_item hit hl hx fun h' hit' hs => ?_))))
  refine wpAny_pure ?_
  show wpAny _ _ (forIn ([] : List Value) _ _) _ _ _
  rw [List.forIn_nil]
  refine wpAny_pure ?_
  have hM' : h'.get? M = some (mapObj T f) := (hs.2 M hMi).trans hM
  refine wpAny_bind (wpAny_field hM' rfl (x := f) rfl ?_)
  refine wpAny_bind (wpAny_holding (wpAny_mono (hQ h' hit' hs _) (fun v s' hv => ?_) fun _ _ e => e))
  exact wpAny_bind (wpAny_letGo (wpAny_pure ⟨_, rfl, wpAny_pure hv⟩))
end
end

section
open PySem PySem.W PySem.Spec PySem.Calls PyProof.Rows PySem.SeqAt
open PySem.AutoSeq1 (wpAny_loadPart')
set_option linter.unusedVariables false
set_option maxRecDepth 100000
set_option maxHeartbeats 1000000
open Sem (wp)
section
variable {prog : Program} {w : World} {A : Around} {E : Value → Shared → Prop} {s : Shared}
theorem pyNext_map_end {M T it l : Addr} {f : Value} {nT i : Nat} {items} {Q : Option Value → Shared → Prop} (hh : A.handled = none) (hM : s.heap.get? M = some (mapObj T f)) (hT : s.heap.get? T = some (seqObj "tuple" [.ref it] nT)) (hit : s.heap.IsTupleIter it l i)
    (hl : s.heap.IsTuple l items) (hx : items[i]? = none)
    (hQ : ∀ h', Heap.ExtBut it s.heap h' → Q none { s with heap := h' }) :
    wpAny (model prog w) A (pyNext (.ref M)) Q E s := by
  have hty : s.TypeIs (.ref M) "map" := ⟨_, hM, rfl⟩
  unfold pyNext
  refine wpAny_bind (wpAny_attempt (wpAny_callSpecial?_slot (name := Str.ofString "__next__") hty slot_map_next
    (wpAny_call_entry slot_map_next hty entry_map_next ?_ (args_map_next_1 _))))
  show wpAny _ _ (field (.ref M) 0 >>= _) _ _ s
  refine wpAny_bind (wpAny_field hM rfl (x := .ref T) rfl ?_)
  show wpAny _ _ (seqItems? (.ref T) >>= _) _ _ s
  refine wpAny_bind (wpAny_seqItems hT rfl ?_)
  dsimp only
  rw [← Array.forIn_toList]
  show wpAny _ _ (forIn [Value.ref it] (#[] : Array Value) _ >>= _) _ _ s
  rw [List.forIn_cons]
  refine wpAny_bind (wpAny_bind (wpAny_bind (wpAny_holding (nextOf_tuple_end (A := A.in1) hh hit hl hx fun h' e hs he => ?_))))
  obtain ⟨o, ho, hc⟩ := he
  have hTe : ({ s with heap := h' } : Shared).TypeIs (.ref e) "StopIteration" := ⟨o, ho, hc⟩
  show wpAny _ _ (isInstance (.ref e) (.type "StopIteration") >>= _) _ _ _
  refine wpAny_bind (wpAny_isInstance (b := true) hTe (by rw [isSubtype_type]; kernel_rfl) ?_)
  exact wpAny_pure (hQ h' hs)

theorem wpAny_pyIter_map {M T : Addr} {f : Value} {Q : Value → Shared → Prop} (hM : s.heap.get? M = some (mapObj T f)) (h : Q (.ref M) s) : wpAny (model prog w) A (pyIter (.ref M)) Q E s := by
  have hT : s.TypeIs (.ref M) "map" := ⟨_, hM, rfl⟩
  refine wpAny_pyIter_slot hT slot_map_iter (wpAny_call_entry slot_map_iter hT entry_map_iter ?_ (args_map_iter_1 _))
  show wpAny _ _ (ret (.ref M)) _ _ s
  exact wpAny_pure ⟨_, rfl, "map", _, hT, slot_map_next.lookup, h⟩

theorem call_map {f : Value} {l : Addr} {items : Array Value} {Q : Value → Shared → Prop} (hl : s.heap.IsTuple l items)
    (h : ∀ h' I, I = s.heap.objs.size → h'.get? (I + 2) = some (mapObj (I + 1) f) → h'.get? (I + 1) = some (seqObj "tuple" [.ref I] 0) → h'.IsTupleIter I l 0 → h'.objs.size = I + 3 → (∀ b o, s.heap.get? b = some o → h'.get? b = some o) → Q (.ref (I + 2)) { s with heap := h' }) :
    wpAny (model prog w) A (call (.type "map") [f, .ref l]) Q E s := by
  refine callType_codes (Q₁ := fun obj s₁ => s₁.TypeIs obj "map" ∧ Q obj s₁) called_map (typeCall_map_2 _ _) F.entry_object_init ?_ fun obj s₁ h₁ => ?_
  · refine codeAny_of_tree ?_
    show wpAny _ A.in1.in1 (do checkBuiltinCall "map.__new__" ⟨[.type "map", f, .ref l], []⟩; again (.builtin "map.__new__" ⟨[.type "map", f, .ref l], []⟩)) _ _ s
    refine wpAny_bind (wpAny_of_eq (newCall_map_2 _ _) (wpAny_pure ⟨plainId_quiet (by decide +kernel) _, codeAny_builtin entry_map_new ?_⟩))
    rw [Around.under_plainId (by decide +kernel) _]
    have hsub := sub_map
    unfold Builtin.«map.__new__»
    wp_walk using wpAny_pyIter_tuple hl
    have z1 : (s.heap.push { cls := .type "tuple_iterator", data := .fields #[.ref l, .int 0 0] }).objs.size = s.heap.objs.size + 1 := Heap.size_push ..
    have z2 : ((s.heap.push { cls := .type "tuple_iterator", data := .fields #[.ref l, .int 0 0] }).push { cls := .type "tuple", data := .seq (#[].push (Value.ref s.heap.objs.size)).toList.toArray }).objs.size = s.heap.objs.size + 2 := by rw [Heap.size_push, z1]
    have e1 : (s.heap.push { cls := .type "tuple_iterator", data := .fields #[.ref l, .int 0 0] }).get? s.heap.objs.size = some { cls := .type "tuple_iterator", data := .fields #[.ref l, .int 0 0] } := Heap.get?_push_size _ rfl
    have e2 : ((s.heap.push { cls := .type "tuple_iterator", data := .fields #[.ref l, .int 0 0] }).push { cls := .type "tuple", data := .seq (#[].push (Value.ref s.heap.objs.size)).toList.toArray }).get? (s.heap.objs.size + 1) = some (seqObj "tuple" [.ref s.heap.objs.size] 0) := by
      rw [← z1]; exact Heap.get?_push_size _ rfl
    rw [z2, z1]
    refine ⟨?_, h _ s.heap.objs.size rfl ?_ (push_keep _ _ e2) ⟨_, push_keep _ _ (push_keep _ _ e1), rfl, rfl⟩ (by rw [Heap.size_push, z2]) fun b o e => push_keep _ _ (push_keep _ _ (push_keep _ _ e))⟩
    · refine ⟨mapObj (s.heap.objs.size + 1) f, ?_, rfl⟩
      rw [← z2]; exact Heap.get?_push_size _ rfl
    · rw [← z2]; exact Heap.get?_push_size _ rfl
  · exact ⟨h₁.1, F.args_object_init_3 obj _ _, object_init_meets called_map.init.lookup called_map.made (by decide) prog w A.in1 _ s₁ ⟨h₁.1, rfl, h₁.2⟩⟩
end

section
variable {c : Cx} {m : Nat} {V : List Addr}
theorem IsTupleIter.keep {h h' : Heap} {a t i} (x : h.IsTupleIter a t i) (e : ∀ o, h.get? a = some o → h'.get? a = some o) : h'.IsTupleIter a t i := let ⟨o, ho, r⟩ := x; ⟨o, e o ho, r⟩
theorem WM.map {A : Around} (hA : Room A (m + 1)) {f : Value} {s₀ : Shared} {M T it l : Addr} {nT nl : Nat} {items : List Value} {as ws : List PV} (G : GS c V s₀) (hM : s₀.heap.get? M = some (mapObj T f)) (hT : s₀.heap.get? T = some (seqObj "tuple" [.ref it] nT)) (hl : s₀.heap.get? l = some (seqObj "tuple" items nl))
    (hit0 : s₀.heap.IsTupleIter it l 0) (hM59 : M ≠ 56) (hMi : M ≠ it) (hV : it ∉ V) (hg : ¬ GIdom c it) (hr : RepL V s₀.heap as items) (hlen : as.length = ws.length) (hflat : ∀ p ∈ ws, Flt p)
    (hcall : ∀ (i : Nat) p q, as[i]? = some p → ws[i]? = some q → Calls c m f [p] q) : WM c A s₀ V M ws [56, it] [it, M] (fun i s => Step [56, it] s₀ s ∧ s.heap.IsTupleIter it l i) := by
  have odd : ∀ o, s₀.heap.get? it = some o → Odd o := IsTupleIter.odd hit0
  have off : Off c V s₀ [56, it] := fun a ha => by
    rcases List.mem_cons.mp ha with rfl | ha
    · exact .inl rfl
    · rw [List.mem_singleton.mp ha]; exact .inr ⟨hV, hg, odd⟩
  have ne : ∀ {a o}, s₀.heap.get? a = some o → (∀ vs, o.data ≠ .fields vs) → a ≠ 56 ∧ a ≠ it := fun {a o} e hd => ⟨fun q => by
    obtain ⟨ps, _, _, ht⟩ := G.gi.tab
    rw [q, ht] at e; cases e; exact hd _ rfl, fun q => by
    obtain ⟨o', e', _, hd'⟩ := id hit0
    rw [q, e'] at e; cases e; exact hd _ hd'⟩
  have kT : ∀ {s : Shared}, Step [56, it] s₀ s → s.heap.get? T = some (seqObj "tuple" [.ref it] nT) := fun st => st.keep _ _ (by have := ne hT (by simp [seqObj]); simp [this]) hT
  have kl : ∀ {s : Shared}, Step [56, it] s₀ s → s.heap.get? l = some (seqObj "tuple" items nl) := fun st => st.keep _ _ (by have := ne hl (by simp [seqObj]); simp [this]) hl
  have kM : ∀ {s : Shared}, Step [56, it] s₀ s → s.heap.get? M = some (mapObj T f) := fun st => st.keep _ _ (by simp [hM59, hMi]) hM
  have hilen : items.length = ws.length := by rw [hr.length, hlen]
  have hit59 : it ≠ 56 := fun q => hV (q ▸ G.v59)
  refine ⟨hflat, fun a ha => ?_, fun i s h => G.off h.1 off, fun i s h a ha => ?_, ?_, ?_, ?_, ?_, ?_⟩
  · rcases List.mem_cons.mp ha with rfl | ha
    · exact .inl rfl
    · rw [List.mem_singleton.mp ha]; exact .inr (.head _)
  · rcases List.mem_cons.mp ha with rfl | ha
    · obtain ⟨o, e, _⟩ := h.2; exact ⟨o, e⟩
    · rw [List.mem_singleton.mp ha]; exact ⟨_, kM h.1⟩
  · rintro i s S o o' h' ⟨st, hi⟩ hS e hd hs e'
    have hSit : it ≠ S := fun q => by obtain ⟨o, eo, _⟩ := hit0; rw [q, hS] at eo; cases eo
    refine ⟨⟨fun b ob hb eb => (hs.2 b (fun q => by rw [q, hS] at eb; cases eb)).trans (st.keep b ob hb eb), fun t => (st.tab t).sameBut hs e hd, st.bare, st.drawn, st.os⟩, IsTupleIter.keep hi fun o eo => (hs.2 it hSit).trans eo⟩
  · rintro i s o ⟨st, hi⟩
    exact ⟨st.trans (.of_keep push_keep), IsTupleIter.keep hi fun o eo => push_keep _ _ eo⟩
  · rintro i s Q E q hq ⟨st, hi⟩ k
    have hilt : i < ws.length := (List.getElem?_eq_some_iff.mp hq).1
    obtain ⟨p, hp⟩ : ∃ p, as[i]? = some p := ⟨as[i]'(by omega), List.getElem?_eq_getElem (by omega)⟩
    obtain ⟨x, hx, rx⟩ := hr.get i p hp
    refine pyNext_map_item (kM st) (kT st) hi (isTuple_of (kl st)) (by rw [List.getElem?_toArray]; exact hx) hMi fun h' hi' hs E' => ?_
    obtain ⟨oi, ei, hci, hdi⟩ := id hi
    have st1 : Step [56, it] s { s with heap := h' } := ⟨fun b ob hb eb => (hs.2 b (fun q => hb (by rw [q]; simp))).trans eb, tab_of_keep (wr := [it]) (fun a ha => by rw [List.mem_singleton.mp ha]; exact hg) (fun b o hb e => (hs.2 b (by simpa using hb)).trans e), .refl, rfl, rfl⟩
    have stA := st.trans st1
    have G1 := G.off stA off
    refine hcall i p q hp hq A.in1 (hA.in1 (Nat.le_refl _)) V { s with heap := h' } [x] _ E' G1 (.cons (rx.off stA G.v59 off) .nil) fun v s' st2 rv => ?_
    exact k v s' (st1.trans (st2.wide fun a ha => by rw [List.mem_singleton.mp ha]; simp)) rv ⟨stA.trans (st2.wide fun a ha => by rw [List.mem_singleton.mp ha]; simp), IsTupleIter.keep hi' fun o eo => st2.keep it o (by simpa using hit59) eo⟩
  · rintro s Q E ⟨st, hi⟩ k
    refine pyNext_map_end hA.1 (kM st) (kT st) hi (isTuple_of (kl st)) (by rw [List.getElem?_toArray, List.getElem?_eq_none (by omega)]) fun h' hs => ?_
    have st1 : Step [56, it] s { s with heap := h' } := ⟨fun b ob hb eb => hs b ob (fun q => hb (by rw [q]; simp)) eb, tab_of_keep (wr := [it]) (fun a ha => by rw [List.mem_singleton.mp ha]; exact hg) (fun b o hb e => hs b o (by simpa using hb) e), .refl, rfl, rfl⟩
    exact k _ st1 (G.off (st.trans st1) off)
  · rintro A i s Q E ⟨st, hi⟩ k
    exact wpAny_pyIter_map (kM st) k
end
end

section
open PySem PySem.W PySem.Spec PySem.Calls PyProof.Rows PySem.SeqAt
set_option linter.unusedVariables false
set_option maxRecDepth 100000
set_option maxHeartbeats 1000000
section
variable {c : Cx} {m n : Nat} {env : Env} {V : List Addr} {Γ : List (PySem.Str × PV)}

theorem addr2 (I : Addr) : I + 2 ≠ I := Nat.ne_of_gt (Nat.lt_succ_of_lt (Nat.lt_succ_self I))
/-- what was not there before need not be named -/
theorem Step.drop {W : List Addr} {s s' s'' : Shared} {I : Addr} (hI : s.heap.get? I = none) (x : Step (I :: W) s s') (y : Step (56 :: [I]) s' s'') (h59 : 56 ∈ W := by simp) : Step W s s'' := by
  have z := x.trans (y.wide (W' := I :: W) fun a ha => by
    rcases List.mem_cons.mp ha with rfl | ha
    · exact .tail _ h59
    · rw [List.mem_singleton.mp ha]; exact .head _)
  refine ⟨fun a o ha e => z.keep a o (fun q => ?_) e, z.tab, z.bare, z.drawn, z.os⟩
  rcases List.mem_cons.mp q with rfl | q
  · rw [hI] at e; cases e
  · exact ha q
/-- map(f, tuple) made -/
theorem Ev.mapMade {np pos : Pos} {ef ea : Expr} {f : Value} {as : List PV} (hmap : Ev c n env V Γ (.Name (Str.ofString "map") np) (.fn (.type "map"))) (hf : Ev c n env V Γ ef (.fn f)) (ha : Ev c n env V Γ ea (.tup as)) (pf : plainE ef = true) (pa : plainE ea = true)
    {A : Around} (hA : Room A n) {s : Shared} {Q : Value → Shared → Prop} {E : Value → Shared → Prop} (F : FS c env V Γ s)
    (k : ∀ s' (I l : Addr) (nl : Nat) (items : List Value), Step [56] s s' → FS c env V Γ s' → s'.heap.get? (I + 2) = some (mapObj (I + 1) f) → s'.heap.get? (I + 1) = some (seqObj "tuple" [.ref I] 0) → s'.heap.IsTupleIter I l 0 → s'.heap.objs.size = I + 3 → s.heap.get? I = none → I ∉ V → ¬ GIdom c I → l ∉ V → l < I →
      s'.heap.get? l = some (seqObj "tuple" items nl) → RepL V s'.heap as items → Q (.ref (I + 2)) s') : wpAny c.M A (eval (.Call (.Name (Str.ofString "map") np) [ef, ea] [] pos) env) Q E s := by
  refine wpAny_Call_ofName (hmap.bind hA F fun fv s₁ st₁ F₁ r₁ => ?_)
  rw [of_fn r₁]
  have hel : EvL c n env V Γ [ef, ea] [.fn f, .tup as] := .cons hf (.cons ha .nil pa) pf
  refine PySem.callWith_type hel.plain ?_
  have fin := hel.bind (pos := pos) (E := E) (Q := fun vs s₂ => wpAny c.M A (PySem.call (.type "map") ([] ++ vs) []) Q E s₂) hA F₁ (fun vs s₂ st₂ F₂ r₂ => ?_)
  · rw [starEach_plain pf, backTo_plain] at fin ⊢
    exact evalArgs_plain fin
  · obtain ⟨v, w, rfl, hv, hw⟩ := r₂.two
    obtain ⟨l, items, nl, rfl, hlV, ho, hr⟩ := of_tup hw
    rw [of_fn hv]
    refine call_map (isTuple_of ho) fun h' I hI e1 e2 e3 hsz hk => ?_
    have st3 : Step [56] s₂ { s₂ with heap := h' } := .of_keep hk
    have hfr : s₂.heap.get? I = none := by rw [hI]; exact push_fresh
    exact k _ I l nl items (st₁.trans (st₂.trans st3)) (F₂.step st3) e1 e2 e3 hsz (fresh_since F₁.toGS st₁ (fresh_since F₂.toGS st₂ hfr)) (F₂.toGS.notIn hfr) (F₂.gi.fresh hfr) hlV (by rw [hI]; exact get_lt ho) (hk _ _ ho) (hr.mono fun a o ha e => ⟨ha, hk a o e⟩)

theorem Ev.tupleMap {np np2 pos pos2 : Pos} {ef ea : Expr} {f : Value} {as ws : List PV} (htup : Ev c (m + 3) env V Γ (.Name (Str.ofString "tuple") np) (.fn (.type "tuple"))) (hmap : Ev c (m + 3) env V Γ (.Name (Str.ofString "map") np2) (.fn (.type "map"))) (hf : Ev c (m + 3) env V Γ ef (.fn f)) (ha : Ev c (m + 3) env V Γ ea (.tup as))
    (hlen : as.length = ws.length) (hflat : ∀ p ∈ ws, Flt p) (hcall : ∀ (i : Nat) p q, as[i]? = some p → ws[i]? = some q → Calls c m f [p] q) (hn : ws.length ≤ 1000000) (pf : plainE ef = true := by rfl) (pa : plainE ea = true := by rfl) :
    Ev c (m + 3) env V Γ (.Call (.Name (Str.ofString "tuple") np) [.Call (.Name (Str.ofString "map") np2) [ef, ea] [] pos2] [] pos) (.tup ws) := by
  intro A hA s Q E F k
  refine wpAny_Call_ofName (htup.bind hA F fun fv s₁ st₁ F₁ r₁ => ?_)
  rw [of_fn r₁]
  refine PySem.callWith_type rfl (evalArgs_plain (Calls.spliced_cons (Ev.mapMade hmap hf ha pf pa hA F₁ fun s₂ I l nl items st₂ F₂ e1 e2 e3 hsz hI hIV hIg hlV hlI hl hr => Calls.spliced_nil ?_)))
  have hM59 : I + 2 ≠ 56 := fun q => by
    obtain ⟨ps, _, _, ht⟩ := F₂.gi.tab
    rw [← q, e1] at ht
    cases ht
  have W := WM.map (A := A.in1.in1.in1) (m := m) ((hA.ins (j := 3) (by decide)).le (by omega)) (f := f) (M := I + 2) (T := I + 1) (it := I) (l := l) (as := as) (ws := ws) F₂.toGS e1 e2 hl e3 hM59 (addr2 I) hIV hIg hr hlen hflat hcall
  refine call_tuple_map W hn (fun i s' h => ?_) ⟨.refl, e3⟩ (by simp) fun x s' st r => ?_
  · exact ⟨_, h.1.keep (I + 2) _ (fun q => by
      rcases List.mem_cons.mp q with q | q
      · exact hM59 q
      · exact addr2 I (List.mem_singleton.mp q)) e1, rfl⟩
  · refine k x s' (st₁.trans (Step.drop hI (st₂.wide fun a ha => by rw [List.mem_singleton.mp ha]; simp) st)) r

/-- strings' lengths, the largest -/
theorem Ev.maxMapLen {np np2 np3 pos pos2 : Pos} {ea : Expr} {xs : List (List Nat)} {k₀ : Nat} (hmax : Ev c n env V Γ (.Name (Str.ofString "max") np) (.fn (.builtin "max"))) (hmap : Ev c n env V Γ (.Name (Str.ofString "map") np2) (.fn (.type "map"))) (hf : Ev c n env V Γ (.Name (Str.ofString "len") np3) (.fn (.builtin "len"))) (ha : Ev c n env V Γ ea (.tup (xs.map .str)))
    (hm : ∃ x ∈ xs, x.length = k₀) (hall : ∀ x ∈ xs, x.length ≤ k₀) (hk0 : k₀ < 1000000) (pa : plainE ea = true := by rfl) :
    Ev c n env V Γ (.Call (.Name (Str.ofString "max") np) [.Call (.Name (Str.ofString "map") np2) [.Name (Str.ofString "len") np3, ea] [] pos2] [] pos) (.int k₀) := by
  intro A hA s Q E F k
  refine wpAny_Call_ofName (hmax.bind hA F fun fv s₁ st₁ F₁ r₁ => ?_)
  rw [of_fn r₁]
  refine PySem.Calls.callWith_builtin rfl (evalArgs_plain (Calls.spliced_cons (Ev.mapMade hmap hf ha rfl pa hA F₁ fun s₂ I l nl items st₂ F₂ e1 e2 e3 hsz hI hIV hIg hlV hlI hl hr => Calls.spliced_nil ?_)))
  have hlen : items.length = xs.length := by rw [hr.length, List.length_map]
  have hne : ∀ {a : Addr} {o : Obj}, s₂.heap.get? a = some o → o.cls ≠ .type "tuple_iterator" → a ≠ I := fun {a o} e hc q => by
    obtain ⟨o', e', hc', _⟩ := e3
    rw [q, e'] at e; cases e; exact hc hc'
  have n1 : I + 2 ≠ I := hne e1 (by simp)
  have n2 : I + 1 ≠ I := hne e2 (by simp [seqObj])
  have n3 : l ≠ I := hne hl (by simp [seqObj])
  have W : Walks P0 c.w A.in1 (I + 2) [I, I + 2, I + 1, l] [I] xs.length (fun i v => ∃ t, v = .int ((xs.getD i []).length : Int) t)
      (fun i h => h.get? (I + 2) = some (mapObj (I + 1) (.builtin "len")) ∧ h.get? (I + 1) = some (seqObj "tuple" [.ref I] 0) ∧ h.IsTupleIter I l i ∧ h.get? l = some (seqObj "tuple" items nl)) := by
    refine ⟨by simp, ?_, ?_, ?_, ?_⟩
    · rintro i h h' ⟨a1, a2, a3, a4⟩ hk
      exact ⟨hk _ (by simp) _ a1, hk _ (by simp) _ a2, IsTupleIter.keep a3 fun o e => hk _ (by simp) o e, hk _ (by simp) _ a4⟩
    · rintro i s Q E hi ⟨a1, a2, a3, a4⟩ kk
      obtain ⟨x, hx, rx⟩ := hr.get i (.str xs[i]) (by simp [hi])
      obtain ⟨t, rfl⟩ := of_str rx
      refine pyNext_map_item a1 a2 a3 (isTuple_of a4) (by rw [List.getElem?_toArray]; exact hx) n1 fun h' hi' hs E' => ?_
      have hxl := hall xs[i] (List.getElem_mem _)
      refine SBL.len (by simp only [PySem.Str.length, List.size_toArray]; omega) ?_
      have ee : (((⟨xs[i].toArray⟩ : PySem.Str).length : Nat) : Int) = ((xs.getD i []).length : Int) := by simp [PySem.Str.length, hi]
      rw [ee]
      exact kk _ h' _ ⟨_, rfl⟩ ⟨(hs.2 _ n1).trans a1, (hs.2 _ n2).trans a2, hi', (hs.2 _ n3).trans a4⟩ fun b o hb e => (hs.2 b (by simpa using hb)).trans e
    · rintro s Q E ⟨a1, a2, a3, a4⟩ kk
      refine pyNext_map_end (A := A.in1) hA.1 a1 a2 a3 (isTuple_of a4) (by rw [List.getElem?_toArray, List.getElem?_eq_none (by omega)]) fun h' hs => ?_
      exact kk h' s.toks fun b o hb e => hs b o (by simpa using hb) e
    · rintro i s Q E ⟨a1, a2, a3, a4⟩ kk
      exact wpAny_pyIter_map a1 kk
  have hpos : 0 < xs.length := by obtain ⟨x, hx, _⟩ := hm; exact List.length_pos_of_mem hx
  refine call_max_walk (wpAny_pyIter_map e1 ⟨I + 2, _, _, _, _, _, _, rfl, W, ⟨e1, e2, e3, hl⟩, ?_, hpos, CmpOf.ints_gt (fun i => ((xs.getD i []).length : Int)) (fun _ _ h => h), ?_⟩)
  · intro b hb
    rcases List.mem_cons.mp hb with rfl | hb
    · obtain ⟨o, e, _⟩ := e3; exact get_lt e
    · rcases List.mem_cons.mp hb with rfl | hb
      · exact get_lt e1
      · rcases List.mem_cons.mp hb with rfl | hb
        · exact get_lt e2
        · rw [List.mem_singleton.mp hb]; exact get_lt hl
  · rintro v h' tk ⟨t, rfl⟩ hk
    have hb := argBest_le (fun i j => decide (((xs.getD i []).length : Int) > ((xs.getD j []).length : Int))) (xs.length - 1)
    have hbest := argBest_best (fun x y : Int => decide (x > y)) (fun i => ((xs.getD i []).length : Int)) (fun x => by simp) (fun x y z h1 h2 => by simp only [decide_eq_true_eq] at *; omega) (xs.length - 1)
    generalize argBest (fun i j => decide (((xs.getD i []).length : Int) > ((xs.getD j []).length : Int))) (xs.length - 1) = q at *
    have e : ((xs.getD q []).length : Int) = k₀ := by
      obtain ⟨x, hx, ex⟩ := hm
      obtain ⟨j, hj, ej⟩ := List.getElem_of_mem hx
      have h1 := hbest j (by omega)
      have h2 := hall (xs.getD q []) (by rw [List.getD_eq_getElem?_getD, List.getElem?_eq_getElem (by omega)]; exact List.getElem_mem _)
      have h3 : xs.getD j [] = x := by rw [List.getD_eq_getElem?_getD, List.getElem?_eq_getElem hj]; exact ej
      simp only [h3] at h1
      simp only [decide_eq_false_iff_not] at h1
      omega
    show Q _ _
    rw [e]
    refine k _ _ (st₁.trans ?_) rep_int
    refine Step.drop hI (st₂.wide fun a ha => by rw [List.mem_singleton.mp ha]; simp) (W := [56]) (s' := s₂) ⟨fun b o hb eb => hk b o (fun q => hb (by rw [List.mem_singleton.mp q]; simp)) eb, tab_of_keep (wr := [I]) (fun a ha => by rw [List.mem_singleton.mp ha]; exact hIg) hk, .refl, rfl, rfl⟩
end
end

section
open PySem PySem.W PySem.Spec PySem.Calls PyProof.Rows PySem.SeqAt
set_option linter.unusedVariables false
set_option maxRecDepth 100000
set_option maxHeartbeats 1000000

/-- a def whose parameters take more than the arguments by place -/
theorem Calls.defG {c : Cx} {n : Nat} {f : Addr} {oc : Value} {od : Option Addr} {osl : Array (Option Value)} {fd : FuncData} {body : List Stmt} {names : List PySem.Str} {args pargs : List PV} {p : PV}
    (ho : c.K.lookup f = some ⟨oc, od, .func fd, osl⟩) (hcd : codeIn c.K fd.code fd.qualname = true) (hbody : fd.body = .stmts body)
    (hbind : ∀ (A : Around) (V : List Addr) (s : Shared) (vals : List Value) (Q : List (PySem.Str × Value) → Shared → Prop) (E : Value → Shared → Prop), GS c V s → RepL V s.heap args vals → (∀ vals' s', Step [56] s s' → RepL V s'.heap pargs vals' → Q (names.zip vals') s') → wpAny c.M A (bindArgs fd ⟨vals, []⟩) Q E s) (hclo : fd.closure = [])
    (hnames : names.Nodup) (hkind : (names.all fun y => fd.scope.names.lookup y == some .local || fd.scope.names.lookup y == some .cell) = true)
    (hcn : ((fd.scope.names.filter fun x => x.2 == .cell).map (·.1)).Nodup) (hfree : (fd.scope.names.all fun x => x.2 != .free) = true)
    (hb : ∀ L V, Ex c n (callEnvC fd L f) V (names.zip pargs) body (.ret p))
    (hco : fd.scope.isCoroutine = false := by rfl) (hgen : fd.scope.isGenerator = false := by rfl) (hk : fd.scope.kind = .function := by rfl) : Calls c (n + 1) (.ref f) args p := by
  intro A hA V s vals Q E G r k
  have hroom : A.depth < recursionLimit := by have := (hA.2 (by omega)).1; omega
  refine wpAny_call ?_
  refine codeAny_call_function hroom (G.gi.k _ _ ho) rfl hco hgen hbody (codeRec_of G.gi.k hcd) ?_
  refine hbind _ V s vals _ _ G r fun vals s1 st1 r => ?_
  have G1 := G.step st1
  have hkx : ∀ x ∈ names.zip vals, fd.scope.names.lookup x.1 = some .local ∨ (fd.scope.names.lookup x.1 = some .cell ∧ ((cellsFrom (s1.heap.objs.size + 1) fd.scope.names []).lookup x.1).isSome = true) := by
    refine kindsX ?_ _
    rw [List.all_eq_true]
    intro x hx
    have := List.all_eq_true.mp hkind x.1 (List.of_mem_zip (a := x.1) (b := x.2) (by simpa using hx)).1
    exact this
  rw [hclo]
  refine wpAny_newFunctionEnv_cells hk hkx fun env he s₁ x => ?_
  subst he
  refine ⟨G1.gi.nolimit.keeps x.toInCall.keep, codeAny_func ?_⟩
  have hnd : ((callEnvC fd s1.heap.objs.size f).cells.map (·.1)).Nodup := by
    show ((cellsFrom (s1.heap.objs.size + 1) fd.scope.names []).map (·.1)).Nodup
    rw [cellsFrom_names]
    rw [List.map_nil, List.append_nil]
    exact List.pairwise_reverse.mpr (hcn.imp fun h => h.symm)
  have hfr : ∀ y, (callEnvC fd s1.heap.objs.size f).kindOf y ≠ some .free := by
    intro y e
    have e' : fd.scope.names.lookup y = some .free := e
    have := List.all_eq_true.mp hfree _ (mem_of_lookup e')
    simp at this
  have hcl : ∀ y, (callEnvC fd s1.heap.objs.size f).kindOf y = some .cell → ((callEnvC fd s1.heap.objs.size f).cells.lookup y).isSome = true := fun y e => cellsFrom_some _ _ _ (.inl e)
  have x' : InCallC s1 (callEnvC fd s1.heap.objs.size f).locals (bindL (callEnvC fd s1.heap.objs.size f).kindOf (names.zip vals) fun _ => none) (callEnvC fd s1.heap.objs.size f).cells (bindC (callEnvC fd s1.heap.objs.size f).kindOf (names.zip vals) fun _ => none) s₁ := x
  obtain ⟨F, st₀⟩ := FS.entry (Γ := names.zip pargs) G1 x' hnd hfr hcl (fun y q hy hl => bindL_zip hnames r y q hy hl) (fun y q hy hl => bindC_zip hnames r y q hy (by rw [hl]; simp))
  refine wpAny_mono (hb _ _ _ hA.deeper s₁ (fun fl s' => ∃ v, fl = .ret v ∧ Step [56] s1 s' ∧ Rep V s'.heap p v) (fun _ _ => False) F fun fl s' st ho => ?_) ?_ (fun _ _ h => h.elim)
  · obtain ⟨v, rfl, hr⟩ := ho
    exact ⟨v, rfl, Step.call x' (st₀ _) st, hr.mono fun a o ha e => ⟨fun hm => ha (List.mem_append.mpr (.inr hm)), e⟩⟩
  · rintro fl s' ⟨v, rfl, st, hr⟩
    exact k v s' (st1.trans st) hr

section
variable {c : Cx} {n : Nat} {env : Env} {V : List Addr} {Γ Γ' : List (PySem.Str × PV)}
/-- a try whose body raises nothing -/
theorem St.try {body : List Stmt} {h₀ : ExceptHandler} {hs : List ExceptHandler} {pos : Pos} (hb : Ex c n env V Γ body (.next Γ')) : St c n env V Γ (.Try body (h₀ :: hs) [] [] pos) (.next Γ') := by
  intro A hA s Q E F k
  refine wpAny_Try_except (hb A hA s _ _ F fun f s' st ho => ?_)
  obtain ⟨rfl, F'⟩ := ho
  exact wpAny_execs_nil (k _ _ st ⟨rfl, F'⟩)
/-- an expression for its sake alone -/
theorem St.expr {e : Expr} {pos : Pos} {p : PV} (h : Ev c n env V Γ e p) (hi : interactive env = false := by rfl) (hs : swapsWith e none pos.line env = pure false := by rfl) : St c n env V Γ (.Expr e pos) (.next Γ) := by
  intro A hA s Q E F k
  refine wpAny_Expr_any (h.bind hA F fun v s₁ st₁ F₁ r₁ => ?_) hi hs
  exact k _ _ (st₁.wide wOwn) ⟨rfl, F₁⟩

/-- tuple(list) -/
theorem Calls.tupleL {us : List PV} (hl : us.length ≤ 1000000) : Calls c n (.type "tuple") [.list us] (.tup us) := by
  intro A hA V s vals Q E G r k
  obtain ⟨v, rfl, hv⟩ := r.one
  obtain ⟨a, items, m, rfl, ha, ho, hr⟩ := of_list hv
  refine call_tuple_list (isList_of ho) (fun h' hk => ?_) (by rw [List.size_toArray, hr.length, sizeLine_eq]; omega)
  have st1 : Step [56] s { s with heap := h' } := .of_keep hk
  have G1 := G.step st1
  have hnew : (h'.push (seqObj "tuple" items 0)).get? h'.objs.size = some (seqObj "tuple" items 0) := Heap.get?_push_size _ rfl
  refine k _ _ (st1.trans (.of_keep push_keep)) (rep_tup (n := 0) (G1.notIn push_fresh) hnew (hr.mono fun b o hb e => ⟨hb, push_keep _ _ (hk b o e)⟩))
end
end

section
open PySem PySem.W PySem.Spec PySem.Calls PyProof.Rows PySem.SeqAt
set_option linter.unusedVariables false
set_option maxRecDepth 100000
set_option maxHeartbeats 1000000

/-- an enumeration of flat data in a row, made since s₀ -/
def SourceE (c : Cx) (V : List Addr) (it : Value) (us : List PV) (s₀ s : Shared) : Prop :=
  ∃ (I : Addr) (fp wr : List Addr) (P : Nat → Value → Prop) (St : Nat → Heap → Prop) (Mid : Nat → Addr → Heap → Prop), it = .ref I ∧ (∀ A : Around, A.handled = none → WalksT P0 c.w A I fp wr us.length (fun i vals => ∃ t x, P i x ∧ vals = #[.int (i : Nat) t, x]) St Mid) ∧ St 0 s.heap ∧ (∀ (i : Nat) p v h, us[i]? = some p → P i v → Rep V h p v) ∧ (∀ a ∈ fp, a ∉ V ∧ a < s.heap.objs.size) ∧ (∀ a ∈ wr, ¬ GIdom c a ∧ s₀.heap.get? a = none) ∧
    (∀ i h, St i h → ∀ a ∈ wr, ∀ o, h.get? a = some o → Odd o) ∧ (∀ i T h, Mid i T h → ∀ a ∈ wr, ∀ o, h.get? a = some o → Odd o)
def EvE (c : Cx) (n : Nat) (env : Env) (V : List Addr) (Γ : List (PySem.Str × PV)) (e : Expr) (us : List PV) : Prop :=
  ∀ A, Room A n → ∀ s (Q : Value → Shared → Prop) (E : Value → Shared → Prop), FS c env V Γ s →
    (∀ it s', Step [56] s s' → SourceE c V it us s s' → Q it s') → wpAny c.M A (eval e env) (fun x s₁ => wpAny c.M A (pyIter x) Q E s₁) E s

section
variable {c : Cx} {n : Nat} {env : Env} {V W : List Addr} {Γ Γ' Δ : List (PySem.Str × PV)}

theorem St.forEnum {x y : PySem.Str} {kx : Nat} {px py pt pos : Pos} {iter : Expr} {body : List Stmt} {us : List PV} (G : Nat → List (PySem.Str × PV)) (kk : Nat) (o : Out) (hi : EvE c n env V Γ iter us) (h0 : Sub (G 0) Γ) (hf : env.scope.kind = .function) (hx : env.kindOf x = some .local) (hy : env.kindOf y = some .local)
    (hkk : kk ≤ us.length) (hb : ∀ i p, us[i]? = some p → i < kk → Ex c n env V ((y, p) :: (x, .int (i : Nat)) :: G i) body (.next (G (i + 1))))
    (hlast : (kk = us.length ∧ o = .next (G kk)) ∨ (∃ p q, us[kk]? = some p ∧ Ex c n env V ((y, p) :: (x, .int (kk : Nat)) :: G kk) body (.ret q) ∧ o = .ret q)) (hs : ∀ v, foldedSetIterable iter env v = pure v := by intro _; rfl) :
    St c n env V Γ (.For (.Tuple [.Name x px, .Name y py] kx pt) iter body [] pos) o := by
  intro A hA s Q E F k
  refine wpAny_For (hi A hA s _ E F fun it s₂ st₂ src => ?_) hs
  obtain ⟨I, fp, wr, P, T, Mid, rfl, hW, hT, hP, hfp, hwr, hodd, hoddM⟩ := src
  have F₂ := F.step st₂
  have W := hW A hA.1
  have hwrV : ∀ a ∈ wr, a ∉ V := fun a ha => (hfp a (W.sub a ha)).1
  have fin : ∀ {s₃ : Shared}, Step (own env ++ wr) s₂ s₃ → Step (own env) s s₃ := fun {s₃} st => by
    have st' := (st₂.wide (W' := own env ++ wr) fun a ha => List.mem_append.mpr (.inl (wOwn a ha))).trans st
    refine ⟨fun a o ha e => st'.keep a o (fun hm => ?_) e, st'.tab, st'.bare, st'.drawn, st'.os⟩
    rcases List.mem_append.mp hm with hm | hm
    · exact ha hm
    · rw [(hwr a hm).2] at e; cases e
  refine codeAny_mono (codeAny_forLoop_any (R := fun r s' => ∃ f, r = .ok f ∧ Step (own env) s s' ∧ OutIs c env V o f s')
    (fun m s₁ => ∃ i, i ≤ kk ∧ m = us.length + 1 - i ∧ T i s₁.heap ∧ FS c env V (G i) s₁ ∧ Step (own env ++ wr) s₂ s₁) (fun m s₁ hI => ?_) (us.length + 1) ⟨0, Nat.zero_le _, rfl, hT, F₂.sub h0, .refl⟩) ?_
  · obtain ⟨i, hi', rfl, hTi, F₁, st₁⟩ := hI
    have offW : Off c V s₁ wr := fun a ha => .inr ⟨hwrV a ha, (hwr a ha).1, hodd i _ hTi a ha⟩
    have tabW : ∀ {s₁ : Shared} {h' : Heap}, (∀ b o, b ∉ wr → s₁.heap.get? b = some o → h'.get? b = some o) → Tab s₁.heap → Tab h' := fun hk => tab_of_keep (fun a ha => (hwr a ha).1) hk
    by_cases hlt : i < us.length
    · obtain ⟨p, hp⟩ : ∃ p, us[i]? = some p := ⟨us[i], List.getElem?_eq_getElem hlt⟩
      refine W.item i s₁ _ _ hlt hTi fun T' vals h' tk hPv hTs hT' hMid hk => ?_
      obtain ⟨t, v, hPv, rfl⟩ := hPv
      have stn : Step wr s₁ { s₁ with heap := h', toks := tk } := ⟨fun a o ha e => hk a o ha e, tabW hk, .refl, rfl, rfl⟩
      have F' := F₁.off stn offW
      have offM : Off c V { s₁ with heap := h', toks := tk } wr := fun a ha => .inr ⟨hwrV a ha, (hwr a ha).1, hoddM i _ _ hMid a ha⟩
      refine W.go _ _ _ i T' _ _ _ hMid fun h'' hT2 hk2 => ?_
      have stn2 : Step wr { s₁ with heap := h', toks := tk } { s₁ with heap := h'', toks := tk } := ⟨fun a o ha e => hk2 a o ha e, tabW (s₁ := { s₁ with heap := h', toks := tk }) hk2, .refl, rfl, rfl⟩
      have F2 := F'.off stn2 offM
      have hT'' : h''.IsTuple T' #[.int (i : Nat) t, v] := by
        obtain ⟨o, e, r⟩ := hT'; exact ⟨o, hk2 _ _ (W.apart _ _ _ hMid) e, r⟩
      refine wpAny_assign_Tuple hA.1 hT'' rfl rfl fun h3 he3 => ?_
      have st3 : Step [56] { s₁ with heap := h'', toks := tk } { s₁ with heap := h3, toks := tk } := .of_keep fun a o e => he3 a o (Nat.ne_of_lt (get_lt e)) e
      have F3 := F2.step st3
      have hT3 : T (i + 1) h3 := W.frame _ _ _ hT2 fun b hb o e => he3 b o (Nat.ne_of_lt (get_lt e)) e
      refine PySem.wpAny_assignInOrder_more (wpAny_assign_Name (store_local F3 hf hx rep_int fun s₄ st₄ F₄ => ?_))
      refine PySem.wpAny_assignInOrder_more (wpAny_assign_Name (store_local F₄ hf hy (hP i p v _ hp hPv) fun s₅ st₅ F₅ => wpAny_assignInOrder_none ?_))
      have stA : Step (own env ++ wr) s₂ s₅ := st₁.trans ((stn.wide fun a ha => List.mem_append.mpr (.inr ha)).trans ((stn2.wide fun a ha => List.mem_append.mpr (.inr ha)).trans ((st3.wide fun a ha => List.mem_append.mpr (.inl (wOwn a ha))).trans ((st₄.trans st₅).wide fun a ha => List.mem_append.mpr (.inl ha)))))
      have hT5 : T (i + 1) s₅.heap := W.frame _ _ _ hT3 fun b hb o e => (st₄.trans st₅).keep b o (fun hm => (hfp b hb).1 (F₁.ownV b hm)) e
      by_cases hik : i < kk
      · refine hb i p hp hik A hA s₅ _ _ F₅ fun f s₆ st₆ ho => ?_
        obtain ⟨rfl, F₆⟩ := ho
        exact ⟨us.length + 1 - (i + 1), by omega, i + 1, hik, rfl, W.frame _ _ _ hT5 fun b hb o e => st₆.keep b o (fun hm => (hfp b hb).1 (F₁.ownV b hm)) e, F₆, stA.trans (st₆.wide fun a ha => List.mem_append.mpr (.inl ha))⟩
      · have hie : i = kk := by omega
        subst hie
        rcases hlast with ⟨h1, _⟩ | ⟨p', q, hp', hex, rfl⟩
        · omega
        · rw [hp] at hp'; cases hp'
          refine hex A hA s₅ _ _ F₅ fun f s₆ st₆ ho => ?_
          obtain ⟨v', rfl, rv⟩ := ho
          exact ⟨_, rfl, fin (stA.trans (st₆.wide fun a ha => List.mem_append.mpr (.inl ha))), ⟨_, rfl, rv⟩⟩
    · have hie : i = us.length := by omega
      rcases hlast with ⟨h1, rfl⟩ | ⟨p', q, hp', _⟩
      · have : i = kk := by omega
        subst this
        subst hie
        refine W.done s₁ _ _ hTi fun h' tk hk => ?_
        have stn : Step wr s₁ { s₁ with heap := h', toks := tk } := ⟨fun a o ha e => hk a o ha e, tabW hk, .refl, rfl, rfl⟩
        exact wpAny_execs_nil ⟨_, rfl, fin (st₁.trans (stn.wide fun a ha => List.mem_append.mpr (.inr ha))), ⟨rfl, F₁.off stn offW⟩⟩
      · have := (List.getElem?_eq_some_iff.mp hp').1
        omega
  · rintro r s' ⟨f, rfl, st, ho⟩
    exact k _ _ st ho
end
end

section
open PySem PySem.W PySem.Spec PySem.Calls PyProof.Rows PySem.SeqAt
set_option linter.unusedVariables false
set_option maxRecDepth 100000
set_option maxHeartbeats 1000000

theorem IsEnum.odd {h : Heap} {e it : Addr} {i : Int} {old : Value} (x : IsEnum h e it i old) : ∀ o, h.get? e = some o → Odd o := fun o e' => by
  rw [x] at e'; cases e'; exact fun _ _ q => by cases q
theorem IsEnumOut.odd {h : Heap} {e it : Addr} {i : Int} {x : Value} {T : Addr} (z : IsEnumOut h e it i x T) : ∀ o, h.get? e = some o → Odd o := fun o e' => by
  rw [z] at e'; cases e'; exact fun _ _ q => by cases q
theorem IsStrIter.odd {h : Heap} {it : Addr} {ty : String} {x : PySem.Str} {t : Tok} {i : Nat} (z : h.IsStrIter it ty x t i) : ∀ o, h.get? it = some o → Odd o := fun o e' => by
  obtain ⟨o', e, hc, hd⟩ := z
  rw [e] at e'; cases e'
  unfold Odd; rw [hd]; exact fun _ _ q => by cases q

section
variable {c : Cx} {n : Nat} {env : Env} {V W : List Addr} {Γ Γ' Δ : List (PySem.Str × PV)}

theorem EvE.list {np pos : Pos} {e : Expr} {us : List PV} (hn : Ev c n env V Γ (.Name (Str.ofString "enumerate") np) (.fn (.type "enumerate"))) (he : Ev c n env V Γ e (.list us)) (hflat : ∀ p ∈ us, Flt p) (hp : plainE e = true := by rfl) :
    EvE c n env V Γ (.Call (.Name (Str.ofString "enumerate") np) [e] [] pos) us := by
  intro A hA s Q E F k
  refine wpAny_Call_ofName (hn.bind hA F fun fv s₁ st₁ F₁ r₁ => ?_)
  rw [of_fn r₁]
  refine PySem.callWith_type (EvL.cons he .nil hp).plain ?_
  have fin := (EvL.cons he .nil hp).bind (pos := pos) (E := E) (Q := fun vs s₂ => wpAny c.M A (PySem.call (.type "enumerate") ([] ++ vs) []) (fun x s₃ => wpAny c.M A (pyIter x) Q E s₃) E s₂) hA F₁ (fun vs s₂ st₂ F₂ r₂ => ?_)
  · rw [starEach_plain hp, backTo_plain] at fin ⊢; exact evalArgs_plain fin
  · obtain ⟨v, rfl, rv⟩ := r₂.one
    obtain ⟨l, items, m, rfl, ha, ho, hr⟩ := of_list rv
    refine call_enumerate_list (isList_of ho) fun h' hE hI hsz hk => wpAny_pyIter_enum hE ?_
    have hlen : items.toArray.size = us.length := by rw [List.size_toArray, hr.length]
    have st3 : Step [56] s₂ { s₂ with heap := h' } := .of_keep hk
    have f1 : s₂.heap.get? s₂.heap.objs.size = none := push_fresh
    have f2 : s₂.heap.get? (s₂.heap.objs.size + 1) = none := by
      cases e : s₂.heap.get? (s₂.heap.objs.size + 1) with
      | none => rfl
      | some o => exact absurd (get_lt e) (Nat.not_lt.mpr (Nat.le_succ _))
    have hll : l < s₂.heap.objs.size := get_lt ho
    refine k _ _ (st₁.trans (st₂.trans st3)) ⟨s₂.heap.objs.size + 1, _, _, _, _, _, rfl, fun A' h => hlen ▸ WalksT.enumerate h (s₂.heap.objs.size + 1) s₂.heap.objs.size l (Nat.succ_ne_self _) (Nat.ne_of_lt (Nat.lt_succ_of_lt hll)) (Nat.ne_of_lt hll) items.toArray, ⟨⟨_, by simpa using hE⟩, hI, isList_of (hk _ _ ho)⟩, fun i p v h hp' hv => ?_, ?_, ?_, ?_, ?_⟩
    · obtain ⟨w, hw, rw'⟩ := hr.get i p hp'
      have hv : items.toArray[i]? = some v := hv
      rw [List.getElem?_toArray, hw] at hv; cases hv
      exact rw'.flt (hflat p (List.mem_of_getElem? hp'))
    · intro b hb
      show b ∉ V ∧ b < h'.objs.size
      rw [hsz]
      rcases List.mem_cons.mp hb with rfl | hb
      · exact ⟨F₂.notIn f2, Nat.lt_succ_self _⟩
      · rcases List.mem_cons.mp hb with rfl | hb
        · exact ⟨F₂.notIn f1, Nat.lt_succ_of_lt (Nat.lt_succ_self _)⟩
        · rw [List.mem_singleton.mp hb]; exact ⟨ha, Nat.lt_succ_of_lt (Nat.lt_succ_of_lt hll)⟩
    · intro b hb
      rcases List.mem_cons.mp hb with rfl | hb
      · exact ⟨F₂.gi.fresh f2, fresh_since F₁.toGS st₁ (fresh_since F₂.toGS st₂ f2)⟩
      · rw [List.mem_singleton.mp hb]; exact ⟨F₂.gi.fresh f1, fresh_since F₁.toGS st₁ (fresh_since F₂.toGS st₂ f1)⟩
    · rintro i h ⟨⟨old, hE'⟩, hI', _⟩ b hb
      rcases List.mem_cons.mp hb with rfl | hb
      · exact IsEnum.odd hE'
      · rw [List.mem_singleton.mp hb]; exact IsListIter.odd hI'
    · rintro i T h ⟨⟨old, hE'⟩, hI', _⟩ b hb
      rcases List.mem_cons.mp hb with rfl | hb
      · exact IsEnumOut.odd hE'
      · rw [List.mem_singleton.mp hb]; exact IsListIter.odd hI'

theorem EvE.str {np pos : Pos} {e : Expr} {x : List Nat} (hn : Ev c n env V Γ (.Name (Str.ofString "enumerate") np) (.fn (.type "enumerate"))) (he : Ev c n env V Γ e (.str x)) (hp : plainE e = true := by rfl) :
    EvE c n env V Γ (.Call (.Name (Str.ofString "enumerate") np) [e] [] pos) (x.map fun c => .str [c]) := by
  intro A hA s Q E F k
  refine wpAny_Call_ofName (hn.bind hA F fun fv s₁ st₁ F₁ r₁ => ?_)
  rw [of_fn r₁]
  refine PySem.callWith_type (EvL.cons he .nil hp).plain ?_
  have fin := (EvL.cons he .nil hp).bind (pos := pos) (E := E) (Q := fun vs s₂ => wpAny c.M A (PySem.call (.type "enumerate") ([] ++ vs) []) (fun x s₃ => wpAny c.M A (pyIter x) Q E s₃) E s₂) hA F₁ (fun vs s₂ st₂ F₂ r₂ => ?_)
  · rw [starEach_plain hp, backTo_plain] at fin ⊢; exact evalArgs_plain fin
  · obtain ⟨v, rfl, rv⟩ := r₂.one
    obtain ⟨t, rfl⟩ := of_str rv
    refine call_enumerate_str fun h' hE hI hsz hk => wpAny_pyIter_enum hE ?_
    have st3 : Step [56] s₂ { s₂ with heap := h' } := .of_keep hk
    have f1 : s₂.heap.get? s₂.heap.objs.size = none := push_fresh
    have f2 : s₂.heap.get? (s₂.heap.objs.size + 1) = none := by
      cases e : s₂.heap.get? (s₂.heap.objs.size + 1) with
      | none => rfl
      | some o => exact absurd (get_lt e) (Nat.not_lt.mpr (Nat.le_succ _))
    have hW : ∀ A' : Around, A'.handled = none → WalksT P0 c.w A' (s₂.heap.objs.size + 1) [s₂.heap.objs.size + 1, s₂.heap.objs.size] [s₂.heap.objs.size + 1, s₂.heap.objs.size] (x.map fun c => PV.str [c]).length
        (fun i vals => ∃ t' y, (∃ c u, (⟨x.toArray⟩ : PySem.Str).cps[i]? = some c ∧ y = .str ⟨#[c]⟩ u) ∧ vals = #[.int (i : Nat) t', y])
        (fun i h => (∃ old, IsEnum h (s₂.heap.objs.size + 1) s₂.heap.objs.size i old) ∧ h.IsStrIter s₂.heap.objs.size (strIterType ⟨x.toArray⟩) ⟨x.toArray⟩ t i)
        (fun i T h => (∃ y, IsEnumOut h (s₂.heap.objs.size + 1) s₂.heap.objs.size ((i : Int) + 1) y T) ∧ h.IsStrIter s₂.heap.objs.size (strIterType ⟨x.toArray⟩) ⟨x.toArray⟩ t (i + 1) ∧ T ≠ s₂.heap.objs.size + 1 ∧ T ≠ s₂.heap.objs.size) := fun A' hA' => by
      have hl : (x.map fun c => PV.str [c]).length = (⟨x.toArray⟩ : PySem.Str).cps.size := by simp
      rw [hl]
      unfold strIterType
      by_cases hasc : (⟨x.toArray⟩ : PySem.Str).cps.all (· < 128) = true
      · rw [if_pos hasc]
        exact WalksT.enumerateD (Draws.strAscii (A := A'.in1) hA' s₂.heap.objs.size ⟨x.toArray⟩ t) (s₂.heap.objs.size + 1) (Nat.succ_ne_self _) (by simp) (by simp)
      · rw [if_neg hasc]
        exact WalksT.enumerateD (Draws.strWide (A := A'.in1) hA' s₂.heap.objs.size ⟨x.toArray⟩ t) (s₂.heap.objs.size + 1) (Nat.succ_ne_self _) (by simp) (by simp)
    refine k _ _ (st₁.trans (st₂.trans st3)) ⟨s₂.heap.objs.size + 1, _, _, _, _, _, rfl, hW, ⟨⟨_, by simpa using hE⟩, hI⟩, fun i p v h hp' hv => ?_, ?_, ?_, ?_, ?_⟩
    · obtain ⟨ch, u, hc, rfl⟩ := hv
      have hc' : x[i]? = some ch := by simpa using hc
      rw [List.getElem?_map, hc'] at hp'
      cases hp'
      exact rep_str' (by simp)
    · intro b hb
      show b ∉ V ∧ b < h'.objs.size
      rw [hsz]
      rcases List.mem_cons.mp hb with rfl | hb
      · exact ⟨F₂.notIn f2, Nat.lt_succ_self _⟩
      · rw [List.mem_singleton.mp hb]
        exact ⟨F₂.notIn f1, Nat.lt_succ_of_lt (Nat.lt_succ_self _)⟩
    · intro b hb
      rcases List.mem_cons.mp hb with rfl | hb
      · exact ⟨F₂.gi.fresh f2, fresh_since F₁.toGS st₁ (fresh_since F₂.toGS st₂ f2)⟩
      · rw [List.mem_singleton.mp hb]; exact ⟨F₂.gi.fresh f1, fresh_since F₁.toGS st₁ (fresh_since F₂.toGS st₂ f1)⟩
    · rintro i h ⟨⟨old, hE'⟩, hI'⟩ b hb
      rcases List.mem_cons.mp hb with rfl | hb
      · exact IsEnum.odd hE'
      · rw [List.mem_singleton.mp hb]; exact IsStrIter.odd hI'
    · rintro i T h ⟨⟨old, hE'⟩, hI', _⟩ b hb
      rcases List.mem_cons.mp hb with rfl | hb
      · exact IsEnumOut.odd hE'
      · rw [List.mem_singleton.mp hb]; exact IsStrIter.odd hI'
end
end

section
open PySem PySem.W PySem.Spec PySem.Calls PyProof.Rows PySem.SeqAt
set_option linter.unusedVariables false
set_option maxRecDepth 100000
set_option maxHeartbeats 1000000
theorem CompOK.of {env : Env} {scope : Scope} {cl : List (PySem.Str × Addr)} {x : PySem.Str} {Γ Γc : List (PySem.Str × PV)} (clos : closureFor scope env = pure cl) (sub : ∀ y a, (y, a) ∈ cl → env.cells.lookup y = some a)
    (cell : scope.names.all (fun y => y.2 != .cell) = true) (kind : scope.kind = .function) (names : scope.names.all (fun y => y.2 != .local || scope.names.lookup y.1 == some .local) = true)
    (mt : (relabel scope env).names.all (fun y => y.2 != .cell || (cl.lookup y.1).isSome) = true) (tgt : (relabel scope env).names.lookup x = some .local) (cap : ∀ C, Cap env (compEnvC scope cl C env) Γ Γc) (xc : Γc.lookup x = none) : CompOK env scope cl x Γ Γc where
  clos := clos
  sub := sub
  cell := fun y hy => by have := List.all_eq_true.mp cell y hy; simpa using this
  kind := kind
  names := fun y hy hl => by
    have := List.all_eq_true.mp names y hy
    rw [hl] at this
    simpa using this
  mt := fun C y h => by
    have h' : (relabel scope env).names.lookup y = some .cell := h
    have := List.all_eq_true.mp mt _ (mem_of_lookup h')
    simpa using this
  tgt := fun C => tgt
  cap := cap
  xc := xc
theorem lookup_of_find {cells : List (PySem.Str × Addr)} {cl : List (PySem.Str × Addr)} (h : ∀ p ∈ cl, cells.lookup p.1 = some p.2) : ∀ y a, (y, a) ∈ cl → cells.lookup y = some a := fun y a hm => h (y, a) hm
end

section
open PySem PySem.W PySem.Spec PySem.Calls PyProof.Rows PySem.SeqAt
set_option linter.unusedVariables false
set_option maxRecDepth 100000
set_option maxHeartbeats 1000000
section
variable {c : Cx} {n : Nat} {env : Env} {V W : List Addr} {Γ Γ' Δ : List (PySem.Str × PV)}

theorem Ev.free {x : PySem.Str} {pos : Pos} {p : PV} (hv : Γ.lookup x = some p) (hk : env.scope.kind = .function) (hl : env.kindOf x = some .free) (hd : (x == (Str.ofString "__debug__")) = false) (hn : (x == ("__classdict__" : PySem.Str)) = false) : Ev c n env V Γ (.Name x pos) p := by
  intro A _ s Q E F k
  obtain ⟨a, v, h1, h2, hr⟩ := F.cel x p hv (.inr hl)
  exact wpAny_Name (wpAny_loadName_free hk hl h1 h2 (k v s .refl hr) hn) hd

theorem genCode {A : Around} {s : Shared} {pos : Pos} {qn : PySem.Str} {scope : Scope} {Q : Value → Shared → Prop} {E : Value → Shared → Prop} (hc : env.code = .ref 60) (G : GS c V s) (k : ∀ code s', Step [56] s s' → Q code s') : wpAny c.M A (genexprCode env pos qn scope) Q E s := by
  obtain ⟨ps, hok, htab⟩ := G.gi.tab
  cases e : codeAmong pos ps.toList with
  | none =>
    refine wpAny_genexprCodeX hc hok htab e fun c' h' tk hk _ _ h1 _ h2 _ => k _ _ ?_
    exact ⟨fun a o ha ea => hk a o (by simpa using ha) ea, fun _ => ⟨_, h1, h2⟩, .refl, rfl, rfl⟩
  | some c' => exact wpAny_genexprCode_hit hc hok e (k _ _ .refl)

/-- the frame of a generator expression -/
theorem FS.gen {s s₂ : Shared} {scope : Scope} {cl : List (PySem.Str × Addr)} {C : Addr} {code it : Value} {bi : Addr} {Vx : List Addr} {Γc : List (PySem.Str × PV)} (F : FS c env V Γ s₂) (st : ∀ a o, s₂.heap.get? a = some o → s.heap.get? a = some o) (hb : AllBare s.gens) (hC : s₂.heap.get? C = none) (hn : ∃ m, s.heap.Ns C m)
    (hVx : ∀ a ∈ Vx, ∃ o, s.heap.get? a = some o) (hVf : ∀ a ∈ Vx, s₂.heap.get? a = none) (hCx : C ∈ Vx)
    (hcl : ∀ y a, (y, a) ∈ cl → env.cells.lookup y = some a) (hmt : ∀ y, (genEnv scope cl C code bi env).kindOf y ≠ some .cell)
    (hcap : ∀ y p, Γc.lookup y = some p → Γ.lookup y = some p ∧ (env.kindOf y = some .cell ∨ env.kindOf y = some .free) ∧ (genEnv scope cl C code bi env).kindOf y ≠ some .local ∧ ∃ a, cl.lookup y = some a) :
    FS c (genEnv scope cl C code bi env) (Vx ++ V) Γc s := by
  have rep : ∀ {p : PV} {v : Value}, Rep V s₂.heap p v → Rep (Vx ++ V) s.heap p v := fun r => r.mono fun a o ha e => by
    refine ⟨fun hm => ?_, st a o e⟩
    rcases List.mem_append.mp hm with hm | hm
    · rw [hVf a hm] at e; cases e
    · exact ha hm
  have sub : ∀ y a, cl.lookup y = some a → env.cells.lookup y = some a := fun y a e => hcl y a (mem_of_lookup e)
  obtain ⟨m, hn⟩ := hn
  refine ⟨⟨F.gi.keep (fun a o _ _ e => st a o e) (F.gi.tab.keeps st), hb, fun a ha => ?_, List.mem_append.mpr (.inr F.v59)⟩, List.mem_append.mpr (.inl hCx), fun y a hm => List.mem_append.mpr (.inr (F.vC y a (mem_of_lookup (hcl y a hm)))), F.gi.fresh hC, fun y a hm => F.farC y a (mem_of_lookup (hcl y a hm)),
    fun y z a b h1 h2 hne => F.apart y z a b (sub _ _ h1) (sub _ _ h2) hne, ⟨_, hn, fun y p hy hl => absurd hl (hcap y p hy).2.2.1⟩, fun y p hy hk => ?_, fun y hk => absurd hk (hmt y)⟩
  · rcases List.mem_append.mp ha with hm | hm
    · exact hVx a hm
    · obtain ⟨o, e⟩ := F.vlive a hm; exact ⟨o, st a o e⟩
  · obtain ⟨h1, h2, _, a, h4⟩ := hcap y p hy
    obtain ⟨a', v, e1, ⟨o, e2, hd⟩, e3⟩ := F.cel y p h1 h2
    have h5 := sub _ _ h4
    rw [h5] at e1; cases e1
    exact ⟨a, v, h4, ⟨o, st a o e2, hd⟩, rep e3⟩
end
end

section
open PySem PySem.W PySem.Spec PySem.Calls PyProof.Rows PySem.SeqAt
set_option linter.unusedVariables false
set_option maxRecDepth 100000
set_option maxHeartbeats 1000000

/-- what holds of a generator's frame at its loop's head -/
def GJ (c : Cx) (cenv : Env) (Vg : List Addr) (Γc : List (PySem.Str × PV)) (X : List Addr) (T : Nat → Heap → Prop) (sb : Shared) (g : Nat) (i : Nat) (s : Shared) : Prop :=
  T i s.heap ∧ FS c cenv Vg Γc s ∧ Step X sb s ∧ g < s.gens.size
def GR (X : List Addr) : GenEnd := fun n s₀ r s₁ => r = .ok .next ∧ (n = 0 ∧ Step X s₀ s₁ ∧ s₀.gens.size ≤ s₁.gens.size)
def GY (V : List Addr) (N : Nat) (ws : List PV) (X : List Addr) (J : Nat → Shared → Prop) : Protocol := fun m s₀ v s kap =>
  (∃ i q, i + 1 + m = N ∧ ws[i]? = some q ∧ Rep V s.heap q v ∧ J (i + 1) s) ∧ Step X s₀ s ∧ ∀ i s'', i + 1 + m = N → J (i + 1) s'' → kap (.send .none) s''

theorem Room.over {A : Around} {m : Nat} {cd : Code} (h : Room A (m + 1)) (hw : cd.weight ≤ 1) (hu : cd.cUnits ≤ 10) (hg : cd.guards = []) (hh : (A.over cd []).handled = A.handled) : Room (A.over cd []) m := ⟨hh.trans h.1, fun h0 => by
  obtain ⟨a, b, g⟩ := h.2 (by omega)
  refine ⟨?_, ?_, ?_⟩
  · show A.depth + frameCount ([].map Frame.where_) + cd.weight + m < recursionLimit
    have : frameCount (([] : List Frame).map Frame.where_) = 0 := rfl
    omega
  · show A.units + unitsOf ([].map Frame.where_) + cd.cUnits + 20 * m < cLine
    have : unitsOf (([] : List Frame).map Frame.where_) = 0 := rfl
    omega
  · show pushGuards cd.guards (pushGuards (guardsOf ([].map Frame.where_)) A.guards) = some []
    rw [g, hg]; rfl⟩

section
variable {c : Cx} {m : Nat} {V Vg : List Addr} {Γc : List (PySem.Str × PV)} {A : Around}

theorem genLoop {elt iter : Expr} {x : PySem.Str} {px : Pos} {scope : Scope} {pos : Pos} {I : Addr} {fp wr : List Addr} {us ws : List PV} {P : Nat → Value → Prop} {T : Nat → Heap → Prop} {cenv : Env} {sb : Shared} {g : Nat} {f : PV → PV}
    (hA : Room A (m + 1)) (W₀ : ∀ A' : Around, A'.handled = none → Walks P0 c.w A' I fp wr us.length P T)
    (hx : cenv.kindOf x = some .local) (hf : cenv.scope.kind = .function) (hco : cenv.scope.isCoroutine = false) (hxc : Γc.lookup x = none)
    (hfp : ∀ a ∈ fp, a ∉ Vg) (hwr : ∀ a ∈ wr, ¬ GIdom c a) (hodd : ∀ i h, T i h → ∀ a ∈ wr, ∀ o, h.get? a = some o → Odd o)
    (hP : ∀ (i : Nat) p v h, us[i]? = some p → P i v → Rep Vg h p v) (hws : ws = us.map f) (hflat : ∀ p ∈ ws, Flt p)
    (he : ∀ u, u ∈ us → Ev c m cenv Vg ((x, u) :: Γc) elt (f u)) (h59 : 56 ∈ Vg) (hCV : cenv.locals ∈ Vg) :
    ∀ (k i : Nat) (s₀ s : Shared), us.length - i = k → i ≤ us.length → GJ c cenv Vg Γc (56 :: cenv.locals :: wr) T sb g i s → Step (56 :: cenv.locals :: wr) s₀ s →
      Seg c.M A (GR (56 :: cenv.locals :: wr)) (GY V us.length ws (56 :: cenv.locals :: wr) (GJ c cenv Vg Γc (56 :: cenv.locals :: wr) T sb g)) (us.length - i) s₀
        (.compLoop (.GeneratorExp elt [⟨.Name x px, iter, [], 0⟩] scope pos) 0 (.ref I) .none cenv)
        (c.M.den (.compLoop (.GeneratorExp elt [⟨.Name x px, iter, [], 0⟩] scope pos) 0 (.ref I) .none cenv)) [] s := by
  have hh' : (A.over (.compLoop (.GeneratorExp elt [⟨.Name x px, iter, [], 0⟩] scope pos) 0 (.ref I) .none cenv) []).handled = none := hA.1
  have hR : Room (A.over (.compLoop (.GeneratorExp elt [⟨.Name x px, iter, [], 0⟩] scope pos) 0 (.ref I) .none cenv) []) m := hA.over (Nat.le_of_eq rfl) (by show 3 ≤ 10; decide) rfl rfl
  have hCfp : cenv.locals ∉ fp := fun h => hfp _ h hCV
  have h59fp : 56 ∉ fp := fun h => hfp _ h h59
  have hwrV : ∀ a ∈ wr, a ∉ Vg := fun a ha => hfp a ((W₀ A hA.1).sub _ ha)
  intro k
  induction k with
  | zero =>
    intro i s₀ s hk hi hJ hsince
    have hin : i = us.length := by omega
    subst hin
    obtain ⟨hT, F, st, hgs⟩ := hJ
    show Seg _ A _ _ _ s₀ _ ((compTurn (.GeneratorExp elt [⟨.Name x px, iter, [], 0⟩] scope pos) 0 (.ref I) .none cenv).onRaise (leaving cenv)) [] s
    rw [compTurn_gen, Sem.onRaise_eq_wrap]
    refine seg_bind_wrap (wpAny_standAt ?_)
    refine seg_bind_wrap ((W₀ _ hh').done s _ _ hT fun h' tk hk' => ?_)
    have stn : Step wr s { s with heap := h', toks := tk } := ⟨fun a o ha e => hk' a o ha e, tab_of_keep hwr hk', .refl, rfl, rfl⟩
    exact seg_end (.ok .next) ⟨rfl, by omega, hsince.trans (stn.wide fun a ha => .tail _ (.tail _ ha)), hsince.bare.2⟩
  | succ k ih =>
    intro i s₀ s hk hi hJ hsince
    have hlt : i < us.length := by omega
    obtain ⟨hT, F, st, hgs⟩ := hJ
    obtain ⟨p, hp⟩ : ∃ p, us[i]? = some p := ⟨us[i], List.getElem?_eq_getElem hlt⟩
    show Seg _ A _ _ _ s₀ _ ((compTurn (.GeneratorExp elt [⟨.Name x px, iter, [], 0⟩] scope pos) 0 (.ref I) .none cenv).onRaise (leaving cenv)) [] s
    rw [compTurn_gen, Sem.onRaise_eq_wrap]
    refine seg_bind_wrap (wpAny_standAt ?_)
    refine seg_bind_wrap ((W₀ _ hh').item i s _ _ hlt hT fun v h₁ tk₁ hPv hT₁ hk₁ => ?_)
    have offW : Off c Vg s wr := fun a ha => .inr ⟨hwrV a ha, hwr a ha, hodd i _ hT a ha⟩
    have stn : Step wr s { s with heap := h₁, toks := tk₁ } := ⟨fun a o ha e => hk₁ a o ha e, tab_of_keep hwr hk₁, .refl, rfl, rfl⟩
    have F₁ := F.off stn offW
    refine seg_bind_wrap (wpAny_of_eq (rfl : letOwnedTupleGo (.Name x px) (.ref I) v = pure ()) ?_)
    refine seg_bind_wrap (wpAny_assign_Name (store_local1 F₁ hf hx (hP i p v _ hp hPv) fun s₂ st₂ F₂ => ?_))
    refine seg_bind_wrap (wpAny_tests_nil ?_)
    simp only [if_true]
    have hy : ∀ v, yieldOut cenv v = yieldValue v := fun v => by simp only [yieldOut, hco, Bool.false_eq_true, if_false]
    simp only [hy]
    have hT₂ : T (i + 1) s₂.heap := (W₀ A hA.1).frame _ _ _ hT₁ fun b hb o e => st₂.keep b o (fun hm => hCfp (by rw [← List.mem_singleton.mp hm]; exact hb)) e
    rw [Sem.bind_eq_wrap', Sem.bind_eq_wrap', Sem.wrap_wrap, Sem.wrap_wrap]
    refine seg_wrap (he p (List.mem_of_getElem? hp) _ hR s₂ _ _ F₂ fun y s₄ st₄ ry => ?_)
    have hT₄ : T (i + 1) s₄.heap := (W₀ A hA.1).frame _ _ _ hT₂ fun b hb o e => st₄.keep b o (fun hm => h59fp (by rw [← List.mem_singleton.mp hm]; exact hb)) e
    have subx : Sub Γc ((x, p) :: Γc) := fun y q e => by
      rw [List.lookup_cons]
      by_cases hy : y = x
      · subst hy; rw [hxc] at e; cases e
      · rw [beq_eq_false_iff_ne.mpr hy]; exact e
    have stA : Step (56 :: cenv.locals :: wr) s s₄ := (stn.wide fun a ha => .tail _ (.tail _ ha)).trans ((st₂.wide fun a ha => by rw [List.mem_singleton.mp ha]; simp).trans (st₄.wide fun a ha => by rw [List.mem_singleton.mp ha]; simp))
    have hJ' : GJ c cenv Vg Γc (56 :: cenv.locals :: wr) T sb g (i + 1) s₄ := ⟨hT₄, (F₂.step st₄).sub subx, st.trans stA, Nat.lt_of_lt_of_le hgs stA.bare.2⟩
    have hq : ws[i]? = some (f p) := by rw [hws, List.getElem?_map, hp]; rfl
    rw [show us.length - i = (us.length - (i + 1)) + 1 by omega]
    refine seg_at (seg_yield rfl rfl rfl ⟨⟨i, f p, by omega, hq, ry.flt (hflat _ (List.mem_of_getElem? hq)), hJ'⟩, hsince.trans stA, fun j s'' hj hJ'' => ?_⟩)
    have hji : j = i := by omega
    subst hji
    exact seg_again rfl (ih (j + 1) s'' s'' (by omega) hlt hJ'' .refl)
end
end

section
open PySem PySem.W PySem.Spec PySem.Calls PyProof.Rows PySem.SeqAt
set_option linter.unusedVariables false
set_option maxRecDepth 100000
set_option maxHeartbeats 2000000

theorem bare_setGen {s : Shared} {g : Nat} {x : GenState} (h : AllBare s.gens) (hx : x.bare = true) : AllBare (s.setGen g x).gens := by
  intro y hy
  have hy' : y ∈ s.gens.setIfInBounds g x := hy
  rcases Array.mem_or_eq_of_mem_setIfInBounds hy' with h' | rfl
  · exact h y h'
  · exact hx
theorem size_setGen {s : Shared} {g : Nat} {x : GenState} : (s.setGen g x).gens.size = s.gens.size := by simp [Shared.setGen]
theorem step_setGen {W : List Addr} {s : Shared} {g : Nat} {x : GenState} (hx : x.bare = true) : Step W s (s.setGen g x) := ⟨fun _ _ _ e => e, id, ⟨fun h => bare_setGen h hx, by rw [size_setGen]; exact Nat.le_refl _⟩, rfl, rfl⟩
theorem gens_at {s : Shared} {g : Nat} {x : GenState} (h : g < s.gens.size) : (s.setGen g x).gens[g]? = some x := setGen_self (gs := s.gens[g]) (by simp [h])

section
variable {c : Cx} {m : Nat} {env : Env} {V Vg : List Addr} {Γ Γc : List (PySem.Str × PV)} {A : Around}

theorem genStart {elt iter : Expr} {x : PySem.Str} {px : Pos} {scope : Scope} {pos : Pos} {I : Addr} {fp wr : List Addr} {us ws : List PV} {P : Nat → Value → Prop} {T : Nat → Heap → Prop} {cenv : Env} {sb : Shared} {g : Nat} {f : PV → PV}
    (hA : Room A (m + 1)) (W₀ : ∀ A' : Around, A'.handled = none → Walks P0 c.w A' I fp wr us.length P T)
    (hx : cenv.kindOf x = some .local) (hf : cenv.scope.kind = .function) (hco : cenv.scope.isCoroutine = false) (hxc : Γc.lookup x = none)
    (hfp : ∀ a ∈ fp, a ∉ Vg) (hwr : ∀ a ∈ wr, ¬ GIdom c a) (hodd : ∀ i h, T i h → ∀ a ∈ wr, ∀ o, h.get? a = some o → Odd o)
    (hP : ∀ (i : Nat) p v h, us[i]? = some p → P i v → Rep Vg h p v) (hws : ws = us.map f) (hflat : ∀ p ∈ ws, Flt p)
    (he : ∀ u, u ∈ us → Ev c m cenv Vg ((x, u) :: Γc) elt (f u)) (h59 : 56 ∈ Vg) (hCV : cenv.locals ∈ Vg) (s : Shared) (hJ : GJ c cenv Vg Γc (56 :: cenv.locals :: wr) T sb g 0 s) :
      Seg c.M A (GR (56 :: cenv.locals :: wr)) (GY V us.length ws (56 :: cenv.locals :: wr) (GJ c cenv Vg Γc (56 :: cenv.locals :: wr) T sb g)) us.length s
        (.compStart (.GeneratorExp elt [⟨.Name x px, iter, [], 0⟩] scope pos) 0 (.ref I) .none cenv)
        (c.M.den (.compStart (.GeneratorExp elt [⟨.Name x px, iter, [], 0⟩] scope pos) 0 (.ref I) .none cenv)) [] s := by
  have hh' : (A.over (.compStart (.GeneratorExp elt [⟨.Name x px, iter, [], 0⟩] scope pos) 0 (.ref I) .none cenv) []).handled = none := hA.1
  have loop := genLoop (iter := iter) (px := px) (scope := scope) (pos := pos) (V := V) hA W₀ hx hf hco hxc hfp hwr hodd hP hws hflat he h59 hCV us.length 0 s s (Nat.sub_zero _) (Nat.zero_le _) hJ .refl
  rw [Nat.sub_zero] at loop
  show Seg _ A _ _ _ s _ ((compStart (.GeneratorExp elt [⟨.Name x px, iter, [], 0⟩] scope pos) 0 (.ref I) .none cenv).onRaise (leaving cenv)) [] s
  unfold compStart
  rw [Sem.onRaise_eq_wrap]
  show Seg _ A _ _ _ s _ ((ask >>= _).wrap _ _ _ _) [] s
  refine seg_bind_wrap (wpAny_askSetting ?_)
  split
  · exact seg_again rfl loop
  · first
      | exact seg_bind_wrap (wpAny_rule (seg_bind_wrap (wpAny_standAt (seg_bind_wrap ((W₀ _ hh').self 0 s _ _ hJ.1 (seg_again rfl loop))))))
      | (refine seg_bind_wrap (wpAny_rule ?_); show Seg _ A _ _ _ s _ ((standAt iter.pos >>= _).wrap _ _ _ _) [] s; exact seg_bind_wrap (wpAny_standAt (seg_bind_wrap ((W₀ _ hh').self 0 s _ _ hJ.1 (seg_again rfl loop)))))

theorem FS.turnFlat {s : Shared} {h' : Heap} {a : Addr} {o o' : Obj} (F : FS c env V Γ s) (hfl : ∀ x p, Γ.lookup x = some p → Flt p) (hg : ¬ GIdom c a) (hL : a ≠ env.locals) (hC : ∀ y, (y, a) ∉ env.cells) (hs : Heap.SameBut a s.heap h') (e : s.heap.get? a = some o) (hd : ∀ vs, o.data ≠ .fields vs) (e' : h'.get? a = some o') :
    FS c env V Γ { s with heap := h' } := by
  refine ⟨F.toGS.turn (tk := s.toks) hs e hd e' hg, F.vL, F.vC, F.farL, F.farC, F.apart, ?_, fun y q hy hk => ?_, fun y hk => ?_⟩
  · obtain ⟨m, ⟨oL, es, ep, eL, hdL, r⟩, hm⟩ := F.loc
    refine ⟨m, ⟨oL, es, ep, (hs.2 _ (Ne.symm hL)).trans eL, hdL, r⟩, fun y q hy hk => ?_⟩
    obtain ⟨w, hw, rw'⟩ := hm y q hy hk
    exact ⟨w, hw, rw'.flt (hfl y q hy)⟩
  · obtain ⟨b, w, h1, ⟨ob, h2, h2'⟩, h3⟩ := F.cel y q hy hk
    exact ⟨b, w, h1, ⟨ob, (hs.2 b (fun q => hC y (q ▸ mem_of_lookup h1))).trans h2, h2'⟩, h3.flt (hfl y q hy)⟩
  · obtain ⟨b, w, h1, ⟨ob, h2, h2'⟩⟩ := F.mt y hk
    exact ⟨b, w, h1, ⟨ob, (hs.2 b (fun q => hC y (q ▸ mem_of_lookup h1))).trans h2, h2'⟩⟩

abbrev genT (I l : Addr) (items : Array Value) : Nat → Heap → Prop := fun i h => h.IsTupleIter I l i ∧ h.IsTuple l items
theorem WM.gen {Ai : Around} (hA : Room Ai (m + 2)) {s₀ : Shared} {a I l : Addr} {g : Nat} {items : List Value} {nl : Nat} {us ws : List PV} {cenv : Env} {X : List Addr} {gs : GenState} (hX : X = [56, cenv.locals, I]) (hflat : ∀ p ∈ ws, Flt p) (hN : us.length = ws.length)
    (G : GS c V s₀) (hg : s₀.heap.IsGen a g) (hgs : s₀.gens[g]? = some gs) (hC : cenv.locals ∉ V) (hCg : ¬ GIdom c cenv.locals) (hCo : ∀ o, s₀.heap.get? cenv.locals = some o → Odd o) (hI : I ∉ V) (hIg : ¬ GIdom c I) (hIo : ∀ o, s₀.heap.get? I = some o → Odd o)
    (haX : a ∉ X) (hΓ : ∀ x p, Γc.lookup x = some p → Flt p) (hIl : ∃ o, s₀.heap.get? I = some o) (hll : ∃ o, s₀.heap.get? l = some o) (hCl : ∃ o, s₀.heap.get? cenv.locals = some o) (hcl : ∀ y b, (y, b) ∈ cenv.cells → ∃ o, s₀.heap.get? b = some o)
    (hJ0 : GJ c cenv Vg Γc X (genT I l items.toArray) s₀ g 0 s₀)
    (hgo : ∀ s'', GJ c cenv Vg Γc X (genT I l items.toArray) s₀ g 0 s'' → gs.Goes c.M Ai.in1 (GR X) (GY V us.length ws X (GJ c cenv Vg Γc X (genT I l items.toArray) s₀ g)) us.length (.send .none) s'') :
    WM c Ai s₀ V a ws X [a, cenv.locals, I] (fun j s => s.heap.IsGen a g ∧ GJ c cenv Vg Γc X (genT I l items.toArray) s₀ g j s ∧ ∃ gs, s.gens[g]? = some gs ∧ ∀ s'', GJ c cenv Vg Γc X (genT I l items.toArray) s₀ g j s'' → gs.Goes c.M Ai.in1 (GR X) (GY V us.length ws X (GJ c cenv Vg Γc X (genT I l items.toArray) s₀ g)) (us.length - j) (.send .none) s'') := by
  have off : Off c V s₀ X := fun b hb => by
    rw [hX] at hb
    rcases List.mem_cons.mp hb with rfl | hb
    · exact .inl rfl
    · rcases List.mem_cons.mp hb with rfl | hb
      · exact .inr ⟨hC, hCg, hCo⟩
      · rw [List.mem_singleton.mp hb]; exact .inr ⟨hI, hIg, hIo⟩
  have hdep : Ai.depth < recursionLimit := by have := (hA.2 (by omega)).1; omega
  have genKeep : ∀ {s s' : Shared}, Step X s s' → s.heap.IsGen a g → s'.heap.IsGen a g := fun st ⟨o, nm, qn, e, r⟩ => ⟨o, nm, qn, st.keep a o haX e, r⟩
  have jset : ∀ {j : Nat} {s : Shared} {x : GenState}, x.bare = true → GJ c cenv Vg Γc X (genT I l items.toArray) s₀ g j s → GJ c cenv Vg Γc X (genT I l items.toArray) s₀ g j (s.setGen g x) := fun {j s x} hx ⟨hT, F, st, hsz⟩ =>
    ⟨hT, F.step (step_setGen hx), st.trans (step_setGen hx), by rw [size_setGen]; exact hsz⟩
  refine ⟨hflat, fun b hb => ?_, fun j s h => G.off h.2.1.2.2.1 off, fun j s h b hb => ?_, ?_, ?_, ?_, ?_, ?_⟩
  · rw [hX] at hb
    rcases List.mem_cons.mp hb with rfl | hb
    · exact .inl rfl
    · exact .inr (.tail _ hb)
  · rcases List.mem_cons.mp hb with rfl | hb
    · obtain ⟨o, _, _, e, _⟩ := h.1; exact ⟨o, e⟩
    · rcases List.mem_cons.mp hb with rfl | hb
      · obtain ⟨_, ⟨o, _, _, e, _⟩, _⟩ := h.2.1.2.1.loc; exact ⟨o, e⟩
      · rw [List.mem_singleton.mp hb]; obtain ⟨o, e, _⟩ := h.2.1.1.1; exact ⟨o, e⟩
  · rintro j s S o o' h' ⟨hG, ⟨⟨hT1, hT2⟩, F, st, hsz⟩, hrest⟩ hS e hd hs e'
    have ne : ∀ {b : Addr}, (∃ o, s₀.heap.get? b = some o) → b ≠ S := fun ⟨o, eo⟩ q => by rw [q, hS] at eo; cases eo
    have hSg : ¬ GIdom c S := G.gi.fresh hS
    refine ⟨?_, ⟨⟨IsTupleIter.keep hT1 fun o eo => (hs.2 I (ne hIl)).trans eo, ?_⟩, F.turnFlat hΓ hSg (Ne.symm (ne hCl)) (fun y hy => ne (hcl y S hy) rfl) hs e hd e', ?_, hsz⟩, hrest⟩
    · obtain ⟨og, nm, qn, eg, r⟩ := hG
      have haS : a ≠ S := by obtain ⟨o, _, _, e, _⟩ := hg; exact ne ⟨o, e⟩
      exact ⟨og, nm, qn, (hs.2 a haS).trans eg, r⟩
    · obtain ⟨ol, el, r⟩ := hT2; exact ⟨ol, (hs.2 l (ne hll)).trans el, r⟩
    · exact ⟨fun b ob hb eb => (hs.2 b (ne ⟨ob, eb⟩)).trans (st.keep b ob hb eb), fun t => (st.tab t).sameBut hs e hd, st.bare, st.drawn, st.os⟩
  · rintro j s o ⟨hG, ⟨⟨hT1, hT2⟩, F, st, hsz⟩, hrest⟩
    have stp : ∀ W, Step W s { s with heap := s.heap.push o } := fun W => .of_keep push_keep
    refine ⟨genKeep (stp _) hG, ⟨⟨IsTupleIter.keep hT1 fun o eo => push_keep _ _ eo, ?_⟩, F.step (stp _), st.trans (stp _), hsz⟩, hrest⟩
    obtain ⟨ol, el, r⟩ := hT2; exact ⟨ol, push_keep _ _ el, r⟩
  · rintro j s Q E q hq ⟨hG, hJ, gs, hgs, hgo⟩ k
    have hj : j < us.length := by rw [hN]; exact (List.getElem?_eq_some_iff.mp hq).1
    obtain ⟨n', hn'⟩ : ∃ n', us.length - j = n' + 1 := ⟨us.length - j - 1, by omega⟩
    rw [hn'] at hgo
    refine wpAny_pyNext_genexpQ (P := fun n s₀ s₁ => n = 0 ∧ Step X s₀ s₁ ∧ s₀.gens.size ≤ s₁.gens.size) hA.1 hJ.2.1.gi.nolimit hdep hG hgs (hgo _ (jset rfl hJ)) (fun v s₁ gs' hb hv => ?_) (fun s₁ hp => absurd hp.1 (Nat.succ_ne_zero n'))
    obtain ⟨⟨i, q', hi, hq', rv, hJ'⟩, st, hkap⟩ := hv
    have hij : i = j := by omega
    subst hij
    rw [hq] at hq'; cases hq'
    have stA : Step X s (s₁.setGen g gs') := (step_setGen rfl).trans (st.trans (step_setGen hb))
    refine k v _ stA (rv.flt (hflat _ (List.mem_of_getElem? hq))) ⟨genKeep stA hG, jset hb hJ', gs', gens_at hJ'.2.2.2, fun s'' hJ'' => ?_⟩
    rw [show us.length - (i + 1) = n' by omega]
    exact hkap i s'' (by omega) hJ''
  · rintro s Q E ⟨hG, hJ, gs, hgs, hgo⟩ k
    rw [show us.length - ws.length = 0 by omega] at hgo
    refine wpAny_pyNext_genexpQ (P := fun n s₀ s₁ => n = 0 ∧ Step X s₀ s₁ ∧ s₀.gens.size ≤ s₁.gens.size) hA.1 hJ.2.1.gi.nolimit hdep hG hgs (hgo _ (jset rfl hJ)) (fun v s₁ gs' hb hv => ?_) (fun s₁ hp h' hk => ?_)
    · obtain ⟨⟨i, q', hi, hq', rv, hJ'⟩, st, hkap⟩ := hv
      exact (hkap i s₁ (by omega) hJ').elim
    · have stA : Step X s { s₁.setGen g .finished with heap := h' } := (step_setGen rfl).trans (hp.2.1.trans ((step_setGen (x := .finished) rfl).trans (.of_keep (s := s₁.setGen g .finished) hk)))
      exact k _ stA (G.off (hJ.2.2.1.trans stA) off)
  · rintro A i s Q E ⟨hG, _⟩ k
    exact wpAny_pyIter_gen hG k
end
end

section
open PySem PySem.W PySem.Spec PySem.Calls PyProof.Rows PySem.SeqAt
set_option linter.unusedVariables false
set_option maxRecDepth 100000
set_option maxHeartbeats 2000000
section
variable {c : Cx} {m : Nat} {env : Env} {V Vg : List Addr} {Γ Γc : List (PySem.Str × PV)}

/-- tuple(... for x in a tuple) -/
theorem Ev.tupleGen {elt iter : Expr} {x : PySem.Str} {px np pos gpos : Pos} {scope : Scope} {cl : List (PySem.Str × Addr)} {us ws : List PV} {f : PV → PV}
    (htup : Ev c (m + 3) env V Γ (.Name (Str.ofString "tuple") np) (.fn (.type "tuple"))) (hit : Ev c (m + 3) env V Γ iter (.tup us)) (hus : ∀ p ∈ us, Flt p) (hws : ws = us.map f) (hflat : ∀ p ∈ ws, Flt p) (hn : us.length ≤ 1000000)
    (hco : scope.isCoroutine = false) (hclos : closureFor scope env = pure cl) (hcell : scope.names.all (fun y => y.2 != .cell) = true) (h0 : scope.names.lookup (".0" : PySem.Str) = some NameKind.local) (hkind : scope.kind = .function) (hx : scope.names.lookup x = some .local)
    (hcl : ∀ y a, (y, a) ∈ cl → env.cells.lookup y = some a) (hcode : env.code = .ref 60) (hglob : env.globals = mainGlobals) (hΓ : ∀ x p, Γc.lookup x = some p → Flt p) (hxc : Γc.lookup x = none)
    (hcap : ∀ y p, Γc.lookup y = some p → Γ.lookup y = some p ∧ (env.kindOf y = some .cell ∨ env.kindOf y = some .free) ∧ scope.names.lookup y ≠ some .local ∧ ∃ a, cl.lookup y = some a)
    (he : ∀ C code V' u, u ∈ us → Ev c m (genEnv scope cl C code builtinsNs env) V' ((x, u) :: Γc) elt (f u)) (hs : ∀ v, genFold iter env v = pure v := by intro _; rfl) :
    Ev c (m + 3) env V Γ (.Call (.Name (Str.ofString "tuple") np) [.GeneratorExp elt [⟨.Name x px, iter, [], 0⟩] scope gpos] [] pos) (.tup ws) := by
  intro A hA s Q E F k
  have hdep : A.depth < recursionLimit := by have := (hA.2 (by omega)).1; omega
  refine wpAny_Call_ofName (htup.bind hA F fun fv s₁ st₁ F₁ r₁ => ?_)
  rw [of_fn r₁]
  refine PySem.callWith_type rfl (evalArgs_plain (Calls.spliced_cons ?_))
  refine wpAny_GeneratorExp_make hco hclos (fun y hy => by have := List.all_eq_true.mp hcell y hy; simpa using this) h0 hkind hdep (hit.bind hA F₁ fun xv s₂ st₂ F₂ r₂ => ?_) hs
  obtain ⟨l, items, nl, rfl, hlV, ho, hr⟩ := of_tup r₂
  refine wpAny_pyIter_tuple (isTuple_of ho) ?_
  have hI := push_fresh (h := s₂.heap)
  generalize hId : s₂.heap.objs.size = I at hI ⊢
  have hIt : (s₂.heap.push { cls := .type "tuple_iterator", data := .fields #[.ref l, .int 0 0] }).IsTupleIter I l 0 := by rw [← hId]; exact ⟨_, Heap.get?_push_size _ rfl, rfl, rfl⟩
  have st3 : Step [56] s₂ { s₂ with heap := s₂.heap.push { cls := .type "tuple_iterator", data := .fields #[.ref l, .int 0 0] } } := .of_keep push_keep
  have F₃ := F₂.step st3
  have hl3 := push_keep (o := { cls := .type "tuple_iterator", data := .fields #[.ref l, .int 0 0] }) _ _ ho
  generalize hs3 : ({ s₂ with heap := s₂.heap.push { cls := .type "tuple_iterator", data := .fields #[.ref l, .int 0 0] } } : Shared) = s₃ at st3 F₃ ⊢
  have hIt3 : s₃.heap.IsTupleIter I l 0 := by rw [← hs3]; exact hIt
  have hl3' : s₃.heap.get? l = some (seqObj "tuple" items nl) := by rw [← hs3]; exact hl3
  refine ⟨F₃.gi.nolimit, genCode hcode F₃.toGS fun code s₄ st4 => ?_⟩
  have F₄ := F₃.step st4
  refine wpAny_builtinsFor (by rw [hglob]; exact F₄.gi.bmod.ns) F₄.gi.bmod.name F₄.gi.bmod.ne F₄.gi.bmod.obj F₄.gi.bmod.cls F₄.gi.bmod.dict F₄.gi.bmod.data ?_
  intro h' hn' hsb'
  have hCf := push_fresh (h := s₄.heap)
  generalize hCd : s₄.heap.objs.size = C at hn' hsb' hCf ⊢
  have hI59 : I ≠ 56 := fun q => (F₂.toGS.notIn hI) (q ▸ F₂.v59)
  have hIt4 : s₄.heap.IsTupleIter I l 0 := IsTupleIter.keep hIt3 fun o e => st4.keep I o (by simpa using hI59) e
  have hl59 : l ≠ 56 := fun q => hlV (q ▸ F₂.v59)
  have hl4 : s₄.heap.get? l = some (seqObj "tuple" items nl) := st4.keep l _ (by simpa using hl59) hl3'
  have keep' : ∀ b o, s₄.heap.get? b = some o → h'.get? b = some o := fun b o e => hsb'.extBut b o (fun q => by rw [q, hCf] at e; cases e) (push_keep _ _ e)
  have hAf := push_fresh (h := h')
  have keepA : ∀ b o, s₄.heap.get? b = some o → (h'.push { cls := .type "generator", data := .fields #[.int s₄.gens.size 0, .str "<genexpr>" (s₄.toks + 1), .str (env.qual ++ "<genexpr>") (s₄.toks + 1 + 1)] }).get? b = some o := fun b o e => push_keep _ _ (keep' b o e)
  have hgenA := Heap.get?_push_size h' (o := { cls := .type "generator", data := .fields #[.int s₄.gens.size 0, .str "<genexpr>" (s₄.toks + 1), .str (env.qual ++ "<genexpr>") (s₄.toks + 1 + 1)] }) rfl
  generalize hAd : h'.objs.size = a at hAf hgenA ⊢
  obtain ⟨oC, esC, epC, eC, hdC, rC⟩ := id hn'
  have hnsC : ∃ mm, (h'.push { cls := .type "generator", data := .fields #[.int s₄.gens.size 0, .str "<genexpr>" (s₄.toks + 1), .str (env.qual ++ "<genexpr>") (s₄.toks + 1 + 1)] }).Ns C mm := ⟨_, oC, esC, epC, push_keep _ _ eC, hdC, rC⟩
  have eCA := push_keep (o := { cls := .type "generator", data := .fields #[.int s₄.gens.size 0, .str "<genexpr>" (s₄.toks + 1), .str (env.qual ++ "<genexpr>") (s₄.toks + 1 + 1)] }) _ _ eC
  generalize hcdd : (Code.compStart (.GeneratorExp elt [⟨.Name x px, iter, [], 0⟩] scope gpos) 0 (.ref I) .none (genEnv scope cl C code builtinsNs env)) = cd
  generalize hS : ({ s₄ with gens := s₄.gens.push (.fresh cd), toks := s₄.toks + 1 + 1 + 1, heap := h'.push { cls := .type "generator", data := .fields #[.int s₄.gens.size 0, .str "<genexpr>" (s₄.toks + 1), .str (env.qual ++ "<genexpr>") (s₄.toks + 1 + 1)] } } : Shared) = s₅
  have kS : ∀ b o, s₄.heap.get? b = some o → s₅.heap.get? b = some o := by rw [← hS]; exact keepA
  have gS : s₅.gens = s₄.gens.push (.fresh cd) := by rw [← hS]
  have st5 : Step [56] s₄ s₅ := by
    refine ⟨fun b o _ e => kS b o e, fun t => Tab.keeps kS t, ⟨fun hb => by rw [gS]; exact hb.push rfl, by rw [gS, Array.size_push]; exact Nat.le_succ _⟩, by rw [← hS], by rw [← hS]⟩
  have F₅ := F₄.step st5
  have hnsS : ∃ mm, s₅.heap.Ns C mm := by rw [← hS]; exact hnsC
  have eCS : s₅.heap.get? C = some oC := by rw [← hS]; exact eCA
  have hgS : s₅.heap.IsGen a s₄.gens.size := by rw [← hS]; exact ⟨_, _, _, hgenA, rfl, rfl, rfl⟩
  have hCV : C ∉ V := F₄.toGS.notIn hCf
  have hCg : ¬ GIdom c C := F₄.gi.fresh hCf
  have hIV : I ∉ V := F₂.toGS.notIn hI
  have hIg : ¬ GIdom c I := F₂.gi.fresh hI
  have hIt5 : s₅.heap.IsTupleIter I l 0 := IsTupleIter.keep hIt4 fun o e => kS I o e
  have hl5 : s₅.heap.get? l = some (seqObj "tuple" items nl) := kS l _ hl4
  have hICne : I ≠ C := fun q => by obtain ⟨o, e, _⟩ := hIt4; rw [q, hCf] at e; cases e
  have hlC : l ≠ C := fun q => by rw [q, hCf] at hl4; cases hl4
  have hlI : l ≠ I := fun q => by rw [q, hI] at ho; cases ho
  have haC : a ≠ C := fun q => by rw [← hAd] at q; exact absurd (get_lt eC) (by rw [← q]; exact Nat.lt_irrefl _)
  have ha59 : a ≠ 56 := fun q => by
    obtain ⟨ps, _, _, ht⟩ := F₄.gi.tab
    have := keep' 56 _ ht
    rw [← q, hAf] at this; cases this
  have haI : a ≠ I := fun q => by
    obtain ⟨o, e, _⟩ := hIt4
    have := keep' I _ e
    rw [← q, hAf] at this; cases this
  have mtC : ∀ y, (genEnv scope cl C code builtinsNs env).kindOf y ≠ some .cell := fun y e => by
    have e' : scope.names.lookup y = some .cell := e
    have := List.all_eq_true.mp hcell _ (mem_of_lookup e')
    simp at this
  have Fg : FS c (genEnv scope cl C code builtinsNs env) ([C] ++ V) Γc s₅ := by
    refine FS.gen (it := .none) F₄ kS F₅.bare hCf hnsS (fun b hb => ?_) (fun b hb => ?_) (.head _) hcl mtC hcap
    · rw [List.mem_singleton.mp hb]; exact ⟨_, eCS⟩
    · rw [List.mem_singleton.mp hb]; exact hCf
  have oddC : ∀ o, s₅.heap.get? C = some o → Odd o := fun o e => by
    rw [eCS] at e; cases e
    unfold Odd; rw [hdC]; exact fun _ _ q => by cases q
  have hlen : us.length = items.toArray.size := by rw [List.size_toArray, hr.length]
  have hwlen : us.length = ws.length := by rw [hws, List.length_map]
  have hJ0 : GJ c (genEnv scope cl C code builtinsNs env) ([C] ++ V) Γc [56, C, I] (genT I l items.toArray) s₅ s₄.gens.size 0 s₅ := ⟨⟨hIt5, isTuple_of hl5⟩, Fg, .refl, by rw [gS, Array.size_push]; exact Nat.lt_succ_self _⟩
  have hgs5 : s₅.gens[s₄.gens.size]? = some (.fresh cd) := by rw [gS]; simp
  have hgo : ∀ s'', GJ c (genEnv scope cl C code builtinsNs env) ([C] ++ V) Γc [56, C, I] (genT I l items.toArray) s₅ s₄.gens.size 0 s'' → GenState.Goes c.M A.in1.in1.in1.in1 (GR [56, C, I]) (GY V us.length ws [56, C, I] (GJ c (genEnv scope cl C code builtinsNs env) ([C] ++ V) Γc [56, C, I] (genT I l items.toArray) s₅ s₄.gens.size)) us.length (.fresh cd) (.send .none) s'' := fun s'' hJ => ⟨rfl, by
      rw [← hcdd]
      refine genStart (c := c) (m := m) (V := V) (wr := [I]) (fp := [I, l]) (us := us) (ws := ws) (P := fun i v => items.toArray[i]? = some v) (T := genT I l items.toArray) (cenv := genEnv scope cl C code builtinsNs env) (sb := s₅) (f := f) (Vg := [C] ++ V) ((hA.ins (j := 4) (by decide)).le (by omega)) (fun A' hA' => hlen ▸ Walks.tuple hA' I l hlI items.toArray) hx hkind hco hxc ?_ ?_ ?_ ?_ hws hflat (fun u hu => he C code _ u hu) (List.mem_append.mpr (.inr F₂.v59)) (.head _) s'' hJ
      · intro b hb hm
        rcases List.mem_cons.mp hb with rfl | hb
        · rcases List.mem_append.mp hm with hm | hm
          · exact hICne (List.mem_singleton.mp hm)
          · exact hIV hm
        · rw [List.mem_singleton.mp hb] at hm
          rcases List.mem_append.mp hm with hm | hm
          · exact hlC (List.mem_singleton.mp hm)
          · exact hlV hm
      · intro b hb; rw [List.mem_singleton.mp hb]; exact hIg
      · intro i h hT b hb; rw [List.mem_singleton.mp hb]; exact IsTupleIter.odd hT.1
      · intro i p v h hp hv
        obtain ⟨w, hw, rw'⟩ := hr.get i p hp
        have hv : items.toArray[i]? = some v := hv
        rw [List.getElem?_toArray, hw] at hv; cases hv
        exact rw'.flt (hus p (List.mem_of_getElem? hp))⟩
  have W := WM.gen (c := c) (m := m) (V := V) (Γc := Γc) (Vg := [C] ++ V) (Ai := A.in1.in1.in1) (hA.ins (j := 3) (by decide)) (s₀ := s₅) (a := a) (I := I) (l := l) (g := s₄.gens.size) (items := items) (nl := nl) (us := us) (ws := ws) (cenv := genEnv scope cl C code builtinsNs env) (X := [56, C, I]) (gs := .fresh cd) rfl hflat hwlen
    F₅.toGS hgS hgs5 hCV hCg oddC hIV hIg (IsTupleIter.odd hIt5) (by
      simp only [List.mem_cons, List.not_mem_nil, or_false]
      rintro (q | q | q)
      · exact ha59 q
      · exact haC q
      · exact haI q) hΓ (let ⟨o, e, _⟩ := hIt5; ⟨o, e⟩) ⟨_, hl5⟩ ⟨_, eCS⟩ (fun y b hb => F₅.vlive b (F₅.vC y b (mem_of_lookup (hcl y b hb)))) hJ0 hgo
  refine Calls.spliced_nil ?_
  refine call_tuple_gen W (by omega) (fun i s h => h.1.typeIs) ⟨hgS, hJ0, _, hgs5, by rw [Nat.sub_zero]; exact hgo⟩ (.head _) fun y s' st r => k y s' ?_ r
  · have z : Step [56, C, I] s₁ s' := (st₂.wide fun b hb => by rw [List.mem_singleton.mp hb]; simp).trans ((st3.wide fun b hb => by rw [List.mem_singleton.mp hb]; simp).trans ((st4.wide fun b hb => by rw [List.mem_singleton.mp hb]; simp).trans ((st5.wide fun b hb => by rw [List.mem_singleton.mp hb]; simp).trans st)))
    refine st₁.trans ⟨fun b o hb e => z.keep b o (fun q => ?_) e, z.tab, z.bare, z.drawn, z.os⟩
    rcases List.mem_cons.mp q with rfl | q
    · exact hb (.head _)
    · rcases List.mem_cons.mp q with rfl | q
      · have := fresh_since F₂.toGS st₂ (fresh_since F₃.toGS st3 (fresh_since F₄.toGS st4 hCf))
        rw [this] at e; cases e
      · rw [List.mem_singleton.mp q] at e
        rw [fresh_since F₂.toGS st₂ hI] at e; cases e
end
end

section
open PySem PySem.W PySem.Spec PySem.Calls PyProof.Rows PySem.SeqAt
set_option linter.unusedVariables false
set_option maxRecDepth 100000
set_option maxHeartbeats 1000000
section
variable {c : Cx} {n : Nat} {env : Env} {V : List Addr} {Γ : List (PySem.Str × PV)}
theorem Ev.neg {e : Expr} {pos : Pos} {i : Int} (he : Ev c n env V Γ e (.int i)) : Ev c n env V Γ (.UnaryOp .USub e pos) (.int (-i)) := by
  intro A hA s Q E F k
  refine wpAny_UnaryOp (he.bind hA F fun v s₁ st₁ F₁ r₁ => ?_)
  obtain ⟨t, rfl⟩ := of_int r₁
  refine PyProof.Rows.neg_int ?_
  exact k _ _ (st₁.trans (.of_keep fun _ _ e => e)) rep_int
/-- the value of «a and b», where a is true -/
theorem Ev.andT {a b : Expr} {pos : Pos} {pa pb : PV} {q : Bool} (ha : Ev c n env V Γ a pa) (ht : TruF c n pa q) (hq : q = true) (hb : Ev c n env V Γ b pb) : Ev c n env V Γ (.BoolOp .And [a, b] pos) pb := by
  subst hq
  intro A hA s Q E F k
  refine wpAny_And2 (ha.bind hA F fun v s₁ st₁ F₁ r₁ => ht A hA V s₁ v _ E F₁.toGS r₁ fun s₂ st₂ => ?_)
  simp only [if_true]
  exact hb A hA s₂ _ _ (F₁.step st₂) fun x s' st r => k x s' (st₁.trans (st₂.trans st)) r
end
end

section
open PySem PySem.W PySem.Spec PySem.Calls PyProof.Rows
set_option linter.unusedVariables false
set_option maxRecDepth 100000
set_option maxHeartbeats 400000
section
variable {c : Cx} {n : Nat} {env : Env} {V : List Addr} {Γ : List (Str × PV)} {pos : Pos}
theorem Ev.str {s : Str} {k : Nat} {pos : Pos} : Ev c n env V Γ (.Constant (.str s) k pos) (.str s.cps.toList) := by
  intro A _ s Q E F k
  exact wpAny_Constant_str (k _ _ (.of_keep fun _ _ e => e) (rep_str' (by simp)))
theorem Ev.none {k : Nat} {pos : Pos} : Ev c n env V Γ (.Constant .none k pos) .none := by
  intro A _ s Q E F k
  exact wpAny_Constant_none (k _ _ .refl rep_none)

theorem G.wall (hk : env.scope.kind = .function) (hx : env.kindOf (Str.ofString "_wall") = some .globalImplicit) (hg : env.globals = mainGlobals) : Ev c n env V Γ (.Name (Str.ofString "_wall") pos) (.fn (.ref 21)) :=
  Ev.glob (by kernel_rfl) (fun _ => rep_fn) hk hx hg (by decide +kernel)

theorem G.shorten (hk : env.scope.kind = .function) (hx : env.kindOf (Str.ofString "_shorten") = some .globalImplicit) (hg : env.globals = mainGlobals) : Ev c n env V Γ (.Name (Str.ofString "_shorten") pos) (.fn (.ref 28)) :=
  Ev.glob (by kernel_rfl) (fun _ => rep_fn) hk hx hg (by decide +kernel)

theorem G.kind (hk : env.scope.kind = .function) (hx : env.kindOf (Str.ofString "_kind") = some .globalImplicit) (hg : env.globals = mainGlobals) : Ev c n env V Γ (.Name (Str.ofString "_kind") pos) (.fn (.ref 35)) :=
  Ev.glob (by kernel_rfl) (fun _ => rep_fn) hk hx hg (by decide +kernel)

theorem G.fspath (hk : env.scope.kind = .function) (hx : env.kindOf (Str.ofString "_fspath") = some .globalImplicit) (hg : env.globals = mainGlobals) : Ev c n env V Γ (.Name (Str.ofString "_fspath") pos) (.fn (.ref 42)) :=
  Ev.glob (by kernel_rfl) (fun _ => rep_fn) hk hx hg (by decide +kernel)

theorem G.prefix (hk : env.scope.kind = .function) (hx : env.kindOf (Str.ofString "_prefix") = some .globalImplicit) (hg : env.globals = mainGlobals) : Ev c n env V Γ (.Name (Str.ofString "_prefix") pos) (.fn (.ref 49)) :=
  Ev.glob (by kernel_rfl) (fun _ => rep_fn) hk hx hg (by decide +kernel)

theorem G.commonprefix (hk : env.scope.kind = .function) (hx : env.kindOf (Str.ofString "commonprefix") = some .globalImplicit) (hg : env.globals = mainGlobals) : Ev c n env V Γ (.Name (Str.ofString "commonprefix") pos) (.fn (.ref 54)) :=
  Ev.glob (by kernel_rfl) (fun _ => rep_fn) hk hx hg (by decide +kernel)

theorem G.common_shorten_repr (hk : env.scope.kind = .function) (hx : env.kindOf (Str.ofString "_common_shorten_repr") = some .globalImplicit) (hg : env.globals = mainGlobals) : Ev c n env V Γ (.Name (Str.ofString "_common_shorten_repr") pos) (.fn (.ref 61)) :=
  Ev.glob (by kernel_rfl) (fun _ => rep_fn) hk hx hg (by decide +kernel)

theorem G.safe_repr (hk : env.scope.kind = .function) (hx : env.kindOf (Str.ofString "safe_repr") = some .globalImplicit) (hg : env.globals = mainGlobals) : Ev c n env V Γ (.Name (Str.ofString "safe_repr") pos) (.fn (.ref 69)) :=
  Ev.glob (by kernel_rfl) (fun _ => rep_fn) hk hx hg (by decide +kernel)

theorem G.strcoll (hk : env.scope.kind = .function) (hx : env.kindOf (Str.ofString "_strcoll") = some .globalImplicit) (hg : env.globals = mainGlobals) : Ev c n env V Γ (.Name (Str.ofString "_strcoll") pos) (.fn (.ref 76)) :=
  Ev.glob (by kernel_rfl) (fun _ => rep_fn) hk hx hg (by decide +kernel)

theorem G.strxfrm (hk : env.scope.kind = .function) (hx : env.kindOf (Str.ofString "_strxfrm") = some .globalImplicit) (hg : env.globals = mainGlobals) : Ev c n env V Γ (.Name (Str.ofString "_strxfrm") pos) (.fn (.ref 83)) :=
  Ev.glob (by kernel_rfl) (fun _ => rep_fn) hk hx hg (by decide +kernel)

theorem G.strip_padding (hk : env.scope.kind = .function) (hx : env.kindOf (Str.ofString "_strip_padding") = some .globalImplicit) (hg : env.globals = mainGlobals) : Ev c n env V Γ (.Name (Str.ofString "_strip_padding") pos) (.fn (.ref 90)) :=
  Ev.glob (by kernel_rfl) (fun _ => rep_fn) hk hx hg (by decide +kernel)

theorem G.law_cells (hk : env.scope.kind = .function) (hx : env.kindOf (Str.ofString "_law_cells") = some .globalImplicit) (hg : env.globals = mainGlobals) : Ev c n env V Γ (.Name (Str.ofString "_law_cells") pos) (.fn (.ref 97)) :=
  Ev.glob (by kernel_rfl) (fun _ => rep_fn) hk hx hg (by decide +kernel)

theorem G.law_lines (hk : env.scope.kind = .function) (hx : env.kindOf (Str.ofString "_law_lines") = some .globalImplicit) (hg : env.globals = mainGlobals) : Ev c n env V Γ (.Name (Str.ofString "_law_lines") pos) (.fn (.ref 104)) :=
  Ev.glob (by kernel_rfl) (fun _ => rep_fn) hk hx hg (by decide +kernel)

theorem G.law_rising (hk : env.scope.kind = .function) (hx : env.kindOf (Str.ofString "_law_rising") = some .globalImplicit) (hg : env.globals = mainGlobals) : Ev c n env V Γ (.Name (Str.ofString "_law_rising") pos) (.fn (.ref 109)) :=
  Ev.glob (by kernel_rfl) (fun _ => rep_fn) hk hx hg (by decide +kernel)

theorem G.law_note (hk : env.scope.kind = .function) (hx : env.kindOf (Str.ofString "_law_note") = some .globalImplicit) (hg : env.globals = mainGlobals) : Ev c n env V Γ (.Name (Str.ofString "_law_note") pos) (.fn (.ref 116)) :=
  Ev.glob (by kernel_rfl) (fun _ => rep_fn) hk hx hg (by decide +kernel)

theorem G.law_told (hk : env.scope.kind = .function) (hx : env.kindOf (Str.ofString "_law_told") = some .globalImplicit) (hg : env.globals = mainGlobals) : Ev c n env V Γ (.Name (Str.ofString "_law_told") pos) (.fn (.ref 123)) :=
  Ev.glob (by kernel_rfl) (fun _ => rep_fn) hk hx hg (by decide +kernel)

theorem G.law_ordered (hk : env.scope.kind = .function) (hx : env.kindOf (Str.ofString "_law_ordered") = some .globalImplicit) (hg : env.globals = mainGlobals) : Ev c n env V Γ (.Name (Str.ofString "_law_ordered") pos) (.fn (.ref 128)) :=
  Ev.glob (by kernel_rfl) (fun _ => rep_fn) hk hx hg (by decide +kernel)

theorem G.law_late (hk : env.scope.kind = .function) (hx : env.kindOf (Str.ofString "_law_late") = some .globalImplicit) (hg : env.globals = mainGlobals) : Ev c n env V Γ (.Name (Str.ofString "_law_late") pos) (.fn (.ref 135)) :=
  Ev.glob (by kernel_rfl) (fun _ => rep_fn) hk hx hg (by decide +kernel)

theorem G.law_bound (hk : env.scope.kind = .function) (hx : env.kindOf (Str.ofString "_law_bound") = some .globalImplicit) (hg : env.globals = mainGlobals) : Ev c n env V Γ (.Name (Str.ofString "_law_bound") pos) (.fn (.ref 142)) :=
  Ev.glob (by kernel_rfl) (fun _ => rep_fn) hk hx hg (by decide +kernel)

theorem G.MAX_LENGTH (hk : env.scope.kind = .function) (hx : env.kindOf (Str.ofString "_MAX_LENGTH") = some .globalImplicit) (hg : env.globals = mainGlobals) : Ev c n env V Γ (.Name (Str.ofString "_MAX_LENGTH") pos) (.int 80) :=
  Ev.glob (v := .int 80 196) (by kernel_rfl) (fun _ => rep_int) hk hx hg (by decide +kernel)

theorem G.PLACEHOLDER_LEN (hk : env.scope.kind = .function) (hx : env.kindOf (Str.ofString "_PLACEHOLDER_LEN") = some .globalImplicit) (hg : env.globals = mainGlobals) : Ev c n env V Γ (.Name (Str.ofString "_PLACEHOLDER_LEN") pos) (.int 12) :=
  Ev.glob (v := .int 12 198) (by kernel_rfl) (fun _ => rep_int) hk hx hg (by decide +kernel)

theorem G.MIN_BEGIN_LEN (hk : env.scope.kind = .function) (hx : env.kindOf (Str.ofString "_MIN_BEGIN_LEN") = some .globalImplicit) (hg : env.globals = mainGlobals) : Ev c n env V Γ (.Name (Str.ofString "_MIN_BEGIN_LEN") pos) (.int 5) :=
  Ev.glob (v := .int 5 200) (by kernel_rfl) (fun _ => rep_int) hk hx hg (by decide +kernel)

theorem G.MIN_END_LEN (hk : env.scope.kind = .function) (hx : env.kindOf (Str.ofString "_MIN_END_LEN") = some .globalImplicit) (hg : env.globals = mainGlobals) : Ev c n env V Γ (.Name (Str.ofString "_MIN_END_LEN") pos) (.int 5) :=
  Ev.glob (v := .int 5 202) (by kernel_rfl) (fun _ => rep_int) hk hx hg (by decide +kernel)

theorem G.MIN_COMMON_LEN (hk : env.scope.kind = .function) (hx : env.kindOf (Str.ofString "_MIN_COMMON_LEN") = some .globalImplicit) (hg : env.globals = mainGlobals) : Ev c n env V Γ (.Name (Str.ofString "_MIN_COMMON_LEN") pos) (.int 5) :=
  Ev.glob (v := .int 5 204) (by kernel_rfl) (fun _ => rep_int) hk hx hg (by decide +kernel)

theorem G.MIN_DIFF_LEN (hk : env.scope.kind = .function) (hx : env.kindOf (Str.ofString "_MIN_DIFF_LEN") = some .globalImplicit) (hg : env.globals = mainGlobals) : Ev c n env V Γ (.Name (Str.ofString "_MIN_DIFF_LEN") pos) (.int 41) :=
  Ev.glob (v := .int 41 210) (by kernel_rfl) (fun _ => rep_int) hk hx hg (by decide +kernel)

theorem G.b_len (hk : env.scope.kind = .function) (hx : env.kindOf (Str.ofString "len") = some .globalImplicit) (hg : env.globals = mainGlobals) (hb : env.builtins = builtinsNs) : Ev c n env V Γ (.Name (Str.ofString "len") pos) (.fn (.builtin "len")) :=
  Ev.bi (by kernel_rfl) (by decide +kernel) (by decide +kernel) (fun _ => rep_fn) hk hx hg hb (by decide +kernel)

theorem G.b_min (hk : env.scope.kind = .function) (hx : env.kindOf (Str.ofString "min") = some .globalImplicit) (hg : env.globals = mainGlobals) (hb : env.builtins = builtinsNs) : Ev c n env V Γ (.Name (Str.ofString "min") pos) (.fn (.builtin "min")) :=
  Ev.bi (by kernel_rfl) (by decide +kernel) (by decide +kernel) (fun _ => rep_fn) hk hx hg hb (by decide +kernel)

theorem G.b_max (hk : env.scope.kind = .function) (hx : env.kindOf (Str.ofString "max") = some .globalImplicit) (hg : env.globals = mainGlobals) (hb : env.builtins = builtinsNs) : Ev c n env V Γ (.Name (Str.ofString "max") pos) (.fn (.builtin "max")) :=
  Ev.bi (by kernel_rfl) (by decide +kernel) (by decide +kernel) (fun _ => rep_fn) hk hx hg hb (by decide +kernel)

theorem G.b_isinstance (hk : env.scope.kind = .function) (hx : env.kindOf (Str.ofString "isinstance") = some .globalImplicit) (hg : env.globals = mainGlobals) (hb : env.builtins = builtinsNs) : Ev c n env V Γ (.Name (Str.ofString "isinstance") pos) (.fn (.builtin "isinstance")) :=
  Ev.bi (by kernel_rfl) (by decide +kernel) (by decide +kernel) (fun _ => rep_fn) hk hx hg hb (by decide +kernel)

theorem G.b_repr (hk : env.scope.kind = .function) (hx : env.kindOf (Str.ofString "repr") = some .globalImplicit) (hg : env.globals = mainGlobals) (hb : env.builtins = builtinsNs) : Ev c n env V Γ (.Name (Str.ofString "repr") pos) (.fn (.builtin "repr")) :=
  Ev.bi (by kernel_rfl) (by decide +kernel) (by decide +kernel) (fun _ => rep_fn) hk hx hg hb (by decide +kernel)

theorem G.b_sorted (hk : env.scope.kind = .function) (hx : env.kindOf (Str.ofString "sorted") = some .globalImplicit) (hg : env.globals = mainGlobals) (hb : env.builtins = builtinsNs) : Ev c n env V Γ (.Name (Str.ofString "sorted") pos) (.fn (.builtin "sorted")) :=
  Ev.bi (by kernel_rfl) (by decide +kernel) (by decide +kernel) (fun _ => rep_fn) hk hx hg hb (by decide +kernel)

theorem G.b_type (hk : env.scope.kind = .function) (hx : env.kindOf (Str.ofString "type") = some .globalImplicit) (hg : env.globals = mainGlobals) (hb : env.builtins = builtinsNs) : Ev c n env V Γ (.Name (Str.ofString "type") pos) (.fn (.type "type")) :=
  Ev.bi (by kernel_rfl) (by decide +kernel) (by decide +kernel) (fun _ => rep_fn) hk hx hg hb (by decide +kernel)

theorem G.b_tuple (hk : env.scope.kind = .function) (hx : env.kindOf (Str.ofString "tuple") = some .globalImplicit) (hg : env.globals = mainGlobals) (hb : env.builtins = builtinsNs) : Ev c n env V Γ (.Name (Str.ofString "tuple") pos) (.fn (.type "tuple")) :=
  Ev.bi (by kernel_rfl) (by decide +kernel) (by decide +kernel) (fun _ => rep_fn) hk hx hg hb (by decide +kernel)

theorem G.b_int (hk : env.scope.kind = .function) (hx : env.kindOf (Str.ofString "int") = some .globalImplicit) (hg : env.globals = mainGlobals) (hb : env.builtins = builtinsNs) : Ev c n env V Γ (.Name (Str.ofString "int") pos) (.fn (.type "int")) :=
  Ev.bi (by kernel_rfl) (by decide +kernel) (by decide +kernel) (fun _ => rep_fn) hk hx hg hb (by decide +kernel)

theorem G.b_range (hk : env.scope.kind = .function) (hx : env.kindOf (Str.ofString "range") = some .globalImplicit) (hg : env.globals = mainGlobals) (hb : env.builtins = builtinsNs) : Ev c n env V Γ (.Name (Str.ofString "range") pos) (.fn (.type "range")) :=
  Ev.bi (by kernel_rfl) (by decide +kernel) (by decide +kernel) (fun _ => rep_fn) hk hx hg hb (by decide +kernel)

theorem G.b_enumerate (hk : env.scope.kind = .function) (hx : env.kindOf (Str.ofString "enumerate") = some .globalImplicit) (hg : env.globals = mainGlobals) (hb : env.builtins = builtinsNs) : Ev c n env V Γ (.Name (Str.ofString "enumerate") pos) (.fn (.type "enumerate")) :=
  Ev.bi (by kernel_rfl) (by decide +kernel) (by decide +kernel) (fun _ => rep_fn) hk hx hg hb (by decide +kernel)

theorem G.b_map (hk : env.scope.kind = .function) (hx : env.kindOf (Str.ofString "map") = some .globalImplicit) (hg : env.globals = mainGlobals) (hb : env.builtins = builtinsNs) : Ev c n env V Γ (.Name (Str.ofString "map") pos) (.fn (.type "map")) :=
  Ev.bi (by kernel_rfl) (by decide +kernel) (by decide +kernel) (fun _ => rep_fn) hk hx hg hb (by decide +kernel)

theorem G.b_str (hk : env.scope.kind = .function) (hx : env.kindOf (Str.ofString "str") = some .globalImplicit) (hg : env.globals = mainGlobals) (hb : env.builtins = builtinsNs) : Ev c n env V Γ (.Name (Str.ofString "str") pos) (.fn (.type "str")) :=
  Ev.bi (by kernel_rfl) (by decide +kernel) (by decide +kernel) (fun _ => rep_fn) hk hx hg hb (by decide +kernel)

theorem G.b_list (hk : env.scope.kind = .function) (hx : env.kindOf (Str.ofString "list") = some .globalImplicit) (hg : env.globals = mainGlobals) (hb : env.builtins = builtinsNs) : Ev c n env V Γ (.Name (Str.ofString "list") pos) (.fn (.type "list")) :=
  Ev.bi (by kernel_rfl) (by decide +kernel) (by decide +kernel) (fun _ => rep_fn) hk hx hg hb (by decide +kernel)

theorem G.b_bool (hk : env.scope.kind = .function) (hx : env.kindOf (Str.ofString "bool") = some .globalImplicit) (hg : env.globals = mainGlobals) (hb : env.builtins = builtinsNs) : Ev c n env V Γ (.Name (Str.ofString "bool") pos) (.fn (.type "bool")) :=
  Ev.bi (by kernel_rfl) (by decide +kernel) (by decide +kernel) (fun _ => rep_fn) hk hx hg hb (by decide +kernel)

end
end

local macro_rules | `(tactic| walk_at "mine glob") => `(tactic| first
  | exact G.shorten rfl rfl rfl | exact G.kind rfl rfl rfl | exact G.fspath rfl rfl rfl | exact G.prefix rfl rfl rfl | exact G.commonprefix rfl rfl rfl | exact G.common_shorten_repr rfl rfl rfl | exact G.safe_repr rfl rfl rfl
  | exact G.strcoll rfl rfl rfl | exact G.strxfrm rfl rfl rfl | exact G.strip_padding rfl rfl rfl | exact G.law_cells rfl rfl rfl | exact G.law_lines rfl rfl rfl | exact G.law_rising rfl rfl rfl | exact G.law_note rfl rfl rfl | exact G.law_told rfl rfl rfl
  | exact G.law_ordered rfl rfl rfl | exact G.law_late rfl rfl rfl | exact G.law_bound rfl rfl rfl
  | exact G.MAX_LENGTH rfl rfl rfl | exact G.PLACEHOLDER_LEN rfl rfl rfl | exact G.MIN_BEGIN_LEN rfl rfl rfl | exact G.MIN_END_LEN rfl rfl rfl | exact G.MIN_COMMON_LEN rfl rfl rfl | exact G.MIN_DIFF_LEN rfl rfl rfl
  | exact G.b_len rfl rfl rfl rfl | exact G.b_min rfl rfl rfl rfl | exact G.b_max rfl rfl rfl rfl | exact G.b_isinstance rfl rfl rfl rfl | exact G.b_repr rfl rfl rfl rfl | exact G.b_sorted rfl rfl rfl rfl | exact G.b_type rfl rfl rfl rfl | exact G.b_tuple rfl rfl rfl rfl
  | exact G.b_int rfl rfl rfl rfl | exact G.b_range rfl rfl rfl rfl | exact G.b_enumerate rfl rfl rfl rfl | exact G.b_map rfl rfl rfl rfl | exact G.b_str rfl rfl rfl rfl | exact G.b_list rfl rfl rfl rfl | exact G.b_bool rfl rfl rfl rfl)
local macro_rules | `(tactic| walk_at "mine atom") => `(tactic| first
  | exact Ev.int | exact Ev.str | exact Ev.bool | exact Ev.none | exact Ev.local rfl rfl rfl rfl | exact Ev.cell rfl rfl rfl rfl | walk_at "mine glob")
local macro_rules | `(tactic| walk_at "mine callee") => `(tactic| first | with_reducible exact Callee.builtin | with_reducible exact Callee.type | exact Callee.fn (by kernel_rfl))


local macro_rules | `(tactic| walk_at "mine atom2") => `(tactic| first
  | exact Ev.int | exact Ev.str | exact Ev.local rfl rfl rfl rfl | exact Ev.cell rfl rfl rfl rfl | exact Ev.free rfl rfl rfl rfl rfl | walk_at "mine glob")

section
open PySem PySem.W PySem.Spec PySem.Calls PyProof.Rows
set_option linter.unusedVariables false
set_option maxRecDepth 100000
set_option maxHeartbeats 400000

theorem strxfrm (c : Cx) (x : List Nat) : Calls c 1 (.ref 83) [.str x] (.str x) := by
  refine Calls.def (n := 0) (names := [Str.ofString "s"]) (ho := rfl) (hcd := by kernel_rfl) (hbody := rfl) (hbind := all1 fun _ => rfl) (hclo := rfl) (hnames := by decide) (hkind := by rfl) (hcn := by decide) (hfree := by rfl) (hb := ?_)
  intro L V
  exact Ex.ret (St.ret (by walk_at "mine atom"))

theorem strcoll (c : Cx) (x y : List Nat) : Calls c 1 (.ref 76) [.str x, .str y] (.int (b2i (decide (y < x)) - b2i (decide (x < y)))) := by
  refine Calls.def (n := 0) (names := [Str.ofString "a", Str.ofString "b"]) (ho := rfl) (hcd := by kernel_rfl) (hbody := rfl) (hbind := all2 fun _ _ => rfl) (hclo := rfl) (hnames := by decide) (hkind := by rfl) (hcn := by decide) (hfree := by rfl) (hb := ?_)
  intro L V
  refine Ex.ret (St.ret (Ev.bin (Ev.cmp ?_ ?_ CmpF.gtS) (Ev.cmp ?_ ?_ CmpF.ltS) BinF.subB))
  all_goals walk_at "mine atom"

theorem law_note (c : Cx) (i : Nat) (hi : i < 10 ^ 10) : Calls c 1 (.ref 116) [.int i] (.str (note i)) := by
  refine Calls.def (n := 0) (names := [Str.ofString "count"]) (ho := rfl) (hcd := by kernel_rfl) (hbody := rfl) (hbind := all1 fun _ => rfl) (hclo := rfl) (hnames := by decide) (hkind := by rfl) (hcn := by decide) (hfree := by rfl) (hb := ?_)
  intro L V
  refine Ex.ret (St.ret (Ev.bin (pa := .str [91, 37, 100, 32, 99, 104, 97, 114, 115, 93]) Ev.str ?_ (BinF.fmt1 hi)))
  walk_at "mine atom"

/-- what _shorten does -/
def shortF (x : List Nat) (p q : Nat) : List Nat :=
  if x.length > p + q + 12 then x.take p ++ note (x.length - p - q) ++ x.drop (x.length - q) else x

theorem shorten (c : Cx) (x : List Nat) (p q : Nat) (hx : x.length ≤ 100000) (hp : p ≤ 1000) (hq : q ≤ 1000) : Calls c 1 (.ref 28) [.str x, .int p, .int q] (.str (shortF x p q)) := by
  refine Calls.def (n := 0) (names := [Str.ofString "s", Str.ofString "prefixlen", Str.ofString "suffixlen"]) (ho := rfl) (hcd := by kernel_rfl) (hbody := rfl) (hbind := all3 fun _ _ _ => rfl) (hclo := rfl) (hnames := by decide) (hkind := by rfl) (hcn := by decide) (hfree := by rfl) (hb := ?_)
  intro L V
  refine Ex.cons (St.assign (p := .int ((x.length : Int) - p - q)) (Ev.bin (Ev.bin (Ev.call (by walk_at "mine atom") (by walk_at "mine callee") (.cons (by walk_at "mine atom") .nil) (Calls.lenS (by omega))) (by walk_at "mine atom") BinF.sub) (by walk_at "mine atom") BinF.sub) rfl rfl) ?_
  by_cases h : x.length > p + q + 12
  · have e1 : (x.length : Int) - p - q = ((x.length - p - q : Nat) : Int) := by omega
    have e2 : shortF x p q = slc x none (some (p : Int)) ++ note (x.length - p - q) ++ slc x (some ((x.length : Int) - q)) none := by
      have e3 : (x.length : Int) - q = ((x.length - q : Nat) : Int) := by omega
      rw [e3, slc_to, slc_from]
      exact if_pos h
    rw [e1, e2]
    refine Ex.cons (St.ifT (Tst.cmp (by walk_at "mine atom") (by walk_at "mine atom") CmpF.gtI TruF.bool) (by simp; omega) (Ex.cons (St.assign (p := .str (slc x none (some (p : Int)) ++ note (x.length - p - q) ++ slc x (some ((x.length : Int) - q)) none)) (Ev.bin (pa := .str [37, 115, 91, 37, 100, 32, 99, 104, 97, 114, 115, 93, 37, 115]) Ev.str
      (Ev.tup (.cons (Ev.cut (by walk_at "mine atom") rfl ⟨_, rfl, by walk_at "mine atom"⟩ ?_) (.cons (by walk_at "mine atom") (.cons (Ev.cut (by walk_at "mine atom") ⟨_, rfl, Ev.bin (Ev.call (by walk_at "mine atom") (by walk_at "mine callee") (.cons (by walk_at "mine atom") .nil) (Calls.lenS (by omega))) (by walk_at "mine atom") BinF.sub⟩ rfl ?_) .nil))) (by simp))
      (BinF.fmt3 (by omega) ?_ ?_)) rfl rfl) Ex.nil)) (Ex.ret (St.ret (by walk_at "mine atom")))
    · exact Nat.le_trans hx (by decide)
    · exact Nat.le_trans hx (by decide)
    · exact Nat.le_trans (slc_len _ _ _) (by omega)
    · exact Nat.le_trans (slc_len _ _ _) (by omega)
  · have e2 : shortF x p q = x := if_neg h
    rw [e2]
    exact Ex.cons (St.ifF (Tst.cmp (by walk_at "mine atom") (by walk_at "mine atom") CmpF.gtI TruF.bool) (by simp; omega) Ex.nil) (Ex.ret (St.ret (by walk_at "mine atom")))
end

section
open PySem PySem.W PySem.Spec PySem.Calls PyProof.Rows
set_option linter.unusedVariables false
set_option maxRecDepth 100000
set_option maxHeartbeats 400000
abbrev bl (k : Nat) : List Nat := List.replicate k 32

theorem strip_padding (c : Cx) (a b k : Nat) (mid : List Nat) (hne : mid ≠ []) (h1 : mid.head? ≠ some 32) (h2 : mid.getLast? ≠ some 32) (hl : (bl a ++ mid ++ bl b).length < 100000) :
    Calls c 1 (.ref 90) [.str (bl a ++ mid ++ bl b), .int k] (.str (bl (a - min k a) ++ mid ++ bl (b - min (k - min k a) b))) := by
  refine Calls.def (n := 0) (names := [Str.ofString "s", Str.ofString "amount"]) (ho := rfl) (hcd := by kernel_rfl) (hbody := rfl) (hbind := all2 fun _ _ => rfl) (hclo := rfl) (hnames := by decide) (hkind := by rfl) (hcn := by decide) (hfree := by rfl) (hb := ?_)
  intro L V
  have hm : 0 < mid.length := by cases mid with | nil => exact absurd rfl hne | cons _ _ => simp
  have hlen : (bl a ++ mid ++ bl b).length = a + mid.length + b := by simp; omega
  generalize hx : bl a ++ mid ++ bl b = x at hl hlen
  have get1 : ∀ i, i < a → x[i]? = some 32 := by
    intro i hi; rw [← hx, List.append_assoc, List.getElem?_append_left (by simpa using hi)]; simp [hi]
  have get2 : ∀ z, x[a]? = some z → z ≠ 32 := by
    intro z hz e; rw [← hx, List.append_assoc, List.getElem?_append_right (by simp), List.getElem?_append_left (by simpa using hm)] at hz
    simp at hz
    exact h1 (by rw [List.head?_eq_getElem?, hz, e])
  have get3 : ∀ j, j < b → x[a + mid.length + b - 1 - j]? = some 32 := by
    intro j hj; rw [← hx, List.getElem?_append_right (by simp; omega), List.length_append, List.length_replicate]
    rw [List.getElem?_replicate, if_pos (by omega)]
  have get4 : ∀ z, x[a + mid.length - 1]? = some z → z ≠ 32 := by
    intro z hz e; rw [← hx, List.getElem?_append_left (by simp; omega), List.getElem?_append_right (by simp; omega)] at hz
    simp at hz
    exact h2 (by rw [List.getLast?_eq_getElem?, ← e, ← hz]; congr 1; omega)
  have get : ∀ i, i < x.length → ∃ z, x[i]? = some z := fun i hi => ⟨x[i], by rw [List.getElem?_eq_getElem hi]⟩
  generalize hi1 : min k a = i1
  have f1 : i1 ≤ a ∧ i1 ≤ k ∧ (i1 = k ∨ i1 = a) := by omega
  clear hi1
  generalize hi2 : min (k - i1) b = i2
  have f2 : i2 ≤ b ∧ i2 + i1 ≤ k ∧ (i2 + i1 = k ∨ i2 = b) := by omega
  clear hi2
  refine Ex.cons (St.assign Ev.int rfl rfl) ?_
  refine Ex.cons (St.while i1 (fun i => [(Str.ofString "amount", .int ((k - i : Nat) : Int)), (Str.ofString "lpos", .int (i : Int)), (Str.ofString "s", .str x)]) (.consI rfl (by omega) (.consI rfl rfl (.cons rfl .nil))) (fun i hi => ?_) (fun i hi => ?_) ?_) ?_
  · refine ⟨_, ?_, Tst.and (Tst.val (by walk_at "mine atom") TruF.int) fun _ => Tst.cmp (Ev.sign (by walk_at "mine atom") (by walk_at "mine atom") (get1 i (by omega)) (by omega)) Ev.str CmpF.eqS TruF.bool⟩
    have : ((k - i : Nat) : Int) ≠ 0 := by omega
    simp
    exact ⟨by omega, by decide⟩
  · refine Ex.weak (Ex.cons (St.aug rfl Ev.int IncF.add rfl rfl) (Ex.cons (St.aug rfl Ev.int IncF.sub rfl rfl) Ex.nil)) (.consI rfl (by omega) (.consI rfl (by omega) (.cons rfl .nil)))
  · obtain ⟨z, hz⟩ := get i1 (by omega)
    refine ⟨_, ?_, Tst.and (Tst.val (by walk_at "mine atom") TruF.int) fun _ => Tst.cmp (Ev.sign (by walk_at "mine atom") (by walk_at "mine atom") hz (by omega)) Ev.str CmpF.eqS TruF.bool⟩
    by_cases hk : k ≤ a
    · have : ((k - i1 : Nat) : Int) = 0 := by omega
      simp [this]
    · have e : i1 = a := by omega
      have := get2 z (e ▸ hz)
      have h32 : (Str.ofString " ").cps.toList = [32] := by decide
      rw [h32]
      simp [this]
  · refine Ex.cons (St.assign (Ev.bin (Ev.call (by walk_at "mine atom") (by walk_at "mine callee") (.cons (by walk_at "mine atom") .nil) (Calls.lenS (by omega))) Ev.int BinF.sub) rfl rfl) ?_
    refine Ex.cons (St.while i2 (fun j => [(Str.ofString "amount", .int ((k - i1 - j : Nat) : Int)), (Str.ofString "rpos", .int ((a + mid.length + b - 1 - j : Nat) : Int)), (Str.ofString "lpos", .int (i1 : Int)), (Str.ofString "s", .str x)]) (.consI rfl (by omega) (.consI rfl (by omega) (.consI rfl rfl (.cons rfl .nil)))) (fun i hi => ?_) (fun i hi => ?_) ?_) ?_
    · refine ⟨_, ?_, Tst.and (Tst.val (by walk_at "mine atom") TruF.int) fun _ => Tst.cmp (Ev.sign (by walk_at "mine atom") (by walk_at "mine atom") (get3 i (by omega)) (by omega)) Ev.str CmpF.eqS TruF.bool⟩
      have : ((k - i1 - i : Nat) : Int) ≠ 0 := by omega
      simp
      exact ⟨by omega, by decide⟩
    · refine Ex.weak (Ex.cons (St.aug rfl Ev.int IncF.sub rfl rfl) (Ex.cons (St.aug rfl Ev.int IncF.sub rfl rfl) Ex.nil)) (.consI rfl (by omega) (.consI rfl (by omega) (.consI rfl rfl (.cons rfl .nil))))
    · obtain ⟨z, hz⟩ := get (a + mid.length + b - 1 - i2) (by omega)
      refine ⟨_, ?_, Tst.and (Tst.val (by walk_at "mine atom") TruF.int) fun _ => Tst.cmp (Ev.sign (by walk_at "mine atom") (by walk_at "mine atom") hz (by omega)) Ev.str CmpF.eqS TruF.bool⟩
      by_cases hk : k - i1 ≤ b
      · have : ((k - i1 - i2 : Nat) : Int) = 0 := by omega
        simp [this]
      · have e : a + mid.length + b - 1 - i2 = a + mid.length - 1 := by omega
        have := get4 z (e ▸ hz)
        have h32 : (Str.ofString " ").cps.toList = [32] := by decide
        rw [h32]
        simp [this]
    · refine Ex.ret (St.ret (Ev.castS (Ev.cut (l := some (i1 : Int)) (u := some ((a + mid.length + b - i2 : Nat) : Int)) (by walk_at "mine atom") ⟨_, rfl, by walk_at "mine atom"⟩ ⟨_, rfl, Ev.castI (Ev.bin (by walk_at "mine atom") Ev.int BinF.add) (by omega)⟩ (Nat.le_trans (Nat.le_of_lt hl) (by decide))) ?_))
      rw [slc_mid, ← hx]
      have ea : bl a = bl i1 ++ bl (a - i1) := by rw [List.replicate_append_replicate]; congr 1; omega
      have eb : bl b = bl (b - i2) ++ bl i2 := by rw [List.replicate_append_replicate]; congr 1; omega
      have ex : bl a ++ mid ++ bl b = (bl i1 ++ (bl (a - i1) ++ mid ++ bl (b - i2))) ++ bl i2 := by
        rw [show bl a ++ mid ++ bl b = (bl i1 ++ bl (a - i1)) ++ mid ++ (bl (b - i2) ++ bl i2) by rw [← ea, ← eb]]; simp only [List.append_assoc]
      rw [ex, List.take_left' (by simp; omega), List.drop_left' (by simp)]
end

section
open PySem PySem.W PySem.Spec PySem.Calls PyProof.Rows
set_option linter.unusedVariables false
set_option maxRecDepth 100000
set_option maxHeartbeats 400000
theorem kind (c : Cx) (x y : List Nat) : Calls c 1 (.ref 35) [.str x, .str y] (.str []) := by
  refine Calls.def (n := 0) (names := [Str.ofString "name", Str.ofString "x"]) (ho := rfl) (hcd := by kernel_rfl) (hbody := rfl) (hbind := all2 fun _ _ => rfl) (hclo := rfl) (hnames := by decide) (hkind := by rfl) (hcn := by decide) (hfree := by rfl) (hb := ?_)
  intro L V
  refine Ex.cons (St.assign (p := .fn (.type "str")) (Ev.call (by walk_at "mine atom") (by walk_at "mine callee") (.cons (by walk_at "mine atom") .nil) Calls.typeS) rfl rfl) ?_
  refine Ex.ret (St.ifT (b := (Value.type "str" == Value.type "str")) (Tst.cmp (pa := .fn (.type "str")) (pb := .fn (.type "str")) (p := .bool (Value.type "str" == Value.type "str")) ?_ ?_ (CmpF.isT (a := "str") (b := "str")) TruF.bool) (beq_self_eq_true _) (Ex.ret (St.ret (Ev.castS (i := (Str.ofString "").cps.toList) Ev.str rfl))))
  · walk_at "mine atom"
  · walk_at "mine atom"

theorem fspath (c : Cx) (x y : List Nat) : Calls c 2 (.ref 42) [.str x, .str y] (.str y) := by
  refine Calls.def (n := 1) (names := [Str.ofString "name", Str.ofString "x"]) (ho := rfl) (hcd := by kernel_rfl) (hbody := rfl) (hbind := all2 fun _ _ => rfl) (hclo := rfl) (hnames := by decide) (hkind := by rfl) (hcn := by decide) (hfree := by rfl) (hb := ?_)
  intro L V
  refine Ex.cons (St.assign (p := .str []) (Ev.call (by walk_at "mine atom") (by walk_at "mine callee") (.cons (by walk_at "mine atom") (.cons (by walk_at "mine atom") .nil)) (kind c x y)) rfl rfl) ?_
  refine Ex.cons (St.ifF (Tst.val (p := .str []) ?_ (TruF.str (a := []) (by decide))) rfl Ex.nil) ?_
  · walk_at "mine atom"
  exact Ex.ret (St.ret (by walk_at "mine atom"))

/-- two rows agree up to k and no further -/
structure Lcp (x y : List Nat) (k : Nat) : Prop where
  same : ∀ i, i < k → ∃ a, x[i]? = some a ∧ y[i]? = some a
  stop : k = x.length ∨ ∃ a b, x[k]? = some a ∧ y[k]? = some b ∧ a ≠ b

theorem prefix' (c : Cx) {xs : List (List Nat)} {lo hi : List Nat} {k : Nat} (hlo : lo ∈ xs) (hmin : ∀ x ∈ xs, ¬ x < lo) (hhi : hi ∈ xs) (hmax : ∀ x ∈ xs, ¬ hi < x) (hk : Lcp lo hi k) (hl : lo.length < 100000) (hl2 : hi.length < 100000) :
    Calls c 1 (.ref 49) [.tup (xs.map .str)] (.str (lo.take k)) := by
  refine Calls.def (n := 0) (names := [Str.ofString "m"]) (ho := rfl) (hcd := by kernel_rfl) (hbody := rfl) (hbind := all1 fun _ => rfl) (hclo := rfl) (hnames := by decide) (hkind := by rfl) (hcn := by decide) (hfree := by rfl) (hb := ?_)
  intro L V
  have hkl : k ≤ lo.length := by
    rcases hk.stop with h | ⟨a, b, h, _⟩
    · omega
    · exact Nat.le_of_lt (List.getElem?_eq_some_iff.mp h).1
  refine Ex.cons (St.assign (p := .str lo) (Ev.call (by walk_at "mine atom") (by walk_at "mine callee") (.cons (by walk_at "mine atom") .nil) (Calls.minS hlo hmin)) rfl rfl) ?_
  refine Ex.cons (St.assign (p := .str hi) (Ev.call (by walk_at "mine atom") (by walk_at "mine callee") (.cons (by walk_at "mine atom") .nil) (Calls.maxS hhi hmax)) rfl rfl) ?_
  rcases hk.stop with h | ⟨a, b, ha, hb, hab⟩
  · refine Ex.cons (St.forEnum (fun _ => [(Str.ofString "s2", .str hi), (Str.ofString "s1", .str lo)]) k (.next [(Str.ofString "s2", .str hi), (Str.ofString "s1", .str lo)]) (EvE.str (x := lo) (by walk_at "mine atom") (by walk_at "mine atom")) (.cons rfl (.cons rfl .nil)) rfl rfl rfl (by simpa using hkl) (fun i p hp hi' => ?_) (.inl ⟨by simpa using h, rfl⟩)) (Ex.ret (St.ret (Ev.castS (by walk_at "mine atom") (by rw [h, List.take_length]))))
    obtain ⟨a, ea, eb⟩ := hk.same i hi'
    rw [List.getElem?_map, ea] at hp
    cases hp
    refine Ex.cons (St.ifF (Tst.cmp (by walk_at "mine atom") (Ev.sign (by walk_at "mine atom") (by walk_at "mine atom") eb (by omega)) CmpF.neS TruF.bool) (by simp) Ex.nil) ?_
    exact Ex.weak Ex.nil (.cons rfl (.cons rfl .nil))
  · have hkl' : k < lo.length := (List.getElem?_eq_some_iff.mp ha).1
    refine Ex.ret (St.forEnum (fun _ => [(Str.ofString "s2", .str hi), (Str.ofString "s1", .str lo)]) k (.ret (.str (lo.take k))) (EvE.str (x := lo) (by walk_at "mine atom") (by walk_at "mine atom")) (.cons rfl (.cons rfl .nil)) rfl rfl rfl (by simpa using hkl) (fun i p hp hi' => ?_) (.inr ⟨.str [a], .str (lo.take k), by simp [ha], ?_, rfl⟩))
    · obtain ⟨a, ea, eb⟩ := hk.same i hi'
      rw [List.getElem?_map, ea] at hp
      cases hp
      refine Ex.cons (St.ifF (Tst.cmp (by walk_at "mine atom") (Ev.sign (by walk_at "mine atom") (by walk_at "mine atom") eb (by omega)) CmpF.neS TruF.bool) (by simp) Ex.nil) ?_
      exact Ex.weak Ex.nil (.cons rfl (.cons rfl .nil))
    · refine Ex.ret (St.ifT (Tst.cmp (by walk_at "mine atom") (Ev.sign (by walk_at "mine atom") (by walk_at "mine atom") hb (by omega)) CmpF.neS TruF.bool) (by simp [hab]) (Ex.ret (St.ret (Ev.castS (Ev.cut (l := none) (u := some (k : Int)) (by walk_at "mine atom") rfl ⟨_, rfl, by walk_at "mine atom"⟩ (Nat.le_trans (Nat.le_of_lt hl) (by decide))) (slc_to _ _)))))
end

section
open PySem PySem.W PySem.Spec PySem.Calls PyProof.Rows
set_option linter.unusedVariables false
set_option maxRecDepth 100000
set_option maxHeartbeats 1000000
theorem Calls.mono {c : Cx} {m n : Nat} {f : Value} {args : List PV} {p : PV} (h : Calls c m f args p) (hm : m ≤ n) : Calls c n f args p := fun A hA V s vals Q E G r k => h A (hA.le hm) V s vals Q E G r k

theorem commonprefix (c : Cx) {xs : List (List Nat)} {lo hi : List Nat} {k : Nat} (hlo : lo ∈ xs) (hmin : ∀ x ∈ xs, ¬ x < lo) (hhi : hi ∈ xs) (hmax : ∀ x ∈ xs, ¬ hi < x) (hk : Lcp lo hi k) (hl : lo.length < 100000) (hl2 : hi.length < 100000) (hn : xs.length < 1000) :
    Calls c 4 (.ref 54) [.tup (xs.map .str)] (.str (lo.take k)) := by
  refine Calls.def (n := 3) (names := [Str.ofString "m"]) (ho := rfl) (hcd := by kernel_rfl) (hbody := rfl) (hbind := all1 fun _ => rfl) (hclo := rfl) (hnames := by decide) (hkind := by rfl) (hcn := by decide) (hfree := by rfl) (hb := ?_)
  intro L V
  obtain ⟨x0, xr, rfl⟩ : ∃ x0 xr, xs = x0 :: xr := by cases xs with
    | nil => cases hlo
    | cons a b => exact ⟨a, b, rfl⟩
  have hlen : ((x0 :: xr).map PV.str).length < 1000000 := by rw [List.length_map]; omega
  refine Ex.cons (St.ifF (b := _) (Tst.and (p := !(Value.type "tuple" == Value.type "list")) (q := !(Value.type "tuple" == Value.type "tuple")) (Tst.cmp (pa := .fn (.type "tuple")) (pb := .fn (.type "list")) (Ev.call ?_ (by with_reducible exact Callee.type) (.cons ?_ .nil) (Calls.typeT (x := (x0 :: xr).map .str))) ?_ CmpF.isNotT TruF.bool) fun _ => Tst.cmp (pa := .fn (.type "tuple")) (pb := .fn (.type "tuple")) (Ev.call ?_ (by with_reducible exact Callee.type) (.cons ?_ .nil) (Calls.typeT (x := (x0 :: xr).map .str))) ?_ CmpF.isNotT TruF.bool) rfl Ex.nil) ?_
  iterate 6 walk_at "mine atom"
  refine Ex.cons (St.ifF (b := _) (Tst.not (Tst.val (p := .tup ((x0 :: xr).map .str)) ?_ (TruF.tup hlen))) rfl Ex.nil) ?_
  · walk_at "mine atom"
  refine Ex.cons (St.assign (p := .fn (.type "str")) (Ev.call ?_ (by with_reducible exact Callee.type) (.cons (Ev.itemT (k := 0) (p := .str x0) ?_ ?_ rfl hlen) .nil) (Calls.typeS (x := x0))) rfl rfl) ?_
  · walk_at "mine atom"
  · walk_at "mine atom"
  · walk_at "mine atom"
  refine Ex.cons (St.ifF (b := _) (Tst.or (p := Value.type "str" == Value.type "list") (q := Value.type "str" == Value.type "tuple") (Tst.cmp (pa := .fn (.type "str")) (pb := .fn (.type "list")) ?_ ?_ CmpF.isT TruF.bool) fun _ => Tst.cmp (pa := .fn (.type "str")) (pb := .fn (.type "tuple")) ?_ ?_ CmpF.isT TruF.bool) rfl Ex.nil) ?_
  iterate 4 walk_at "mine atom"
  refine Ex.cons (St.for (us := (x0 :: xr).map .str) (fun _ => [(Str.ofString "m", .tup ((x0 :: xr).map .str))]) (EvI.tup ?_) (.cons rfl .nil) rfl (.inl rfl) (fun i p hp => ?_)) ?_
  · walk_at "mine atom"
  · rw [List.getElem?_map] at hp
    cases hx : (x0 :: xr)[i]? with
    | none => rw [hx] at hp; cases hp
    | some y =>
      rw [hx] at hp; cases hp
      refine Ex.weak (Ex.cons (St.expr (p := .str []) (Ev.call (ps := [.str (Str.ofString "commonprefix").cps.toList, .str y]) ?_ (Callee.fn (by kernel_rfl)) (.cons ?_ (.cons ?_ .nil)) ((kind c _ y).mono (by decide)))) Ex.nil) (.cons rfl .nil)
      · walk_at "mine atom"
      · walk_at "mine atom"
      · walk_at "mine atom"
  refine Ex.ret (St.ret (Ev.call (ps := [.tup ((x0 :: xr).map .str)]) ?_ (Callee.fn (by kernel_rfl)) (.cons (Ev.call (ps := [.list ((x0 :: xr).map .str)]) ?_ (by with_reducible exact Callee.type) (.cons (Ev.cast (Ev.comp (us := (x0 :: xr).map .str) (Γc := []) (fun _ => true) (fun u => u) (EvI.tup ?_) (CompOK.of (cl := []) rfl (fun _ _ h => by cases h) rfl rfl rfl rfl rfl (fun _ => Cap.nil) rfl) (by rw [List.length_map]; omega) (fun _ _ _ _ => Tsts.nil) (fun C V' u hu _ => ?_)) (by simp)) .nil) (Calls.tupleL (by rw [List.length_map]; omega))) .nil) ((prefix' c hlo hmin hhi hmax hk hl hl2).mono (by decide))))
  · walk_at "mine atom"
  · walk_at "mine atom"
  · walk_at "mine atom"
  · obtain ⟨y, _, rfl⟩ := List.mem_map.mp hu
    refine Ev.call (ps := [.str (Str.ofString "commonprefix").cps.toList, .str y]) ?_ (Callee.fn (by kernel_rfl)) (.cons ?_ (.cons ?_ .nil)) ((fspath c _ y).mono (by decide))
    · walk_at "mine atom"
    · walk_at "mine atom"
    · walk_at "mine atom"
theorem safe_reprS (c : Cx) (x : List Nat) (h : ∀ c ∈ x, plainC c = true) (hl : x.length ≤ 100000) : Calls c 2 (.ref 69) [.str x] (.str (39 :: (x ++ [39]))) := by
  refine Calls.defG (n := 1) (names := [Str.ofString "obj", Str.ofString "short"]) (pargs := [.str x, .bool false]) (ho := rfl) (hcd := by kernel_rfl) (hbody := rfl) (hbind := ?_) (hclo := rfl) (hnames := by decide) (hkind := by rfl) (hcn := by decide) (hfree := by rfl) (hb := ?_)
  · intro A V s vals Q E G r k
    obtain ⟨v, rfl, hv⟩ := r.one
    refine (binds_K (binds := [(Str.ofString "obj", v), (Str.ofString "short", .bool false)]) G.gi.k rfl rfl rfl rfl rfl) _ _ _ _ ?_
    exact k [v, .bool false] s .refl (.cons hv (.cons rep_bool .nil))
  · intro L V
    refine Ex.cons (St.try (Ex.cons (St.assign (p := .str (39 :: (x ++ [39]))) (Ev.call (by walk_at "mine atom") (by walk_at "mine callee") (.cons (by walk_at "mine atom") .nil) (Calls.reprS h (by omega))) rfl rfl) Ex.nil)) ?_
    refine Ex.ret (St.ifT (b := _) (Tst.or (p := !false) (Tst.not (Tst.val (p := .bool false) ?_ TruF.bool)) (q := true) (fun h => by simp at h)) rfl (Ex.ret (St.ret ?_)))
    · walk_at "mine atom"
    · walk_at "mine atom"

theorem safe_reprL (c : Cx) (x : List Nat) (h : ∀ c ∈ x, c < 10 ^ 10) (hl : (listF x).length ≤ 100000) : Calls c 2 (.ref 69) [.list (x.map fun x : Nat => .int (x : Int))] (.str (listF x)) := by
  refine Calls.defG (n := 1) (names := [Str.ofString "obj", Str.ofString "short"]) (pargs := [.list (x.map fun x : Nat => .int (x : Int)), .bool false]) (ho := rfl) (hcd := by kernel_rfl) (hbody := rfl) (hbind := ?_) (hclo := rfl) (hnames := by decide) (hkind := by rfl) (hcn := by decide) (hfree := by rfl) (hb := ?_)
  · intro A V s vals Q E G r k
    obtain ⟨v, rfl, hv⟩ := r.one
    refine (binds_K (binds := [(Str.ofString "obj", v), (Str.ofString "short", .bool false)]) G.gi.k rfl rfl rfl rfl rfl) _ _ _ _ ?_
    exact k [v, .bool false] s .refl (.cons hv (.cons rep_bool .nil))
  · intro L V
    refine Ex.cons (St.try (Ex.cons (St.assign (p := .str (listF x)) (Ev.call (by walk_at "mine atom") (by walk_at "mine callee") (.cons (by walk_at "mine atom") .nil) (Calls.reprL h (by omega) (by decide))) rfl rfl) Ex.nil)) ?_
    refine Ex.ret (St.ifT (b := _) (Tst.or (p := !false) (Tst.not (Tst.val (p := .bool false) ?_ TruF.bool)) (q := true) (fun h => by simp at h)) rfl (Ex.ret (St.ret ?_)))
    · walk_at "mine atom"
    · walk_at "mine atom"
end

section
open PySem PySem.W PySem.Spec PySem.Calls PyProof.Rows
set_option linter.unusedVariables false
set_option maxRecDepth 100000
set_option maxHeartbeats 2000000
theorem bindStar (c : Cx) {as : List PV} (hn : as.length ≤ 1000) {fd : FuncData} (hb : ∀ vals, bindArgs fd ⟨vals, []⟩ = (do let t ← newTuple vals; pure [(Str.ofString "args", t)])) :
    ∀ (A : Around) (V : List Addr) (s : Shared) (vals : List Value) (Q : List (PySem.Str × Value) → Shared → Prop) (E : Value → Shared → Prop), GS c V s → RepL V s.heap as vals → (∀ vals' s', Step [56] s s' → RepL V s'.heap [.tup as] vals' → Q ([Str.ofString "args"].zip vals') s') → wpAny c.M A (bindArgs fd ⟨vals, []⟩) Q E s := by
  intro A V s vals Q E G r k
  rw [hb]
  refine wpAny_bind (wpAny_newTuple ?_ (by rw [r.length, sizeLine_eq]; omega))
  have hnew : (s.heap.push { cls := .type "tuple", data := .seq vals.toArray }).get? s.heap.objs.size = some (seqObj "tuple" vals 0) := Heap.get?_push_size _ rfl
  exact wpAny_pure (k [.ref s.heap.objs.size] _ (.of_keep push_keep) (.cons (rep_tup (n := 0) (G.notIn push_fresh) hnew (r.mono fun b o hb e => ⟨hb, push_keep _ _ e⟩)) .nil))

theorem csr_short (c : Cx) {as : List PV} {rs : List (List Nat)} {mx : Nat} (hlen : as.length = rs.length) (hrep : ∀ (i : Nat) p q, as[i]? = some p → rs[i]? = some q → Calls c 2 (.ref 69) [p] (.str q)) (hm : ∃ x ∈ rs, x.length = mx) (hall : ∀ x ∈ rs, x.length ≤ mx) (hn : rs.length ≤ 1000) (h80 : mx ≤ 80) :
    Calls c 6 (.ref 61) as (.tup (rs.map .str)) := by
  refine Calls.defG (n := 5) (names := [Str.ofString "args"]) (pargs := [.tup as]) (ho := rfl) (hcd := by kernel_rfl) (hbody := rfl) (hbind := bindStar c (by omega) ?_) (hclo := rfl) (hnames := by decide) (hkind := by rfl) (hcn := by decide) (hfree := by rfl) (hb := ?_)
  · intro vals; cases vals <;> rfl
  · intro L V
    refine Ex.cons (St.assign (p := .tup (rs.map .str)) (Ev.tupleMap (m := 2) (as := as) (f := .ref 69) ?_ ?_ ?_ ?_ (by rw [List.length_map]; exact hlen) (fun p hp => by obtain ⟨x, _, rfl⟩ := List.mem_map.mp hp; trivial) (fun i p q hp hq => ?_) (by rw [List.length_map]; omega)) rfl rfl) ?_
    · walk_at "mine atom"
    · walk_at "mine atom"
    · walk_at "mine atom"
    · walk_at "mine atom"
    · rw [List.getElem?_map] at hq
      cases hx : rs[i]? with
      | none => rw [hx] at hq; cases hq
      | some y => rw [hx] at hq; cases hq; exact hrep i p y hp hx
    refine Ex.cons (St.assign (p := .int mx) (Ev.maxMapLen (xs := rs) ?_ ?_ ?_ ?_ hm hall (by omega)) rfl rfl) ?_
    · walk_at "mine atom"
    · walk_at "mine atom"
    · walk_at "mine atom"
    · walk_at "mine atom"
    refine Ex.ret (St.ifT (b := _) (Tst.cmp (pa := .int mx) (pb := .int 80) ?_ ?_ CmpF.leI TruF.bool) (by simp; omega) (Ex.ret (St.ret ?_)))
    · walk_at "mine atom"
    · walk_at "mine atom"
    · walk_at "mine atom"
end

section
open PySem PySem.W PySem.Spec PySem.Calls PyProof.Rows
set_option linter.unusedVariables false
set_option maxRecDepth 100000
set_option maxHeartbeats 2000000
def CapG (env : Env) (scope : Scope) (cl : List (PySem.Str × Addr)) (Γ Γc : List (PySem.Str × PV)) : Prop := ∀ y p, Γc.lookup y = some p → Γ.lookup y = some p ∧ (env.kindOf y = some .cell ∨ env.kindOf y = some .free) ∧ scope.names.lookup y ≠ some .local ∧ ∃ a, cl.lookup y = some a
theorem CapG.nil {env scope cl Γ} : CapG env scope cl Γ [] := fun _ _ e => by cases e
theorem CapG.cons {env : Env} {scope : Scope} {cl : List (PySem.Str × Addr)} {Γ Γc : List (PySem.Str × PV)} {y : PySem.Str} {p : PV} (h1 : Γ.lookup y = some p) (h2 : env.kindOf y = some .cell) (h3 : (scope.names.lookup y == some .local) = false) (h4 : (cl.lookup y).isSome = true) (h : CapG env scope cl Γ Γc) : CapG env scope cl Γ ((y, p) :: Γc) := by
  intro z q e
  rw [List.lookup_cons] at e
  by_cases hz : z = y
  · subst hz; rw [beq_self_eq_true] at e; cases e
    exact ⟨h1, .inl h2, fun q => by rw [q] at h3; simp at h3, Option.isSome_iff_exists.mp h4⟩
  · rw [beq_eq_false_iff_ne.mpr hz] at e; exact h z q e
theorem FltG.nil : ∀ x p, ([] : List (PySem.Str × PV)).lookup x = some p → Flt p := fun _ _ e => by cases e
theorem FltG.cons {y : PySem.Str} {q : PV} {Γ : List (PySem.Str × PV)} (hq : Flt q) (h : ∀ x p, Γ.lookup x = some p → Flt p) : ∀ x p, ((y, q) :: Γ).lookup x = some p → Flt p := fun z p e => by
  rw [List.lookup_cons] at e
  by_cases hz : z = y
  · subst hz; rw [beq_self_eq_true] at e; cases e; exact hq
  · rw [beq_eq_false_iff_ne.mpr hz] at e; exact h z p e
def onStr (g : List Nat → List Nat) : PV → PV
  | .str s => .str (g s)
  | p => p
theorem onStr_map (g : List Nat → List Nat) (rs : List (List Nat)) : rs.map (fun s => PV.str (g s)) = (rs.map .str).map (onStr g) := by rw [List.map_map]; rfl
theorem flt_strs {rs : List (List Nat)} {g : List Nat → List Nat} : ∀ p ∈ rs.map (fun s => PV.str (g s)), Flt p := fun p hp => by obtain ⟨x, _, rfl⟩ := List.mem_map.mp hp; trivial
theorem flt_strs' {rs : List (List Nat)} : ∀ p ∈ rs.map PV.str, Flt p := fun p hp => by obtain ⟨x, _, rfl⟩ := List.mem_map.mp hp; trivial
theorem dec_len {n : Nat} (h : n < 10 ^ 10) : (dec n).length ≤ 640 := by
  have := PySem.W.KT.len_num (n := (n : Int)) (by omega) (by omega)
  have e : (dec n).length = (PySem.Str.ofString (toString (n : Int))).length := by unfold dec; simp [PySem.Str.length]
  rw [e]
  exact Nat.le_trans this (by decide)
theorem note_len {n : Nat} (h : n < 10 ^ 10) : (note n).length ≤ 650 := by
  have := dec_len h
  unfold note
  simp; omega
theorem shortF_len (x : List Nat) (p q : Nat) (h : x.length < 10 ^ 6) : (shortF x p q).length ≤ x.length + 650 := by
  unfold shortF
  split
  · have := note_len (n := x.length - p - q) (by omega)
    simp only [List.length_append, List.length_take, List.length_drop]
    omega
  · omega

theorem csr_long (c : Cx) {as : List PV} {rs : List (List Nat)} {lo hi : List Nat} {mx k : Nat} (hlen : as.length = rs.length) (hrep : ∀ (i : Nat) p q, as[i]? = some p → rs[i]? = some q → Calls c 2 (.ref 69) [p] (.str q)) (hm : ∃ x ∈ rs, x.length = mx) (hall : ∀ x ∈ rs, x.length ≤ mx) (hn : rs.length < 1000) (h80 : 80 < mx) (hmx : mx < 10000)
    (hlo : lo ∈ rs) (hmin : ∀ x ∈ rs, ¬ x < lo) (hhi : hi ∈ rs) (hmax : ∀ x ∈ rs, ¬ hi < x) (hk : Lcp lo hi k) (hkl : k ≤ lo.length) (hc : 63 + k > mx + 5) :
    Calls c 6 (.ref 61) as (.tup (rs.map fun s => .str (shortF (lo.take k) 5 (63 + k - mx) ++ s.drop k))) := by
  refine Calls.defG (n := 5) (names := [Str.ofString "args"]) (pargs := [.tup as]) (ho := rfl) (hcd := by kernel_rfl) (hbody := rfl) (hbind := bindStar c (by omega) ?_) (hclo := rfl) (hnames := by decide) (hkind := by rfl) (hcn := by decide) (hfree := by rfl) (hb := ?_)
  · intro vals; cases vals <;> rfl
  · intro L V
    have hlol := hall lo hlo
    have hhil := hall hi hhi
    refine Ex.cons (St.assign (p := .tup (rs.map .str)) (Ev.tupleMap (m := 2) (as := as) (f := .ref 69) ?_ ?_ ?_ ?_ (by rw [List.length_map]; exact hlen) flt_strs' (fun i p q hp hq => ?_) (by rw [List.length_map]; omega)) rfl rfl) ?_
    · walk_at "mine atom"
    · walk_at "mine atom"
    · walk_at "mine atom"
    · walk_at "mine atom"
    · rw [List.getElem?_map] at hq
      cases hx : rs[i]? with
      | none => rw [hx] at hq; cases hq
      | some y => rw [hx] at hq; cases hq; exact hrep i p y hp hx
    refine Ex.cons (St.assign (p := .int mx) (Ev.maxMapLen (xs := rs) ?_ ?_ ?_ ?_ hm hall (by omega)) rfl rfl) ?_
    · walk_at "mine atom"
    · walk_at "mine atom"
    · walk_at "mine atom"
    · walk_at "mine atom"
    refine Ex.cons (St.ifF (b := _) (Tst.cmp (pa := .int mx) (pb := .int 80) ?_ ?_ CmpF.leI TruF.bool) (by simp; omega) Ex.nil) ?_
    · walk_at "mine atom"
    · walk_at "mine atom"
    refine Ex.cons (St.assignC (p := .str (lo.take k)) (Ev.call (ps := [.tup (rs.map .str)]) ?_ (Callee.fn (by kernel_rfl)) (.cons ?_ .nil) ((commonprefix c hlo hmin hhi hmax hk (by omega) (by omega) hn).mono (by decide))) rfl rfl) ?_
    · walk_at "mine atom"
    · walk_at "mine atom"
    have hkl' : (lo.take k).length = k := by rw [List.length_take]; omega
    refine Ex.cons (St.assignC (p := .int k) (Ev.castI (Ev.call (ps := [.str (lo.take k)]) ?_ Callee.builtin (.cons ?_ .nil) (Calls.lenS (by omega))) (by rw [hkl'])) rfl rfl) ?_
    · walk_at "mine atom"
    · walk_at "mine atom"
    refine Ex.cons (St.assign (p := .int ((63 + k - mx : Nat) : Int)) (Ev.castI (Ev.bin (pa := .int 80) ?_ (Ev.bin (pb := .int 12) (Ev.bin (pb := .int 5) (Ev.bin (pa := .int mx) (pb := .int k) ?_ ?_ BinF.sub) ?_ BinF.add) ?_ BinF.add) BinF.sub) (by omega)) rfl rfl) ?_
    · walk_at "mine atom"
    · walk_at "mine atom"
    · walk_at "mine atom"
    · walk_at "mine atom"
    · walk_at "mine atom"
    refine Ex.ret (St.ifT (b := _) (Tst.cmp (pa := .int ((63 + k - mx : Nat) : Int)) (pb := .int 5) ?_ ?_ CmpF.gtI TruF.bool) (by simp; omega) ?_)
    · walk_at "mine atom"
    · walk_at "mine atom"
    refine Ex.cons (St.assert (b := _) (Tst.cmp (pb := .int 80) (Ev.bin (Ev.bin (pb := .int 5) (Ev.bin (pa := .int 5) (pb := .int 12) ?_ ?_ BinF.add) ?_ BinF.add) (Ev.bin (pa := .int mx) (pb := .int k) ?_ ?_ BinF.sub) BinF.add) ?_ CmpF.ltI TruF.bool) (by simp; omega)) ?_
    · walk_at "mine atom"
    · walk_at "mine atom"
    · walk_at "mine atom"
    · walk_at "mine atom"
    · walk_at "mine atom"
    · walk_at "mine atom"
    refine Ex.cons (St.assignC (p := .str (shortF (lo.take k) 5 (63 + k - mx))) (Ev.call (ps := [.str (lo.take k), .int (5 : Nat), .int ((63 + k - mx : Nat) : Int)]) ?_ (Callee.fn (by kernel_rfl)) (.cons ?_ (.cons ?_ (.cons ?_ .nil))) ((shorten c _ _ _ (by omega) (by omega) (by omega)).mono (by decide))) rfl rfl) ?_
    · walk_at "mine atom"
    · walk_at "mine atom"
    · walk_at "mine atom"
    · walk_at "mine atom"
    refine Ex.ret (St.ret (Ev.tupleGen (m := 2) (us := rs.map .str) (f := onStr fun s => shortF (lo.take k) 5 (63 + k - mx) ++ s.drop k) (Γc := [(Str.ofString "prefix", .str (shortF (lo.take k) 5 (63 + k - mx))), (Str.ofString "prefixlen", .int k)]) ?_ ?_ flt_strs' (onStr_map _ _) flt_strs (by rw [List.length_map]; omega) rfl rfl rfl rfl rfl rfl (fun y a h => ?_) rfl rfl (FltG.cons trivial (FltG.cons trivial FltG.nil)) rfl (CapG.cons rfl rfl rfl rfl (CapG.cons rfl rfl rfl rfl CapG.nil)) (fun C code V' u hu => ?_)))
    · walk_at "mine atom"
    · walk_at "mine atom"
    · rcases List.mem_cons.mp h with h | h
      · cases h; rfl
      · rcases List.mem_cons.mp h with h | h
        · cases h; rfl
        · cases h
    · obtain ⟨y, hy, rfl⟩ := List.mem_map.mp hu
      have hyl := hall y hy
      refine Ev.bin ?_ (Ev.castS (Ev.cut (x := y) (l := some (k : Int)) (u := none) ?_ ⟨_, rfl, ?_⟩ rfl (by rw [sizeLine_eq]; omega)) (slc_from _ _)) (BinF.cat ?_)
      · walk_at "mine atom2"
      · walk_at "mine atom2"
      · walk_at "mine atom2"
      · have h1 := shortF_len (lo.take k) 5 (63 + k - mx) (by omega)
        rw [hkl'] at h1
        rw [List.length_drop, sizeLine_eq]
        omega
theorem csr_cut (c : Cx) {as : List PV} {rs : List (List Nat)} {lo hi : List Nat} {mx k : Nat} (hlen : as.length = rs.length) (hrep : ∀ (i : Nat) p q, as[i]? = some p → rs[i]? = some q → Calls c 2 (.ref 69) [p] (.str q)) (hm : ∃ x ∈ rs, x.length = mx) (hall : ∀ x ∈ rs, x.length ≤ mx) (hn : rs.length < 1000) (h80 : 80 < mx) (hmx : mx < 10000)
    (hlo : lo ∈ rs) (hmin : ∀ x ∈ rs, ¬ x < lo) (hhi : hi ∈ rs) (hmax : ∀ x ∈ rs, ¬ hi < x) (hk : Lcp lo hi k) (hkl : k ≤ lo.length) (hc : 63 + k ≤ mx + 5) :
    Calls c 6 (.ref 61) as (.tup (rs.map fun s => .str (shortF (lo.take k) 5 5 ++ shortF (s.drop k) 41 5))) := by
  refine Calls.defG (n := 5) (names := [Str.ofString "args"]) (pargs := [.tup as]) (ho := rfl) (hcd := by kernel_rfl) (hbody := rfl) (hbind := bindStar c (by omega) ?_) (hclo := rfl) (hnames := by decide) (hkind := by rfl) (hcn := by decide) (hfree := by rfl) (hb := ?_)
  · intro vals; cases vals <;> rfl
  · intro L V
    have hlol := hall lo hlo
    have hhil := hall hi hhi
    refine Ex.cons (St.assign (p := .tup (rs.map .str)) (Ev.tupleMap (m := 2) (as := as) (f := .ref 69) ?_ ?_ ?_ ?_ (by rw [List.length_map]; exact hlen) flt_strs' (fun i p q hp hq => ?_) (by rw [List.length_map]; omega)) rfl rfl) ?_
    · walk_at "mine atom"
    · walk_at "mine atom"
    · walk_at "mine atom"
    · walk_at "mine atom"
    · rw [List.getElem?_map] at hq
      cases hx : rs[i]? with
      | none => rw [hx] at hq; cases hq
      | some y => rw [hx] at hq; cases hq; exact hrep i p y hp hx
    refine Ex.cons (St.assign (p := .int mx) (Ev.maxMapLen (xs := rs) ?_ ?_ ?_ ?_ hm hall (by omega)) rfl rfl) ?_
    · walk_at "mine atom"
    · walk_at "mine atom"
    · walk_at "mine atom"
    · walk_at "mine atom"
    refine Ex.cons (St.ifF (b := _) (Tst.cmp (pa := .int mx) (pb := .int 80) ?_ ?_ CmpF.leI TruF.bool) (by simp; omega) Ex.nil) ?_
    · walk_at "mine atom"
    · walk_at "mine atom"
    refine Ex.cons (St.assignC (p := .str (lo.take k)) (Ev.call (ps := [.tup (rs.map .str)]) ?_ (Callee.fn (by kernel_rfl)) (.cons ?_ .nil) ((commonprefix c hlo hmin hhi hmax hk (by omega) (by omega) hn).mono (by decide))) rfl rfl) ?_
    · walk_at "mine atom"
    · walk_at "mine atom"
    have hkl' : (lo.take k).length = k := by rw [List.length_take]; omega
    refine Ex.cons (St.assignC (p := .int k) (Ev.castI (Ev.call (ps := [.str (lo.take k)]) ?_ Callee.builtin (.cons ?_ .nil) (Calls.lenS (by omega))) (by rw [hkl'])) rfl rfl) ?_
    · walk_at "mine atom"
    · walk_at "mine atom"
    refine Ex.cons (St.assign (p := .int (63 + (k : Int) - mx)) (Ev.castI (Ev.bin (pa := .int 80) ?_ (Ev.bin (pb := .int 12) (Ev.bin (pb := .int 5) (Ev.bin (pa := .int mx) (pb := .int k) ?_ ?_ BinF.sub) ?_ BinF.add) ?_ BinF.add) BinF.sub) (by omega)) rfl rfl) ?_
    · walk_at "mine atom"
    · walk_at "mine atom"
    · walk_at "mine atom"
    · walk_at "mine atom"
    · walk_at "mine atom"
    refine Ex.cons (St.ifF (b := _) (Tst.cmp (pa := .int (63 + (k : Int) - mx)) (pb := .int 5) ?_ ?_ CmpF.gtI TruF.bool) (by simp; omega) Ex.nil) ?_
    · walk_at "mine atom"
    · walk_at "mine atom"
    refine Ex.cons (St.assignC (p := .str (shortF (lo.take k) 5 5)) (Ev.call (ps := [.str (lo.take k), .int (5 : Nat), .int (5 : Nat)]) ?_ (Callee.fn (by kernel_rfl)) (.cons ?_ (.cons ?_ (.cons ?_ .nil))) ((shorten c _ _ _ (by omega) (by omega) (by omega)).mono (by decide))) rfl rfl) ?_
    · walk_at "mine atom"
    · walk_at "mine atom"
    · walk_at "mine atom"
    · walk_at "mine atom"
    refine Ex.ret (St.ret (Ev.tupleGen (m := 2) (us := rs.map .str) (f := onStr fun s => shortF (lo.take k) 5 5 ++ shortF (s.drop k) 41 5) (Γc := [(Str.ofString "prefix", .str (shortF (lo.take k) 5 5)), (Str.ofString "prefixlen", .int k)]) ?_ ?_ flt_strs' (onStr_map _ _) flt_strs (by rw [List.length_map]; omega) rfl rfl rfl rfl rfl rfl (fun y a h => ?_) rfl rfl (FltG.cons trivial (FltG.cons trivial FltG.nil)) rfl (CapG.cons rfl rfl rfl rfl (CapG.cons rfl rfl rfl rfl CapG.nil)) (fun C code V' u hu => ?_)))
    · walk_at "mine atom"
    · walk_at "mine atom"
    · rcases List.mem_cons.mp h with h | h
      · cases h; rfl
      · rcases List.mem_cons.mp h with h | h
        · cases h; rfl
        · cases h
    · obtain ⟨y, hy, rfl⟩ := List.mem_map.mp hu
      have hyl := hall y hy
      refine Ev.bin ?_ (Ev.call (ps := [.str (y.drop k), .int (41 : Nat), .int (5 : Nat)]) ?_ (Callee.fn (by kernel_rfl)) (.cons (Ev.castS (Ev.cut (x := y) (l := some (k : Int)) (u := none) ?_ ⟨_, rfl, ?_⟩ rfl (by rw [sizeLine_eq]; omega)) (slc_from _ _)) (.cons ?_ (.cons ?_ .nil))) ((shorten c _ _ _ (by rw [List.length_drop]; omega) (by omega) (by omega)).mono (by decide))) (BinF.cat ?_)
      · walk_at "mine atom2"
      · walk_at "mine atom2"
      · walk_at "mine atom2"
      · walk_at "mine atom2"
      · walk_at "mine atom2"
      · walk_at "mine atom2"
      · have h1 := shortF_len (lo.take k) 5 5 (by omega)
        rw [hkl'] at h1
        have h2 := shortF_len (y.drop k) 41 5 (by rw [List.length_drop]; omega)
        rw [List.length_drop] at h2
        rw [sizeLine_eq]
        omega
end

section
open PySem PySem.W PySem.Spec PySem.Calls PyProof.Rows
set_option linter.unusedVariables false
set_option maxRecDepth 100000
set_option maxHeartbeats 2000000
theorem cat_le {a b : List Nat} {m n : Nat} (ha : a.length ≤ m) (hb : b.length ≤ n) : (a ++ b).length ≤ m + n := by rw [List.length_append]; exact Nat.add_le_add ha hb
theorem sl_of {a b : List Nat} {m n : Nat} (ha : a.length ≤ m) (hb : b.length ≤ n) (h : m + n ≤ 16777216 := by decide) : a.length + b.length ≤ sizeLine := Nat.le_trans (Nat.add_le_add ha hb) (Nat.le_trans h (Nat.le_of_eq sizeLine_eq.symm))
theorem tk_le {x : List Nat} {m : Nat} (k : Nat) (h : x.length ≤ m) : (x.take k).length ≤ m := by rw [List.length_take]; exact Nat.le_trans (Nat.min_le_right _ _) h
theorem dp_le {x : List Nat} {m : Nat} (k : Nat) (h : x.length ≤ m) : (x.drop k).length ≤ m := by rw [List.length_drop]; exact Nat.le_trans (Nat.sub_le _ _) h
theorem tk_of (k : Nat) (x : List Nat) : (x.take k).length ≤ k := by rw [List.length_take]; exact Nat.min_le_left _ _
/-- what _law_told tells -/
def toldF (line : List Nat) (part : Nat) : List Nat :=
  let text := 39 :: (line ++ [39])
  text.take 5 ++ note (part - 10) ++ (text.take part).drop (part - 5) ++ (text.take (part + 41)).drop part ++ note (text.length - part - 46) ++ text.drop (text.length - 5)
theorem toldF_len {line : List Nat} {part : Nat} (h1 : part - 10 < 10 ^ 10) (hl : line.length ≤ 1000) : (toldF line part).length ≤ 4311 := by
  have ht : (39 :: (line ++ [39])).length ≤ 1002 := by simp; exact hl
  unfold toldF
  exact cat_le (cat_le (cat_le (cat_le (cat_le (tk_of 5 _) (note_len h1)) (dp_le _ (tk_le _ ht))) (dp_le _ (tk_le _ ht))) (note_len (by omega))) (dp_le _ ht)
theorem law_told (c : Cx) (line : List Nat) (part : Nat) (hp : 10 ≤ part) (hpl : part + 46 ≤ line.length + 2) (hl : line.length < 100000) : Calls c 3 (.ref 123) [.str line, .int part] (.str (toldF line part)) := by
  refine Calls.def (n := 2) (names := [Str.ofString "line", Str.ofString "part"]) (ho := rfl) (hcd := by kernel_rfl) (hbody := rfl) (hbind := all2 fun _ _ => rfl) (hclo := rfl) (hnames := by decide) (hkind := by rfl) (hcn := by decide) (hfree := by rfl) (hb := ?_)
  intro L V
  have hq : (Str.ofString "'").cps.toList = [39] := by decide +kernel
  refine Ex.cons (St.assign (p := .str (39 :: (line ++ [39]))) (Ev.castS (Ev.bin (Ev.bin (pa := .str [39]) (pb := .str line) (Ev.castS Ev.str hq) ?_ (BinF.cat ?_)) (pb := .str [39]) (Ev.castS Ev.str hq) (BinF.cat ?_)) (by simp)) rfl rfl) ?_
  · walk_at "mine atom"
  · exact sl_of (m := 1) (n := 100000) (Nat.le_refl _) (Nat.le_of_lt hl)
  · exact sl_of (m := 100001) (n := 1) (cat_le (m := 1) (n := 100000) (Nat.le_refl _) (Nat.le_of_lt hl)) (Nat.le_refl _)
  have hn : ∀ {k : Nat}, k < 10 ^ 10 → Calls c 2 (.ref 116) [.int (k : Int)] (.str (note k)) := fun h => (law_note c _ h).mono (by decide)
  generalize htx : 39 :: (line ++ [39]) = text
  have htl : text.length = line.length + 2 := by rw [← htx]; simp
  have htl' : text.length ≤ 100002 := by omega
  have hN1 := note_len (n := part - 10) (by omega)
  have hN2 := note_len (n := text.length - part - 46) (by omega)
  have hA1 := cat_le (tk_of 5 text) hN1
  have hA2 := cat_le hA1 (dp_le (part - 5) (tk_le part htl'))
  have hA3 := cat_le hA2 (dp_le part (tk_le (part + 41) htl'))
  have hA4 := cat_le hA3 hN2
  refine Ex.cons (St.assign (p := .str (text.take 5 ++ note (part - 10) ++ (text.take part).drop (part - 5))) (Ev.bin (Ev.bin (Ev.castS (Ev.cut (x := text) (l := none) (u := some (5 : Nat)) ?_ rfl ⟨_, rfl, ?_⟩ (by rw [sizeLine_eq]; omega)) (slc_to _ _)) (Ev.call (ps := [.int ((part - 10 : Nat) : Int)]) ?_ (Callee.fn (by kernel_rfl)) (.cons (Ev.castI (Ev.bin (pa := .int part) (pb := .int 10) ?_ ?_ BinF.sub) (by omega)) .nil) (hn (by omega))) (BinF.cat ?_)) (Ev.castS (Ev.cut (x := text) (l := some ((part - 5 : Nat) : Int)) (u := some (part : Int)) ?_ ⟨_, rfl, Ev.castI (Ev.bin (pa := .int part) (pb := .int 5) ?_ ?_ BinF.sub) (by omega)⟩ ⟨_, rfl, ?_⟩ (by rw [sizeLine_eq]; omega)) (slc_mid _ _ _)) (BinF.cat ?_)) rfl rfl) ?_
  · walk_at "mine atom"
  · walk_at "mine atom"
  · walk_at "mine atom"
  · walk_at "mine atom"
  · walk_at "mine atom"
  · exact sl_of (tk_of 5 text) hN1
  · walk_at "mine atom"
  · walk_at "mine atom"
  · walk_at "mine atom"
  · walk_at "mine atom"
  · exact sl_of hA1 (dp_le (part - 5) (tk_le part htl'))
  refine Ex.ret (St.ret (Ev.castS (j := toldF line part) (Ev.bin (pa := .str (text.take 5 ++ note (part - 10) ++ (text.take part).drop (part - 5) ++ (text.take (part + 41)).drop part ++ note (text.length - part - 46))) (pb := .str (text.drop (text.length - 5)))
    (Ev.bin (pa := .str (text.take 5 ++ note (part - 10) ++ (text.take part).drop (part - 5) ++ (text.take (part + 41)).drop part)) (pb := .str (note (text.length - part - 46)))
      (Ev.bin (pa := .str (text.take 5 ++ note (part - 10) ++ (text.take part).drop (part - 5))) (pb := .str ((text.take (part + 41)).drop part)) ?_ (Ev.castS (Ev.cut (x := text) (l := some (part : Int)) (u := some ((part + 41 : Nat) : Int)) ?_ ⟨_, rfl, ?_⟩ ⟨_, rfl, Ev.castI (Ev.bin (pa := .int part) (pb := .int 41) ?_ ?_ BinF.add) (by omega)⟩ (by rw [sizeLine_eq]; omega)) (slc_mid _ _ _)) (BinF.cat ?_))
      (Ev.call (ps := [.int ((text.length - part - 46 : Nat) : Int)]) ?_ (Callee.fn (by kernel_rfl)) (.cons (Ev.castI (Ev.bin (pb := .int 46) (Ev.bin (pa := .int text.length) (pb := .int part) (Ev.call (ps := [.str text]) ?_ Callee.builtin (.cons ?_ .nil) (Calls.lenS (by omega))) ?_ BinF.sub) ?_ BinF.sub) (by omega)) .nil) (hn (by omega))) (BinF.cat ?_))
    (Ev.castS (Ev.cut (x := text) (l := some (-((5 : Nat) : Int))) (u := none) ?_ ⟨_, rfl, Ev.neg (i := 5) ?_⟩ rfl (by rw [sizeLine_eq]; omega)) (slc_neg _ _ (by decide))) (BinF.cat ?_)) (by unfold toldF; rw [htx])))
  · walk_at "mine atom"
  · walk_at "mine atom"
  · walk_at "mine atom"
  · walk_at "mine atom"
  · walk_at "mine atom"
  · exact sl_of hA2 (dp_le part (tk_le (part + 41) htl'))
  · walk_at "mine atom"
  · walk_at "mine atom"
  · walk_at "mine atom"
  · walk_at "mine atom"
  · walk_at "mine atom"
  · exact sl_of hA3 hN2
  · walk_at "mine atom"
  · walk_at "mine atom"
  · exact sl_of hA4 (dp_le (text.length - 5) htl')
end

section
open PySem PySem.W PySem.Spec PySem.Calls PyProof.Rows PySem.SeqAt
set_option linter.unusedVariables false
set_option maxRecDepth 100000
set_option maxHeartbeats 1000000
section
variable {c : Cx} {n : Nat} {env : Env} {V : List Addr} {Γ : List (PySem.Str × PV)}
theorem Ev.sortKey {np kp pos kpos : Pos} {e : Expr} {xs ys : List (List Nat)} (hs : Ev c n env V Γ (.Name (Str.ofString "sorted") np) (.fn (.builtin "sorted"))) (he : Ev c n env V Γ e (.list (xs.map .str))) (hk : Ev c n env V Γ (.Name (Str.ofString "_strxfrm") kp) (.fn (.ref 83)))
    (hy : ys.Perm xs) (hys : ys.Pairwise (fun a b => ¬ b < a)) (h64 : xs.length < 64) (hn : 2 ≤ n) (hp : plainE e = true := by rfl) :
    Ev c n env V Γ (.Call (.Name (Str.ofString "sorted") np) [e] [⟨some (Str.ofString "key"), .Name (Str.ofString "_strxfrm") kp, kpos⟩] pos) (.list (ys.map .str)) := by
  intro A hA s Q E F k
  refine wpAny_Call_ofName (hs.bind hA F fun fv s₁ st₁ F₁ r₁ => ?_)
  rw [of_fn r₁]
  have hel : EvL c n env V Γ [e] [.list (xs.map .str)] := .cons he .nil hp
  refine PyProof.Rows.callWith_kw (hel.bind hA F₁ fun vs s₂ st₂ F₂ r₂ => ?_) (by rw [starEach_plain hp, backTo_plain]) (by rw [starEach_plain hp, backTo_plain]; rfl)
  refine PyProof.Rows.evalAll_cons (wpAny_bind (m := eval (.Name (Str.ofString "_strxfrm") kp) env) (hk.bind hA F₂ fun fk s₃ st₃ F₃ r₃ => wpAny_bind (wpAny_standAt (wpAny_pure (PyProof.Rows.evalAll_nil ?_)))))
  rw [of_fn r₃]
  obtain ⟨v, rfl, rv⟩ := r₂.one
  obtain ⟨l, items, m, rfl, ha, ho, hr⟩ := of_list (rv.step st₃ (w59 F.v59))
  exact sortKeyed (fun x => strxfrm c x) hy hys h64 hA hn (fun x => rfl) F₃.toGS ho hr fun x s' st r => k x s' (st₁.trans (st₂.trans (st₃.trans st))) r
end
end

section
open PySem PySem.W PySem.Spec PySem.Calls PyProof.Rows
set_option linter.unusedVariables false
set_option maxRecDepth 100000
set_option maxHeartbeats 2000000
theorem law_ordered (c : Cx) (one other : List Nat) (h : one < other) (hl : one.length < 100000) : Calls c 4 (.ref 128) [.str one, .str other] (.bool true) := by
  refine Calls.def (n := 3) (names := [Str.ofString "one", Str.ofString "other"]) (ho := rfl) (hcd := by kernel_rfl) (hbody := rfl) (hbind := all2 fun _ _ => rfl) (hclo := rfl) (hnames := by decide) (hkind := by rfl) (hcn := by decide) (hfree := by rfl) (hb := ?_)
  intro L V
  have e1 : b2i (decide (other < one)) - b2i (decide (one < other)) = -1 := by
    have h2 : ¬ other < one := fun q => List.lt_irrefl _ (List.lt_trans h q)
    simp [h, h2, b2i]
  have e2 : b2i (decide (one < other)) - b2i (decide (other < one)) = 1 := by
    have h2 : ¬ other < one := fun q => List.lt_irrefl _ (List.lt_trans h q)
    simp [h, h2, b2i]
  have e3 : ∀ z : List Nat, b2i (decide (z < z)) - b2i (decide (z < z)) = 0 := fun z => by omega
  refine Ex.cons (St.assign (p := .list ([-1, 1, 0].map .int)) (Ev.cast (Ev.lst (ps := [.int (-1), .int 1, .int 0]) (.cons (Ev.castI (Ev.call (ps := [.str one, .str other]) ?_ (Callee.fn (by kernel_rfl)) (.cons ?_ (.cons ?_ .nil)) ((strcoll c _ _).mono (by decide))) e1) (.cons (Ev.castI (Ev.call (ps := [.str other, .str one]) ?_ (Callee.fn (by kernel_rfl)) (.cons ?_ (.cons ?_ .nil)) ((strcoll c _ _).mono (by decide))) e2)
    (.cons (Ev.castI (Ev.call (ps := [.str one, .str one]) ?_ (Callee.fn (by kernel_rfl)) (.cons ?_ (.cons (Ev.castS (Ev.bin (pa := .str (one.take 9)) (pb := .str (one.drop 9)) (Ev.castS (Ev.cut (x := one) (l := none) (u := some ((9 : Nat) : Int)) ?_ rfl ⟨_, rfl, ?_⟩ (by rw [sizeLine_eq]; omega)) (slc_to _ _)) (Ev.castS (Ev.cut (x := one) (l := some ((9 : Nat) : Int)) (u := none) ?_ ⟨_, rfl, ?_⟩ rfl (by rw [sizeLine_eq]; omega)) (slc_from _ _)) (BinF.cat (by rw [List.length_take, List.length_drop, sizeLine_eq]; omega))) (List.take_append_drop 9 one)) .nil)) ((strcoll c _ _).mono (by decide))) (e3 one)) .nil))) (by decide)) rfl) rfl rfl) ?_
  · walk_at "mine atom"
  · walk_at "mine atom"
  · walk_at "mine atom"
  · walk_at "mine atom"
  · walk_at "mine atom"
  · walk_at "mine atom"
  · walk_at "mine atom"
  · walk_at "mine atom"
  · walk_at "mine atom"
  · walk_at "mine atom"
  · walk_at "mine atom"
  · walk_at "mine atom"
  refine Ex.ret (St.ret (Ev.andT (q := decide (([-1, 1, 0] : List Int) = [-1, 1, 0])) (Ev.cmp (pa := .list ([-1, 1, 0].map .int)) (pb := .list ([-1, 1, 0].map .int)) ?_ (Ev.cast (Ev.lst (ps := [.int (-1), .int 1, .int 0]) (.cons (Ev.neg (i := 1) ?_) (.cons ?_ (.cons ?_ .nil))) (by decide)) rfl) (CmpF.eqL EqG.int)) TruF.bool (by decide)
    (Ev.cast (Ev.cmp (pa := .list (([] : List Int).map .int)) (pb := .list (([] : List Int).map .int)) (Ev.cast (Ev.comp (us := [-1, 1, 0].map .int) (Γc := []) (fun _ => false) (fun u => u) (EvI.list ?_) (CompOK.of (cl := []) rfl (fun _ _ h => by cases h) rfl rfl rfl rfl rfl (fun _ => Cap.nil) rfl) (by decide) (fun C V' u hu => ?_) (fun C V' u hu h => by cases h)) rfl) (Ev.cast (Ev.lst .nil (by decide)) rfl) (CmpF.eqL EqG.int)) rfl)))
  · walk_at "mine atom"
  · walk_at "mine atom"
  · walk_at "mine atom"
  · walk_at "mine atom"
  · walk_at "mine atom"
  · obtain ⟨i, _, rfl⟩ := List.mem_map.mp hu
    refine Tsts.one (Tst.or (p := false) (q := !true) (Tst.val (p := .bool false) (Ev.call (ps := [.int i, .fn (.type "bool")]) ?_ Callee.builtin (.cons ?_ (.cons ?_ .nil)) Calls.isIntBool) TruF.bool) fun _ => Tst.not (Tst.val (p := .bool true) (Ev.call (ps := [.int i, .fn (.type "int")]) ?_ Callee.builtin (.cons ?_ (.cons ?_ .nil)) Calls.isIntInt) TruF.bool))
    · walk_at "mine atom"
    · walk_at "mine atom"
    · walk_at "mine atom"
    · walk_at "mine atom"
    · walk_at "mine atom"
    · walk_at "mine atom"
end

section
open PySem PySem.W PySem.Spec PySem.Calls PyProof.Rows PySem.SeqAt
set_option linter.unusedVariables false
set_option maxRecDepth 100000
set_option maxHeartbeats 1000000
section
variable {c : Cx} {n : Nat} {env : Env} {V : List Addr} {Γ : List (PySem.Str × PV)}
theorem EvI.range2 {np pos : Pos} {e e2 : Expr} {a m : Nat} (hf : Ev c n env V Γ (.Name (Str.ofString "range") np) (.fn (.type "range"))) (he : Ev c n env V Γ e (.int a)) (he2 : Ev c n env V Γ e2 (.int ((a : Int) + m))) (ha : a < 1000000) (hm : m < 1000000) (hp : plainE e = true := by rfl) (hp2 : plainE e2 = true := by rfl) :
    EvI c n env V Γ (.Call (.Name (Str.ofString "range") np) [e, e2] [] pos) (rowI a m) := by
  intro A hA s Q E F k
  refine wpAny_Call_ofName (hf.bind hA F fun fv s₁ st₁ F₁ r₁ => ?_)
  rw [of_fn r₁]
  have hel : EvL c n env V Γ [e, e2] [.int a, .int ((a : Int) + m)] := .cons he (.cons he2 .nil hp2) hp
  refine (Callee.type (c := c)) hel.plain ?_
  have fin := hel.bind (pos := pos) (E := E) (Q := fun vs s₂ => c.K.In s₂.heap ∧ wpAny c.M A (PySem.call (.type "range") ([] ++ vs) []) (fun x s₃ => wpAny c.M A (pyIter x) Q E s₃) E s₂) hA F₁ (fun vs s₂ st₂ F₂ r₂ => ?_)
  · rw [starEach_plain hp, backTo_plain] at fin ⊢; exact evalArgs_plain fin
  · refine ⟨F₂.gi.k, ?_⟩
    obtain ⟨v, w, rfl, rv, rw'⟩ := r₂.two
    obtain ⟨t, rfl⟩ := of_int rv
    obtain ⟨u, rfl⟩ := of_int rw'
    refine call_range_2 ?_
    have st₃ : Step [56] s₂ { s₂ with heap := s₂.heap.push { cls := .type "range", data := .fields #[.int a t, .int ((a : Int) + m) u, .int 1 s₂.toks] }, toks := s₂.toks + 1 } := .of_keep push_keep
    exact range_src hA (F₂.step st₃) (st₁.trans (st₂.trans st₃)) (IsRange.new ..) (by omega) rfl hm k
end
end

section
open PySem PySem.W PySem.Spec PySem.Calls PyProof.Rows PySem.SeqAt
set_option linter.unusedVariables false
set_option maxRecDepth 100000
set_option maxHeartbeats 1000000
section
variable {c : Cx} {n : Nat} {env : Env} {V : List Addr} {Γ : List (PySem.Str × PV)}
theorem BinF.catL {xs ys : List PV} (h : xs.length + ys.length ≤ 1000000) : BinF c n .Add (.list xs) (.list ys) (.list (xs ++ ys)) := by
  intro A hA V s va vb Q E G r₁ r₂ k
  obtain ⟨a, vs, n1, rfl, ha, ho, hr⟩ := of_list r₁
  obtain ⟨b, ws, n2, rfl, hb, ho2, hr2⟩ := of_list r₂
  have l1 := hr.length
  have l2 := hr2.length
  refine P.add_list ho ho2 ?_ (by rw [List.size_toArray, List.size_toArray, l1, l2, sizeLine_eq]; omega)
  rw [List.append_toArray]
  have hnew : (s.heap.push (seqObj "list" (vs ++ ws) 0)).get? s.heap.objs.size = some (seqObj "list" (vs ++ ws) 0) := Heap.get?_push_size _ rfl
  refine k _ _ (.of_keep push_keep) (rep_list (n := 0) (G.notIn push_fresh) hnew ?_)
  exact (hr.append hr2).mono fun x o hx e => ⟨hx, push_keep _ _ e⟩
end
end

section
open PySem PySem.W PySem.Spec PySem.Calls PyProof.Rows PySem.SeqAt
set_option linter.unusedVariables false
set_option maxRecDepth 100000
set_option maxHeartbeats 1000000
section
variable {c : Cx} {n : Nat} {env : Env} {V : List Addr} {Γ Γ' : List (PySem.Str × PV)}

/-- a fresh object put into the dark -/
theorem FS.dark {s s' : Shared} {a : Addr} {o : Obj} (F : FS c env V Γ s) (st : Step [56] s s') (hf : s.heap.get? a = none) (he : s'.heap.get? a = some o) : FS c env (a :: V) Γ s' := by
  have F' := F.step st
  have n59 : a ≠ 56 := fun q => by obtain ⟨ps, _, _, ht⟩ := F.gi.tab; rw [q, ht] at hf; cases hf
  have kr : ∀ {p v}, Rep V s.heap p v → Rep (a :: V) s'.heap p v := fun r => r.mono fun b ob hb eb => ⟨fun hm => (by
    rcases List.mem_cons.mp hm with rfl | hm
    · rw [hf] at eb; cases eb
    · exact hb hm), st.keep b ob (by simpa using fun q : b = 56 => hb (q ▸ F.v59)) eb⟩
  refine ⟨⟨F'.gi, F'.bare, fun b hb => ?_, .tail _ F.v59⟩, .tail _ F.vL, fun y b hm => .tail _ (F.vC y b hm), F.farL, F.farC, F.apart, ?_, fun y p hy hk => ?_, F'.mt⟩
  · rcases List.mem_cons.mp hb with rfl | hb
    · exact ⟨o, he⟩
    · exact F'.vlive b hb
  · obtain ⟨m, ⟨oL, es, ep, eL, hdL, r⟩, hm⟩ := F.loc
    have k59 : env.locals ≠ 56 := fun q => by
      obtain ⟨ps, _, _, ht⟩ := F.gi.tab
      rw [q, ht] at eL; cases eL; cases hdL
    exact ⟨m, ⟨oL, es, ep, st.keep _ _ (by simpa using k59) eL, hdL, r⟩, fun y p hy hk => let ⟨v, hv, hr⟩ := hm y p hy hk; ⟨v, hv, kr hr⟩⟩
  · obtain ⟨b, v, h1, ⟨ob, h2, h2'⟩, h3⟩ := F.cel y p hy hk
    have k59 : b ≠ 56 := fun q => by
      obtain ⟨ps, _, _, ht⟩ := F.gi.tab
      rw [q, ht] at h2; cases h2; cases h2'
    exact ⟨b, v, h1, ⟨ob, st.keep _ _ (by simpa using k59) h2, h2'⟩, kr h3⟩
/-- and brought back -/
theorem FS.light {s : Shared} {a : Addr} (F : FS c env (a :: V) Γ s) (h59 : 56 ∈ V) (hL : env.locals ∈ V) (hC : ∀ x b, (x, b) ∈ env.cells → b ∈ V) : FS c env V Γ s := by
  have kr : ∀ {p v}, Rep (a :: V) s.heap p v → Rep V s.heap p v := fun r => r.mono fun b ob hb eb => ⟨fun hm => hb (.tail _ hm), eb⟩
  refine ⟨⟨F.gi, F.bare, fun b hb => F.vlive b (.tail _ hb), h59⟩, hL, hC, F.farL, F.farC, F.apart, ?_, fun y p hy hk => ?_, F.mt⟩
  · obtain ⟨m, hn, hm⟩ := F.loc
    exact ⟨m, hn, fun y p hy hk => let ⟨v, hv, hr⟩ := hm y p hy hk; ⟨v, hv, kr hr⟩⟩
  · obtain ⟨b, v, h1, h2, h3⟩ := F.cel y p hy hk
    exact ⟨b, v, h1, h2, kr h3⟩
end
end

section
open PySem PySem.W PySem.Spec PySem.Calls PyProof.Rows PySem.SeqAt
set_option linter.unusedVariables false
set_option maxRecDepth 100000
set_option maxHeartbeats 1000000

/-- a list of the frame's own, kept in the dark -/
structure Own (c : Cx) (env : Env) (V : List Addr) (a : Addr) (us : List PV) (s : Shared) : Prop where
  nV : a ∉ V
  far : ¬ GIdom c a
  v59 : 56 ∈ V
  vL : env.locals ∈ V
  vC : ∀ x b, (x, b) ∈ env.cells → b ∈ V
  obj : ∃ items m, s.heap.get? a = some (seqObj "list" items m) ∧ RepL (a :: V) s.heap us items

def OEx (c : Cx) (n : Nat) (env : Env) (V : List Addr) (a : Addr) (Γ : List (PySem.Str × PV)) (us : List PV) (ss : List Stmt) (Γ' : List (PySem.Str × PV)) (us' : List PV) : Prop :=
  ∀ A, Room A n → ∀ s (Q : Flow → Shared → Prop) (E : Value → Shared → Prop), FS c env (a :: V) Γ s → Own c env V a us s →
    (∀ s', Step (a :: own env) s s' → FS c env (a :: V) Γ' s' → Own c env V a us' s' → Q .next s') → wpAny c.M A (execs ss env) Q E s
def OSt (c : Cx) (n : Nat) (env : Env) (V : List Addr) (a : Addr) (Γ : List (PySem.Str × PV)) (us : List PV) (st : Stmt) (Γ' : List (PySem.Str × PV)) (us' : List PV) : Prop :=
  ∀ A, Room A n → ∀ s (Q : Flow → Shared → Prop) (E : Value → Shared → Prop), FS c env (a :: V) Γ s → Own c env V a us s →
    (∀ s', Step (a :: own env) s s' → FS c env (a :: V) Γ' s' → Own c env V a us' s' → Q .next s') → wpAny c.M A (exec st env) Q E s

section
variable {c : Cx} {n : Nat} {env : Env} {V W : List Addr} {Γ Γ' Γ'' Δ : List (PySem.Str × PV)} {a : Addr} {us us' us'' : List PV}

theorem Own.ownV {s : Shared} (O : Own c env V a us s) : ∀ b ∈ own env, b ∈ V := by
  intro b hb
  unfold own at hb
  rcases List.mem_cons.mp hb with rfl | hb
  · exact O.v59
  · rcases List.mem_cons.mp hb with rfl | hb
    · exact O.vL
    · obtain ⟨⟨x, d⟩, hm, rfl⟩ := List.mem_map.mp hb
      exact O.vC x d hm
theorem Own.step {s s' : Shared} (O : Own c env V a us s) (st : Step W s s') (hW : ∀ b ∈ W, b ∈ V) : Own c env V a us s' := by
  obtain ⟨items, m, e, r⟩ := O.obj
  exact ⟨O.nV, O.far, O.v59, O.vL, O.vC, items, m, st.keep _ _ (fun q => O.nV (hW _ q)) e, r.step st fun b hb => .tail _ (hW b hb)⟩

theorem OEx.nil : OEx c n env V a Γ us [] Γ us := fun A _ s Q E F O k => wpAny_execs_nil (k _ .refl F O)
theorem OEx.cons {st : Stmt} {rest : List Stmt} (h₁ : OSt c n env V a Γ us st Γ' us') (h₂ : OEx c n env V a Γ' us' rest Γ'' us'') : OEx c n env V a Γ us (st :: rest) Γ'' us'' := by
  intro A hA s Q E F O k
  refine wpAny_execs_cons (h₁ A hA s _ E F O fun s₁ st₁ F₁ O₁ => ?_)
  exact h₂ A hA s₁ Q E F₁ O₁ fun s₂ st₂ F₂ O₂ => k s₂ (st₁.trans st₂) F₂ O₂
theorem OSt.of {st : Stmt} (h : St c n env (a :: V) Γ st (.next Γ')) : OSt c n env V a Γ us st Γ' us := by
  intro A hA s Q E F O k
  refine h A hA s Q E F fun f s' st ho => ?_
  obtain ⟨rfl, F'⟩ := ho
  exact k s' (st.wide fun b hb => .tail _ hb) F' (O.step st O.ownV)
theorem OEx.of {ss : List Stmt} (h : Ex c n env (a :: V) Γ ss (.next Γ')) : OEx c n env V a Γ us ss Γ' us := by
  intro A hA s Q E F O k
  refine h A hA s Q E F fun f s' st ho => ?_
  obtain ⟨rfl, F'⟩ := ho
  exact k s' (st.wide fun b hb => .tail _ hb) F' (O.step st O.ownV)
theorem OEx.weak {ss : List Stmt} (h : OEx c n env V a Γ us ss Δ us') (hs : Sub Γ' Δ) : OEx c n env V a Γ us ss Γ' us' :=
  fun A hA s Q E F O k => h A hA s Q E F O fun s' st F' O' => k s' st (F'.sub hs) O'
theorem OEx.pre {ss : List Stmt} (h : OEx c n env V a Δ us ss Γ' us') (hs : Sub Δ Γ) : OEx c n env V a Γ us ss Γ' us' :=
  fun A hA s Q E F O k => h A hA s Q E (F.sub hs) O k

/-- the own list turned -/
theorem Own.turn {s : Shared} {h' : Heap} {tk : Nat} {items' : List Value} {m' : Nat} (F : FS c env (a :: V) Γ s) (O : Own c env V a us s) (hs : Heap.SameBut a s.heap h') (e' : h'.get? a = some (seqObj "list" items' m')) (hr : RepL (a :: V) s.heap us' items') :
    Step (a :: own env) s { s with heap := h', toks := tk } ∧ FS c env (a :: V) Γ { s with heap := h', toks := tk } ∧ Own c env V a us' { s with heap := h', toks := tk } := by
  obtain ⟨items, m, e, r⟩ := O.obj
  refine ⟨step_turn hs e (by simp) e' (.head _), F.other (.head _) O.far (fun q => O.nV (q ▸ O.vL)) (fun y hy => O.nV (O.vC y a hy)) hs e (by simp) e', O.nV, O.far, O.v59, O.vL, O.vC, items', m', e', ?_⟩
  exact hr.mono fun b o hb eb => ⟨hb, (hs.2 b (fun q => hb (q ▸ .head _))).trans eb⟩

theorem OSt.append {o elt : Expr} {apos pos epos : Pos} {p : PV} (ho : Ev c n env (a :: V) Γ o (.fn (.ref a))) (he : Ev c n env (a :: V) Γ elt p) (hl : us.length ≤ 1000)
    (hi : interactive env = false := by rfl) (hsw : swapsWith (.Call (.Attribute o (Str.ofString "append") apos) [elt] [] pos) none epos.line env = pure false := by rfl)
    (hbase : attributeBase o (Str.ofString "append") env (eval o env) = eval o env := by rfl)
    (hfew : ((backTo pos (starEach [elt] env)).all (fun x => !x.1) && (backToKw pos (keywordEach [] env)).all (fun x => x.1.isSome)
      && decide (([elt] : List Expr).length + ([] : List Keyword).length + (if ([] : List Keyword).isEmpty then 0 else 1) < 30)) = true := by rfl)
    (hline : (apos.endLine == pos.line) = true := by rfl) (htrees : backTo pos (starEach [elt] env) = [(false, eval elt env)] := by rfl) :
    OSt c n env V a Γ us (.Expr (.Call (.Attribute o (Str.ofString "append") apos) [elt] [] pos) epos) Γ (us ++ [p]) := by
  intro A hA s Q E F O k
  refine wpAny_Expr_any (wpAny_Call_append hbase hfew hline htrees (ho.bind hA F fun x s₁ st₁ F₁ r₁ => ?_)) hi hsw
  rw [of_fn r₁]
  have O₁ := O.step st₁ (w59 O.v59)
  obtain ⟨items, m, e, r⟩ := O₁.obj
  refine ⟨a, items.toArray, rfl, ⟨_, m, e, rfl, rfl, rfl⟩, he.bind hA F₁ fun y s₂ st₂ F₂ r₂ => ?_⟩
  have O₂ := O₁.step st₂ (w59 O.v59)
  obtain ⟨items, m, e, r⟩ := O₂.obj
  refine wpAny_list_append_plain ⟨m, e⟩ (fun h' hp hs => ?_) (by rw [List.size_toArray, r.length, sizeLine_eq]; omega)
  obtain ⟨m', e'⟩ := hp
  obtain ⟨g1, g2, g3⟩ := Own.turn (tk := s₂.toks) (items' := items ++ [y]) (m' := m') (us' := us ++ [p]) F₂ O₂ hs (by rw [e']; simp [seqObj]) (r.snoc r₂)
  exact k _ (((st₁.trans st₂).wide fun b hb => .tail _ (wOwn b hb)).trans g1) g2 g3

/-- a loop over data in a row, the own list growing -/
theorem OSt.for {x : PySem.Str} {px pos : Pos} {iter : Expr} {body : List Stmt} {rs : List PV} (G : Nat → List (PySem.Str × PV)) (U : Nat → List PV) (hi : EvI c n env (a :: V) Γ iter rs) (h0 : Sub (G 0) Γ) (hU : U 0 = us) (hf : env.scope.kind = .function) (hx : env.kindOf x = some .local)
    (hb : ∀ i p, rs[i]? = some p → OEx c n env V a ((x, p) :: G i) (U i) body (G (i + 1)) (U (i + 1))) (hs : ∀ v, foldedSetIterable iter env v = pure v := by intro _; rfl) : OSt c n env V a Γ us (.For (.Name x px) iter body [] pos) (G rs.length) (U rs.length) := by
  subst hU
  intro A hA s Q E F O k
  refine wpAny_For (hi A hA s _ E F fun it s₂ st₂ src => ?_) hs
  obtain ⟨I, fp, wr, P, T, rfl, hW, hT, hP, hfp, hwr, hodd⟩ := src
  have F₂ := F.step st₂
  have O₂ := O.step st₂ (w59 O.v59)
  have W := hW A hA.1
  have hwrV : ∀ b ∈ wr, b ∉ (a :: V) := fun b hb => (hfp b (W.sub b hb)).1
  have oV : ∀ b ∈ a :: own env, b ∈ a :: V := fun b hb => by
    rcases List.mem_cons.mp hb with rfl | hb
    · exact .head _
    · exact .tail _ (O.ownV b hb)
  refine codeAny_mono (codeAny_forLoop_any (R := fun r s' => r = .ok .next ∧ Step (a :: own env) s s' ∧ FS c env (a :: V) (G rs.length) s' ∧ Own c env V a (U rs.length) s')
    (fun m s₁ => ∃ i, i ≤ rs.length ∧ m = rs.length + 1 - i ∧ T i s₁.heap ∧ FS c env (a :: V) (G i) s₁ ∧ Own c env V a (U i) s₁ ∧ Step ((a :: own env) ++ wr) s₂ s₁) (fun m s₁ hI => ?_) (rs.length + 1) ⟨0, Nat.zero_le _, rfl, hT, F₂.sub h0, O₂, .refl⟩) ?_
  · obtain ⟨i, hi', rfl, hTi, F₁, O₁, st₁⟩ := hI
    have offW : Off c (a :: V) s₁ wr := fun b hb => .inr ⟨hwrV b hb, (hwr b hb).1, hodd i _ hTi b hb⟩
    have tabW : ∀ {h' : Heap}, (∀ b o, b ∉ wr → s₁.heap.get? b = some o → h'.get? b = some o) → Tab s₁.heap → Tab h' := fun hk => tab_of_keep (fun b hb => (hwr b hb).1) hk
    have ownOff : ∀ {s₃ : Shared}, Step wr s₁ s₃ → Own c env V a (U i) s₃ := fun {s₃} stn => by
      obtain ⟨items, m, e, r⟩ := O₁.obj
      exact ⟨O₁.nV, O₁.far, O₁.v59, O₁.vL, O₁.vC, items, m, stn.keep _ _ (fun q => hwrV _ q (.head _)) e, r.off stn F₁.v59 offW⟩
    by_cases hlt : i < rs.length
    · obtain ⟨p, hp⟩ : ∃ p, rs[i]? = some p := ⟨rs[i], List.getElem?_eq_getElem hlt⟩
      refine W.item i s₁ _ _ hlt hTi fun v h' tk hPv hT' hk => ?_
      have stn : Step wr s₁ { s₁ with heap := h', toks := tk } := ⟨fun b o hb e => hk b o hb e, tabW hk, .refl, rfl, rfl⟩
      have F' := F₁.off stn offW
      have O' := ownOff stn
      have rv : Rep (a :: V) h' p v := by
        have r0 := hP i p v hp hPv
        have r1 : Rep (a :: V) s₁.heap p v := by
          refine r0.monoS fun b Tn items m hTn hb e => ⟨hb, st₁.keep b _ (fun hm => ?_) e⟩
          rcases List.mem_append.mp hm with hm | hm
          · exact hb (oV b hm)
          · exact hodd 0 _ hT b hm _ e _ _ rfl
        exact r1.off stn F₁.v59 offW
      show wpAny _ A (letOwnedTupleGo (.Name x px) (.ref I) v) _ _ _
      refine wpAny_pure (wpAny_assign_Name (store_local F' hf hx rv fun s₃ st₃ F₃ => ?_))
      refine hb i p hp A hA s₃ _ _ F₃ (O'.step st₃ O.ownV) fun s₄ st₄ F₄ O₄ => ?_
      have st34 := (st₃.wide (W' := a :: own env) fun b hb => .tail _ hb).trans st₄
      refine ⟨rs.length + 1 - (i + 1), by omega, i + 1, hlt, rfl, ?_, F₄, O₄, ?_⟩
      · exact W.frame _ _ _ hT' fun b hb o e => st34.keep b o (fun hm => (hfp b hb).1 (oV b hm)) e
      · exact st₁.trans ((stn.wide fun b hb => List.mem_append.mpr (.inr hb)).trans (st34.wide fun b hb => List.mem_append.mpr (.inl hb)))
    · have hie : i = rs.length := by omega
      subst hie
      refine W.done s₁ _ _ hTi fun h' tk hk => ?_
      have stn : Step wr s₁ { s₁ with heap := h', toks := tk } := ⟨fun b o hb e => hk b o hb e, tabW hk, .refl, rfl, rfl⟩
      refine wpAny_execs_nil ⟨rfl, ?_, F₁.off stn offW, ownOff stn⟩
      have st' : Step ((a :: own env) ++ wr) s { s₁ with heap := h', toks := tk } := (st₂.wide fun b hb => List.mem_append.mpr (.inl (.tail _ (wOwn b hb)))).trans (st₁.trans (stn.wide fun b hb => List.mem_append.mpr (.inr hb)))
      refine ⟨fun b o hb e => ?_, st'.tab, st'.bare, st'.drawn, st'.os⟩
      refine st'.keep b o (fun hm => ?_) e
      rcases List.mem_append.mp hm with hm | hm
      · exact hb hm
      · rw [(hwr b hm).2] at e; cases e
  · rintro r s' ⟨rfl, st, F', O'⟩
    exact k _ st F' O'

/-- a display bears a list that none else has -/
def EvFresh (c : Cx) (n : Nat) (env : Env) (V : List Addr) (Γ : List (PySem.Str × PV)) (e : Expr) (us : List PV) : Prop :=
  ∀ A, Room A n → ∀ s (Q : Value → Shared → Prop) (E : Value → Shared → Prop), FS c env V Γ s →
    (∀ a items m s', Step [56] s s' → FS c env V Γ s' → a ∉ V → s.heap.get? a = none → ¬ GIdom c a → s'.heap.get? a = some (seqObj "list" items m) → RepL (a :: V) s'.heap us items → Q (.ref a) s') → wpAny c.M A (eval e env) Q E s
theorem EvFresh.lst {es : List Expr} {pos : Pos} {ps : List PV} (h : EvL c n env V Γ es ps) (hl : ps.length ≤ 1000) : EvFresh c n env V Γ (.List es pos) ps := by
  intro A hA s Q E F k
  refine List_ (h.bind hA F fun vs s₁ st₁ F₁ r₁ => ?_)
  have hf := push_fresh (h := s₁.heap)
  have hnew : (s₁.heap.push (seqObj "list" vs 0)).get? s₁.heap.objs.size = some (seqObj "list" vs 0) := Heap.get?_push_size _ rfl
  refine wpAny_newObj_type ?_ (by show vs.toArray.size ≤ sizeLine; rw [List.size_toArray, r₁.length]; exact Nat.le_trans hl (by decide))
  have st2 : Step [56] s₁ { s₁ with heap := s₁.heap.push (seqObj "list" vs 0) } := .of_keep push_keep
  refine k _ _ _ _ (st₁.trans st2) (F₁.step st2) (F₁.notIn hf) (fresh_since F₁.toGS st₁ hf) (F₁.gi.fresh hf) hnew ?_
  refine r₁.mono fun b o hb e => ⟨fun hm => ?_, push_keep b o e⟩
  rcases List.mem_cons.mp hm with rfl | hm
  · rw [hf] at e; cases e
  · exact hb hm

theorem FS.back {s : Shared} {z : PySem.Str} (F : FS c env (a :: V) ((z, .fn (.ref a)) :: Γ) s) (O : Own c env V a us s) : FS c env V ((z, .list us) :: Γ) s := by
  have F' := F.light O.v59 O.vL O.vC
  obtain ⟨items, m, e, r⟩ := O.obj
  have hr : Rep V s.heap (.list us) (.ref a) := by
    rw [Rep]
    exact ⟨a, items, m, rfl, O.nV, e, r.mono fun b o hb e => ⟨fun hm => hb (.tail _ hm), e⟩⟩
  refine ⟨F'.toGS, F'.vL, F'.vC, F'.farL, F'.farC, F'.apart, ?_, fun y p hy hk => ?_, F'.mt⟩
  · obtain ⟨mm, hn, hm⟩ := F'.loc
    refine ⟨mm, hn, fun y p hy hk => ?_⟩
    rw [List.lookup_cons] at hy
    by_cases q : y = z
    · subst q; rw [beq_self_eq_true] at hy; cases hy
      obtain ⟨v, hv, rv⟩ := hm y (.fn (.ref a)) (by rw [List.lookup_cons, beq_self_eq_true]) hk
      rw [of_fn rv] at hv
      exact ⟨_, hv, hr⟩
    · exact hm y p (by rw [List.lookup_cons, beq_eq_false_iff_ne.mpr q]; rw [beq_eq_false_iff_ne.mpr q] at hy; exact hy) hk
  · rw [List.lookup_cons] at hy
    by_cases q : y = z
    · subst q; rw [beq_self_eq_true] at hy; cases hy
      obtain ⟨b, v, h1, h2, rv⟩ := F'.cel y (.fn (.ref a)) (by rw [List.lookup_cons, beq_self_eq_true]) hk
      rw [of_fn rv] at h2
      exact ⟨b, _, h1, h2, hr⟩
    · exact F'.cel y p (by rw [List.lookup_cons, beq_eq_false_iff_ne.mpr q]; rw [beq_eq_false_iff_ne.mpr q] at hy; exact hy) hk

/-- z = display; one statement that turns it; the rest -/
theorem Ex.owned {z : PySem.Str} {pz pos : Pos} {e : Expr} {loop : Stmt} {rest : List Stmt} {o : Out} (he : EvFresh c n env V Γ e us) (hf : env.scope.kind = .function) (hz : env.kindOf z = some .local ∨ env.kindOf z = some .cell)
    (hl : ∀ a, OSt c n env V a ((z, .fn (.ref a)) :: Γ) us loop ((z, .fn (.ref a)) :: Γ') us') (hrest : Ex c n env V ((z, .list us') :: Γ') rest o) (hw : swapsWith e (some (.Name z pz)) pos.line env = pure false := by rfl) :
    Ex c n env V Γ (.Assign [.Name z pz] e pos :: loop :: rest) o := by
  intro A hA s Q E F k
  refine wpAny_execs_cons (wpAny_Assign_Name (he A hA s _ E F fun a items m s₁ st₁ F₁ hV hfr hg hob hr => ?_) hw)
  have Fd := F.dark st₁ hfr hob
  have O₁ : Own c env V a us s₁ := ⟨hV, hg, F.v59, F.vL, F.vC, items, m, hob, hr⟩
  have rv : Rep (a :: V) s₁.heap (.fn (.ref a)) (.ref a) := by rw [Rep]
  have cont : ∀ s', Step (own env) s₁ s' → FS c env (a :: V) ((z, .fn (.ref a)) :: Γ) s' → wpAny c.M A (execs (loop :: rest) env) Q E s' := fun s₂ st₂ F₂ => by
    refine wpAny_execs_cons (hl a A hA s₂ _ E F₂ (O₁.step st₂ O₁.ownV) fun s₃ st₃ F₃ O₃ => ?_)
    refine hrest A hA s₃ Q E (F₃.back O₃) fun f s₄ st₄ ho => k f s₄ ?_ ho
    have stt := ((st₁.wide (W' := a :: own env) fun b hb => .tail _ (wOwn b hb)).trans (st₂.wide fun b hb => .tail _ hb)).trans (st₃.trans (st₄.wide fun b hb => .tail _ hb))
    refine ⟨fun b o hb e => stt.keep b o (fun hm => ?_) e, stt.tab, stt.bare, stt.drawn, stt.os⟩
    rcases List.mem_cons.mp hm with rfl | hm
    · rw [hfr] at e; cases e
    · exact hb hm
  rcases hz with hz | hz
  · exact store_local Fd hf hz rv cont
  · exact store_cell Fd hf hz rv cont
end
end

section
open PySem PySem.W PySem.Spec PySem.Calls PyProof.Rows PySem.SeqAt
set_option linter.unusedVariables false
set_option maxRecDepth 100000
set_option maxHeartbeats 1000000

/-- an item stored in a plain list -/
theorem setItem_own {prog : Program} {w : World} {A : Around} {E : Value → Shared → Prop} {s : Shared} {l : Addr} {items : List Value} {m : Nat} {k : Int} {t : Tok} {v : Value} {Q : Unit → Shared → Prop} (ho : s.heap.get? l = some (seqObj "list" items m)) (h0 : 0 ≤ k) (hfit : k < 2 ^ 63) (hj : k < items.length)
    (hQ : ∀ h' m', h'.get? l = some (seqObj "list" (items.set k.toNat v) m') → Heap.SameBut l s.heap h' → Q () { s with heap := h' }) :
    wpAny (model prog w) A (setItem (.ref l) (.int k t) v) Q E s := by
  have hT : s.TypeIs (.ref l) "list" := ⟨_, ho, rfl⟩
  unfold setItem
  try with_reducible refine wpAny_holding ?_
  first | refine wpAny_bind (wpAny_pure ?_) | skip
  refine wpAny_bind (wpAny_sequenceKey hT (by decide) ?_)
  refine wpAny_bind (wpAny_callSpecial?_slot (name := Str.ofString "__setitem__") hT slot_list_setitem (wpAny_call_entry slot_list_setitem hT entry_list_setitem ?_ (args_list_setitem _ _ _)))
  show wpAny _ _ (Builtin.List.listSubscript? (.int k t) >>= _) _ _ s
  refine wpAny_bind (wpAny_listSubscript_int (fitsIndex_of h0 hfit) ?_)
  clear hfit
  obtain ⟨j, rfl⟩ := Int.eq_ofNat_of_zero_le h0
  have hj : j < items.length := by omega
  show wpAny _ _ ((seqItemAt l j >>= fun r => pure (r.map (j, ·))) >>= _) _ _ s
  refine wpAny_bind (wpAny_bind (wpAny_seqItemAt ho rfl (wpAny_pure ?_)))
  rw [show items.toArray[j]? = some items[j] by simp [hj]]
  show wpAny _ _ (setSeqItemAt l j v >>= _) _ _ s
  have hmap : ∃ m', Obj.mapSeq (·.setIfInBounds j v) (seqObj "list" items m) = seqObj "list" (items.set j v) m' := by
    unfold Obj.mapSeq
    exact ⟨_, by simp [seqObj]; rfl⟩
  obtain ⟨m', hm'⟩ := hmap
  have he : (s.heap.update l (Obj.mapSeq (·.setIfInBounds j v))).get? l = some (seqObj "list" (items.set j v) m') := by
    rw [Heap.get?_update_self _ ho (by rw [hm']; rfl), hm']
  refine wpAny_bind (wpAny_setSeqItemAt ho rfl ?_)
  exact wpAny_bind (wpAny_pure (wpAny_pure ⟨.none, rfl, wpAny_pure (hQ _ _ he (Heap.SameBut.update ..))⟩))

theorem RepL.set {V : List Addr} {h : Heap} {p : PV} {v : Value} (hp : Rep V h p v) : ∀ (j : Nat) {l : List PV} {vs : List Value}, RepL V h l vs → RepL V h (l.set j p) (vs.set j v)
  | _, [], _, r => by rw [RepL] at r; subst r; simp [RepL]
  | 0, _ :: _, _, r => by
    rw [RepL] at r
    obtain ⟨v', r2, rfl, h1, h2⟩ := r
    exact RepL.cons hp h2
  | j + 1, _ :: _, _, r => by
    rw [RepL] at r
    obtain ⟨v', r2, rfl, h1, h2⟩ := r
    exact RepL.cons h1 (RepL.set hp j h2)

section
variable {c : Cx} {n : Nat} {env : Env} {V W : List Addr} {Γ Γ' Γ'' Δ : List (PySem.Str × PV)} {a : Addr} {us us' us'' : List PV}

/-- z[i] op= e, upon the own list -/
theorem OSt.augItem {o i e : Expr} {tpos pos : Pos} {op : Operator} {j : Nat} {p0 pe p : PV} (ho : Ev c n env (a :: V) Γ o (.fn (.ref a))) (hi : Ev c n env (a :: V) Γ i (.int (j : Int))) (he : Ev c n env (a :: V) Γ e pe) (hj : us[j]? = some p0) (hjl : j < 1000) (hop : IncF c n op p0 pe p)
    (ha : ∀ ov iv new, augStore i ov iv new = (do holding [new, ov, iv] (setItem ov iv new); release [new, ov, iv] []; pure .next) := by intros; rfl) :
    OSt c n env V a Γ us (.AugAssign (.Subscript o i tpos) op e pos) Γ (us.set j p) := by
  intro A hA s Q E F O k
  refine wpAny_AugAssign_SubscriptAny (ho.bind hA F fun x s₁ st₁ F₁ r₁ => ?_) ha
  rw [of_fn r₁]
  have O₁ := O.step st₁ (w59 O.v59)
  refine hi.bind hA F₁ fun iv s₂ st₂ F₂ r₂ => ?_
  have O₂ := O₁.step st₂ (w59 O.v59)
  obtain ⟨t, rfl⟩ := of_int r₂
  obtain ⟨items, m, e₂, rr⟩ := O₂.obj
  obtain ⟨v0, hv0, rv0⟩ := rr.get j p0 hj
  refine wpAny_getItem_list (x := v0) (isList_of e₂) (Int.natCast_nonneg j) (by omega) (by simpa using hv0) ?_
  refine he.bind hA F₂ fun y s₃ st₃ F₃ r₃ => ?_
  have O₃ := O₂.step st₃ (w59 O.v59)
  refine hop A hA (a :: V) s₃ _ _ _ E F₃.toGS (rv0.step st₃ (w59 F.v59)) r₃ fun z s₄ st₄ r₄ => ?_
  have F₄ := F₃.step st₄
  have O₄ := O₃.step st₄ (w59 O.v59)
  obtain ⟨items, m, e₄, rr⟩ := O₄.obj
  refine setItem_own e₄ (Int.natCast_nonneg j) (by omega) ?_ fun h' m' e' hs => ?_
  · rw [rr.length]; exact Int.ofNat_lt.mpr (List.getElem?_eq_some_iff.mp hj).1
  · obtain ⟨g1, g2, g3⟩ := Own.turn (tk := s₄.toks) (us' := us.set j p) F₄ O₄ hs e' (rr.set r₄ j)
    exact k _ (((st₁.trans (st₂.trans (st₃.trans st₄))).wide fun b hb => .tail _ (wOwn b hb)).trans g1) g2 g3

theorem OSt.forEnum {x y : PySem.Str} {kx : Nat} {px py pt pos : Pos} {iter : Expr} {body : List Stmt} {rs : List PV} (G : Nat → List (PySem.Str × PV)) (U : Nat → List PV) (hi : EvE c n env (a :: V) Γ iter rs) (h0 : Sub (G 0) Γ) (hU : U 0 = us) (hf : env.scope.kind = .function) (hx : env.kindOf x = some .local) (hy : env.kindOf y = some .local)
    (hb : ∀ i p, rs[i]? = some p → OEx c n env V a ((y, p) :: (x, .int (i : Nat)) :: G i) (U i) body (G (i + 1)) (U (i + 1))) (hs : ∀ v, foldedSetIterable iter env v = pure v := by intro _; rfl) :
    OSt c n env V a Γ us (.For (.Tuple [.Name x px, .Name y py] kx pt) iter body [] pos) (G rs.length) (U rs.length) := by
  subst hU
  intro A hA s Q E F O k
  refine wpAny_For (hi A hA s _ E F fun it s₂ st₂ src => ?_) hs
  obtain ⟨I, fp, wr, P, T, Mid, rfl, hW, hT, hP, hfp, hwr, hodd, hoddM⟩ := src
  have F₂ := F.step st₂
  have O₂ := O.step st₂ (w59 O.v59)
  have W := hW A hA.1
  have hwrV : ∀ b ∈ wr, b ∉ (a :: V) := fun b hb => (hfp b (W.sub b hb)).1
  have oV : ∀ b ∈ a :: own env, b ∈ a :: V := fun b hb => by
    rcases List.mem_cons.mp hb with rfl | hb
    · exact .head _
    · exact .tail _ (O.ownV b hb)
  refine codeAny_mono (codeAny_forLoop_any (R := fun r s' => r = .ok .next ∧ Step (a :: own env) s s' ∧ FS c env (a :: V) (G rs.length) s' ∧ Own c env V a (U rs.length) s')
    (fun m s₁ => ∃ i, i ≤ rs.length ∧ m = rs.length + 1 - i ∧ T i s₁.heap ∧ FS c env (a :: V) (G i) s₁ ∧ Own c env V a (U i) s₁ ∧ Step ((a :: own env) ++ wr) s₂ s₁) (fun m s₁ hI => ?_) (rs.length + 1) ⟨0, Nat.zero_le _, rfl, hT, F₂.sub h0, O₂, .refl⟩) ?_
  · obtain ⟨i, hi', rfl, hTi, F₁, O₁, st₁⟩ := hI
    have offW : Off c (a :: V) s₁ wr := fun b hb => .inr ⟨hwrV b hb, (hwr b hb).1, hodd i _ hTi b hb⟩
    have tabW : ∀ {s₁ : Shared} {h' : Heap}, (∀ b o, b ∉ wr → s₁.heap.get? b = some o → h'.get? b = some o) → Tab s₁.heap → Tab h' := fun hk => tab_of_keep (fun b hb => (hwr b hb).1) hk
    have ownOff : ∀ {s₁ s₃ : Shared}, Own c env V a (U i) s₁ → Off c (a :: V) s₁ wr → Step wr s₁ s₃ → Own c env V a (U i) s₃ := fun {s₁ s₃} O₁ offW stn => by
      obtain ⟨items, m, e, r⟩ := O₁.obj
      exact ⟨O₁.nV, O₁.far, O₁.v59, O₁.vL, O₁.vC, items, m, stn.keep _ _ (fun q => hwrV _ q (.head _)) e, r.off stn F₁.v59 offW⟩
    by_cases hlt : i < rs.length
    · obtain ⟨p, hp⟩ : ∃ p, rs[i]? = some p := ⟨rs[i], List.getElem?_eq_getElem hlt⟩
      refine W.item i s₁ _ _ hlt hTi fun T' vals h' tk hPv hTs hT' hMid hk => ?_
      obtain ⟨t, v, hPv, rfl⟩ := hPv
      have stn : Step wr s₁ { s₁ with heap := h', toks := tk } := ⟨fun b o hb e => hk b o hb e, tabW hk, .refl, rfl, rfl⟩
      have F' := F₁.off stn offW
      have O' := ownOff O₁ offW stn
      have offM : Off c (a :: V) { s₁ with heap := h', toks := tk } wr := fun b hb => .inr ⟨hwrV b hb, (hwr b hb).1, hoddM i _ _ hMid b hb⟩
      refine W.go _ _ _ i T' _ _ _ hMid fun h'' hT2 hk2 => ?_
      have stn2 : Step wr { s₁ with heap := h', toks := tk } { s₁ with heap := h'', toks := tk } := ⟨fun b o hb e => hk2 b o hb e, tabW (s₁ := { s₁ with heap := h', toks := tk }) hk2, .refl, rfl, rfl⟩
      have F2 := F'.off stn2 offM
      have O2 := ownOff O' offM stn2
      have hT'' : h''.IsTuple T' #[.int (i : Nat) t, v] := by
        obtain ⟨o, e, r⟩ := hT'; exact ⟨o, hk2 _ _ (W.apart _ _ _ hMid) e, r⟩
      refine wpAny_assign_Tuple hA.1 hT'' rfl rfl fun h3 he3 => ?_
      have st3 : Step [56] { s₁ with heap := h'', toks := tk } { s₁ with heap := h3, toks := tk } := .of_keep fun b o e => he3 b o (Nat.ne_of_lt (get_lt e)) e
      have F3 := F2.step st3
      have O3 := O2.step st3 (w59 O.v59)
      have hT3 : T (i + 1) h3 := W.frame _ _ _ hT2 fun b hb o e => he3 b o (Nat.ne_of_lt (get_lt e)) e
      refine PySem.wpAny_assignInOrder_more (wpAny_assign_Name (store_local F3 hf hx rep_int fun s₄ st₄ F₄ => ?_))
      refine PySem.wpAny_assignInOrder_more (wpAny_assign_Name (store_local F₄ hf hy (hP i p v _ hp hPv) fun s₅ st₅ F₅ => wpAny_assignInOrder_none ?_))
      have stA : Step ((a :: own env) ++ wr) s₂ s₅ := st₁.trans ((stn.wide fun b hb => List.mem_append.mpr (.inr hb)).trans ((stn2.wide fun b hb => List.mem_append.mpr (.inr hb)).trans ((st3.wide fun b hb => List.mem_append.mpr (.inl (.tail _ (wOwn b hb)))).trans ((st₄.trans st₅).wide fun b hb => List.mem_append.mpr (.inl (.tail _ hb))))))
      have hT5 : T (i + 1) s₅.heap := W.frame _ _ _ hT3 fun b hb o e => (st₄.trans st₅).keep b o (fun hm => (hfp b hb).1 (.tail _ (O.ownV b hm))) e
      refine hb i p hp A hA s₅ _ _ F₅ ((O3.step st₄ O.ownV).step st₅ O.ownV) fun s₆ st₆ F₆ O₆ => ?_
      exact ⟨rs.length + 1 - (i + 1), by omega, i + 1, hlt, rfl, W.frame _ _ _ hT5 fun b hb o e => st₆.keep b o (fun hm => (hfp b hb).1 (oV b hm)) e, F₆, O₆, stA.trans (st₆.wide fun b hb => List.mem_append.mpr (.inl hb))⟩
    · have hie : i = rs.length := by omega
      subst hie
      refine W.done s₁ _ _ hTi fun h' tk hk => ?_
      have stn : Step wr s₁ { s₁ with heap := h', toks := tk } := ⟨fun b o hb e => hk b o hb e, tabW hk, .refl, rfl, rfl⟩
      refine wpAny_execs_nil ⟨rfl, ?_, F₁.off stn offW, ownOff O₁ offW stn⟩
      have st' : Step ((a :: own env) ++ wr) s { s₁ with heap := h', toks := tk } := (st₂.wide fun b hb => List.mem_append.mpr (.inl (.tail _ (wOwn b hb)))).trans (st₁.trans (stn.wide fun b hb => List.mem_append.mpr (.inr hb)))
      refine ⟨fun b o hb e => ?_, st'.tab, st'.bare, st'.drawn, st'.os⟩
      refine st'.keep b o (fun hm => ?_) e
      rcases List.mem_append.mp hm with hm | hm
      · exact hb hm
      · rw [(hwr b hm).2] at e; cases e
  · rintro r s' ⟨rfl, st, F', O'⟩
    exact k _ st F' O'
end
end

section
open PySem PySem.W PySem.Spec PySem.Calls PyProof.Rows PySem.SeqAt
open PySem.AutoSeq1 (wpAny_loadPart')
open PySem.MeetsSeq PySem.MeetsSeq2 PySem.MeetsSeq3 PySem.SeqRoads2
set_option linter.unusedVariables false
set_option maxRecDepth 100000
set_option maxHeartbeats 1000000

/-- the loop that compares two lists, at a place where two ints differ -/
theorem lt_here (l b : Addr) (items items2 : Array Value) (i : Nat) (x y : Int) (t u : Tok) (n n2 : Nat) (hx : items[i]? = some (.int x t)) (hy : items2[i]? = some (.int y u)) (h1 : x ≠ y) :
    Meets (Builtin.«list.__eq__.loop» ⟨[.ref l, .ref b, rawInt i, rawInt 0], []⟩)
      (fun A R s => s.heap.get? l = some { cls := .type "list", data := .seq items n } ∧ s.heap.get? b = some { cls := .type "list", data := .seq items2 n2 } ∧ R (.ok (.ret (.bool (decide (x < y))))) s) := by
  intro prog w A R s h
  obtain ⟨hp, g, d, tk, os⟩ := s; obtain ⟨hl, hb, h⟩ := h
  wp_walk using wpAny_loadPart' hl, wpAny_loadPart' hb
  have hi1 : items[((i : Nat) : Int).toNat]? = some (.int x t) := hx
  have hi2 : items2[((i : Nat) : Int).toNat]? = some (.int y u) := hy
  rw [hi1, hi2]
  refine wpAny_bind ((EqGives.int x y t u) prog w _ _ _ _ ?_)
  rw [beq_eq_false_iff_ne.mpr h1]
  wp_walk using wpAny_loadPart' hl, wpAny_loadPart' hb
  rw [hi1, hi2]
  first | refine wpAny_bind (lt_int ?_) | skip
  wp_walk
  exact h
/-- and at a place where they are alike -/
theorem lt_on (l b : Addr) (items items2 : Array Value) (i : Nat) (x y x' y' : Int) (t u t' u' : Tok) (n n2 : Nat) (hx : items[i]? = some (.int x t)) (hy : items2[i]? = some (.int y u)) (hx' : items[i + 1]? = some (.int x' t')) (hy' : items2[i + 1]? = some (.int y' u')) (h1 : x = y) (h2 : x' ≠ y') :
    Meets (Builtin.«list.__eq__.loop» ⟨[.ref l, .ref b, rawInt i, rawInt 0], []⟩)
      (fun A R s => s.heap.get? l = some { cls := .type "list", data := .seq items n } ∧ s.heap.get? b = some { cls := .type "list", data := .seq items2 n2 } ∧ R (.ok (.ret (.bool (decide (x' < y'))))) s) := by
  intro prog w A R s h
  obtain ⟨hp, g, d, tk, os⟩ := s; obtain ⟨hl, hb, h⟩ := h
  wp_walk using wpAny_loadPart' hl, wpAny_loadPart' hb
  have hi1 : items[((i : Nat) : Int).toNat]? = some (.int x t) := hx
  have hi2 : items2[((i : Nat) : Int).toNat]? = some (.int y u) := hy
  have hc : ((i : Int) + 1) = ((i + 1 : Nat) : Int) := by push_cast; rfl
  rw [hi1, hi2]
  refine wpAny_bind ((EqGives.int x y t u) prog w _ _ _ _ ?_)
  rw [show (x == y) = true by rw [h1]; exact beq_self_eq_true _]
  wp_walk
  rw [hc]
  exact ⟨plainId_quiet plain_eq_loop _, codeAny_builtin entry_eq_loop (by
    rw [Around.under_plainId plain_eq_loop _]
    exact lt_here l b items items2 (i + 1) x' y' t' u' n n2 hx' hy' h2 prog w A R _ ⟨hl, hb, h⟩)⟩
theorem lt_list (l b : Addr) (items items2 : Array Value) (x y x' y' : Int) (t u t' u' : Tok) (n n2 : Nat) (hx : items[0]? = some (.int x t)) (hy : items2[0]? = some (.int y u)) (hx' : items[1]? = some (.int x' t')) (hy' : items2[1]? = some (.int y' u')) (h2 : x ≠ y ∨ x' ≠ y') :
    Meets (Builtin.«list.__lt__» ⟨[.ref l, .ref b], []⟩)
      (fun A R s => s.heap.get? l = some { cls := .type "list", data := .seq items n } ∧ s.heap.get? b = some { cls := .type "list", data := .seq items2 n2 } ∧ R (.ok (.ret (.bool (if x = y then decide (x' < y') else decide (x < y))))) s) := by
  intro prog w A R s h
  obtain ⟨hp, g, d, tk, os⟩ := s; obtain ⟨hl, hb, h⟩ := h
  have f3 := AutoSeq1.sub_list_list
  wp_walk using wpAny_loadPart' hl, wpAny_loadPart' hb
  exact ⟨plainId_quiet plain_eq_loop _, codeAny_builtin entry_eq_loop (by
    rw [Around.under_plainId plain_eq_loop _]
    by_cases e : x = y
    · rw [if_pos e] at h
      exact lt_on l b items items2 0 x y x' y' t u t' u' n n2 hx hy hx' hy' e (h2.resolve_left (fun q => q e)) prog w A R _ ⟨hl, hb, h⟩
    · rw [if_neg e] at h
      exact lt_here l b items items2 0 x y t u n n2 hx hy e prog w A R _ ⟨hl, hb, h⟩)⟩

section
variable {c : Cx} {n : Nat}
/-- two ints in order, the first first -/
def Lt2 (p q : Int × Int) : Prop := p.1 < q.1 ∨ (p.1 = q.1 ∧ p.2 < q.2)
def pairL (p : Int × Int) : List PV := [.int p.1, .int p.2]
theorem pair_items {V : List Addr} {h : Heap} {p : Int × Int} {vs : List Value} (r : RepL V h (pairL p) vs) : ∃ t u, vs = [.int p.1 t, .int p.2 u] := by
  obtain ⟨v, w, rfl, hv, hw⟩ := RepL.two r
  obtain ⟨t, rfl⟩ := of_int hv
  obtain ⟨u, rfl⟩ := of_int hw
  exact ⟨t, u, rfl⟩
theorem slot_list_lt' : Slot "list" (Str.ofString "__lt__") "list.__lt__" := PySem.F.slot_list_lt
theorem oneLt_pair {prog : Program} {w : World} {A : Around} {E : Value → Shared → Prop} {V : List Addr} {s : Shared} {v v' : Value} {p q : Int × Int} {Q : Bool → Shared → Prop} (hu : A.units < cLine) (hv : Rep V s.heap (.list (pairL p)) v) (hv' : Rep V s.heap (.list (pairL q)) v') (hlt : Lt2 q p) (h : Q false s) :
    wpAny (model prog w) A (keyLt' oneType' v v') Q E s := by
  obtain ⟨a, items, m, rfl, ha, ho, hr⟩ := of_list hv
  obtain ⟨b, items', m', rfl, hb, ho', hr'⟩ := of_list hv'
  obtain ⟨t, u, rfl⟩ := pair_items hr
  obtain ⟨t', u', rfl⟩ := pair_items hr'
  rw [keyLt'_oneType, oneLt'_eq]
  simp only [if_true]
  refine wpAny_bind (wpAny_cRoomFor hu ?_)
  refine wpAny_bind (wpAny_callSpecialIfBound?_slot (name := Str.ofString "__lt__") ⟨_, ho, rfl⟩ slot_list_lt' (call_meets PySem.F.slot_list_lt ⟨_, ho, rfl⟩ PySem.F.entry_list_lt (PySem.F.args_list_lt_2 _ _)
    (lt_list a b [.int p.1 t, .int p.2 u].toArray [.int q.1 t', .int q.2 u'].toArray p.1 q.1 p.2 q.2 t t' u u' m m' rfl rfl rfl rfl (by unfold Lt2 at hlt; omega)) ⟨ho, ho', ?_⟩))
  have e : (if p.1 = q.1 then decide (p.2 < q.2) else decide (p.1 < q.1)) = false := by
    unfold Lt2 at hlt
    split
    · exact decide_eq_false (by omega)
    · exact decide_eq_false (by omega)
  rw [e]
  exact wpAny_truthy_bool h
theorem asc_ok {prog : Program} {w : World} {A : Around} {it : Array Keyed} {p : Array Nat} {s : Shared} {G : Nat → Shared → Prop} (N : Nat)
    (hc : ∀ i, 1 ≤ i → i < N → ∀ (C : Bool → Shared → Prop), C false s → kas_cmp prog w A oneType' it (p.getD i 0) (p.getD (i - 1) 0) C s) : ∀ (f k : Nat), k + f = N → 1 ≤ k → G N s → (kas_asc p f k).kasWp (kas_cmp prog w A oneType' it) G s
  | 0, k, hk, _, hG => by
    have : k = N := by omega
    subst this
    exact hG
  | f + 1, k, hk, h1, hG => by
    show kas_cmp prog w A oneType' it (p.getD k 0) (p.getD (k - 1) 0) (fun c s' => (if c = true then KasT.ret k else kas_asc p f (k + 1)).kasWp (kas_cmp prog w A oneType' it) G s') s
    refine hc k h1 (by omega) _ ?_
    rw [if_neg (by simp)]
    exact asc_ok N hc f (k + 1) (by omega) (by omega) hG
theorem sort_ok {prog : Program} {w : World} {A : Around} {it : Array Keyed} {s : Shared} {G : Array Nat → Shared → Prop} (N : Nat) (h2 : 2 ≤ N)
    (hc : ∀ i, 1 ≤ i → i < N → ∀ (C : Bool → Shared → Prop), C false s → kas_cmp prog w A oneType' it i (i - 1) C s) (hG : G (List.toArray (List.range N)) s) : (kas_sort N).kasWp (kas_cmp prog w A oneType' it) G s := by
  unfold kas_sort kas_count
  rw [KasT.kasWp_bind, KasT.kasWp_bind]
  have hget : ∀ i, i < N → (List.toArray (List.range N)).getD i 0 = i := fun i hi => by simp [Array.getD, hi]
  refine asc_ok N (fun i h1 hi C hC => ?_) (N - 1) 1 (by omega) (Nat.le_refl _) ?_
  · rw [hget i hi, hget (i - 1) (by omega)]
    exact hc i h1 hi C hC
  · rw [if_pos (beq_self_eq_true N)]
    show (if N < N then kas_bin (N - max N 1) _ (max N 1) else KasT.ret _).kasWp _ G s
    rw [if_neg (Nat.lt_irrefl N)]
    exact hG
end
end

section
open PySem PySem.W PySem.Spec PySem.Calls PyProof.Rows PySem.SeqAt
set_option linter.unusedVariables false
set_option maxRecDepth 100000
set_option maxHeartbeats 1000000
section
variable {c : Cx} {n : Nat}
def pairV (p : Int × Int) : PV := .list (pairL p)
theorem range_map_getD (vs : List Value) : ((List.toArray (List.range vs.length)).map (kas_item (pairsOf vs))).map (·.2) = vs.toArray := by
  apply Array.toList_inj.mp
  rw [Array.map_map, Array.toList_map]
  show (List.range vs.length).map _ = vs
  apply List.ext_getElem?
  intro i
  rw [List.getElem?_map]
  by_cases hi : i < vs.length
  · rw [List.getElem?_range hi]
    show some ((kas_item (pairsOf vs) i).2) = _
    rw [kas_item_eq]
    simp [hi]
  · rw [List.getElem?_eq_none (by simp; omega), List.getElem?_eq_none (by omega)]
    rfl

theorem Calls.sortedPairs {ps : List (Int × Int)} (hr : ∀ i (h : i + 1 < ps.length), Lt2 (ps[i]'(by omega)) ps[i + 1]) (h2 : 2 ≤ ps.length) (h64 : ps.length < 64) (hn : 0 < n := by decide) :
    Calls c n (.builtin "sorted") [.list (ps.map pairV)] (.list (ps.map pairV)) := by
  intro A hA V s vals Q E G r k
  obtain ⟨v, rfl, hv⟩ := r.one
  obtain ⟨l, vs, m, rfl, hlV, hl, hrep⟩ := of_list hv
  have hlen : vs.length = ps.length := by rw [hrep.length, List.length_map]
  refine Calls.call_function_entry kind_sorted plain_sorted entry_sorted (args_sorted1 _) ?_
  unfold Builtin.«sorted»
  refine wpAny_bind (m := checkCount "sorted" 1 1 _) (wpAny_pure ?_)
  refine wpAny_bind (collect_list (isList_of hl) ?_ (by rw [sizeLine_eq]; omega))
  refine wpAny_bind (wpAny_newList ?_ (by rw [sizeLine_eq]; omega))
  have hI := push_fresh (h := s.heap)
  obtain ⟨st1, G1⟩ := push_new (o := PyProof.Rows.seqObj "list" #[] 0) (Step.refl (W := [56]) (s := s)) G
  have hs1 := Heap.SameBut.update (s.heap.push (PyProof.Rows.seqObj "list" #[] 0)) s.heap.objs.size (Obj.mapSeq (· ++ vs.toArray))
  have e1 : (s.heap.push (PyProof.Rows.seqObj "list" #[] 0)).get? s.heap.objs.size = some (PyProof.Rows.seqObj "list" #[] 0) := Heap.get?_push_size _ rfl
  have e1' := get?_update_seq e1 (· ++ vs.toArray)
  obtain ⟨st2, G2⟩ := turn_new st1 G1 hI (G.gi.fresh hI) hs1 e1 (by simp) e1'
  obtain ⟨st3, G3⟩ := push_new (o := PyProof.Rows.seqObj "list" vs.toArray 0) st2 G2
  have hsz : ((s.heap.push (PyProof.Rows.seqObj "list" #[] 0)).update s.heap.objs.size (Obj.mapSeq (· ++ vs.toArray))).objs.size = s.heap.objs.size + 1 := by
    rw [Heap.size_update, Heap.size_push]
  have ho : (((s.heap.push (PyProof.Rows.seqObj "list" #[] 0)).update s.heap.objs.size (Obj.mapSeq (· ++ vs.toArray))).push (PyProof.Rows.seqObj "list" vs.toArray 0)).get? (s.heap.objs.size + 1) = some (PyProof.Rows.seqObj "list" vs.toArray 0) := by
    rw [← hsz]; exact Heap.get?_push_size _ rfl
  show wpAny _ _ _ _ _ { s with heap := ((s.heap.push (PyProof.Rows.seqObj "list" #[] 0)).update s.heap.objs.size (Obj.mapSeq (· ++ vs.toArray))).push (PyProof.Rows.seqObj "list" vs.toArray 0) }
  rw [hsz]
  have hfa : s.heap.get? (s.heap.objs.size + 1) = none := by
    cases e : s.heap.get? (s.heap.objs.size + 1) with
    | none => rfl
    | some o => exact absurd (get_lt e) (Nat.not_lt.mpr (Nat.le_succ _))
  generalize (((s.heap.push (PyProof.Rows.seqObj "list" #[] 0)).update s.heap.objs.size (Obj.mapSeq (· ++ vs.toArray))).push (PyProof.Rows.seqObj "list" vs.toArray 0)) = H at st3 G3 ho ⊢
  generalize s.heap.objs.size + 1 = a at ho hfa ⊢
  have hga := G.gi.fresh hfa
  have haV := G.notIn hfa
  refine wpAny_bind (wpAny_holding (wpAny_call_entry slot_list_sort ⟨_, ho, rfl⟩ entry_list_sort ?body (args_list_sort _)))
  case body =>
    show wpAny c.M A.in1.in1 (Builtin.«list.sort» ⟨[.ref a], []⟩) _ _ _
    rw [list_sort_plain]
    refine wpAny_bind (listItems_at ho rfl ?_)
    refine wpAny_bind (listUpdate_at ho rfl ?_ (by rw [List.size_toArray, sizeLine_eq]; omega) (Nat.zero_le _))
    have hs4 := Heap.SameBut.update H a (Obj.mapSeq fun _ => (#[] : Array Value))
    obtain ⟨c1, e4⟩ : ∃ c1, (H.update a (Obj.mapSeq fun _ => (#[] : Array Value))).get? a = some (PyProof.Rows.seqObj "list" #[] c1) := ⟨_, get?_update_seq ho fun _ => #[]⟩
    obtain ⟨st4, G4⟩ := turn_new st3 G3 hfa hga hs4 ho (by simp) e4
    refine wpAny_bind (seqEpoch_at e4 rfl ?_)
    refine wpAny_bind (wpAny_newTuple ?_ (by show vs.length ≤ _; rw [sizeLine_eq]; omega))
    obtain ⟨st5, G5⟩ := push_new (o := { cls := .type "tuple", data := .seq vs.toArray }) st4 G4
    have e5 : ((H.update a (Obj.mapSeq fun _ => (#[] : Array Value))).push { cls := .type "tuple", data := .seq vs.toArray }).get? a = _ := push_keep _ _ e4
    refine wpAny_bind (wpAny_newList ?_ (Nat.zero_le _))
    generalize hH5 : ((H.update a (Obj.mapSeq fun _ => (#[] : Array Value))).push { cls := .type "tuple", data := .seq vs.toArray }) = H5 at st5 G5 e5
    obtain ⟨st6, G6⟩ := push_new (o := { cls := .type "list", data := .seq ([] : List Value).toArray }) st5 G5
    have e6 := push_keep (o := { cls := .type "list", data := .seq ([] : List Value).toArray }) _ _ e5
    refine wpAny_holding ?_
    show wpAny c.M A.in1.in1 _ _ _ { s with heap := H5.push { cls := .type "list", data := .seq ([] : List Value).toArray } }
    generalize H5.push { cls := .type "list", data := .seq ([] : List Value).toArray } = H6 at st6 G6 e6 ⊢
    dsimp only
    have hn2 : ¬ vs.toArray.size < 2 := by rw [List.size_toArray]; omega
    rw [if_neg hn2, if_neg hn2]
    have hrep6 : RepL V H6 (ps.map pairV) vs := hrep.step st6 (w59 G.v59)
    refine wpAny_bind (kas_kind (T := .type "list") (by omega) (fun v hv => ?_) rfl rfl ?_)
    · obtain ⟨i, hi⟩ := List.getElem?_of_mem hv
      have hil := (List.getElem?_eq_some_iff.mp hi).1
      obtain ⟨w, hw, rw'⟩ := hrep6.get i (pairV (ps[i]'(by omega))) (by simp [show i < ps.length by omega])
      rw [hi] at hw; cases hw
      obtain ⟨b, items, mm, rfl, hb, hob, hrr⟩ := of_list rw'
      exact (Looks.ld hob).andThen .now
    have est : SortSt.mk' oneType' (vs.toArray.zip vs.toArray) #[] 7 none = kas_st oneType' (pairsOf vs) (List.toArray (List.range vs.length)) := by
      have e := kas_range (pairsOf vs)
      rw [pairsOf_size] at e
      show SortSt.mk' oneType' (pairsOf vs) #[] 7 none = SortSt.mk' oneType' ((List.toArray (List.range vs.length)).map (kas_item (pairsOf vs))) #[] 7 none
      rw [e]
    have hu : A.in1.in1.units < cLine := by
      have := (hA.2 hn).2.1
      show A.units + 1 + 1 < cLine
      omega
    have ask := sort_ok (prog := P0) (w := c.w) (A := A.in1.in1) (it := pairsOf vs) (s := { s with heap := H6 }) (G := fun p s' => s' = { s with heap := H6 } ∧ p = List.toArray (List.range vs.length)) vs.length (by omega) (fun i h1 hi C hC => ?_) ⟨rfl, rfl⟩
    · have run := kas_runs (E := E) (Q := fun _ st' s' => s' = { s with heap := H6 } ∧ arrOf st' = (List.toArray (List.range vs.length)).map (kas_item (pairsOf vs)) ∧ failedOf st' = none) (by omega) (by omega)
        (fun p' st' s' a1 a2 a3 a4 => ⟨a4.1, by rw [a2, a4.2], a3⟩) ask
      rw [← est] at run
      refine wpAny_bind (wpAny_mono run ?_ fun _ _ e => e)
      rintro ⟨⟨⟩, st'⟩ s' ⟨rfl, har, hf⟩
      dsimp only
      have hout : (arrOf st').map (·.2) = vs.toArray := by rw [har]; exact range_map_getD vs
      rw [hout]
      have hs9 := Heap.SameBut.update H6 a (Obj.mapSeq fun _ => vs.toArray)
      obtain ⟨n9, ea9⟩ : ∃ n9, (H6.update a (Obj.mapSeq fun _ => vs.toArray)).get? a = some (PyProof.Rows.seqObj "list" vs.toArray n9) := ⟨_, get?_update_seq e6 (fun _ => vs.toArray)⟩
      obtain ⟨st9, G9⟩ := turn_new st6 G6 hfa hga hs9 e6 (by simp) ea9
      refine wpAny_bind (seqEpoch_at e6 rfl ?_)
      refine wpAny_bind (listUpdate_at e6 rfl ?_ (Nat.zero_le _) (by rw [List.size_toArray, sizeLine_eq]; omega))
      rw [hf]
      simp only [bne_self_eq_false, Bool.false_eq_true, if_false]
      refine wpAny_pure ⟨_, rfl, wpAny_pure ⟨_, rfl, k _ _ st9 (rep_list (n := n9) haV ea9 (hrep.step st9 (w59 G.v59)))⟩⟩
    · unfold kas_cmp
      rw [kas_item_eq, kas_item_eq]
      obtain ⟨w, hw, rw1⟩ := hrep6.get i (pairV (ps[i]'(by omega))) (by simp [show i < ps.length by omega])
      obtain ⟨w', hw', rw2⟩ := hrep6.get (i - 1) (pairV (ps[i - 1]'(by omega))) (by simp [show i - 1 < ps.length by omega])
      have g1 : vs.getD i Value.none = w := by simp [List.getD, hw]
      have g2 : vs.getD (i - 1) Value.none = w' := by simp [List.getD, hw']
      rw [g1, g2]
      refine oneLt_pair (p := ps[i]'(by omega)) (q := ps[i - 1]'(by omega)) (V := V) hu rw1 rw2 ?_ hC
      have := hr (i - 1) (by omega)
      have e : i - 1 + 1 = i := by omega
      simpa only [e] using this
end
end

section
open PySem PySem.W PySem.Spec PySem.Calls PyProof.Rows
set_option linter.unusedVariables false
set_option maxRecDepth 100000
set_option maxHeartbeats 1000000

theorem compTurn_set (elt target iter : Expr) (scope : Scope) (pos : Pos) (it acc : Value) (env : Env) :
    compTurn (.SetComp elt [⟨target, iter, [], 0⟩] scope pos) 0 it acc env = (standAt iter.pos >>= fun _ => pyNext it >>= fun r => match r with
      | none => pure (.done .next)
      | some v => letOwnedTupleGo target it v >>= fun _ => PySem.assign target env v >>= fun _ =>
        (eval elt env >>= fun x => standAt elt.pos >>= fun _ => PySem.call (.builtin "set.add") [acc, x] >>= fun _ => pure ()) >>= fun _ =>
          again (.compLoop (.SetComp elt [⟨target, iter, [], 0⟩] scope pos) 0 it acc env)) := by rfl

section
variable {prog : Program} {w : World} {A : Around} {E : Value → Shared → Prop} {R : Result → Shared → Prop} {s : Shared}
theorem codeAny_compStart_set {elt target iter ifs rest scope pos it acc env}
    (h0 : codeAny (model prog w) A (.compLoop (.SetComp elt (⟨target, iter, ifs, 0⟩ :: rest) scope pos) 0 it acc env) R s)
    (h : wpAny (model prog w) A (pyIter it) (fun it' s' => codeAny (model prog w) A (.compLoop (.SetComp elt (⟨target, iter, ifs, 0⟩ :: rest) scope pos) 0 it' acc env) R s')
      (notedBy (model prog w) A env fun x s' => R (.error x) s') s) :
    codeAny (model prog w) A (.compStart (.SetComp elt (⟨target, iter, ifs, 0⟩ :: rest) scope pos) 0 it acc env) R s := by
  refine codeAny_of_tree ?_
  show wpAny _ A ((compStart (.SetComp elt (⟨target, iter, ifs, 0⟩ :: rest) scope pos) 0 it acc env).onRaise (fun x => do noteFrame x env; standAt theWindowsPlace)) _ _ s
  refine wpAny_notedAt ?_
  unfold compStart
  show wpAny _ A (ask >>= _) _ _ s
  refine wpAny_bind (wpAny_askSetting (wpAny_ite ?_))
  split
  · first
      | exact wpAny_bind (wpAny_pure (wpAny_pure (And.intro rfl h0)))
      | exact wpAny_pure (And.intro rfl h0)
  · first
      | exact wpAny_bind (wpAny_rule (wpAny_bind (wpAny_standAt (wpAny_bind (wpAny_mono h (fun it' s' h' => wpAny_pure (And.intro rfl h')) fun _ _ x => x)))))
      | (refine wpAny_bind (wpAny_rule ?_); show wpAny _ _ (standAt iter.pos >>= _) _ _ s; exact wpAny_bind (wpAny_standAt (wpAny_bind (wpAny_mono h (fun it' s' h' => wpAny_pure (And.intro rfl h')) fun _ _ x => x))))
theorem codeAny_compLoop_set {elt target iter : Expr} {scope : Scope} {pos : Pos} {it acc : Value} {env : Env} (I : Nat → Shared → Prop)
    (turn : ∀ n s, I n s → wpAny (model prog w) A (pyNext it) (fun r s₁ => match r with
      | none => R (.ok .next) s₁
      | some v => wpAny (model prog w) A (PySem.assign target env v) (fun _ s₂ => wpAny (model prog w) A (eval elt env) (fun x s₄ =>
              wpAny (model prog w) A (PySem.call (.builtin "set.add") [acc, x]) (fun _ s₅ => ∃ m, m < n ∧ I m s₅) (notedBy (model prog w) A env fun e s' => R (.error e) s') s₄) (notedBy (model prog w) A env fun e s' => R (.error e) s') s₂) (notedBy (model prog w) A env fun e s' => R (.error e) s') s₁) (notedBy (model prog w) A env fun e s' => R (.error e) s') s)
    (n : Nat) (h : I n s) (ht : ∀ v, letOwnedTupleGo target it v = pure () := by intro _; rfl) :
    codeAny (model prog w) A (.compLoop (.SetComp elt [⟨target, iter, [], 0⟩] scope pos) 0 it acc env) R s := by
  refine codeAny_loop rfl I (fun n s hI => ?_) n h
  show wpAny _ A ((compTurn (.SetComp elt [⟨target, iter, [], 0⟩] scope pos) 0 it acc env).onRaise (fun x => do noteFrame x env; theTreesLotGoes x)) _ _ s
  refine wpAny_noted ?_
  rw [compTurn_set]
  refine wpAny_bind (wpAny_standAt (wpAny_bind (wpAny_mono (turn n s hI) (fun r s₁ h₁ => ?_) fun _ _ h' => h')))
  cases r with
  | none => exact wpAny_pure h₁
  | some v =>
    refine wpAny_bind (wpAny_of_eq (ht v) ?_)
    refine wpAny_bind (wpAny_mono h₁ (fun _ s₂ h₂ => ?_) fun _ _ h' => h')
    exact wpAny_bind (wpAny_bind (wpAny_mono h₂ (fun x s₄ h₄ => wpAny_bind (wpAny_standAt (wpAny_bind (wpAny_mono h₄ (fun _ s₅ h₅ => wpAny_pure (wpAny_pure ⟨rfl, h₅⟩)) fun _ _ h' => h')))) fun _ _ h' => h'))
end

theorem isStrOf_self (prog : Program) (w : World) (x : PySem.Str) (t : Tok) : (_root_.PySem.strKind prog w).is x (.str x t) = true := by
  show PySem.Value.isStrOf x (.str x t) = true
  simp [PySem.Value.isStrOf]

/-- how many unlike ones stand among the first of a row -/
def dcUpto (g : Nat → List Nat) : Nat → Nat
  | 0 => 0
  | i + 1 => dcUpto g i + (if ∃ j, j < i ∧ g j = g i then 0 else 1)
theorem dcUpto_le (g : Nat → List Nat) : ∀ i, dcUpto g i ≤ i
  | 0 => Nat.le_refl _
  | i + 1 => by
    have := dcUpto_le g i
    show dcUpto g i + (if ∃ j, j < i ∧ g j = g i then 0 else 1) ≤ i + 1
    split <;> omega

abbrev SK (c : Cx) := _root_.PySem.strKind P0 c.w
/-- a set of k texts -/
def SetAt (c : Cx) (D : Addr) (g : Nat → List Nat) (k : Nat) (h : Heap) : Prop :=
  ∃ S : PySem.Str → Bool, h.SetOf (SK c) D S (dcUpto g k) ∧ ∀ y : List Nat, S ⟨y.toArray⟩ = true ↔ ∃ j, j < k ∧ g j = y
theorem SetAt.keep {c : Cx} {D : Addr} {g : Nat → List Nat} {k : Nat} {h h' : Heap} (x : SetAt c D g k h) (hk : ∀ o, h.get? D = some o → h'.get? D = some o) : SetAt c D g k h' := by
  obtain ⟨S, ⟨o, es, ep, t, ho, r⟩, hS⟩ := x
  exact ⟨S, ⟨o, es, ep, t, hk o ho, r⟩, hS⟩
theorem SetAt.obj {c : Cx} {D : Addr} {g : Nat → List Nat} {k : Nat} {h : Heap} (x : SetAt c D g k h) : ∃ o, h.get? D = some o ∧ (∀ vs, o.data ≠ .fields vs) ∧ Odd o := by
  obtain ⟨S, ⟨o, es, ep, t, ho, _, hd, _⟩, _⟩ := x
  refine ⟨o, ho, ?_, ?_⟩
  · rw [hd]; intro vs q; cases q
  · unfold Odd; rw [hd]; intro _ _ q; cases q

section
variable {c : Cx} {n : Nat} {env : Env} {V W : List Addr} {Γ Γ' Δ : List (PySem.Str × PV)}

theorem comp_coreS {elt iter : Expr} {x : PySem.Str} {px pos : Pos} {scope : Scope} {cl : List (PySem.Str × Addr)} {us : List PV} {Γc : List (PySem.Str × PV)} {g : Nat → List Nat} {A : Around} {s s₂ : Shared} {it : Value} {E : Value → Shared → Prop} {RR : Value → Addr → Result → Shared → Prop}
    (hA : Room A n) (F₂ : FS c env V Γ s₂) (st₂ : Step [56] s s₂) (src : Source c V it us s s₂)
    (hcl : ∀ y a, (y, a) ∈ cl → env.cells.lookup y = some a) (hcell : ∀ y ∈ scope.names, y.2 ≠ .cell) (hkind : scope.kind = .function) (hmt : ∀ C y, (compEnvC scope cl C env).kindOf y = some .cell → (cl.lookup y).isSome = true)
    (hx : ∀ C, (compEnvC scope cl C env).kindOf x = some .local) (hcap : ∀ C, Cap env (compEnvC scope cl C env) Γ Γc) (hxc : Γc.lookup x = none) (hus : us.length ≤ 1000)
    (he : ∀ C V' i u, us[i]? = some u → Ev c n (compEnvC scope cl C env) V' ((x, u) :: Γc) elt (.str (g i)))
    (hRR : ∀ D C s' m, s.heap.get? D = none → s'.heap.Ns C m → C ∉ V → s.heap.get? C = none → C ≠ D → ¬ GIdom c C → SetAt c D g us.length s'.heap → D ∉ V → Step [56] s s' → FS c env V Γ s' → RR (.ref D) C (.ok .next) s') :
    wpAny c.M A (newSet (.type "set")) (fun acc s₃ => wpAny c.M A (newFunctionEnv scope env.globals cl [] env.qual none .none (some env)) (fun cenv s₄ => codeAny c.M A (.compStart (.SetComp elt [⟨.Name x px, iter, [], 0⟩] scope pos) 0 it acc { cenv with scope := relabel scope env }) (RR acc cenv.locals) s₄) E s₃) E s₂ := by
  obtain ⟨I, fp, wr, P, T, rfl, hW, hT, hP, hfp, hwr, hodd⟩ := src
  have W := hW A hA.1
  refine wpAny_newSet_of (knd := SK c) fun led hset0 => ?_
  refine wpAny_newFunctionEnv hcell (by intro y hy; simp at hy) (fun h₁ hns₁ hsb₁ => ?_) hkind
  dsimp only at hns₁ hsb₁ ⊢
  generalize hH2 : s₂.heap.push { cls := .type "set", dict := none, data := .set #[] 0 (.fresh 0 0 led) } = H2 at hns₁ hsb₁ hset0 ⊢
  generalize hDe : s₂.heap.objs.size = D at hset0
  have hC2 : H2.objs.size = D + 1 := by rw [← hH2, Heap.size_push, hDe]
  have hCD : D + 1 ≠ D := Nat.succ_ne_self D
  rw [hC2] at hns₁ hsb₁ ⊢
  have gD : s₂.heap.get? D = none := by rw [← hDe]; exact push_fresh
  have gC : s₂.heap.get? (D + 1) = none := by
    cases e : s₂.heap.get? (D + 1) with
    | none => rfl
    | some o => exact absurd (get_lt e) (by rw [hDe]; exact Nat.not_lt.mpr (Nat.le_succ D))
  have ltD : ∀ {b o}, s₂.heap.get? b = some o → b < D := fun e => by rw [← hDe]; exact get_lt e
  have old2 : ∀ b o, s₂.heap.get? b = some o → H2.get? b = some o := fun b o e => by rw [← hH2]; exact Heap.get?_push_of_some _ e
  have old : ∀ b o, s₂.heap.get? b = some o → h₁.get? b = some o := fun b o e => hsb₁.extBut b o (Nat.ne_of_lt (Nat.lt_succ_of_lt (ltD e))) (Heap.get?_push_of_some _ (old2 b o e))
  have oldD : SetAt c D g 0 h₁ := by
    have h0 : SetAt c D g 0 H2 := ⟨fun _ => false, hset0, fun y => by simp⟩
    exact h0.keep fun o e => hsb₁.extBut _ _ (Ne.symm hCD) (Heap.get?_push_of_some _ e)
  have hDfp : D ∉ fp := fun hm => by have := (hfp _ hm).2; rw [hDe] at this; exact Nat.lt_irrefl _ this
  have hCfp : D + 1 ∉ fp := fun hm => by have := (hfp _ hm).2; rw [hDe] at this; exact absurd this (Nat.not_lt.mpr (Nat.le_succ D))
  have hDwr : D ∉ wr := fun hm => hDfp (W.sub _ hm)
  have hCwr : D + 1 ∉ wr := fun hm => hCfp (W.sub _ hm)
  have hDV : D ∉ V := F₂.notIn gD
  have hCV : D + 1 ∉ V := F₂.notIn gC
  have hDg : ¬ GIdom c D := F₂.gi.fresh gD
  have hCg : ¬ GIdom c (D + 1) := F₂.gi.fresh gC
  have hwrV : ∀ a ∈ wr, a ∉ V := fun a ha => (hfp a (W.sub a ha)).1
  have hnsC : h₁.Ns (D + 1) fun _ => none := by
    have e : (fun y : PySem.Str => ([] : List (PySem.Str × Value)).reverse.lookup y) = fun _ => none := by funext y; rfl
    rw [← e]; exact hns₁
  have lam : compEnvC scope cl (D + 1) env = { newEnv scope (D + 1) env.globals cl env.qual none .none (some env) builtinsNs with scope := relabel scope env } := rfl
  generalize hs₃ : ({ s₂ with heap := h₁, toks := s₂.toks + ([] : List (PySem.Str × Value)).length } : Shared) = s₃
  have F₃ : FS c (compEnvC scope cl (D + 1) env) ([D, D + 1] ++ V) Γc s₃ := by
    subst hs₃
    refine FS.comp F₂ old rfl gC hnsC (fun a ha => ?_) (fun a ha => ?_) (by simp) hcl hcell (hmt _) (hcap _)
    · rcases List.mem_cons.mp ha with rfl | ha
      · obtain ⟨o, e, _⟩ := oldD.obj; exact ⟨o, e⟩
      · rw [List.mem_singleton.mp ha]; obtain ⟨o, _, _, e, _⟩ := hnsC; exact ⟨o, e⟩
    · rcases List.mem_cons.mp ha with rfl | ha
      · exact gD
      · rw [List.mem_singleton.mp ha]; exact gC
  have T₃ : T 0 s₃.heap := by subst hs₃; exact W.frame _ _ _ hT fun b _ o e => old b o e
  have keep₃ : ∀ b o, s₂.heap.get? b = some o → s₃.heap.get? b = some o := by subst hs₃; exact old
  have bare₃ : GensOk s₂.gens s₃.gens := by subst hs₃; exact .refl
  have dr₃ : s₃.drawn = s₂.drawn := by subst hs₃; rfl
  have os₃ : s₃.os = s₂.os := by subst hs₃; rfl
  have D₃ : SetAt c D g 0 s₃.heap := by subst hs₃; exact oldD
  generalize hce : compEnvC scope cl (D + 1) env = cenv at F₃
  have hcL : cenv.locals = D + 1 := by rw [← hce]; rfl
  have hcC : cenv.cells = cl := by rw [← hce]; rfl
  have hxk : cenv.kindOf x = some .local := by rw [← hce]; exact hx _
  have hck : cenv.scope.kind = .function := by rw [← hce]; exact hkind
  have he' : ∀ V' i u, us[i]? = some u → Ev c n cenv V' ((x, u) :: Γc) elt (.str (g i)) := by rw [← hce]; exact he _
  have hDcl : ∀ y, (y, D) ∉ cenv.cells := fun y hm => hDV (F₂.vC y D (mem_of_lookup (hcl y D (hcC ▸ hm))))
  have n59D : D ≠ 56 := fun q => hDV (q ▸ F₂.v59)
  -- the loop
  have loop : codeAny c.M A (.compLoop (.SetComp elt [⟨.Name x px, iter, [], 0⟩] scope pos) 0 (.ref I) (.ref D) cenv) (RR (.ref D) (D + 1)) s₃ := by
    refine codeAny_compLoop_set (fun m s₁ => ∃ i, i ≤ us.length ∧ m = us.length + 1 - i ∧ T i s₁.heap ∧ SetAt c D g i s₁.heap ∧ FS c cenv ([D, D + 1] ++ V) Γc s₁ ∧ Step (56 :: D :: (D + 1) :: wr) s₃ s₁) (fun m s₁ hI => ?_) (us.length + 1)
      ⟨0, Nat.zero_le _, rfl, T₃, D₃, F₃, .refl⟩
    obtain ⟨i, hi, rfl, hTi, hD₁, F₁, st₁⟩ := hI
    have offW : Off c ([D, D + 1] ++ V) s₁ wr := fun a ha => .inr ⟨fun hm => (by
      rcases List.mem_append.mp hm with hm | hm
      · rcases List.mem_cons.mp hm with rfl | hm
        · exact hDwr ha
        · rw [List.mem_singleton.mp hm] at ha; exact hCwr ha
      · exact hwrV a ha hm), (hwr a ha).1, hodd i _ hTi a ha⟩
    by_cases hlt : i < us.length
    · obtain ⟨p, hp⟩ : ∃ p, us[i]? = some p := ⟨us[i], List.getElem?_eq_getElem hlt⟩
      refine W.item i s₁ _ _ hlt hTi fun v h' tk hPv hT' hk => ?_
      have stn : Step wr s₁ { s₁ with heap := h', toks := tk } := ⟨fun a o ha e => hk a o ha e, tab_of_keep (fun a ha => (hwr a ha).1) hk, .refl, rfl, rfl⟩
      have F' := F₁.off stn offW
      have rv : Rep ([D, D + 1] ++ V) h' p v := by
        have r0 := hP i p v hp hPv
        have r1 : Rep ([D, D + 1] ++ V) s₁.heap p v := by
          refine r0.monoS fun a Tn items m hTn ha e => ⟨fun hm => ?_, st₁.keep a _ (fun hm => ?_) (keep₃ _ _ e)⟩
          · rcases List.mem_append.mp hm with hm | hm
            · rcases List.mem_cons.mp hm with rfl | hm
              · rw [gD] at e; cases e
              · rw [List.mem_singleton.mp hm, gC] at e; cases e
            · exact ha hm
          · rcases List.mem_cons.mp hm with rfl | hm
            · exact ha F₂.v59
            · rcases List.mem_cons.mp hm with rfl | hm
              · rw [gD] at e; cases e
              · rcases List.mem_cons.mp hm with rfl | hm
                · rw [gC] at e; cases e
                · exact hodd 0 _ hT a hm _ e _ _ rfl
        exact r1.off stn F₁.v59 offW
      have hD' : SetAt c D g i h' := hD₁.keep fun o e => hk _ _ hDwr e
      refine wpAny_assign_Name (store_local1 F' hck hxk rv fun s₂' st₂' F₂' => ?_)
      have stAll : Step (56 :: D :: (D + 1) :: wr) s₃ s₂' := st₁.trans ((stn.wide fun a ha => .tail _ (.tail _ (.tail _ ha))).trans (st₂'.wide fun a ha => by rw [List.mem_singleton.mp ha, hcL]; simp))
      have k23 : ∀ {a o}, a ≠ D + 1 → h'.get? a = some o → s₂'.heap.get? a = some o := fun {a o} h1 e => st₂'.keep a o (by rw [hcL]; simpa using h1) e
      have hD₃ : SetAt c D g i s₂'.heap := hD'.keep fun o e => k23 (Ne.symm hCD) e
      have hT₃ : T (i + 1) s₂'.heap := W.frame _ _ _ hT' fun b hb o e => k23 (fun q => hCfp (q ▸ hb)) e
      have subx : Sub Γc ((x, p) :: Γc) := fun y q e => by
        rw [List.lookup_cons]
        by_cases hy : y = x
        · subst hy; rw [hxc] at e; cases e
        · rw [beq_eq_false_iff_ne.mpr hy]; exact e
      refine he' _ i p hp A hA s₂' _ _ F₂' fun y s₄ st₄ ry => ?_
      obtain ⟨ty, rfl⟩ := of_str ry
      have hD₄ : SetAt c D g i s₄.heap := hD₃.keep fun o e => st₄.keep _ _ (by simpa using n59D) e
      obtain ⟨S, hset, hS⟩ := id hD₄
      have hkey : (SK c).is ⟨(g i).toArray⟩ (.str ⟨(g i).toArray⟩ ty) = true := by
        exact isStrOf_self _ _ _ _
      have hb4 : dcUpto g i + 1 < scanBound := by
        have := dcUpto_le g i
        have e : scanBound = 4096 := rfl
        omega
      refine call_set_add (k := (⟨(g i).toArray⟩ : PySem.Str)) hkey (by rfl) hset hb4 fun h₅ hs₅ hset₅ => ?_
      have hD₅ : SetAt c D g (i + 1) h₅ := by
        have e1 : dcUpto g (i + 1) = if S ⟨(g i).toArray⟩ = true then dcUpto g i else dcUpto g i + 1 := by
          show dcUpto g i + (if ∃ j, j < i ∧ g j = g i then 0 else 1) = _
          by_cases q : ∃ j, j < i ∧ g j = g i
          · rw [if_pos q, if_pos ((hS (g i)).mpr q), Nat.add_zero]
          · rw [if_neg q, if_neg (fun q' => q ((hS (g i)).mp q'))]
        refine ⟨_, e1 ▸ hset₅, fun y => ?_⟩
        show (S ⟨y.toArray⟩ || decide ((⟨y.toArray⟩ : PySem.Str) = ⟨(g i).toArray⟩)) = true ↔ _
        rw [Bool.or_eq_true, hS y, decide_eq_true_eq]
        constructor
        · rintro (⟨j, hj, e⟩ | e)
          · exact ⟨j, by omega, e⟩
          · exact ⟨i, by omega, (str_inj e).symm⟩
        · rintro ⟨j, hj, e⟩
          by_cases q : j = i
          · subst q; right; rw [e]
          · left; exact ⟨j, by omega, e⟩
      have F₄ := F₂'.step st₄
      obtain ⟨o4, e4, hf4, _⟩ := hD₄.obj
      obtain ⟨o5, e5, _, _⟩ := hD₅.obj
      have F₅ := F₄.other (h' := h₅) (tk := s₄.toks + 1) (by simp) hDg (by rw [hcL]; exact Ne.symm hCD) hDcl hs₅ e4 hf4 e5
      have st₅ : Step [D] s₄ { s₄ with heap := h₅, toks := s₄.toks + 1 } := step_turn hs₅ e4 hf4 e5 (.head _)
      refine ⟨us.length + 1 - (i + 1), by omega, i + 1, hlt, rfl, ?_, hD₅, F₅.sub subx, stAll.trans ((st₄.wide fun a ha => by rw [List.mem_singleton.mp ha]; simp).trans (st₅.wide fun a ha => by rw [List.mem_singleton.mp ha]; simp))⟩
      exact W.frame _ _ _ hT₃ fun b hb o e => st₅.keep b o (by simpa using fun q : b = D => hDfp (q ▸ hb)) (st₄.keep b o (by simpa using fun q : b = 56 => (hfp b hb).1 (q ▸ F₂.v59)) e)
    · have hie : i = us.length := by omega
      subst hie
      refine W.done s₁ _ _ hTi fun h' tk hk => ?_
      have stn : Step wr s₁ { s₁ with heap := h', toks := tk } := ⟨fun a o ha e => hk a o ha e, tab_of_keep (fun a ha => (hwr a ha).1) hk, .refl, rfl, rfl⟩
      have F' := F₁.off stn offW
      have stA : Step (56 :: D :: (D + 1) :: wr) s₂ { s₁ with heap := h', toks := tk } := by
        refine Step.trans (s' := s₃) ⟨fun a o _ e => keep₃ a o e, ?_, bare₃, dr₃, os₃⟩ (st₁.trans (stn.wide fun a ha => .tail _ (.tail _ (.tail _ ha))))
        exact Tab.keeps keep₃
      have offA : Off c V s₂ (56 :: D :: (D + 1) :: wr) := by
        intro a ha
        rcases List.mem_cons.mp ha with rfl | ha
        · exact .inl rfl
        · rcases List.mem_cons.mp ha with rfl | ha
          · exact .inr ⟨hDV, hDg, fun o e => by rw [gD] at e; cases e⟩
          · rcases List.mem_cons.mp ha with rfl | ha
            · exact .inr ⟨hCV, hCg, fun o e => by rw [gC] at e; cases e⟩
            · exact .inr ⟨hwrV a ha, (hwr a ha).1, hodd 0 _ hT a ha⟩
      have gsD : s.heap.get? D = none := fresh_since F₂.toGS st₂ gD
      have gsC : s.heap.get? (D + 1) = none := fresh_since F₂.toGS st₂ gC
      obtain ⟨m, hnm, _⟩ := F'.loc
      rw [hcL] at hnm
      refine hRR D (D + 1) _ m gsD hnm hCV gsC hCD hCg (hD₁.keep fun o e => hk _ _ hDwr e) hDV ?_ (F₂.off stA offA)
      have stS : Step (56 :: D :: (D + 1) :: wr) s { s₁ with heap := h', toks := tk } := (st₂.wide fun a ha => by rw [List.mem_singleton.mp ha]; simp).trans stA
      refine ⟨fun a o ha e => stS.keep a o (fun hm => ?_) e, stS.tab, stS.bare, stS.drawn, stS.os⟩
      rcases List.mem_cons.mp hm with rfl | hm
      · exact ha (.head _)
      · rcases List.mem_cons.mp hm with rfl | hm
        · rw [gsD] at e; cases e
        · rcases List.mem_cons.mp hm with rfl | hm
          · rw [gsC] at e; cases e
          · rw [(hwr a hm).2] at e; cases e
  show codeAny c.M A (.compStart (.SetComp elt [⟨.Name x px, iter, [], 0⟩] scope pos) 0 (.ref I) (.ref D) (compEnvC scope cl (D + 1) env)) (RR (.ref D) (D + 1)) s₃
  rw [hce]
  exact codeAny_compStart_set loop (W.self 0 _ _ _ T₃ loop)
end
end

section
open PySem PySem.W PySem.Spec PySem.Calls PyProof.Rows
set_option linter.unusedVariables false
set_option maxRecDepth 100000
set_option maxHeartbeats 1000000
section
variable {c : Cx} {n : Nat} {env : Env} {V W : List Addr} {Γ Γ' Δ : List (PySem.Str × PV)}

theorem assign_set {elt iter : Expr} {x : PySem.Str} {px pos pos' apos : Pos} {z : PySem.Str} {scope : Scope} {cl : List (PySem.Str × Addr)} {us : List PV} {Γc : List (PySem.Str × PV)} {g : Nat → List Nat}
    (hi : EvI c n env V Γ iter us) (hok : CompOK env scope cl x Γ Γc) (hus : us.length ≤ 1000)
    (he : ∀ C V' i u, us[i]? = some u → Ev c n (compEnvC scope cl C env) V' ((x, u) :: Γc) elt (.str (g i)))
    (hf : env.scope.kind = .function) (hl : env.kindOf z = some .local) (hw : swapsWith (.SetComp elt [⟨.Name x px, iter, [], 0⟩] scope pos) (some (.Name z pos')) apos.line env = pure true)
    (hs : ∀ v, foldedSetIterable iter env v = pure v := by intro _; rfl) {A : Around} (hA : Room A n) {s : Shared} {Q : Flow → Shared → Prop} {E : Value → Shared → Prop} (F : FS c env V Γ s)
    (k : ∀ D s', Step (own env) s s' → D ∉ V → FS c env V ((z, .fn (.ref D)) :: Γ) s' → SetAt c D g us.length s'.heap → Q .next s') :
    wpAny c.M A (exec (.Assign [.Name z pos'] (.SetComp elt [⟨.Name x px, iter, [], 0⟩] scope pos) apos) env) Q E s := by
  rw [exec_Assign_Name_used _ _ _ _ hw]
  refine wpAny_bind (wpAny_standAt (wpAny_bind ?_))
  show wpAny c.M A (do let _ ← comprehension (.SetComp elt [⟨.Name x px, iter, [], 0⟩] scope pos) scope env _ (newSet (.type "set")) false (eval iter env) (some (PySem.assign (.Name z pos') env))) _ _ s
  refine wpAny_bind (wpAny_mono (wpAny_comprehension_free (use := some (PySem.assign (.Name z pos') env)) (Q := fun _ s' => Q .next s') rfl hs hok.clos hok.kind hok.names (hi A hA s _ E F fun it s₂ st₂ src => ?_)) (fun _ s' hq => wpAny_pure (wpAny_pure hq)) fun _ _ e => e)
  refine comp_coreS hA (F.step st₂) st₂ src hok.sub hok.cell hok.kind hok.mt hok.tgt hok.cap hok.xc hus he ?_
  intro D C s' m hgD hns hCV hgC hCD hCg hD hDV st F'
  show wpAny c.M A (PySem.assign (.Name z pos') env (.ref D)) _ _ s'
  have hrep : Rep V s'.heap (.fn (.ref D)) (.ref D) := by rw [Rep]
  have hCL : C ≠ env.locals := fun q => hCV (q ▸ F.vL)
  refine wpAny_assign_Name (store_local1 F' hf hl hrep fun s₃ st₃ F₃ => ⟨m, ?_, fun h' hs' => ?_⟩)
  · obtain ⟨o, es, ep, e, r⟩ := hns
    exact ⟨o, es, ep, st₃.keep C o (by simpa using hCL) e, r⟩
  · obtain ⟨oC, es, ep, eC, hdC, _⟩ := id hns
    have eC₃ : s₃.heap.get? C = some oC := st₃.keep C oC (by simpa using hCL) eC
    have st4 : Step [C] s₃ { s₃ with heap := h' } := ⟨fun a o ha e => (hs'.2 a (by simpa using ha)).trans e, fun t => t.sameBut hs' eC₃ (by simp [hdC]), .refl, rfl, rfl⟩
    have hoff : Off c V s₃ [C] := fun a ha => by
      rw [List.mem_singleton.mp ha]
      refine .inr ⟨hCV, hCg, fun o e => ?_⟩
      rw [eC₃] at e; cases e
      unfold Odd
      rw [hdC]
      exact fun _ _ q => by cases q
    have hDL : D ≠ env.locals := fun q => hDV (q ▸ F.vL)
    refine k D _ ?_ hDV (F₃.off st4 hoff) (hD.keep fun o e => st4.keep _ _ (by simpa using fun q : D = C => hCD q.symm) (st₃.keep _ _ (by simpa using hDL) e))
    have stA : Step (C :: own env) s { s₃ with heap := h' } := (st.wide fun a ha => .tail _ (wOwn a ha)).trans ((st₃.wide fun a ha => by rw [List.mem_singleton.mp ha]; unfold own; simp).trans (st4.wide fun a ha => by rw [List.mem_singleton.mp ha]; simp))
    refine ⟨fun a o ha e => stA.keep a o (fun hm => ?_) e, stA.tab, stA.bare, stA.drawn, stA.os⟩
    rcases List.mem_cons.mp hm with rfl | hm
    · rw [hgC] at e; cases e
    · exact ha hm

theorem len_setAt {D : Addr} {g : Nat → List Nat} {k : Nat} {A : Around} {s : Shared} {Q : Value → Shared → Prop} {E : Value → Shared → Prop} (h : SetAt c D g k s.heap) (hk : k ≤ 1000) (hq : ∀ t s', Step [56] s s' → Q (.int (dcUpto g k) t) s') :
    wpAny c.M A (PySem.call (.builtin "len") [.ref D]) Q E s := by
  obtain ⟨S, ⟨o, es, ep, t, ho, hex, hd, _, _, _, hfit, hsz⟩, _⟩ := h
  have := dcUpto_le g k
  refine call_len_set ho hex hd hfit (by rw [hsz]; omega) ?_
  rw [hsz]
  exact hq _ _ (.of_keep fun _ _ e => e)

theorem call1_at {x : PySem.Str} {np pos : Pos} {e : Expr} {f : Value} {pe : PV} (hf : Ev c n env V Γ (.Name x np) (.fn f)) (hc : Callee c f) (he : Ev c n env V Γ e pe) (hp : plainE e = true) {A : Around} (hA : Room A n) {s : Shared} {Q : Value → Shared → Prop} {E : Value → Shared → Prop} (F : FS c env V Γ s)
    (k : ∀ v s', Step [56] s s' → FS c env V Γ s' → Rep V s'.heap pe v → wpAny c.M A (PySem.call f [v] []) Q E s') : wpAny c.M A (eval (.Call (.Name x np) [e] [] pos) env) Q E s := by
  refine wpAny_Call_ofName (hf.bind hA F fun fv s₁ st₁ F₁ r₁ => ?_)
  rw [of_fn r₁]
  refine hc (EvL.cons he .nil hp).plain ?_
  have fin := (EvL.cons he .nil hp).bind (pos := pos) (E := E) (Q := fun vs s₂ => c.K.In s₂.heap ∧ wpAny c.M A (PySem.call f ([] ++ vs) []) Q E s₂) hA F₁ (fun vs s₂ st₂ F₂ r₂ => ?_)
  · rw [starEach_plain hp, backTo_plain] at fin ⊢; exact evalArgs_plain fin
  · obtain ⟨v, rfl, rv⟩ := r₂.one
    exact ⟨F₂.gi.k, k v s₂ (st₁.trans st₂) F₂ rv⟩

theorem Ex.setLen {elt iter rhs : Expr} {x : PySem.Str} {px pos pos' apos lp zp cp tp ip : Pos} {z : PySem.Str} {body rest : List Stmt} {scope : Scope} {cl : List (PySem.Str × Addr)} {us : List PV} {Γc : List (PySem.Str × PV)} {o : Out} (g : Nat → List Nat) (rv : Int)
    (hi : EvI c n env V Γ iter us) (hok : CompOK env scope cl x Γ Γc) (hus : us.length ≤ 1000)
    (he : ∀ C V' i u, us[i]? = some u → Ev c n (compEnvC scope cl C env) V' ((x, u) :: Γc) elt (.str (g i)))
    (hf : env.scope.kind = .function) (hl : env.kindOf z = some .local) (hw : swapsWith (.SetComp elt [⟨.Name x px, iter, [], 0⟩] scope pos) (some (.Name z pos')) apos.line env = pure true)
    (hz : Γ.lookup z = none) (hd : (z == (Str.ofString "__debug__")) = false) (hlen : ∀ p, Ev c n env V ((z, p) :: Γ) (.Name (Str.ofString "len") lp) (.fn (.builtin "len")))
    (hr : ∀ p, Ev c n env V ((z, p) :: Γ) rhs (.int rv)) (heq : rv = dcUpto g us.length) (hrest : Ex c n env V Γ rest o)
    (hs : ∀ v, foldedSetIterable iter env v = pure v := by intro _; rfl) (hb : behindInMarks .NotEq rhs = false := by rfl) :
    Ex c n env V Γ (.Assign [.Name z pos'] (.SetComp elt [⟨.Name x px, iter, [], 0⟩] scope pos) apos :: .If (.Compare (.Call (.Name (Str.ofString "len") lp) [.Name z zp] [] cp) [.NotEq] [rhs] tp) body [] ip :: rest) o := by
  intro A hA s Q E F k
  refine wpAny_execs_cons (assign_set hi hok hus he hf hl hw hs hA F fun D s₁ st₁ hDV F₁ hD₁ => ?_)
  have n59D : D ≠ 56 := fun q => hDV (q ▸ F.v59)
  refine wpAny_execs_cons (wpAny_If (wpAny_isTrue_Compare1 ?_ hb))
  refine call1_at (hlen _) Callee.builtin (Ev.local (p := .fn (.ref D)) (by rw [List.lookup_cons, beq_self_eq_true]) hf hl hd) rfl hA F₁ fun v s₂ st₂ F₂ r₂ => ?_
  rw [of_fn r₂]
  refine len_setAt (hD₁.keep fun o e => st₂.keep _ _ (by simpa using n59D) e) hus fun t s₃ st₃ => ?_
  refine (hr _).bind hA (F₂.step st₃) fun y s₄ st₄ F₄ r₄ => ?_
  obtain ⟨u, rfl⟩ := of_int r₄
  refine ne_int ?_
  rw [heq, show ((dcUpto g us.length : Int) != (dcUpto g us.length : Int)) = false by simp]
  refine wpAny_truthy_bool ?_
  rw [if_neg (by simp)]
  refine wpAny_execs_nil ?_
  have sub : Sub Γ ((z, .fn (.ref D)) :: Γ) := fun y q e => by
    rw [List.lookup_cons]
    by_cases hy : y = z
    · subst hy; rw [hz] at e; cases e
    · rw [beq_eq_false_iff_ne.mpr hy]; exact e
  exact hrest A hA s₄ Q E (F₄.sub sub) fun f s' st ho => k f s' (st₁.trans (((st₂.trans (st₃.trans st₄)).wide wOwn).trans st)) ho
end
end

section
open PySem PySem.W PySem.Spec PySem.Calls PyProof.Rows
set_option linter.unusedVariables false
set_option maxRecDepth 100000
set_option maxHeartbeats 1000000
section
variable {c : Cx} {n : Nat} {env : Env} {V W : List Addr} {Γ Γ' Δ : List (PySem.Str × PV)}
theorem OEx.nilE {a : Addr} {us us' : List PV} (e : us = us') : OEx c n env V a Γ us [] Γ us' := e ▸ OEx.nil
/-- f(*list) -/
theorem Ev.callStar {x : PySem.Str} {np pos p : Pos} {e : Expr} {f : Value} {us : List PV} {r : PV} (hf : Ev c n env V Γ (.Name x np) (.fn f)) (hk : keepIn c.K f = true) (he : Ev c n env V Γ e (.list us)) (hl : us.length ≤ 1000) (hcall : Calls c n f us r)
    (hst : starEach [.Starred e p] env = [(true, eval e env)] := by rfl) :
    Ev c n env V Γ (.Call (.Name x np) [.Starred e p] [] pos) r := by
  intro A hA s Q E F k
  refine wpAny_Call_ofName (hf.bind hA F fun fv s₁ st₁ F₁ r₁ => ?_)
  rw [of_fn r₁]
  refine callWith_S (h₀ := s₁.heap) F₁.gi.k hk (he.bind hA F₁ fun v s₂ st₂ F₂ r₂ => ?_) hst
  obtain ⟨a, items, m, rfl, ha, ho, hr⟩ := of_list r₂
  have hT : s₂.TypeIs (.ref a) "list" := ⟨_, ho, rfl⟩
  have z : wpAny c.M A (collect (.ref a)) (fun vs s₃ => c.K.In s₃.heap ∧ wpAny c.M A (PySem.call f ([] ++ vs)) Q E s₃) E s₂ := by
    have hle : items.toArray.size ≤ sizeLine := by rw [List.size_toArray, hr.length, sizeLine_eq]; omega
    refine wpAny_collect_seq a (.inl rfl) ho rfl rfl (fun h' hk' => ?_) hle
    have st3 : Step [56] s₂ { s₂ with heap := h' } := .of_keep hk'
    have F₃ := F₂.step st3
    refine ⟨F₃.gi.k, ?_⟩
    exact hcall A hA V _ _ Q E F₃.toGS (by simpa using hr.step st3 (w59 F.v59)) fun x s' st r => k x s' (st₁.trans (st₂.trans (st3.trans st))) r
  unfold StarOf notIterableAtAll
  exact wpAny_bind (wpAny_specialOf hT PySem.F.slot_list_iter.lookup (wpAny_pure ⟨rfl, z⟩))
end
end

section
open PySem PySem.W PySem.Spec PySem.Calls PyProof.Rows
set_option linter.unusedVariables false
set_option maxRecDepth 100000
set_option maxHeartbeats 2000000
/-- the cells, after so many of the script's numbers -/
def cellAt (xs : List Int) : Nat → List Int
  | 0 => [4, 6, 4, 4, 0, 1, 2, 0]
  | i + 1 => (cellAt xs i).set (i % 8) ((cellAt xs i).getD (i % 8) 0 + xs.getD i 0)
theorem cellAt_len (xs : List Int) : ∀ i, (cellAt xs i).length = 8
  | 0 => rfl
  | i + 1 => by show ((cellAt xs i).set _ _).length = 8; rw [List.length_set, cellAt_len xs i]
theorem law_cells (c : Cx) (xs : List Int) (hx : xs.length ≤ 1000) : Calls c 1 (.ref 97) [.list (xs.map .int)] (.list ((cellAt xs xs.length).map .int)) := by
  refine Calls.def (n := 0) (names := [Str.ofString "script"]) (ho := rfl) (hcd := by kernel_rfl) (hbody := rfl) (hbind := all1 fun _ => rfl) (hclo := rfl) (hnames := by decide) (hkind := by rfl) (hcn := by decide) (hfree := by rfl) (hb := ?_)
  intro L V
  have eU : (xs.map PV.int).length = xs.length := by simp
  refine Ex.owned (us := [4, 6, 4, 4, 0, 1, 2, 0].map .int) (us' := (cellAt xs (xs.map PV.int).length).map .int) (Γ' := [(Str.ofString "script", .list (xs.map .int))]) (EvFresh.lst (.cons Ev.int (.cons Ev.int (.cons Ev.int (.cons Ev.int (.cons Ev.int (.cons Ev.int (.cons Ev.int (.cons Ev.int .nil)))))))) (by decide)) rfl (.inl rfl) (fun a => ?_) ?_
  · refine OSt.forEnum (rs := xs.map .int) (fun _ => [(Str.ofString "cells", .fn (.ref a)), (Str.ofString "script", .list (xs.map .int))]) (fun i => (cellAt xs i).map .int) (EvE.list ?_ ?_ (fun p hp => ?_)) Sub.refl rfl rfl rfl rfl (fun i p hp => ?_)
    · walk_at "mine atom"
    · walk_at "mine atom"
    · obtain ⟨i, _, rfl⟩ := List.mem_map.mp hp; trivial
    · have hi : i < xs.length := by
        have := (List.getElem?_eq_some_iff.mp hp).1
        rwa [List.length_map] at this
      have hp' : p = .int (xs.getD i 0) := by
        simp [hi] at hp
        simp [hi, hp]
      subst hp'
      have h8 := cellAt_len xs i
      refine OEx.weak (OEx.cons (OSt.augItem (j := i % 8) (p0 := .int ((cellAt xs i).getD (i % 8) 0)) (pe := .int (xs.getD i 0)) (p := .int ((cellAt xs i).getD (i % 8) 0 + xs.getD i 0)) ?_ (Ev.castI (Ev.bin (pa := .int (i : Nat)) (pb := .int 8) ?_ ?_ (BinF.mod (by decide))) (by exact (Int.ofNat_fmod i 8).symm)) ?_ ?_ (by omega) IncF.add) (OEx.nilE ?_)) (.cons rfl (.cons rfl .nil))
      · walk_at "mine atom"
      · walk_at "mine atom"
      · walk_at "mine atom"
      · walk_at "mine atom"
      · have : i % 8 < 8 := Nat.mod_lt _ (by decide)
        simp [h8, this]
      · show _ = ((cellAt xs i).set (i % 8) _).map PV.int
        rw [List.map_set]
  · rw [eU]
    refine Ex.ret (St.ret ?_)
    walk_at "mine atom"
end

section
open PySem PySem.W PySem.Spec PySem.Calls PyProof.Rows
set_option linter.unusedVariables false
set_option maxRecDepth 100000
set_option maxHeartbeats 2000000
section
variable {c : Cx} {n : Nat} {env : Env} {V : List Addr} {Γ : List (PySem.Str × PV)}
theorem Ev.rep1 {e1 e2 : Expr} {pos : Pos} {ch k : Nat} (h1 : Ev c n env V Γ e1 (.str [ch])) (h2 : Ev c n env V Γ e2 (.int k)) (hk : k ≤ 1000) : Ev c n env V Γ (.BinOp e1 .Mult e2 pos) (.str (List.replicate k ch)) :=
  Ev.castS (Ev.bin h1 h2 (BinF.rep (by simp) hk)) (by simp)
end
theorem q45 : (Str.ofString "-").cps.toList = [45] := by decide +kernel
theorem q33 : (Str.ofString "!").cps.toList = [33] := by decide +kernel
theorem q32 : (Str.ofString " ").cps.toList = [32] := by decide +kernel
theorem q0 : (Str.ofString "").cps.toList = [] := by decide +kernel

/-- a line: the lead, an end of the text, the marks, the tail -/
def mkLine (lead tail : Nat) (e : List Nat) : List Nat := List.replicate lead 45 ++ e ++ List.replicate 70 33 ++ bl tail
def midF (lead : Nat) (e : List Nat) : List Nat := List.replicate lead 45 ++ e ++ List.replicate 70 33
theorem mkLine_eq (lead tail : Nat) (e : List Nat) : mkLine lead tail e = midF lead e ++ bl tail := rfl
theorem midF_len (lead : Nat) (e : List Nat) : (midF lead e).length = lead + e.length + 70 := by simp [midF]; omega
theorem mkLine_len (lead tail : Nat) (e : List Nat) : (mkLine lead tail e).length = lead + e.length + 70 + tail := by rw [mkLine_eq, List.length_append, midF_len]; simp
theorem midF_head (lead : Nat) (e : List Nat) (h : 0 < lead) : (midF lead e).head? ≠ some 32 := by
  obtain ⟨k, rfl⟩ : ∃ k, lead = k + 1 := ⟨lead - 1, by omega⟩
  simp [midF, List.replicate_succ]
theorem midF_last (lead : Nat) (e : List Nat) : (midF lead e).getLast? ≠ some 32 := by
  unfold midF
  rw [List.getLast?_append]
  simp [List.getLast?_replicate]
theorem midF_ne (lead : Nat) (e : List Nat) : midF lead e ≠ [] := by
  intro q; have := midF_len lead e; rw [q] at this; simp at this
theorem bl_add (a b : Nat) : bl a ++ bl b = bl (a + b) := by simp [bl, List.replicate_append_replicate]

theorem law_lines (c : Cx) (text : List Nat) (lead tail more : Nat) (hl : 0 < lead) (hl2 : lead ≤ 1000) (ht : tail ≤ 1000) (hm : more ≤ 1000) (hx : text.length ≤ 1000) :
    Calls c 2 (.ref 104) [.str text, .int lead, .int tail, .int more] (.list (((List.range text.length).map fun i => mkLine lead tail (text.drop i)).map .str)) := by
  refine Calls.def (n := 1) (names := [Str.ofString "text", Str.ofString "lead", Str.ofString "tail", Str.ofString "more"]) (ho := rfl) (hcd := by kernel_rfl) (hbody := rfl) (hbind := all4 fun _ _ _ _ => rfl) (hclo := rfl) (hnames := by decide) (hkind := by rfl) (hcn := by decide) (hfree := by rfl) (hb := ?_)
  intro L V
  have eU : (rowI 0 text.length).length = text.length := rowI_len
  refine Ex.owned (us := []) (us' := ((List.range (rowI 0 text.length).length).map fun i => mkLine lead tail (text.drop i)).map .str) (Γ' := [(Str.ofString "text", .str text), (Str.ofString "lead", .int lead), (Str.ofString "tail", .int tail), (Str.ofString "more", .int more)]) (EvFresh.lst .nil (by decide)) rfl (.inl rfl) (fun a => ?_) ?_
  · refine OSt.for (rs := rowI 0 text.length) (fun _ => [(Str.ofString "lines", .fn (.ref a)), (Str.ofString "text", .str text), (Str.ofString "lead", .int lead), (Str.ofString "tail", .int tail), (Str.ofString "more", .int more)]) (fun i => ((List.range i).map fun i => mkLine lead tail (text.drop i)).map .str) (EvI.range1 ?_ (Ev.call (ps := [.str text]) ?_ Callee.builtin (.cons ?_ .nil) (Calls.lenS (by omega))) (by omega)) Sub.refl rfl rfl rfl (fun i p hp => ?_)
    · walk_at "mine atom"
    · walk_at "mine atom"
    · walk_at "mine atom"
    · obtain ⟨hi, rfl⟩ := rowI_get hp
      have e0 : (PV.int (0 + (i : Int))) = .int i := by rw [Int.zero_add]
      rw [e0]
      generalize hmid : midF lead (text.drop i) = mid
      have hml : mid.length = lead + (text.length - i) + 70 := by rw [← hmid, midF_len, List.length_drop]
      have h1 : mid.head? ≠ some 32 := hmid ▸ midF_head _ _ hl
      have h2 : mid.getLast? ≠ some 32 := hmid ▸ midF_last _ _
      have h3 : mid ≠ [] := hmid ▸ midF_ne _ _
      have hln : mkLine lead tail (text.drop i) = mid ++ bl tail := by rw [mkLine_eq, hmid]
      have hbl : ∀ k, (bl k).length = k := fun k => by simp
      have c1 : Calls c 1 (.ref 90) [.str ([32] ++ (bl i ++ (mid ++ bl tail) ++ bl more)), .int i] (.str ([32] ++ mid ++ bl (tail + more))) := by
        have := strip_padding c (i + 1) (tail + more) i mid h3 h1 h2 (by simp only [List.length_append, hbl, hml]; omega)
        rw [show min i (i + 1) = i by omega, show i + 1 - i = 1 by omega, show tail + more - min (i - i) (tail + more) = tail + more by omega] at this
        have e : bl (i + 1) ++ mid ++ bl (tail + more) = [32] ++ (bl i ++ (mid ++ bl tail) ++ bl more) := by
          rw [← bl_add tail more, Nat.add_comm i 1, ← bl_add 1 i]; simp [bl]
        rw [e] at this
        exact this
      have c2 : Calls c 1 (.ref 90) [.str (bl i ++ (mid ++ bl tail) ++ bl more), .int ((i + more + tail + 1 : Nat) : Int)] (.str mid) := by
        have := strip_padding c i (tail + more) (i + more + tail + 1) mid h3 h1 h2 (by simp only [List.length_append, hbl, hml]; omega)
        rw [show min (i + more + tail + 1) i = i by omega, show i - i = 0 by omega, show tail + more - min (i + more + tail + 1 - i) (tail + more) = 0 by omega] at this
        have e : bl i ++ mid ++ bl (tail + more) = bl i ++ (mid ++ bl tail) ++ bl more := by
          rw [← bl_add tail more]; simp
        rw [e] at this
        have e2 : bl 0 ++ mid ++ bl 0 = mid := by simp [bl]
        rw [e2] at this
        exact this
      have c3 : Calls c 1 (.ref 90) [.str (bl i ++ (mid ++ bl tail) ++ bl more), .int ((i + more : Nat) : Int)] (.str (mid ++ bl tail)) := by
        have := strip_padding c i (tail + more) (i + more) mid h3 h1 h2 (by simp only [List.length_append, hbl, hml]; omega)
        rw [show min (i + more) i = i by omega, show i - i = 0 by omega, show tail + more - min (i + more - i) (tail + more) = tail by omega] at this
        have e : bl i ++ mid ++ bl (tail + more) = bl i ++ (mid ++ bl tail) ++ bl more := by
          rw [← bl_add tail more]; simp
        rw [e] at this
        have e2 : bl 0 ++ mid ++ bl tail = mid ++ bl tail := by simp [bl]
        rw [e2] at this
        exact this
      refine OEx.weak (OEx.cons (OSt.of (St.assign (p := .str (mid ++ bl tail)) (Ev.castS (Ev.bin (Ev.bin (Ev.bin (Ev.rep1 (ch := 45) (k := lead) (Ev.castS Ev.str q45) ?_ hl2) (Ev.castS (Ev.cut (x := text) (l := some (i : Int)) (u := none) ?_ ⟨_, rfl, ?_⟩ rfl (by rw [sizeLine_eq]; omega)) (slc_from _ _)) (BinF.cat ?_)) (Ev.rep1 (ch := 33) (k := 70) (Ev.castS Ev.str q33) ?_ (by decide)) (BinF.cat ?_)) (Ev.rep1 (ch := 32) (k := tail) (Ev.castS Ev.str q32) ?_ ht) (BinF.cat ?_)) (by rw [← hln]; rfl)) rfl rfl))
        (OEx.cons (OSt.of (St.assign (p := .str (bl i ++ (mid ++ bl tail) ++ bl more)) (Ev.bin (Ev.bin (Ev.rep1 (ch := 32) (k := i) (Ev.castS Ev.str q32) ?_ (by omega)) ?_ (BinF.cat ?_)) (Ev.rep1 (ch := 32) (k := more) (Ev.castS Ev.str q32) ?_ hm) (BinF.cat ?_)) rfl rfl))
        (OEx.cons (OSt.of (St.ifF (b := !([32] ++ mid ++ bl (tail + more) == [32] ++ (mid ++ bl tail) ++ bl more)) (Tst.cmp (Ev.call (ps := [.str ([32] ++ (bl i ++ (mid ++ bl tail) ++ bl more)), .int i]) ?_ (Callee.fn (by kernel_rfl)) (.cons (Ev.bin (Ev.castS Ev.str q32) ?_ (BinF.cat ?_)) (.cons ?_ .nil)) c1) (Ev.bin (Ev.bin (Ev.castS Ev.str q32) ?_ (BinF.cat ?_)) (Ev.rep1 (ch := 32) (k := more) (Ev.castS Ev.str q32) ?_ hm) (BinF.cat ?_)) CmpF.neS TruF.bool) ?_ Ex.nil))
        (OEx.cons (OSt.of (St.ifF (b := !(mid == mid)) (Tst.cmp (Ev.call (ps := [.str (bl i ++ (mid ++ bl tail) ++ bl more), .int ((i + more + tail + 1 : Nat) : Int)]) ?_ (Callee.fn (by kernel_rfl)) (.cons ?_ (.cons (Ev.castI (Ev.bin (pb := .int 1) (Ev.bin (pb := .int tail) (Ev.bin (pa := .int i) (pb := .int more) ?_ ?_ BinF.add) ?_ BinF.add) ?_ BinF.add) (by omega)) .nil)) c2) (Ev.castS (Ev.cut (x := mid ++ bl tail) (l := none) (u := some (mid.length : Int)) ?_ rfl ⟨_, rfl, Ev.castI (Ev.bin (pb := .int tail) (Ev.call (ps := [.str (mid ++ bl tail)]) ?_ Callee.builtin (.cons ?_ .nil) (Calls.lenS ?_)) ?_ BinF.sub) ?_⟩ ?_) ?_) CmpF.neS TruF.bool) ?_ Ex.nil))
        (OEx.cons (OSt.of (St.assign (p := .str (mid ++ bl tail)) (Ev.call (ps := [.str (bl i ++ (mid ++ bl tail) ++ bl more), .int ((i + more : Nat) : Int)]) ?_ (Callee.fn (by kernel_rfl)) (.cons ?_ (.cons (Ev.castI (Ev.bin (pa := .int i) (pb := .int more) ?_ ?_ BinF.add) (by omega)) .nil)) c3) rfl rfl))
        (OEx.cons (OSt.of (St.ifF (b := !(mid ++ bl tail == mid ++ bl tail) || !(([] : List Nat) == [])) (Tst.or (Tst.cmp (pa := .str (mid ++ bl tail)) (pb := .str (mid ++ bl tail)) ?_ ?_ CmpF.neS TruF.bool) fun _ => Tst.cmp (pa := .str []) (pb := .str []) (Ev.castS (Ev.cut (x := mid ++ bl tail) (l := none) (u := some ((0 : Nat) : Int)) (Ev.call (ps := [.str (mid ++ bl tail)]) ?_ (Callee.fn (by kernel_rfl)) (.cons ?_ .nil) (strxfrm c _)) rfl ⟨_, rfl, ?_⟩ ?_) ?_) (Ev.castS Ev.str q0) CmpF.neS TruF.bool) ?_ Ex.nil))
        (OEx.cons (OSt.append (p := .str (mid ++ bl tail)) ?_ ?_ ?_) (OEx.nilE ?_))))))))
        (.cons rfl (.cons rfl (.cons rfl (.cons rfl (.cons rfl .nil)))))
      all_goals try (first | exact Ev.local rfl rfl rfl rfl | exact Ev.int | walk_at "mine glob")
      all_goals try (simp only [List.length_append, List.length_replicate, List.length_cons, List.length_nil, List.length_drop, List.length_map, List.length_range, hml, hbl, sizeLine_eq]; omega)
      · have e : [32] ++ mid ++ bl (tail + more) = [32] ++ (mid ++ bl tail) ++ bl more := by rw [← bl_add tail more]; simp
        rw [e, beq_self_eq_true]; rfl
      · rw [slc_to]; simp
      · rw [beq_self_eq_true]; rfl
      · rw [slc_to]; rfl
      · rw [beq_self_eq_true]; rfl
      · rw [← hln, List.range_succ, List.map_append, List.map_append]; rfl
  · rw [eU]
    refine Ex.ret (St.ret ?_)
    walk_at "mine atom"
end

section
open PySem PySem.W PySem.Spec PySem.Calls PyProof.Rows
set_option linter.unusedVariables false
set_option maxRecDepth 100000
set_option maxHeartbeats 1000000
section
variable {c : Cx} {n : Nat} {env : Env} {V W : List Addr} {Γ Γ' Δ : List (PySem.Str × PV)}
theorem Cap.consB {cenv : Env} {y : PySem.Str} {p : PV} {a : Addr} {Γc : List (PySem.Str × PV)} (h1 : Γ.lookup y = some p) (h2 : env.kindOf y = some .cell) (h3 : (cenv.kindOf y == some .local) = false) (h4 : cenv.cells.lookup y = some a) (h5 : env.cells.lookup y = some a) (h : Cap env cenv Γ Γc) : Cap env cenv Γ ((y, p) :: Γc) :=
  Cap.cons h1 (.inl h2) (fun q => by rw [q] at h3; simp at h3) h4 h5 h
theorem lookup1 {cells : List (PySem.Str × Addr)} {x : PySem.Str} {a : Addr} (h1 : cells.lookup x = some a) : ∀ y b, (y, b) ∈ [(x, a)] → cells.lookup y = some b := fun y b hm => by
  have := List.mem_singleton.mp hm; cases this; exact h1
theorem lookupC {cells cl : List (PySem.Str × Addr)} {x : PySem.Str} {a : Addr} (h1 : cells.lookup x = some a) (h : ∀ y b, (y, b) ∈ cl → cells.lookup y = some b) : ∀ y b, (y, b) ∈ (x, a) :: cl → cells.lookup y = some b := fun y b hm => by
  rcases List.mem_cons.mp hm with q | q
  · cases q; exact h1
  · exact h y b q
theorem lookupN {cells : List (PySem.Str × Addr)} : ∀ y b, (y, b) ∈ ([] : List (PySem.Str × Addr)) → cells.lookup y = some b := fun _ _ h => by cases h
theorem St.eqP {st : Stmt} {z : PySem.Str} {p q : PV} (h : St c n env V Γ st (.next ((z, p) :: Γ'))) (e : p = q) : St c n env V Γ st (.next ((z, q) :: Γ')) := e ▸ h
theorem St.eqOut {st : Stmt} {o o' : Out} (h : St c n env V Γ st o) (e : o = o') : St c n env V Γ st o' := e ▸ h
end
end

section
open PySem PySem.W PySem.Spec PySem.Calls PyProof.Rows
set_option linter.unusedVariables false
set_option maxRecDepth 100000
set_option maxHeartbeats 2000000
def onS (g : List Nat → PV) : PV → PV
  | .str x => g x
  | _ => .none
theorem onS_map (g : List Nat → PV) (ls : List (List Nat)) : ((ls.map PV.str).filter fun _ => true).map (onS g) = ls.map g := by
  rw [List.filter_eq_self.mpr (fun _ _ => rfl), List.map_map]; rfl
def szF (ls : List (List Nat)) (mn : Int) : List Int := (mn - 1) :: ls.map fun l => (l.length : Int)
def chRank (z : Nat) : Nat := if z = 66 then 0 else if z = 97 then 1 else 2
def prF (ls : List (List Nat)) (mn : Int) (lead : Nat) (l : List Nat) : Int × Int := ((chRank (l.getD lead 0) : Nat), ((szF ls mn).idxOf ((l.length : Int) - 1) : Nat))
theorem chRank_at {z : Nat} (h : z = 66 ∨ z = 97 ∨ z = 98) : FirstAt [66, 97, 98] [z] (chRank z) := by
  rcases h with rfl | rfl | rfl
  · exact ⟨by decide, fun j hj => absurd hj (by unfold chRank; simp)⟩
  · refine ⟨by decide, fun j hj => ?_⟩
    have : j = 0 := by unfold chRank at hj; simp at hj; omega
    subst this; decide
  · refine ⟨by decide, fun j hj => ?_⟩
    have : j = 0 ∨ j = 1 := by unfold chRank at hj; simp at hj; omega
    rcases this with rfl | rfl <;> decide
theorem qBab : (Str.ofString "Bab").cps.toList = [66, 97, 98] := by decide +kernel

theorem law_rising (c : Cx) (ls : List (List Nat)) (lead : Nat) (mn : Int) (h2 : 2 ≤ ls.length) (h64 : ls.length < 64) (hlen : ∀ l ∈ ls, l.length < 10000) (hmn : mn ∈ ls.map fun l => (l.length : Int)) (hmin : ∀ x ∈ ls.map (fun l => (l.length : Int)), mn ≤ x)
    (hlet : ∀ l ∈ ls, ∃ z, l[lead]? = some z ∧ (z = 66 ∨ z = 97 ∨ z = 98)) (hin : ∀ l ∈ ls, (l.length : Int) - 1 ∈ szF ls mn) (hris : ∀ i (h : i + 1 < ls.length), Lt2 (prF ls mn lead (ls[i]'(by omega))) (prF ls mn lead ls[i + 1])) :
    Calls c 2 (.ref 109) [.list (ls.map .str), .int lead] (.bool true) := by
  refine Calls.def (n := 1) (names := [Str.ofString "lines", Str.ofString "lead"]) (ho := rfl) (hcd := by kernel_rfl) (hbody := rfl) (hbind := all2 fun _ _ => rfl) (hclo := rfl) (hnames := by decide) (hkind := by rfl) (hcn := by decide) (hfree := by rfl) (hb := ?_)
  intro L V
  refine Ex.cons (St.assignC (p := .list ((ls.map fun l => (l.length : Int)).map .int)) (Ev.cast (Ev.comp (us := ls.map .str) (Γc := []) (fun _ => true) (onS fun l => .int l.length) (EvI.list ?_) (CompOK.of (cl := []) rfl (fun _ _ h => by cases h) rfl rfl rfl rfl rfl (fun _ => Cap.nil) rfl) (by rw [List.length_map]; omega) (fun _ _ _ _ => Tsts.nil) (fun C V' u hu _ => ?_)) (by rw [onS_map, List.map_map]; rfl)) rfl rfl) ?_
  · walk_at "mine atom"
  · obtain ⟨l, hl, rfl⟩ := List.mem_map.mp hu
    refine Ev.call (ps := [.str l]) ?_ Callee.builtin (.cons ?_ .nil) (Calls.lenS (by have := hlen l hl; omega))
    · walk_at "mine atom"
    · walk_at "mine atom"
  refine Ex.cons (St.assignC (p := .list ((szF ls mn).map .int)) (Ev.cast (Ev.bin (pa := .list [.int (mn - 1)]) (pb := .list ((ls.map fun l => (l.length : Int)).map .int)) (Ev.lst (.cons (Ev.bin (pa := .int mn) (pb := .int 1) (Ev.call (ps := [.list ((ls.map fun l => (l.length : Int)).map .int)]) ?_ Callee.builtin (.cons ?_ .nil) (Calls.minI hmn hmin)) ?_ BinF.sub) .nil) (by simp)) ?_ (BinF.catL (by simp; omega))) rfl) rfl rfl) ?_
  · walk_at "mine atom"
  · walk_at "mine atom"
  · walk_at "mine atom"
  · walk_at "mine atom"
  refine Ex.cons (St.eqP (St.assignComp (us := ls.map .str) (Γc := [(Str.ofString "lead", .int lead), (Str.ofString "sizes", .list ((szF ls mn).map .int))]) (fun _ => true) (onS fun l => pairV (prF ls mn lead l)) (EvI.list ?_) (CompOK.of rfl (lookupC rfl (lookupC rfl lookupN)) rfl rfl rfl rfl rfl (fun _ => Cap.consB rfl rfl rfl rfl rfl (Cap.consB rfl rfl rfl rfl rfl Cap.nil)) rfl) (by rw [List.length_map]; omega) (fun _ _ _ _ => Tsts.nil) (fun C V' u hu _ => ?_) rfl rfl rfl)
    (q := .list ((ls.map (prF ls mn lead)).map pairV)) (by rw [onS_map, List.map_map]; rfl)) ?_
  · walk_at "mine atom"
  · obtain ⟨l, hl, rfl⟩ := List.mem_map.mp hu
    obtain ⟨z, hz, hz'⟩ := hlet l hl
    have hll := hlen l hl
    refine Ev.lst (.cons (Ev.castI (j := (prF ls mn lead l).1) (Ev.indexS (i := chRank z) (Ev.castS Ev.str qBab) (Ev.sign (x := l) (k := lead) (z := z) ?_ ?_ hz (by omega)) (chRank_at hz')) (by simp [prF, List.getD, hz])) (.cons (Ev.indexI (xs := szF ls mn) (k := (l.length : Int) - 1) ?_ (Ev.bin (pa := .int l.length) (pb := .int 1) (Ev.call (ps := [.str l]) ?_ Callee.builtin (.cons ?_ .nil) (Calls.lenS (by omega))) ?_ BinF.sub) (hin l hl) (by simp [szF]; omega)) .nil)) (Nat.le_of_ble_eq_true rfl)
    · walk_at "mine atom"
    · walk_at "mine atom"
    · walk_at "mine atom"
    · walk_at "mine atom"
    · walk_at "mine atom"
    · walk_at "mine atom"
  have hE : (ls.map (prF ls mn lead)).map pairV = ((ls.map (prF ls mn lead)).map fun p => [p.1, p.2]).map fun xs : List Int => PV.list (xs.map .int) := by generalize ls.map (prF ls mn lead) = P; rw [List.map_map]; rfl
  generalize hP : ls.map (prF ls mn lead) = P at hE
  have hPl : P.length = ls.length := by rw [← hP, List.length_map]
  refine Ex.ret (St.ret (Ev.cast (Ev.cmp (Ev.cast (q := .list ((P.map fun p => [p.1, p.2]).map fun xs : List Int => PV.list (xs.map .int))) (p := .list (P.map pairV)) ?_ (congrArg _ hE)) (Ev.cast (q := .list ((P.map fun p => [p.1, p.2]).map fun xs : List Int => PV.list (xs.map .int))) (Ev.call (ps := [.list (P.map pairV)]) ?_ Callee.builtin (.cons ?_ .nil) (Calls.sortedPairs (fun i h => ?_) (by omega) (by omega))) (congrArg _ hE)) (CmpF.eqL (EqG.list EqG.int))) (by simp)))
  · walk_at "mine atom"
  · walk_at "mine atom"
  · walk_at "mine atom"
  · subst hP
    have h' : i + 1 < ls.length := by rwa [List.length_map] at h
    simpa using hris i h'
end

section
set_option linter.unusedVariables false
set_option maxHeartbeats 1000000

/-- x parts from y right behind q, x being the lower -/
def Div (q x y : List Nat) : Prop := ∃ a b x' y', x = q ++ a :: x' ∧ y = q ++ b :: y' ∧ a < b
theorem lt_app (q : List Nat) {x y : List Nat} : q ++ x < q ++ y ↔ x < y := by
  induction q with
  | nil => simp
  | cons a q ih => rw [List.cons_append, List.cons_append, List.cons_lt_cons_iff]; simp [ih]
theorem lt_heads {a b : Nat} (h : a < b) (x y : List Nat) : a :: x < b :: y := by rw [List.cons_lt_cons_iff]; exact .inl h
theorem Div.lt {q x y : List Nat} (h : Div q x y) : x < y := by
  obtain ⟨a, b, x', y', rfl, rfl, hab⟩ := h
  exact (lt_app q).mpr (lt_heads hab _ _)
theorem Div.app {q x y : List Nat} (h : Div q x y) (p : List Nat) : Div (p ++ q) (p ++ x) (p ++ y) := by
  obtain ⟨a, b, x', y', rfl, rfl, hab⟩ := h
  exact ⟨a, b, x', y', by simp, by simp, hab⟩
theorem Div.behind {q x y : List Nat} (h : Div q x y) (u v : List Nat) : Div q (x ++ u) (y ++ v) := by
  obtain ⟨a, b, x', y', rfl, rfl, hab⟩ := h
  exact ⟨a, b, x' ++ u, y' ++ v, by simp, by simp, hab⟩
def qt (x : List Nat) : List Nat := 39 :: (x ++ [39])
theorem qt_len (x : List Nat) : (qt x).length = x.length + 2 := by simp [qt]
theorem Div.qt {q x y : List Nat} (h : Div q x y) : Div (39 :: q) (qt x) (qt y) := (h.app [39]).behind [39] [39]
theorem Div.lcp {q x y : List Nat} (h : Div q x y) : Lcp x y q.length := by
  obtain ⟨a, b, x', y', rfl, rfl, hab⟩ := h
  refine ⟨fun i hi => ⟨q[i], ?_, ?_⟩, .inr ⟨a, b, ?_, ?_, by omega⟩⟩
  · rw [List.getElem?_append_left hi, List.getElem?_eq_getElem hi]
  · rw [List.getElem?_append_left hi, List.getElem?_eq_getElem hi]
  · simp
  · simp
theorem Div.take {q x y : List Nat} (h : Div q x y) : x.take q.length = q := by
  obtain ⟨a, b, x', y', rfl, rfl, hab⟩ := h
  simp
theorem Div.takeR {q x y : List Nat} (h : Div q x y) : y.take q.length = q := by
  obtain ⟨a, b, x', y', rfl, rfl, hab⟩ := h
  simp
theorem Div.len {q x y : List Nat} (h : Div q x y) : q.length < x.length ∧ q.length < y.length := by
  obtain ⟨a, b, x', y', rfl, rfl, hab⟩ := h
  simp
theorem Lcp.refl (x : List Nat) : Lcp x x x.length := ⟨fun i hi => ⟨x[i], by simp [hi], by simp [hi]⟩, .inl rfl⟩

/-- told with a common front that is longer than what is behind -/
def longF (q : List Nat) (mx : Nat) (x : List Nat) : List Nat := shortF q 5 (63 + q.length - mx) ++ (qt x).drop q.length
/-- told with what is behind cut -/
def cutF (q : List Nat) (x : List Nat) : List Nat := shortF q 5 5 ++ shortF ((qt x).drop q.length) 41 5

structure Told (xs : List (List Nat)) (x y q : List Nat) (mx : Nat) : Prop where
  hx : x ∈ xs
  hy : y ∈ xs
  div : Div q (qt x) (qt y)
  low : ∀ z ∈ xs, z = x ∨ qt x < qt z
  high : ∀ z ∈ xs, z = y ∨ qt z < qt y
  plain : ∀ z ∈ xs, ∀ c ∈ z, plainC c = true
  len : xs.length < 1000
  top : ∃ z ∈ xs, z.length + 2 = mx
  all : ∀ z ∈ xs, z.length + 2 ≤ mx
  far : 80 < mx
  near : mx < 10000

theorem lt_asymm' {x y : List Nat} (h : x < y) : ¬ y < x := fun q => List.lt_irrefl _ (List.lt_trans h q)
theorem reprs_at (c : Cx) (xs : List (List Nat)) (hp : ∀ z ∈ xs, ∀ c ∈ z, plainC c = true) (hl : ∀ z ∈ xs, z.length < 10000) (i : Nat) (p : PV) (q : List Nat) (h1 : (xs.map PV.str)[i]? = some p) (h2 : (xs.map qt)[i]? = some q) : Calls c 2 (.ref 69) [p] (.str q) := by
  rw [List.getElem?_map] at h1 h2
  cases h : xs[i]? with
  | none => rw [h] at h1; cases h1
  | some z =>
    rw [h] at h1 h2
    cases h1; cases h2
    have hz := List.mem_of_getElem? h
    exact safe_reprS c z (hp z hz) (by have := hl z hz; omega)

theorem csrS_cut (c : Cx) {xs : List (List Nat)} {x y q : List Nat} {mx : Nat} (T : Told xs x y q mx) (hc : 63 + q.length ≤ mx + 5) : Calls c 6 (.ref 61) (xs.map .str) (.tup ((xs.map (cutF q)).map .str)) := by
  have hl : ∀ z ∈ xs, z.length < 10000 := fun z hz => by have := T.all z hz; have := T.near; omega
  have := csr_cut c (as := xs.map .str) (rs := xs.map qt) (lo := qt x) (hi := qt y) (mx := mx) (k := q.length) (by simp) (reprs_at c xs T.plain hl) (by obtain ⟨z, hz, e⟩ := T.top; exact ⟨qt z, List.mem_map.mpr ⟨z, hz, rfl⟩, by rw [qt_len, e]⟩)
    (by intro w hw; obtain ⟨z, hz, rfl⟩ := List.mem_map.mp hw; rw [qt_len]; exact T.all z hz) (by rw [List.length_map]; exact T.len) T.far T.near (List.mem_map.mpr ⟨x, T.hx, rfl⟩)
    (by intro w hw; obtain ⟨z, hz, rfl⟩ := List.mem_map.mp hw; rcases T.low z hz with rfl | h; exact List.lt_irrefl _; exact lt_asymm' h) (List.mem_map.mpr ⟨y, T.hy, rfl⟩)
    (by intro w hw; obtain ⟨z, hz, rfl⟩ := List.mem_map.mp hw; rcases T.high z hz with rfl | h; exact List.lt_irrefl _; exact lt_asymm' h) T.div.lcp (Nat.le_of_lt T.div.len.1) hc
  rw [T.div.take] at this
  have e : (xs.map qt).map (fun s => PV.str (shortF q 5 5 ++ shortF (s.drop q.length) 41 5)) = (xs.map (cutF q)).map .str := by
    rw [List.map_map, List.map_map]; rfl
  rwa [e] at this
theorem csrS_long (c : Cx) {xs : List (List Nat)} {x y q : List Nat} {mx : Nat} (T : Told xs x y q mx) (hc : 63 + q.length > mx + 5) : Calls c 6 (.ref 61) (xs.map .str) (.tup ((xs.map (longF q mx)).map .str)) := by
  have hl : ∀ z ∈ xs, z.length < 10000 := fun z hz => by have := T.all z hz; have := T.near; omega
  have := csr_long c (as := xs.map .str) (rs := xs.map qt) (lo := qt x) (hi := qt y) (mx := mx) (k := q.length) (by simp) (reprs_at c xs T.plain hl) (by obtain ⟨z, hz, e⟩ := T.top; exact ⟨qt z, List.mem_map.mpr ⟨z, hz, rfl⟩, by rw [qt_len, e]⟩)
    (by intro w hw; obtain ⟨z, hz, rfl⟩ := List.mem_map.mp hw; rw [qt_len]; exact T.all z hz) (by rw [List.length_map]; exact T.len) T.far T.near (List.mem_map.mpr ⟨x, T.hx, rfl⟩)
    (by intro w hw; obtain ⟨z, hz, rfl⟩ := List.mem_map.mp hw; rcases T.low z hz with rfl | h; exact List.lt_irrefl _; exact lt_asymm' h) (List.mem_map.mpr ⟨y, T.hy, rfl⟩)
    (by intro w hw; obtain ⟨z, hz, rfl⟩ := List.mem_map.mp hw; rcases T.high z hz with rfl | h; exact List.lt_irrefl _; exact lt_asymm' h) T.div.lcp (Nat.le_of_lt T.div.len.1) hc
  rw [T.div.take] at this
  have e : (xs.map qt).map (fun s => PV.str (shortF q 5 (63 + q.length - mx) ++ s.drop q.length)) = (xs.map (longF q mx)).map .str := by
    rw [List.map_map, List.map_map]; rfl
  rwa [e] at this
theorem csrS_one (c : Cx) {x : List Nat} (hp : ∀ c ∈ x, plainC c = true) (h1 : 78 < x.length) (h2 : x.length < 9000) : Calls c 6 (.ref 61) [.str x] (.tup [.str ((qt x).take 5 ++ note ((qt x).length - 68) ++ (qt x).drop ((qt x).length - 63))]) := by
  have hl := qt_len x
  have := csr_long c (as := [x].map .str) (rs := [x].map qt) (lo := qt x) (hi := qt x) (mx := (qt x).length) (k := (qt x).length) (by simp) (reprs_at c [x] (fun z hz => by rw [List.mem_singleton.mp hz]; exact hp) (fun z hz => by rw [List.mem_singleton.mp hz]; omega)) ⟨qt x, by simp, rfl⟩
    (by intro w hw; rw [show [x].map qt = [qt x] from rfl, List.mem_singleton] at hw; rw [hw]; exact Nat.le_refl _) (by simp) (by omega) (by omega) (by simp)
    (by intro w hw; rw [show [x].map qt = [qt x] from rfl, List.mem_singleton] at hw; rw [hw]; exact List.lt_irrefl _) (by simp)
    (by intro w hw; rw [show [x].map qt = [qt x] from rfl, List.mem_singleton] at hw; rw [hw]; exact List.lt_irrefl _) (Lcp.refl _) (Nat.le_refl _) (by omega)
  have e : [x].map qt = [qt x] := rfl
  rw [e] at this
  rw [List.take_length] at this
  have e2 : shortF (qt x) 5 (63 + (qt x).length - (qt x).length) ++ (qt x).drop (qt x).length = (qt x).take 5 ++ note ((qt x).length - 68) ++ (qt x).drop ((qt x).length - 63) := by
    rw [List.drop_length, List.append_nil]
    unfold shortF
    rw [if_pos (by omega), show 63 + (qt x).length - (qt x).length = 63 by omega, show (qt x).length - 5 - 63 = (qt x).length - 68 by omega]
  rw [← e2]
  exact this
theorem csrS_short (c : Cx) {xs : List (List Nat)} {mx : Nat} (hp : ∀ z ∈ xs, ∀ c ∈ z, plainC c = true) (hn : xs.length < 1000) (top : ∃ z ∈ xs, z.length + 2 = mx) (all : ∀ z ∈ xs, z.length + 2 ≤ mx) (h80 : mx ≤ 80) : Calls c 6 (.ref 61) (xs.map .str) (.tup ((xs.map qt).map .str)) :=
  csr_short c (as := xs.map .str) (rs := xs.map qt) (mx := mx) (by simp) (reprs_at c xs hp (fun z hz => by have := all z hz; omega)) (by obtain ⟨z, hz, e⟩ := top; exact ⟨qt z, List.mem_map.mpr ⟨z, hz, rfl⟩, by rw [qt_len, e]⟩)
    (by intro w hw; obtain ⟨z, hz, rfl⟩ := List.mem_map.mp hw; rw [qt_len]; exact all z hz) (by rw [List.length_map]; omega) h80
end

section
open PySem PySem.W PySem.Spec PySem.Calls PyProof.Rows
set_option linter.unusedVariables false
set_option maxRecDepth 100000
set_option maxHeartbeats 2000000
theorem q39 : (Str.ofString "'").cps.toList = [39] := by decide +kernel
theorem shortF_id {x : List Nat} {p q : Nat} (h : x.length ≤ p + q + 12) : shortF x p q = x := if_neg (by omega)
theorem shortF_cut {x : List Nat} {p q : Nat} (h : p + q + 12 < x.length) : shortF x p q = x.take p ++ note (x.length - p - q) ++ x.drop (x.length - q) := if_pos h
theorem maps2 (a b : List Nat) : [a, b].map PV.str = [.str a, .str b] := rfl

theorem law_bound (c : Cx) (text line : List Nat) (hp1 : ∀ z ∈ text, plainC z = true) (hp2 : ∀ z ∈ line, plainC z = true) (h1 : text.length ≤ 40) (h2 : 79 ≤ line.length) (h3 : line.length < 9000)
    (hd : Div [] (line.take 79) text) : Calls c 7 (.ref 142) [.str text, .str line] (.bool true) := by
  refine Calls.def (n := 6) (names := [Str.ofString "text", Str.ofString "line"]) (ho := rfl) (hcd := by kernel_rfl) (hbody := rfl) (hbind := all2 fun _ _ => rfl) (hclo := rfl) (hnames := by decide) (hkind := by rfl) (hcn := by decide) (hfree := by rfl) (hb := ?_)
  intro L V
  have hpt : ∀ k, ∀ z ∈ line.take k, plainC z = true := fun k z hz => hp2 z (List.mem_of_mem_take hz)
  have c1 : Calls c 6 (.ref 61) [.str text, .str (line.take 78)] (.tup ([qt text, qt (line.take 78)].map .str)) := by
    refine csrS_short c (xs := [text, line.take 78]) (mx := 80) (fun z hz => ?_) (by simp) ⟨line.take 78, by simp, by rw [List.length_take]; omega⟩ (fun z hz => ?_) (Nat.le_refl _)
    · rcases List.mem_cons.mp hz with rfl | hz
      · exact hp1
      · rw [List.mem_singleton.mp hz]; exact hpt _
    · rcases List.mem_cons.mp hz with rfl | hz
      · omega
      · rw [List.mem_singleton.mp hz, List.length_take]; omega
  have c2 : Calls c 6 (.ref 61) [.str text, .str (line.take 79)] (.tup ([qt text, 39 :: (line.take 41 ++ note 34 ++ ((line.take 79).drop 75) ++ [39])].map .str)) := by
    have hl79 : (line.take 79).length = 79 := by rw [List.length_take]; omega
    have T : Told [text, line.take 79] (line.take 79) text [39] 81 := by
      refine ⟨by simp, by simp, hd.qt, fun z hz => ?_, fun z hz => ?_, fun z hz => ?_, by simp, ⟨line.take 79, by simp, by omega⟩, fun z hz => ?_, by omega, by omega⟩
      · rcases List.mem_cons.mp hz with rfl | hz
        · exact .inr hd.qt.lt
        · exact .inl (List.mem_singleton.mp hz)
      · rcases List.mem_cons.mp hz with rfl | hz
        · exact .inl rfl
        · rw [List.mem_singleton.mp hz]; exact .inr hd.qt.lt
      · rcases List.mem_cons.mp hz with rfl | hz
        · exact hp1
        · rw [List.mem_singleton.mp hz]; exact hpt _
      · rcases List.mem_cons.mp hz with rfl | hz
        · omega
        · rw [List.mem_singleton.mp hz]; omega
    have := csrS_cut c T (by simp)
    have e1 : cutF [39] text = qt text := by
      unfold cutF
      rw [shortF_id (by simp), shortF_id (by simp [qt]; omega)]
      simp [qt]
    have e2 : cutF [39] (line.take 79) = 39 :: (line.take 41 ++ note 34 ++ ((line.take 79).drop 75) ++ [39]) := by
      unfold cutF
      have hd1 : (qt (line.take 79)).drop [39].length = line.take 79 ++ [39] := by simp [qt]
      rw [hd1, shortF_id (by simp), shortF_cut (by rw [List.length_append, hl79]; simp)]
      have hl80 : (line.take 79 ++ [39]).length = 80 := by rw [List.length_append, hl79]; rfl
      rw [hl80, List.take_append_of_le_length (by omega), List.take_take, List.drop_append_of_le_length (by omega)]
      simp
    rw [← e1, ← e2]
    exact this
  have hq : qt text = 39 :: (text ++ [39]) := rfl
  have es : ∀ x : List Nat, [39] ++ x ++ [39] = qt x := fun x => by simp [qt]
  have hsl := sizeLine_eq
  refine Ex.cons (St.assign (p := .str (qt text)) (Ev.castS (Ev.bin (pb := .str [39]) (Ev.bin (pa := .str [39]) (pb := .str text) (Ev.castS Ev.str q39) ?_ (BinF.cat ?_)) (Ev.castS Ev.str q39) (BinF.cat ?_)) (es _)) rfl rfl) ?_
  · walk_at "mine atom"
  · simp; omega
  · simp; omega
  refine Ex.cons (St.ifF (b := !decide ([qt text, qt (line.take 78)] = [qt text, qt (line.take 78)])) (Tst.cmp (pa := .tup ([qt text, qt (line.take 78)].map .str)) (pb := .tup ([qt text, qt (line.take 78)].map .str)) (Ev.call (ps := [.str text, .str (line.take 78)]) ?_ (Callee.fn (by kernel_rfl)) (.cons ?_ (.cons (Ev.castS (Ev.cut (x := line) (l := none) (u := some ((78 : Nat) : Int)) ?_ rfl ⟨_, rfl, Ev.int⟩ ?_) (slc_to _ _)) .nil)) c1)
    (Ev.tup (ps := [.str (qt text), .str (qt (line.take 78))]) (.cons ?_ (.cons (Ev.castS (Ev.bin (pb := .str [39]) (Ev.bin (pa := .str [39]) (pb := .str (line.take 78)) (Ev.castS Ev.str q39) (Ev.castS (Ev.cut (x := line) (l := none) (u := some ((78 : Nat) : Int)) ?_ rfl ⟨_, rfl, Ev.int⟩ ?_) (slc_to _ _)) (BinF.cat ?_)) (Ev.castS Ev.str q39) (BinF.cat ?_)) (es _)) .nil)) (by simp)) (CmpF.neT EqG.str) TruF.bool) (by simp) Ex.nil) ?_
  · walk_at "mine atom"
  · walk_at "mine atom"
  · walk_at "mine atom"
  · omega
  · walk_at "mine atom"
  · walk_at "mine atom"
  · omega
  · simp; omega
  · simp; omega
  refine Ex.ret (St.ret (Ev.cast (Ev.cmp (pa := .tup ([qt text, 39 :: (line.take 41 ++ note 34 ++ ((line.take 79).drop 75) ++ [39])].map .str)) (pb := .tup ([qt text, 39 :: (line.take 41 ++ note 34 ++ ((line.take 79).drop 75) ++ [39])].map .str)) (Ev.call (ps := [.str text, .str (line.take 79)]) ?_ (Callee.fn (by kernel_rfl)) (.cons ?_ (.cons (Ev.castS (Ev.cut (x := line) (l := none) (u := some ((79 : Nat) : Int)) ?_ rfl ⟨_, rfl, Ev.int⟩ ?_) (slc_to _ _)) .nil)) c2)
    (Ev.tup (ps := [.str (qt text), .str (39 :: (line.take 41 ++ note 34 ++ ((line.take 79).drop 75) ++ [39]))]) (.cons ?_ (.cons (Ev.castS (Ev.bin (pa := .str (39 :: (line.take 41 ++ note 34 ++ ((line.take 79).drop 75)))) (pb := .str [39]) (Ev.castS (Ev.bin (pa := .str (39 :: (line.take 41 ++ note 34))) (pb := .str ((line.take 79).drop 75)) (Ev.castS (Ev.bin (pa := .str (39 :: line.take 41)) (pb := .str (note 34)) (Ev.castS (Ev.bin (pa := .str [39]) (pb := .str (line.take 41)) (Ev.castS Ev.str q39) (Ev.castS (Ev.cut (x := line) (l := none) (u := some ((41 : Nat) : Int)) ?_ rfl ⟨_, rfl, Ev.int⟩ ?_) (slc_to _ _)) (BinF.cat ?_)) rfl)
      (Ev.call (ps := [.int ((34 : Nat) : Int)]) ?_ (Callee.fn (by kernel_rfl)) (.cons Ev.int .nil) ((law_note c 34 (by decide)).mono (by decide))) (BinF.cat ?_)) rfl)
      (Ev.castS (Ev.cut (x := line) (l := some ((75 : Nat) : Int)) (u := some ((79 : Nat) : Int)) ?_ ⟨_, rfl, Ev.int⟩ ⟨_, rfl, Ev.int⟩ ?_) (slc_mid _ _ _)) (BinF.cat ?_)) rfl) (Ev.castS Ev.str q39) (BinF.cat ?_)) rfl) .nil)) (by simp)) (CmpF.eqT EqG.str)) (by simp)))
  all_goals try (first | exact Ev.local rfl rfl rfl rfl | walk_at "mine glob")
  all_goals (have hn34 := note_len (n := 34) (by decide))
  all_goals (simp only [List.length_append, List.length_cons, List.length_nil, List.length_take, List.length_drop, hsl]; omega)
end

section
set_option linter.unusedVariables false
set_option maxHeartbeats 1000000

/-- how many signs two rows share at their front -/
def lcp : List Nat → List Nat → Nat
  | a :: x, b :: y => if a = b then lcp x y + 1 else 0
  | _, _ => 0
theorem lcp_le : ∀ x y : List Nat, lcp x y ≤ x.length ∧ lcp x y ≤ y.length
  | [], y => by simp [lcp]
  | a :: x, [] => by simp [lcp]
  | a :: x, b :: y => by
    have := lcp_le x y
    unfold lcp
    split <;> simp <;> omega
theorem lcp_div {u : List Nat} : ∀ (x y : List Nat), x < y → (∀ c ∈ y, 33 < c) → Div (x.take (lcp x y)) (x ++ 33 :: u) (y ++ 33 :: u)
  | [], [], h, _ => absurd h (List.lt_irrefl _)
  | [], b :: y, _, hy => ⟨33, b, u, y ++ 33 :: u, by simp [lcp], by simp [lcp], hy b (.head _)⟩
  | a :: x, [], h, _ => by cases h
  | a :: x, b :: y, h, hy => by
    rw [List.cons_lt_cons_iff] at h
    by_cases e : a = b
    · subst e
      have h' : x < y := by rcases h with h | h; exact absurd h (Nat.lt_irrefl _); exact h.2
      have := (lcp_div (u := u) x y h' fun c hc => hy c (.tail _ hc)).app [a]
      simpa [lcp] using this
    · have h' : a < b := by rcases h with h | h; exact h; exact absurd h.1 e
      exact ⟨a, b, x ++ 33 :: u, y ++ 33 :: u, by simp [lcp, e], by simp [lcp, e], h'⟩
theorem lcp_take : ∀ (x y : List Nat) (k : Nat), k ≤ lcp x y → x.take k = y.take k
  | _, _, 0, _ => by simp
  | [], y, k + 1, h => by simp [lcp] at h
  | a :: x, [], k + 1, h => by simp [lcp] at h
  | a :: x, b :: y, k + 1, h => by
    unfold lcp at h
    split at h
    · next e => subst e; rw [List.take_succ_cons, List.take_succ_cons, lcp_take x y k (by omega)]
    · omega
theorem take_lcp : ∀ (x y : List Nat) (k : Nat), x.take k = y.take k → x ≠ y → k ≤ lcp x y
  | _, _, 0, _, _ => Nat.zero_le _
  | [], [], k + 1, _, h => absurd rfl h
  | [], b :: y, k + 1, h, _ => by simp at h
  | a :: x, [], k + 1, h, _ => by simp at h
  | a :: x, b :: y, k + 1, h, hne => by
    rw [List.take_succ_cons, List.take_succ_cons] at h
    injection h with h1 h2
    subst h1
    have := take_lcp x y k h2 (fun q => hne (by rw [q]))
    unfold lcp
    rw [if_pos rfl]
    omega
theorem lcp_min : ∀ (x y z : List Nat), x < y → y < z → lcp x z = min (lcp x y) (lcp y z)
  | [], y, z, _, _ => by simp [lcp]
  | a :: x, [], z, h, _ => by cases h
  | a :: x, b :: y, [], _, h => by cases h
  | a :: x, b :: y, c :: z, h1, h2 => by
    rw [List.cons_lt_cons_iff] at h1 h2
    by_cases e1 : a = b
    · subst e1
      have h1' : x < y := by rcases h1 with h | h; exact absurd h (Nat.lt_irrefl _); exact h.2
      by_cases e2 : a = c
      · subst e2
        have h2' : y < z := by rcases h2 with h | h; exact absurd h (Nat.lt_irrefl _); exact h.2
        have := lcp_min x y z h1' h2'
        simp only [lcp, if_true]
        omega
      · simp [lcp, e2]
    · have h1' : a < b := by rcases h1 with h | h; exact h; exact absurd h.1 e1
      have h2' : b ≤ c := by rcases h2 with h | h; exact Nat.le_of_lt h; exact Nat.le_of_eq h.1
      have : a ≠ c := by omega
      simp [lcp, e1, this]

/-- how many unlike ones stand in a row -/
def dcl : List (List Nat) → Nat
  | [] => 0
  | x :: r => (if x ∈ r then 0 else 1) + dcl r
theorem dcl_perm {l l' : List (List Nat)} (h : l.Perm l') : dcl l = dcl l' := by
  induction h with
  | nil => rfl
  | @cons x l l' h ih =>
    show (if x ∈ l then 0 else 1) + dcl l = (if x ∈ l' then 0 else 1) + dcl l'
    rw [ih]
    by_cases e : x ∈ l
    · rw [if_pos e, if_pos (h.mem_iff.mp e)]
    · rw [if_neg e, if_neg (fun q => e (h.mem_iff.mpr q))]
  | swap x y l =>
    show (if y ∈ x :: l then 0 else 1) + ((if x ∈ l then 0 else 1) + dcl l) = (if x ∈ y :: l then 0 else 1) + ((if y ∈ l then 0 else 1) + dcl l)
    by_cases e : x = y
    · subst e; rfl
    · have e1 : (y ∈ x :: l) ↔ y ∈ l := by simp [Ne.symm e]
      have e2 : (x ∈ y :: l) ↔ x ∈ l := by simp [e]
      simp only [e1, e2]
      omega
  | trans _ _ ih1 ih2 => exact ih1.trans ih2
theorem dcUpto_dcl (g : Nat → List Nat) : ∀ m, dcUpto g m = dcl ((List.range m).map g).reverse
  | 0 => rfl
  | m + 1 => by
    rw [List.range_succ, List.map_append, List.reverse_append]
    show dcUpto g m + (if ∃ j, j < m ∧ g j = g m then 0 else 1) = (if g m ∈ ((List.range m).map g).reverse then 0 else 1) + dcl ((List.range m).map g).reverse
    rw [dcUpto_dcl g m]
    have e : (g m ∈ ((List.range m).map g).reverse) ↔ ∃ j, j < m ∧ g j = g m := by simp
    by_cases q : ∃ j, j < m ∧ g j = g m
    · rw [if_pos q, if_pos (e.mpr q)]; omega
    · rw [if_neg q, if_neg (fun h => q (e.mp h))]; omega
theorem dcUpto_eq (g : Nat → List Nat) (m : Nat) : dcUpto g m = dcl ((List.range m).map g) := by
  rw [dcUpto_dcl]; exact dcl_perm (List.reverse_perm _)

/-- neighbours that are alike -/
def adjc : List (List Nat) → Nat
  | x :: y :: r => (if x = y then 1 else 0) + adjc (y :: r)
  | _ => 0
def Lte (x y : List Nat) : Prop := x < y ∨ x = y
theorem dcl_adjc : ∀ (l : List (List Nat)), l.Pairwise Lte → dcl l + adjc l = l.length
  | [], _ => rfl
  | [x], _ => by simp [dcl, adjc]
  | x :: y :: r, h => by
    have ih := dcl_adjc (y :: r) h.tail
    show (if x ∈ y :: r then 0 else 1) + dcl (y :: r) + ((if x = y then 1 else 0) + adjc (y :: r)) = (y :: r).length + 1
    have e : (x ∈ y :: r) ↔ x = y := by
      constructor
      · intro hm
        rcases List.mem_cons.mp hm with q | hm
        · exact q
        · have h1 : Lte x y := List.rel_of_pairwise_cons h (.head _)
          have h2 : Lte y x := List.rel_of_pairwise_cons h.tail hm
          rcases h1 with h1 | h1
          · rcases h2 with h2 | h2
            · exact absurd h2 (lt_asymm' h1)
            · exact h2.symm
          · exact h1
      · rintro rfl; exact .head _
    by_cases q : x = y
    · rw [if_pos (e.mpr q), if_pos q]; omega
    · rw [if_neg (fun h => q (e.mp h)), if_neg q]; omega
theorem take_mono : ∀ (w : Nat) (x y : List Nat), x < y → Lte (x.take w) (y.take w)
  | 0, _, _, _ => .inr (by simp)
  | w + 1, [], [], h => absurd h (List.lt_irrefl _)
  | w + 1, [], b :: y, _ => .inl (by simp)
  | w + 1, a :: x, [], h => by cases h
  | w + 1, a :: x, b :: y, h => by
    rw [List.cons_lt_cons_iff] at h
    rw [List.take_succ_cons, List.take_succ_cons]
    rcases h with h | ⟨rfl, h⟩
    · exact .inl (lt_heads h _ _)
    · rcases take_mono w x y h with q | q
      · exact .inl (List.cons_lt_cons_iff.mpr (.inr ⟨rfl, q⟩))
      · exact .inr (by rw [q])

/-- the common fronts of neighbours -/
def adjL : List (List Nat) → List Nat
  | x :: y :: r => lcp x y :: adjL (y :: r)
  | _ => []
theorem adjL_len : ∀ l : List (List Nat), (adjL l).length = l.length - 1
  | [] => rfl
  | [_] => rfl
  | x :: y :: r => by
    have := adjL_len (y :: r)
    simp only [adjL, List.length_cons] at this ⊢
    omega
theorem adjL_get : ∀ (l : List (List Nat)) (i : Nat) (h : i + 1 < l.length), (adjL l)[i]? = some (lcp (l[i]'(by omega)) l[i + 1])
  | [], i, h => by simp at h
  | [_], i, h => by simp at h
  | x :: y :: r, 0, _ => rfl
  | x :: y :: r, i + 1, h => by
    have := adjL_get (y :: r) i (by simpa using h)
    simpa [adjL] using this
theorem adjc_take (w : Nat) : ∀ (l : List (List Nat)), l.Pairwise (· < ·) → adjc (l.map (·.take w)) = (adjL l).countP (fun k => decide (w ≤ k))
  | [], _ => rfl
  | [_], _ => rfl
  | x :: y :: r, h => by
    have ih := adjc_take w (y :: r) h.tail
    have hxy : x < y := List.rel_of_pairwise_cons h (.head _)
    have hne : x ≠ y := fun q => List.lt_irrefl y (by rw [q] at hxy; exact hxy)
    show (if x.take w = y.take w then 1 else 0) + adjc ((y :: r).map (·.take w)) = (lcp x y :: adjL (y :: r)).countP _
    rw [ih, List.countP_cons]
    by_cases q : x.take w = y.take w
    · rw [if_pos q, if_pos (decide_eq_true (take_lcp x y w q hne))]; omega
    · rw [if_neg q, if_neg (by rw [decide_eq_true_eq]; exact fun h => q (lcp_take x y w h))]; omega

/-- the ends of a text -/
def sfx (t : List Nat) : List (List Nat) := (List.range t.length).map fun i => t.drop i
theorem count_law (t : List Nat) (ss : List (List Nat)) (hp : ss.Perm (sfx t)) (hs : ss.Pairwise (· < ·)) (w : Nat) (h1 : 1 ≤ w) (h2 : w ≤ t.length) :
    dcUpto (fun i => (t.drop i).take w) (t.length - w + 1) + (adjL ss).countP (fun k => decide (w ≤ k)) = t.length - w + 1 := by
  generalize hg : (fun i => (t.drop i).take w) = g
  have hK : (ss.map (·.take w)).Pairwise Lte := by
    rw [List.pairwise_map]
    exact hs.imp fun h => take_mono w _ _ h
  have a1 := dcl_adjc _ hK
  rw [adjc_take w ss hs, List.length_map] at a1
  have hl : ss.length = t.length := by rw [hp.length_eq]; simp [sfx]
  have a2 : dcl (ss.map (·.take w)) = dcUpto g t.length := by
    rw [dcUpto_eq, dcl_perm (hp.map _)]
    unfold sfx
    rw [List.map_map, ← hg]
    rfl
  rw [a2, hl] at a1
  have a3 : ∀ d, t.length - w + 1 + d ≤ t.length → dcUpto g (t.length - w + 1 + d) = dcUpto g (t.length - w + 1) + d := by
    intro d
    induction d with
    | zero => intro _; rfl
    | succ d ih =>
      intro hd
      have hno : ¬ ∃ j, j < t.length - w + 1 + d ∧ g j = g (t.length - w + 1 + d) := by
        rintro ⟨j, hj, e⟩
        have := congrArg List.length e
        rw [← hg] at this
        simp only [List.length_take, List.length_drop] at this
        omega
      show dcUpto g (t.length - w + 1 + d) + (if ∃ j, j < t.length - w + 1 + d ∧ g j = g (t.length - w + 1 + d) then 0 else 1) = _
      rw [if_neg hno, ih (by omega)]
      omega
  have a4 := a3 (w - 1) (by omega)
  rw [show t.length - w + 1 + (w - 1) = t.length by omega] at a4
  omega
end

section
open PySem PySem.W PySem.Spec PySem.Calls PyProof.Rows
set_option linter.unusedVariables false
set_option maxRecDepth 100000
set_option maxHeartbeats 2000000
def headF (line : List Nat) (k : Nat) : List Nat := 39 :: (line.take 4 ++ note (line.length - 4 - k) ++ line.drop (line.length - k))
theorem headF_eq {line : List Nat} {k : Nat} (h : k + 17 < line.length + 1) : shortF (39 :: line) 5 k = headF line k := by
  rw [shortF_cut (by simp; omega)]
  unfold headF
  rw [List.length_cons, show line.length + 1 - 5 - k = line.length - 4 - k by omega, show line.length + 1 - k = (line.length - k) + 1 by omega]
  simp
theorem qt_drop (line s : List Nat) : (qt (line ++ s)).drop (line.length + 1) = s ++ [39] := by
  unfold qt
  simp
theorem qt_drop0 (line : List Nat) : (qt line).drop (line.length + 1) = [39] := by
  unfold qt
  simp
theorem late_told (c : Cx) (line : List Nat) (more : Nat) (hp : ∀ z ∈ line, plainC z = true) (h1 : 90 ≤ line.length) (h2 : line.length < 5000) (hm : 1 ≤ more) (hm2 : more ≤ 1000) :
    Calls c 6 (.ref 61) [.str (line ++ [98]), .str (line ++ List.replicate more 97), .str line] (.tup ([headF line (max (62 - more) 5) ++ [98, 39], headF line (max (62 - more) 5) ++ shortF (List.replicate more 97 ++ [39]) 41 5, headF line (max (62 - more) 5) ++ [39]].map .str)) := by
  obtain ⟨m', rfl⟩ : ∃ m', more = m' + 1 := ⟨more - 1, by omega⟩
  have d1 : Div (39 :: line) (qt line) (qt (line ++ [98])) := ⟨39, 98, [], [39], by simp [qt], by simp [qt], by decide⟩
  have d2 : Div (39 :: line) (qt line) (qt (line ++ List.replicate (m' + 1) 97)) := ⟨39, 97, [], List.replicate m' 97 ++ [39], by simp [qt], by simp [qt, List.replicate_succ], by decide⟩
  have d3 : Div (39 :: line) (qt (line ++ List.replicate (m' + 1) 97)) (qt (line ++ [98])) := ⟨97, 98, List.replicate m' 97 ++ [39], [39], by simp [qt, List.replicate_succ], by simp [qt], by decide⟩
  have T : Told [line ++ [98], line ++ List.replicate (m' + 1) 97, line] line (line ++ [98]) (39 :: line) (line.length + (m' + 1) + 2) := by
    refine ⟨by simp, by simp, d1, fun z hz => ?_, fun z hz => ?_, fun z hz => ?_, by simp, ⟨line ++ List.replicate (m' + 1) 97, by simp, by simp⟩, fun z hz => ?_, by omega, by omega⟩
    · rcases List.mem_cons.mp hz with rfl | hz
      · exact .inr d1.lt
      · rcases List.mem_cons.mp hz with rfl | hz
        · exact .inr d2.lt
        · exact .inl (List.mem_singleton.mp hz)
    · rcases List.mem_cons.mp hz with rfl | hz
      · exact .inl rfl
      · rcases List.mem_cons.mp hz with rfl | hz
        · exact .inr d3.lt
        · rw [List.mem_singleton.mp hz]; exact .inr d1.lt
    · intro x hx
      rcases List.mem_cons.mp hz with rfl | hz
      · rcases List.mem_append.mp hx with hx | hx
        · exact hp x hx
        · rw [List.mem_singleton.mp hx]; decide
      · rcases List.mem_cons.mp hz with rfl | hz
        · rcases List.mem_append.mp hx with hx | hx
          · exact hp x hx
          · rw [(List.mem_replicate.mp hx).2]; decide
        · rw [List.mem_singleton.mp hz] at hx; exact hp x hx
    · rcases List.mem_cons.mp hz with rfl | hz
      · simp
      · rcases List.mem_cons.mp hz with rfl | hz
        · simp
        · rw [List.mem_singleton.mp hz]; omega
  have hq : (39 :: line).length = line.length + 1 := rfl
  by_cases hlong : m' + 1 ≤ 56
  · have := csrS_long c T (by rw [hq]; omega)
    have hk : max (62 - (m' + 1)) 5 = 62 - (m' + 1) := by omega
    have e0 : shortF (39 :: line) 5 (63 + (39 :: line).length - (line.length + (m' + 1) + 2)) = headF line (max (62 - (m' + 1)) 5) := by
      rw [hq, hk, show 63 + (line.length + 1) - (line.length + (m' + 1) + 2) = 62 - (m' + 1) by omega, headF_eq (by omega)]
    have e1 : longF (39 :: line) (line.length + (m' + 1) + 2) (line ++ [98]) = headF line (max (62 - (m' + 1)) 5) ++ [98, 39] := by
      unfold longF; rw [e0, hq, qt_drop]; rfl
    have e2 : longF (39 :: line) (line.length + (m' + 1) + 2) (line ++ List.replicate (m' + 1) 97) = headF line (max (62 - (m' + 1)) 5) ++ shortF (List.replicate (m' + 1) 97 ++ [39]) 41 5 := by
      unfold longF; rw [e0, hq, qt_drop, shortF_id (by simp; omega)]
    have e3 : longF (39 :: line) (line.length + (m' + 1) + 2) line = headF line (max (62 - (m' + 1)) 5) ++ [39] := by
      unfold longF; rw [e0, hq, qt_drop0]
    rw [← e1, ← e2, ← e3]
    exact this
  · have := csrS_cut c T (by rw [hq]; omega)
    have hk : max (62 - (m' + 1)) 5 = 5 := by omega
    have e0 : shortF (39 :: line) 5 5 = headF line (max (62 - (m' + 1)) 5) := by rw [hk, headF_eq (by omega)]
    have e1 : cutF (39 :: line) (line ++ [98]) = headF line (max (62 - (m' + 1)) 5) ++ [98, 39] := by
      unfold cutF; rw [e0, hq, qt_drop, shortF_id (by simp)]; rfl
    have e2 : cutF (39 :: line) (line ++ List.replicate (m' + 1) 97) = headF line (max (62 - (m' + 1)) 5) ++ shortF (List.replicate (m' + 1) 97 ++ [39]) 41 5 := by
      unfold cutF; rw [e0, hq, qt_drop]
    have e3 : cutF (39 :: line) line = headF line (max (62 - (m' + 1)) 5) ++ [39] := by
      unfold cutF; rw [e0, hq, qt_drop0, shortF_id (by simp)]
    rw [← e1, ← e2, ← e3]
    exact this

theorem Sub.dup {x : PySem.Str} {p : PV} {Γ : List (PySem.Str × PV)} : Sub ((x, p) :: (x, p) :: Γ) ((x, p) :: Γ) := fun y q e => by
  rw [List.lookup_cons] at e ⊢
  by_cases h : y = x
  · subst h; rw [beq_self_eq_true] at e ⊢; exact e
  · rw [beq_eq_false_iff_ne.mpr h, List.lookup_cons, beq_eq_false_iff_ne.mpr h] at e
    rw [beq_eq_false_iff_ne.mpr h]; exact e
theorem q97 : (Str.ofString "a").cps.toList = [97] := by decide +kernel
theorem q98 : (Str.ofString "b").cps.toList = [98] := by decide +kernel
theorem qb39 : (Str.ofString "b'").cps.toList = [98, 39] := by decide +kernel

theorem law_late (c : Cx) (line : List Nat) (more : Nat) (hp : ∀ z ∈ line, plainC z = true) (h1 : 90 ≤ line.length) (h2 : line.length < 5000) (hm : 1 ≤ more) (hm2 : more ≤ 1000) :
    Calls c 7 (.ref 135) [.str line, .int more] (.bool true) := by
  refine Calls.def (n := 6) (names := [Str.ofString "line", Str.ofString "more"]) (ho := rfl) (hcd := by kernel_rfl) (hbody := rfl) (hbind := all2 fun _ _ => rfl) (hclo := rfl) (hnames := by decide) (hkind := by rfl) (hcn := by decide) (hfree := by rfl) (hb := ?_)
  intro L V
  have told := late_told c line more hp h1 h2 hm hm2
  generalize hA : List.replicate more 97 = A at told
  have hAl : A.length = more := by rw [← hA]; simp
  have hsl := sizeLine_eq
  have hA' : ∃ A', A = 97 :: A' := by
    obtain ⟨m', rfl⟩ : ∃ m', more = m' + 1 := ⟨more - 1, by omega⟩
    exact ⟨_, hA.symm.trans List.replicate_succ⟩
  have l1 : line < line ++ A := by
    obtain ⟨A', rfl⟩ := hA'
    have := (lt_app line (x := []) (y := 97 :: A')).mpr (List.nil_lt_cons _ _)
    simpa using this
  have l2 : line ++ A < line ++ [98] := by
    obtain ⟨A', rfl⟩ := hA'
    exact (lt_app line).mpr (lt_heads (by decide) _ _)
  have l3 := List.lt_trans l1 l2
  have hperm : [line, line ++ A, line ++ [98]].Perm [line ++ [98], line ++ A, line] := by
    refine (List.Perm.swap (line ++ A) line [line ++ [98]]).trans ?_
    refine (List.Perm.cons (line ++ A) (List.Perm.swap (line ++ [98]) line [])).trans ?_
    exact List.Perm.swap (line ++ [98]) (line ++ A) [line]
  have hpair : [line, line ++ A, line ++ [98]].Pairwise (fun a b => ¬ b < a) := by
    refine List.Pairwise.cons (fun z hz => ?_) (List.Pairwise.cons (fun z hz => ?_) (List.pairwise_singleton _ _))
    · rcases List.mem_cons.mp hz with rfl | hz
      · exact lt_asymm' l1
      · rw [List.mem_singleton.mp hz]; exact lt_asymm' l3
    · rw [List.mem_singleton.mp hz]; exact lt_asymm' l2
  generalize hk : max (62 - more) 5 = keep at told
  have hkle : keep ≤ 61 ∧ 5 ≤ keep := by omega
  refine Ex.cons (St.assign (p := .list ([line, line ++ A, line ++ [98]].map .str)) (Ev.sortKey (xs := [line ++ [98], line ++ A, line]) ?_ (Ev.lst (ps := [.str (line ++ [98]), .str (line ++ A), .str line]) (.cons (Ev.bin (pa := .str line) (pb := .str [98]) ?_ (Ev.castS Ev.str q98) (BinF.cat ?_)) (.cons (Ev.bin (pa := .str line) (pb := .str A) ?_ (Ev.castS (Ev.rep1 (ch := 97) (k := more) (Ev.castS Ev.str q97) ?_ hm2) hA) (BinF.cat ?_)) (.cons ?_ .nil))) (by simp)) ?_ hperm hpair (by simp) (by decide)) rfl rfl) ?_
  · walk_at "mine atom"
  · walk_at "mine atom"
  · simp; omega
  · walk_at "mine atom"
  · walk_at "mine atom"
  · omega
  · walk_at "mine atom"
  · walk_at "mine atom"
  refine Ex.cons (St.ifF (b := !decide ([line, line ++ A, line ++ [98]] = [line, line ++ A, line ++ [98]])) (Tst.cmp (pa := .list ([line, line ++ A, line ++ [98]].map .str)) (pb := .list ([line, line ++ A, line ++ [98]].map .str)) ?_ (Ev.lst (ps := [.str line, .str (line ++ A), .str (line ++ [98])]) (.cons ?_ (.cons (Ev.bin (pa := .str line) (pb := .str A) ?_ (Ev.castS (Ev.rep1 (ch := 97) (k := more) (Ev.castS Ev.str q97) ?_ hm2) hA) (BinF.cat ?_)) (.cons (Ev.bin (pa := .str line) (pb := .str [98]) ?_ (Ev.castS Ev.str q98) (BinF.cat ?_)) .nil))) (by simp)) (CmpF.neL EqG.str) TruF.bool) (by simp) Ex.nil) ?_
  · walk_at "mine atom"
  · walk_at "mine atom"
  · walk_at "mine atom"
  · walk_at "mine atom"
  · omega
  · walk_at "mine atom"
  · simp; omega
  refine Ex.cons (St.ifF (b := !true || !true) (Tst.or (Tst.not (Tst.val (p := .bool true) (Ev.call (ps := [.str line, .str (line ++ A)]) ?_ (Callee.fn (by kernel_rfl)) (.cons (Ev.item (l := [line, line ++ A, line ++ [98]].map .str) (k := 0) ?_ Ev.int rfl (by simp)) (.cons (Ev.item (l := [line, line ++ A, line ++ [98]].map .str) (k := 1) ?_ Ev.int rfl (by simp)) .nil)) ((law_ordered c _ _ l1 (by omega)).mono (by decide))) TruF.bool))
    fun _ => Tst.not (Tst.val (p := .bool true) (Ev.call (ps := [.str (line ++ A), .str (line ++ [98])]) ?_ (Callee.fn (by kernel_rfl)) (.cons (Ev.item (l := [line, line ++ A, line ++ [98]].map .str) (k := 1) ?_ Ev.int rfl (by simp)) (.cons (Ev.item (l := [line, line ++ A, line ++ [98]].map .str) (k := 2) ?_ Ev.int rfl (by simp)) .nil)) ((law_ordered c _ _ l2 (by simp; omega)).mono (by decide))) TruF.bool)) (by decide) Ex.nil) ?_
  · walk_at "mine atom"
  · walk_at "mine atom"
  · walk_at "mine atom"
  · walk_at "mine atom"
  · walk_at "mine atom"
  · walk_at "mine atom"
  refine Ex.cons (St.assign (p := .int keep) (Ev.castI (Ev.call (ps := [.int (62 - (more : Int)), .int 5]) ?_ Callee.builtin (.cons (Ev.bin (pa := .int 62) (pb := .int more) ?_ ?_ BinF.sub) (.cons Ev.int .nil)) Calls.max2) (by omega)) rfl rfl) ?_
  · walk_at "mine atom"
  · walk_at "mine atom"
  · walk_at "mine atom"
  have hn : ∀ {k : Nat}, k < 10 ^ 10 → Calls c 6 (.ref 116) [.int (k : Int)] (.str (note k)) := fun h => (law_note c _ h).mono (by decide)
  have hnl := note_len (n := line.length - 4 - keep) (by omega)
  refine Ex.cons (St.assign (p := .str (headF line keep)) (Ev.castS (Ev.bin (pa := .str (39 :: (line.take 4 ++ note (line.length - 4 - keep)))) (pb := .str (line.drop (line.length - keep))) (Ev.castS (Ev.bin (pa := .str (39 :: line.take 4)) (pb := .str (note (line.length - 4 - keep))) (Ev.castS (Ev.bin (pa := .str [39]) (pb := .str (line.take 4)) (Ev.castS Ev.str q39) (Ev.castS (Ev.cut (x := line) (l := none) (u := some ((4 : Nat) : Int)) ?_ rfl ⟨_, rfl, Ev.int⟩ ?_) (slc_to _ _)) (BinF.cat ?_)) rfl)
    (Ev.call (ps := [.int ((line.length - 4 - keep : Nat) : Int)]) ?_ (Callee.fn (by kernel_rfl)) (.cons (Ev.castI (Ev.bin (pb := .int keep) (Ev.bin (pa := .int line.length) (pb := .int 4) (Ev.call (ps := [.str line]) ?_ Callee.builtin (.cons ?_ .nil) (Calls.lenS (by omega))) Ev.int BinF.sub) ?_ BinF.sub) (by omega)) .nil) (hn (by omega))) (BinF.cat ?_)) rfl) (Ev.castS (Ev.cut (x := line) (l := some (-((keep : Nat) : Int))) (u := none) ?_ ⟨_, rfl, Ev.neg ?_⟩ rfl ?_) (slc_neg _ _ (by omega))) (BinF.cat ?_)) rfl) rfl rfl) ?_
  · walk_at "mine atom"
  · omega
  · simp only [List.length_cons, List.length_nil, List.length_take]; omega
  · walk_at "mine atom"
  · walk_at "mine atom"
  · walk_at "mine atom"
  · walk_at "mine atom"
  · simp only [List.length_cons, List.length_nil, List.length_take]; omega
  · walk_at "mine atom"
  · walk_at "mine atom"
  · omega
  · simp only [List.length_cons, List.length_nil, List.length_take, List.length_append, List.length_drop]; omega
  refine Ex.cons (St.assign (p := .str (A ++ [39])) (Ev.bin (pa := .str A) (pb := .str [39]) (Ev.castS (Ev.rep1 (ch := 97) (k := more) (Ev.castS Ev.str q97) ?_ hm2) hA) (Ev.castS Ev.str q39) (BinF.cat ?_)) rfl rfl) ?_
  · walk_at "mine atom"
  · simp; omega
  have hRl := shortF_len (A ++ [39]) 41 5 (by rw [List.length_append, hAl]; simp; omega)
  rw [List.length_append, hAl] at hRl
  generalize hR : shortF (A ++ [39]) 41 5 = R at told hRl
  have hHl : (headF line keep).length ≤ 10000 := by
    simp only [headF, List.length_cons, List.length_take, List.length_append, List.length_drop]; omega
  refine Ex.cons (Γ' := (Str.ofString "rest", .str R) :: (Str.ofString "rest", .str (A ++ [39])) :: (Str.ofString "head", .str (headF line keep)) :: (Str.ofString "keep", .int keep) :: (Str.ofString "row", .list ([line, line ++ A, line ++ [98]].map .str)) :: [(Str.ofString "line", .str line), (Str.ofString "more", .int more)]) ?_ ?_
  · by_cases h57 : 57 < more
    · have hn45 := note_len (n := more - 45) (by omega)
      refine St.ifT (b := decide ((more : Int) > 57)) (Tst.cmp (pa := .int more) (pb := .int 57) ?_ ?_ CmpF.gtI TruF.bool) (by simp; omega) (Ex.cons (St.assign (p := .str R) (Ev.castS (Ev.bin (pa := .str ((A ++ [39]).take 41 ++ note (more - 45))) (pb := .str ((A ++ [39]).drop ((A ++ [39]).length - 5))) (Ev.bin (pa := .str ((A ++ [39]).take 41)) (pb := .str (note (more - 45))) (Ev.castS (Ev.cut (x := A ++ [39]) (l := none) (u := some ((41 : Nat) : Int)) ?_ rfl ⟨_, rfl, Ev.int⟩ ?_) (slc_to _ _)) (Ev.call (ps := [.int ((more - 45 : Nat) : Int)]) ?_ (Callee.fn (by kernel_rfl)) (.cons (Ev.castI (Ev.bin (pa := .int more) (pb := .int 45) ?_ ?_ BinF.sub) (by omega)) .nil) (hn (by omega))) (BinF.cat ?_)) (Ev.castS (Ev.cut (x := A ++ [39]) (l := some (-((5 : Nat) : Int))) (u := none) ?_ ⟨_, rfl, Ev.neg (i := 5) ?_⟩ rfl ?_) (slc_neg _ _ (by decide))) (BinF.cat ?_)) ?_) rfl rfl) Ex.nil)
      · walk_at "mine atom"
      · walk_at "mine atom"
      · walk_at "mine atom"
      · rw [List.length_append, hAl]; simp; omega
      · walk_at "mine atom"
      · walk_at "mine atom"
      · walk_at "mine atom"
      · rw [List.length_take, List.length_append, hAl]; simp; omega
      · walk_at "mine atom"
      · walk_at "mine atom"
      · rw [List.length_append, hAl]; simp; omega
      · simp only [List.length_append, List.length_take, List.length_drop, hAl, List.length_cons, List.length_nil]; omega
      · rw [← hR, shortF_cut (by rw [List.length_append, hAl]; simp; omega)]
        simp only [List.length_append, hAl, List.length_cons, List.length_nil]
        rw [show more + (0 + 1) - 41 - 5 = more - 45 by omega]
    · have e : A ++ [39] = R := by rw [← hR, shortF_id (by rw [List.length_append, hAl]; simp; omega)]
      rw [e]
      refine St.ifF (b := decide ((more : Int) > 57)) (Tst.cmp (pa := .int more) (pb := .int 57) ?_ ?_ CmpF.gtI TruF.bool) (by simp; omega) (Ex.weak Ex.nil Sub.dup)
      · walk_at "mine atom"
      · walk_at "mine atom"
  refine Ex.ret (St.ret (Ev.cast (Ev.cmp (pa := .tup ([headF line keep ++ [98, 39], headF line keep ++ R, headF line keep ++ [39]].map .str)) (pb := .tup ([headF line keep ++ [98, 39], headF line keep ++ R, headF line keep ++ [39]].map .str)) (Ev.call (ps := [.str (line ++ [98]), .str (line ++ A), .str line]) ?_ (Callee.fn (by kernel_rfl)) (.cons (Ev.item (l := [line, line ++ A, line ++ [98]].map .str) (k := 2) ?_ Ev.int rfl (by simp)) (.cons (Ev.item (l := [line, line ++ A, line ++ [98]].map .str) (k := 1) ?_ Ev.int rfl (by simp)) (.cons (Ev.item (l := [line, line ++ A, line ++ [98]].map .str) (k := 0) ?_ Ev.int rfl (by simp)) .nil))) told)
    (Ev.tup (ps := [.str (headF line keep ++ [98, 39]), .str (headF line keep ++ R), .str (headF line keep ++ [39])]) (.cons (Ev.bin (pa := .str (headF line keep)) (pb := .str [98, 39]) ?_ (Ev.castS Ev.str qb39) (BinF.cat ?_)) (.cons (Ev.bin (pa := .str (headF line keep)) (pb := .str R) ?_ ?_ (BinF.cat ?_)) (.cons (Ev.bin (pa := .str (headF line keep)) (pb := .str [39]) ?_ (Ev.castS Ev.str q39) (BinF.cat ?_)) .nil))) (by simp)) (CmpF.eqT EqG.str)) (by simp)))
  all_goals try (first | exact Ev.local rfl rfl rfl rfl | walk_at "mine glob")
  all_goals (simp only [List.length_cons, List.length_nil] at hRl ⊢; omega)
end

section
set_option linter.unusedVariables false
set_option maxHeartbeats 1000000

theorem mem_sfx {t e : List Nat} : e ∈ sfx t ↔ ∃ i, i < t.length ∧ t.drop i = e := by simp [sfx]
theorem sfx_len {t e : List Nat} (h : e ∈ sfx t) : 0 < e.length ∧ e.length ≤ t.length := by
  obtain ⟨i, hi, rfl⟩ := mem_sfx.mp h
  rw [List.length_drop]; omega
theorem sfx_inj {t e e' : List Nat} (h : e ∈ sfx t) (h' : e' ∈ sfx t) (hl : e.length = e'.length) : e = e' := by
  obtain ⟨i, hi, rfl⟩ := mem_sfx.mp h
  obtain ⟨j, hj, rfl⟩ := mem_sfx.mp h'
  rw [List.length_drop, List.length_drop] at hl
  rw [show i = j by omega]
theorem sfx_tail {t e : List Nat} {a : Nat} (h : a :: e ∈ sfx t) (hne : e ≠ []) : e ∈ sfx t := by
  obtain ⟨i, hi, he⟩ := mem_sfx.mp h
  have h2 : t.drop (i + 1) = e := by rw [← List.tail_drop, he]; rfl
  refine mem_sfx.mpr ⟨i + 1, ?_, h2⟩
  have := congrArg List.length h2
  rw [List.length_drop] at this
  have : 0 < e.length := List.length_pos_iff.mpr hne
  omega
theorem sfx_all {t e : List Nat} {P : Nat → Prop} (ht : ∀ c ∈ t, P c) (h : e ∈ sfx t) : ∀ c ∈ e, P c := by
  obtain ⟨i, hi, rfl⟩ := mem_sfx.mp h
  exact fun c hc => ht c (List.mem_of_mem_drop hc)

theorem insert_sorted (x : List Nat) : ∀ l : List (List Nat), l.Pairwise (· < ·) → x ∉ l → ∃ l' : List (List Nat), l'.Perm (x :: l) ∧ l'.Pairwise (· < ·)
  | [], _, _ => ⟨[x], .refl _, List.pairwise_singleton _ _⟩
  | y :: r, h, hx => by
    by_cases hxy : x < y
    · refine ⟨x :: y :: r, .refl _, List.Pairwise.cons (fun z hz => ?_) h⟩
      rcases List.mem_cons.mp hz with rfl | hz
      · exact hxy
      · exact List.lt_trans hxy (List.rel_of_pairwise_cons h hz)
    · obtain ⟨l', hp, hs⟩ := insert_sorted x r h.tail (fun q => hx (.tail _ q))
      have hyx : y < x := by
        by_cases q : y < x
        · exact q
        · exact absurd (lt_anti hxy q) (fun e => hx (e ▸ .head _))
      refine ⟨y :: l', (hp.cons y).trans (List.Perm.swap x y r), List.Pairwise.cons (fun z hz => ?_) hs⟩
      rcases List.mem_cons.mp (hp.mem_iff.mp hz) with rfl | hz
      · exact hyx
      · exact List.rel_of_pairwise_cons h hz
theorem sort_exists : ∀ l : List (List Nat), l.Nodup → ∃ l' : List (List Nat), l'.Perm l ∧ l'.Pairwise (· < ·)
  | [], _ => ⟨[], .refl _, .nil⟩
  | x :: r, h => by
    obtain ⟨l', hp, hs⟩ := sort_exists r h.tail
    have hx : x ∉ l' := fun q => (List.nodup_cons.mp h).1 (hp.mem_iff.mp q)
    obtain ⟨l2, hp2, hs2⟩ := insert_sorted x l' hs hx
    exact ⟨l2, hp2.trans (hp.cons x), hs2⟩
theorem sfx_nodup (t : List Nat) : (sfx t).Nodup := by
  unfold sfx
  rw [List.Nodup, List.pairwise_map]
  refine List.Pairwise.imp_of_mem ?_ List.nodup_range
  intro i j hi hj hne e
  have hi := List.mem_range.mp hi
  have hj := List.mem_range.mp hj
  have := congrArg List.length e
  rw [List.length_drop, List.length_drop] at this
  omega

/-- the ends of a text, in order -/
structure Ends (t : List Nat) (ss : List (List Nat)) : Prop where
  perm : ss.Perm (sfx t)
  up : ss.Pairwise (· < ·)
  abc : ∀ c ∈ t, c = 66 ∨ c = 97 ∨ c = 98
theorem ends_exist {t : List Nat} (h : ∀ c ∈ t, c = 66 ∨ c = 97 ∨ c = 98) : ∃ ss, Ends t ss := by
  obtain ⟨ss, hp, hs⟩ := sort_exists _ (sfx_nodup t)
  exact ⟨ss, hp, hs, h⟩

section
variable {t : List Nat} {ss : List (List Nat)} {lead tail : Nat}
theorem Ends.len (E : Ends t ss) : ss.length = t.length := by rw [E.perm.length_eq]; simp [sfx]
theorem Ends.sub (E : Ends t ss) {e : List Nat} (h : e ∈ ss) : e ∈ sfx t := E.perm.mem_iff.mp h
theorem Ends.sup (E : Ends t ss) {e : List Nat} (h : e ∈ sfx t) : e ∈ ss := E.perm.mem_iff.mpr h
theorem Ends.abc' (E : Ends t ss) {e : List Nat} (h : e ∈ ss) : ∀ c ∈ e, c = 66 ∨ c = 97 ∨ c = 98 := sfx_all E.abc (E.sub h)
theorem Ends.big (E : Ends t ss) {e : List Nat} (h : e ∈ ss) : ∀ c ∈ e, 33 < c := fun c hc => by
  rcases E.abc' h c hc with rfl | rfl | rfl <;> decide
theorem Ends.lt (E : Ends t ss) {i j : Nat} (hij : i < j) (hj : j < ss.length) : ss[i] < ss[j] := List.pairwise_iff_getElem.mp E.up i j (by omega) hj hij

theorem mkLine_cons (lead tail : Nat) (e : List Nat) : mkLine lead tail e = List.replicate lead 45 ++ (e ++ 33 :: (List.replicate 69 33 ++ bl tail)) := by
  have : List.replicate 70 33 = 33 :: List.replicate 69 33 := rfl
  simp [mkLine, this]
theorem mkLine_div {x y : List Nat} (h : x < y) (hy : ∀ c ∈ y, 33 < c) : Div (List.replicate lead 45 ++ x.take (lcp x y)) (mkLine lead tail x) (mkLine lead tail y) := by
  rw [mkLine_cons, mkLine_cons]
  exact (lcp_div x y h hy).app _
theorem mkLine_plain {e : List Nat} (h : ∀ c ∈ e, c = 66 ∨ c = 97 ∨ c = 98) : ∀ c ∈ mkLine lead tail e, plainC c = true := by
  intro c hc
  rw [mkLine_cons] at hc
  rcases List.mem_append.mp hc with hc | hc
  · rw [(List.mem_replicate.mp hc).2]; decide
  · rcases List.mem_append.mp hc with hc | hc
    · rcases h c hc with rfl | rfl | rfl <;> decide
    · rcases List.mem_cons.mp hc with rfl | hc
      · decide
      · rcases List.mem_append.mp hc with hc | hc
        · rw [(List.mem_replicate.mp hc).2]; decide
        · rw [(List.mem_replicate.mp hc).2]; decide
theorem mkLine_at {e : List Nat} {a : Nat} : (mkLine lead tail (a :: e))[lead]? = some a := by
  rw [mkLine_cons, List.getElem?_append_right (by simp)]
  simp

/-- ranks rise -/
theorem rank_of (E : Ends t ss) {x y : List Nat} (hx : x ∈ ss) (hy : y ∈ ss) (h : x < y) : ((ss.map (mkLine lead tail)).map fun l => (l.length : Int)).idxOf ((mkLine lead tail x).length : Int) < ((ss.map (mkLine lead tail)).map fun l => (l.length : Int)).idxOf ((mkLine lead tail y).length : Int) := by
  generalize hM : (ss.map (mkLine lead tail)).map (fun l => (l.length : Int)) = M
  have hMl : M.length = ss.length := by rw [← hM]; simp
  have hget : ∀ i (h : i < M.length), M[i] = ((lead + (ss[i]'(by omega)).length + 70 + tail : Nat) : Int) := fun i h => by
    subst hM; simp [mkLine_len]
  have hmem : ∀ z ∈ ss, ((mkLine lead tail z).length : Int) ∈ M := fun z hz => by
    rw [← hM]; exact List.mem_map.mpr ⟨_, List.mem_map.mpr ⟨z, hz, rfl⟩, rfl⟩
  have key : ∀ z ∈ ss, ∃ h : M.idxOf ((mkLine lead tail z).length : Int) < ss.length, ss[M.idxOf ((mkLine lead tail z).length : Int)] = z := fun z hz => by
    have hi := List.idxOf_lt_length_iff.mpr (hmem z hz)
    have e := List.getElem_idxOf hi
    rw [hget _ hi] at e
    refine ⟨by omega, sfx_inj (E.sub (List.getElem_mem _)) (E.sub hz) ?_⟩
    have e4 := Int.ofNat.inj e
    have e5 := mkLine_len lead tail z
    omega
  obtain ⟨h1, e1⟩ := key x hx
  obtain ⟨h2, e2⟩ := key y hy
  rcases Nat.lt_trichotomy (M.idxOf ((mkLine lead tail x).length : Int)) (M.idxOf ((mkLine lead tail y).length : Int)) with q | q | q
  · exact q
  · simp only [q] at e1
    rw [e1] at e2
    rw [e2] at h
    exact absurd h (List.lt_irrefl _)
  · have := E.lt q h1
    rw [e1, e2] at this
    exact absurd this (lt_asymm' h)
theorem rising (E : Ends t ss) (i : Nat) (h : i + 1 < (ss.map (mkLine lead tail)).length) :
    Lt2 (prF (ss.map (mkLine lead tail)) ((lead + 71 + tail : Nat) : Int) lead ((ss.map (mkLine lead tail))[i]'(by omega))) (prF (ss.map (mkLine lead tail)) ((lead + 71 + tail : Nat) : Int) lead (ss.map (mkLine lead tail))[i + 1]) := by
  have h' : i + 1 < ss.length := by rwa [List.length_map] at h
  rw [List.getElem_map, List.getElem_map]
  have hlt := E.lt (Nat.lt_succ_self i) h'
  have m1 : ss[i] ∈ ss := List.getElem_mem _
  have m2 : ss[i + 1] ∈ ss := List.getElem_mem _
  generalize ss[i] = x at hlt m1
  generalize ss[i + 1] = y at hlt m2
  have lx := sfx_len (E.sub m1)
  have ly := sfx_len (E.sub m2)
  match x, y, lx, ly, hlt, m1, m2 with
  | a :: x, b :: y, _, _, hlt, m1, m2 =>
    unfold prF
    simp only [List.getD, mkLine_at, Option.getD_some]
    have hr : ∀ (d : Nat) (z : List Nat), d :: z ∈ ss → (szF (ss.map (mkLine lead tail)) ((lead + 71 + tail : Nat) : Int)).idxOf (((mkLine lead tail (d :: z)).length : Int) - 1) = if z = [] then 0 else ((ss.map (mkLine lead tail)).map fun l => (l.length : Int)).idxOf ((mkLine lead tail z).length : Int) + 1 := by
      intro d z hz
      unfold szF
      rw [List.idxOf_cons]
      by_cases e : z = []
      · subst e
        rw [if_pos rfl, mkLine_len]
        have : (((lead + 71 + tail : Nat) : Int) - 1 == ((lead + [d].length + 70 + tail : Nat) : Int) - 1) = true := by
          rw [beq_iff_eq]; simp; omega
        rw [this]; rfl
      · have hzp : 0 < z.length := List.length_pos_iff.mpr e
        rw [if_neg e]
        have : (((lead + 71 + tail : Nat) : Int) - 1 == ((mkLine lead tail (d :: z)).length : Int) - 1) = false := by
          rw [beq_eq_false_iff_ne, mkLine_len]; simp; omega
        rw [this]
        have e2 : ((mkLine lead tail (d :: z)).length : Int) - 1 = ((mkLine lead tail z).length : Int) := by
          rw [mkLine_len, mkLine_len, List.length_cons]; omega
        rw [e2]; rfl
    rw [hr a x m1, hr b y m2]
    rw [List.cons_lt_cons_iff] at hlt
    rcases hlt with hab | ⟨rfl, hxy⟩
    · left
      show (chRank a : Int) < chRank b
      have ha := E.abc' m1 a (.head _)
      have hb := E.abc' m2 b (.head _)
      have : chRank a < chRank b := by
        rcases ha with rfl | rfl | rfl <;> rcases hb with rfl | rfl | rfl <;> first | omega | decide
      omega
    · right
      refine ⟨rfl, ?_⟩
      have hy : y ≠ [] := fun q => by subst q; cases x <;> cases hxy
      have my := E.sup (sfx_tail (E.sub m2) hy)
      show ((if x = [] then 0 else _ : Nat) : Int) < ((if y = [] then 0 else _ : Nat) : Int)
      rw [if_neg hy]
      by_cases hx : x = []
      · rw [if_pos hx]; omega
      · rw [if_neg hx]
        have := rank_of (lead := lead) (tail := tail) E (E.sup (sfx_tail (E.sub m1) hx)) my hxy
        omega
theorem min_in (E : Ends t ss) (ht : 0 < t.length) : ((lead + 71 + tail : Nat) : Int) ∈ (ss.map (mkLine lead tail)).map fun l => (l.length : Int) := by
  refine List.mem_map.mpr ⟨_, List.mem_map.mpr ⟨t.drop (t.length - 1), E.sup (mem_sfx.mpr ⟨t.length - 1, by omega, rfl⟩), rfl⟩, ?_⟩
  rw [mkLine_len, List.length_drop]; omega
theorem min_le (E : Ends t ss) : ∀ x ∈ (ss.map (mkLine lead tail)).map (fun l => (l.length : Int)), ((lead + 71 + tail : Nat) : Int) ≤ x := by
  intro x hx
  obtain ⟨l, hl, rfl⟩ := List.mem_map.mp hx
  obtain ⟨e, he, rfl⟩ := List.mem_map.mp hl
  have := sfx_len (E.sub he)
  rw [mkLine_len]; omega
theorem letter_at (E : Ends t ss) : ∀ l ∈ ss.map (mkLine lead tail), ∃ z, l[lead]? = some z ∧ (z = 66 ∨ z = 97 ∨ z = 98) := by
  intro l hl
  obtain ⟨e, he, rfl⟩ := List.mem_map.mp hl
  have := sfx_len (E.sub he)
  match e, this, he with
  | a :: e, _, he => exact ⟨a, mkLine_at, E.abc' he a (.head _)⟩
theorem less_in (E : Ends t ss) : ∀ l ∈ ss.map (mkLine lead tail), (l.length : Int) - 1 ∈ szF (ss.map (mkLine lead tail)) ((lead + 71 + tail : Nat) : Int) := by
  intro l hl
  obtain ⟨e, he, rfl⟩ := List.mem_map.mp hl
  have := sfx_len (E.sub he)
  match e, this, he with
  | a :: e, _, he =>
    unfold szF
    by_cases q : e = []
    · subst q
      rw [mkLine_len]
      exact List.mem_cons.mpr (.inl (by simp; omega))
    · refine .tail _ (List.mem_map.mpr ⟨_, List.mem_map.mpr ⟨e, E.sup (sfx_tail (E.sub he) q), rfl⟩, ?_⟩)
      rw [mkLine_len, mkLine_len, List.length_cons]; omega
end
end

section
set_option linter.unusedVariables false
set_option maxHeartbeats 1000000

theorem toldF_def (z : List Nat) (p : Nat) : toldF z p = (qt z).take 5 ++ note (p - 10) ++ ((qt z).take p).drop (p - 5) ++ ((qt z).take (p + 41)).drop p ++ note ((qt z).length - p - 46) ++ (qt z).drop ((qt z).length - 5) := rfl
theorem cut_told {q z : List Nat} (hq : (qt z).take q.length = q) (h1 : 22 < q.length) (h2 : q.length + 58 < (qt z).length) : cutF q z = toldF z q.length := by
  unfold cutF
  rw [shortF_cut (x := q) (by omega), shortF_cut (x := (qt z).drop q.length) (by rw [List.length_drop]; omega), toldF_def]
  have e1 : q.take 5 = (qt z).take 5 := by
    have : q.take 5 = ((qt z).take q.length).take 5 := by rw [hq]
    rw [this, List.take_take, Nat.min_eq_left (by omega)]
  have e2 : q.drop (q.length - 5) = ((qt z).take q.length).drop (q.length - 5) := by rw [hq]
  have e3 : ((qt z).drop q.length).take 41 = ((qt z).take (q.length + 41)).drop q.length := by
    rw [List.drop_take]; congr 1; omega
  have e4 : ((qt z).drop q.length).drop (((qt z).drop q.length).length - 5) = (qt z).drop ((qt z).length - 5) := by
    rw [List.drop_drop, List.length_drop]; congr 1; omega
  rw [e1, e2, e3, e4, List.length_drop, show q.length - 5 - 5 = q.length - 10 by omega, show (qt z).length - q.length - 41 - 5 = (qt z).length - q.length - 46 by omega]
  simp only [List.append_assoc]
theorem told_div {q x y : List Nat} (h : Div q (qt x) (qt y)) (h1 : 22 < q.length) (hx : q.length + 58 < (qt x).length) (hy : q.length + 58 < (qt y).length) : toldF x q.length < toldF y q.length := by
  rw [← cut_told h.take h1 hx, ← cut_told h.takeR h1 hy]
  obtain ⟨a, b, x', y', e1, e2, hab⟩ := h
  have l1 := congrArg List.length e1
  have l2 := congrArg List.length e2
  simp only [List.length_append, List.length_cons] at l1 l2
  unfold cutF
  have d1 : (qt x).drop q.length = a :: x' := by rw [e1]; simp
  have d2 : (qt y).drop q.length = b :: y' := by rw [e2]; simp
  rw [d1, d2, shortF_cut (x := a :: x') (by simp; omega), shortF_cut (x := b :: y') (by simp; omega)]
  refine (lt_app _).mpr ?_
  simp only [List.take_succ_cons, List.cons_append]
  exact lt_heads hab _ _

theorem first_at {A CH R : List Nat} (hA : ∀ c ∈ A, c ≠ 32) (hC : CH.head? = some 32) : FirstAt (A ++ CH ++ R) CH A.length := by
  refine ⟨⟨by simp, by simp⟩, ?_⟩
  rintro j hj ⟨_, e⟩
  match CH, hC, e with
  | d :: C', hC, e =>
    simp at hC
    subst hC
    have := congrArg (fun l => l[0]?) e
    simp only [List.length_cons, List.getElem?_cons_zero] at this
    rw [List.getElem?_take_of_lt (by omega), List.getElem?_drop, Nat.add_zero, List.append_assoc, List.getElem?_append_left hj] at this
    exact hA 32 (List.mem_of_getElem? this) rfl
theorem dec_no32 : ∀ n, n < 64 → ∀ c ∈ dec n, c ≠ 32 := by decide +kernel
def CH : List Nat := [32, 99, 104, 97, 114, 115, 93]
theorem told_split {x : List Nat} {p : Nat} (hx : (qt x).take 5 = [39, 45, 45, 45, 45]) : ∃ R, toldF x p = [39, 45, 45, 45, 45, 91] ++ dec (p - 10) ++ CH ++ R := by
  rw [toldF_def, hx]
  refine ⟨((qt x).take p).drop (p - 5) ++ (((qt x).take (p + 41)).drop p ++ (note ((qt x).length - p - 46) ++ (qt x).drop ((qt x).length - 5))), ?_⟩
  unfold note CH
  simp only [List.append_assoc, List.cons_append, List.nil_append]
theorem told_index {x : List Nat} {p : Nat} (hx : (qt x).take 5 = [39, 45, 45, 45, 45]) (hp : p < 70) : FirstAt (toldF x p) CH (6 + (dec (p - 10)).length) ∧ ((toldF x p).take (6 + (dec (p - 10)).length)).drop 6 = dec (p - 10) := by
  obtain ⟨R, e⟩ := told_split (p := p) hx
  rw [e]
  have hl : ([39, 45, 45, 45, 45, 91] ++ dec (p - 10)).length = 6 + (dec (p - 10)).length := by simp; omega
  constructor
  · rw [← hl]
    refine first_at (fun c hc => ?_) rfl
    rcases List.mem_append.mp hc with hc | hc
    · exact (by decide : ∀ c ∈ [39, 45, 45, 45, 45, 91], c ≠ 32) c hc
    · exact dec_no32 _ (by omega) c hc
  · rw [List.append_assoc, List.take_append_of_le_length (by omega), ← hl, List.take_length]
    rfl

theorem adj_all : ∀ (x : List Nat) (r : List (List Nat)) (z : List Nat), (x :: r).Pairwise (· < ·) → r.getLast? = some z → ∀ k, k ≤ lcp x z ↔ ∀ a ∈ adjL (x :: r), k ≤ a
  | x, [], z, _, h, _ => by simp at h
  | x, [y], z, _, h, k => by
    simp at h
    subst h
    simp [adjL]
  | x, y :: w :: r, z, h, hz, k => by
    have hz' : (w :: r).getLast? = some z := by simpa using hz
    have hzm : z ∈ w :: r := List.mem_of_getLast? hz'
    have hxy : x < y := List.rel_of_pairwise_cons h (.head _)
    have hyz : y < z := List.rel_of_pairwise_cons h.tail hzm
    have ih := adj_all y (w :: r) z h.tail hz' k
    rw [lcp_min x y z hxy hyz]
    show k ≤ min (lcp x y) (lcp y z) ↔ ∀ a ∈ lcp x y :: adjL (y :: w :: r), k ≤ a
    constructor
    · intro hk a ha
      rcases List.mem_cons.mp ha with rfl | ha
      · omega
      · exact ih.mp (by omega) a ha
    · intro hk
      have h1 := hk _ (.head _)
      have h2 := ih.mpr fun a ha => hk a (.tail _ ha)
      omega

section
variable {t : List Nat} {ss : List (List Nat)} {lead tail : Nat}
abbrev hyp (lead : Nat) : List Nat := List.replicate lead 45
def frontF (lead : Nat) (e : List Nat) (m : Nat) : List Nat := 39 :: (hyp lead ++ e.take m)
theorem frontF_len {lead : Nat} {e : List Nat} {m : Nat} (h : m ≤ e.length) : (frontF lead e m).length = 1 + lead + m := by
  simp [frontF, hyp]; omega
theorem qt_front {e : List Nat} {m : Nat} (h : m ≤ e.length) : (qt (mkLine lead tail e)).take (frontF lead e m).length = frontF lead e m := by
  have el : (frontF lead e m).length = (39 :: (hyp lead ++ e.take m)).length := rfl
  have e1 : qt (mkLine lead tail e) = frontF lead e m ++ (e.drop m ++ 33 :: (List.replicate 69 33 ++ bl tail) ++ [39]) := by
    unfold qt frontF hyp
    rw [mkLine_cons]
    have : e = e.take m ++ e.drop m := (List.take_append_drop m e).symm
    conv => lhs; rw [this]
    simp only [List.append_assoc, List.cons_append]
  rw [e1]
  simp
theorem qt5 {e : List Nat} (h : 4 ≤ lead) : (qt (mkLine lead tail e)).take 5 = [39, 45, 45, 45, 45] := by
  obtain ⟨k, rfl⟩ : ∃ k, lead = 4 + k := ⟨lead - 4, by omega⟩
  unfold qt
  rw [mkLine_cons, ← List.replicate_append_replicate]
  rfl
theorem line_div (E : Ends t ss) {x y : List Nat} (hy : y ∈ ss) (h : x < y) : Div (frontF lead x (lcp x y)) (qt (mkLine lead tail x)) (qt (mkLine lead tail y)) := (mkLine_div h (E.big hy)).qt

/-- two neighbours told -/
theorem csr_pair (c : Cx) (E : Ends t ss) {x y : List Nat} (hx : x ∈ ss) (hy : y ∈ ss) (h : x < y) (h1 : 22 ≤ lead) (h2 : lead ≤ 1000) (h3 : tail ≤ 1000) (ht : t.length ≤ 1000) :
    Calls c 6 (.ref 61) [.str (mkLine lead tail x), .str (mkLine lead tail y)] (.tup ([toldF (mkLine lead tail x) (1 + lead + lcp x y), toldF (mkLine lead tail y) (1 + lead + lcp x y)].map .str)) ∧ toldF (mkLine lead tail x) (1 + lead + lcp x y) < toldF (mkLine lead tail y) (1 + lead + lcp x y) ∧ mkLine lead tail x < mkLine lead tail y := by
  have hd := line_div (lead := lead) (tail := tail) E hy h
  have hle := lcp_le x y
  have hq : (frontF lead x (lcp x y)).length = 1 + lead + lcp x y := frontF_len hle.1
  have lx := mkLine_len lead tail x
  have ly := mkLine_len lead tail y
  have sx := sfx_len (E.sub hx)
  have sy := sfx_len (E.sub hy)
  have qx := qt_len (mkLine lead tail x)
  have qy := qt_len (mkLine lead tail y)
  have T : Told [mkLine lead tail x, mkLine lead tail y] (mkLine lead tail x) (mkLine lead tail y) (frontF lead x (lcp x y)) (max (mkLine lead tail x).length (mkLine lead tail y).length + 2) := by
    refine ⟨by simp, by simp, hd, fun z hz => ?_, fun z hz => ?_, fun z hz => ?_, by simp, ?_, fun z hz => ?_, by omega, by omega⟩
    · rcases List.mem_cons.mp hz with rfl | hz
      · exact .inl rfl
      · rw [List.mem_singleton.mp hz]; exact .inr hd.lt
    · rcases List.mem_cons.mp hz with rfl | hz
      · exact .inr hd.lt
      · exact .inl (List.mem_singleton.mp hz)
    · rcases List.mem_cons.mp hz with rfl | hz
      · exact mkLine_plain (E.abc' hx)
      · rw [List.mem_singleton.mp hz]; exact mkLine_plain (E.abc' hy)
    · rcases Nat.le_total (mkLine lead tail x).length (mkLine lead tail y).length with q | q
      · exact ⟨mkLine lead tail y, by simp, by omega⟩
      · exact ⟨mkLine lead tail x, by simp, by omega⟩
    · rcases List.mem_cons.mp hz with rfl | hz
      · omega
      · rw [List.mem_singleton.mp hz]; omega
  have := csrS_cut c T (by omega)
  have e1 := cut_told (q := frontF lead x (lcp x y)) (z := mkLine lead tail x) hd.take (by omega) (by omega)
  have e2 := cut_told (q := frontF lead x (lcp x y)) (z := mkLine lead tail y) hd.takeR (by omega) (by omega)
  have e3 := told_div hd (by omega) (by omega) (by omega)
  rw [hq] at e1 e2 e3
  refine ⟨?_, e3, (mkLine_div h (E.big hy)).lt⟩
  rw [← e1, ← e2]
  exact this

/-- all lines told at once -/
theorem csr_all (c : Cx) (E : Ends t ss) {m : Nat} (hm : m ∈ adjL ss) (hmin : ∀ a ∈ adjL ss, m ≤ a) (h1 : 22 ≤ lead) (h2 : lead ≤ 1000) (h3 : tail ≤ 1000) (ht : t.length < 1000) :
    Calls c 6 (.ref 61) (((sfx t).map (mkLine lead tail)).map .str) (.tup ((((sfx t).map (mkLine lead tail)).map fun z => toldF z (1 + lead + m)).map .str)) := by
  match ss, E, hm, hmin with
  | [], _, hm, _ => cases hm
  | [_], _, hm, _ => cases hm
  | x :: y :: r, E, hm, hmin =>
    obtain ⟨z, hz⟩ : ∃ z, (y :: r).getLast? = some z := ⟨_, List.getLast?_eq_some_getLast (by simp)⟩
    have hzm : z ∈ y :: r := List.mem_of_getLast? hz
    have hxz : x < z := List.rel_of_pairwise_cons E.up hzm
    have hall := adj_all x (y :: r) z E.up hz
    have hlm : lcp x z = m := Nat.le_antisymm ((hall _).mp (Nat.le_refl _) m hm) ((hall m).mpr hmin)
    have xm : x ∈ x :: y :: r := .head _
    have zm : z ∈ x :: y :: r := .tail _ hzm
    have hlow : ∀ e ∈ x :: y :: r, e = x ∨ x < e := fun e he => by
      rcases List.mem_cons.mp he with q | he
      · exact .inl q
      · exact .inr (List.rel_of_pairwise_cons E.up he)
    have hhigh : ∀ e ∈ x :: y :: r, e = z ∨ e < z := fun e he => by
      obtain ⟨i, hi, rfl⟩ := List.getElem_of_mem he
      have hlz : (x :: y :: r).getLast? = some z := by simpa using hz
      rw [List.getLast?_eq_getElem?] at hlz
      obtain ⟨hj, ej⟩ := List.getElem?_eq_some_iff.mp hlz
      rcases Nat.lt_or_ge i ((x :: y :: r).length - 1) with q | q
      · right; rw [← ej]; exact E.lt q hj
      · left; rw [← ej]; congr 1; omega
    have hpre : ∀ e ∈ x :: y :: r, m ≤ e.length ∧ e.take m = x.take m := fun e he => by
      have key : m ≤ lcp x e ∨ e = x := by
        rcases hlow e he with q | q
        · exact .inr q
        · left
          rcases hhigh e he with q2 | q2
          · rw [q2, hlm]; exact Nat.le_refl _
          · have := lcp_min x e z q q2; omega
      rcases key with q | q
      · exact ⟨Nat.le_trans q (lcp_le x e).2, (lcp_take x e m q).symm⟩
      · subst q; exact ⟨by have := (lcp_le e z).1; omega, rfl⟩
    have hd := line_div (lead := lead) (tail := tail) E zm hxz
    rw [hlm] at hd
    have hq : (frontF lead x m).length = 1 + lead + m := frontF_len (hpre x xm).1
    have mlt := fun (e : List Nat) (he : e ∈ x :: y :: r) => sfx_len (E.sub he)
    have T : Told ((sfx t).map (mkLine lead tail)) (mkLine lead tail x) (mkLine lead tail z) (frontF lead x m) (lead + t.length + 72 + tail) := by
      refine ⟨List.mem_map.mpr ⟨x, E.sub xm, rfl⟩, List.mem_map.mpr ⟨z, E.sub zm, rfl⟩, hd, fun w hw => ?_, fun w hw => ?_, fun w hw => ?_, by simp [sfx]; omega, ⟨mkLine lead tail t, List.mem_map.mpr ⟨t, mem_sfx.mpr ⟨0, ?_, rfl⟩, rfl⟩, by rw [mkLine_len]; omega⟩, fun w hw => ?_, by omega, by omega⟩
      · obtain ⟨e, he, rfl⟩ := List.mem_map.mp hw
        rcases hlow e (E.sup he) with q | q
        · exact .inl (by rw [q])
        · exact .inr (line_div E (E.sup he) q).lt
      · obtain ⟨e, he, rfl⟩ := List.mem_map.mp hw
        rcases hhigh e (E.sup he) with q | q
        · exact .inl (by rw [q])
        · exact .inr (line_div E zm q).lt
      · obtain ⟨e, he, rfl⟩ := List.mem_map.mp hw
        exact mkLine_plain (E.abc' (E.sup he))
      · have := mlt x xm; omega
      · obtain ⟨e, he, rfl⟩ := List.mem_map.mp hw
        have := sfx_len he
        rw [mkLine_len]; omega
    have ml := mlt x xm
    have := csrS_cut c T (by have := (hpre x xm).1; omega)
    have e : (((sfx t).map (mkLine lead tail)).map (cutF (frontF lead x m))) = ((sfx t).map (mkLine lead tail)).map fun z => toldF z (1 + lead + m) := by
      refine List.map_congr_left fun w hw => ?_
      obtain ⟨e, he, rfl⟩ := List.mem_map.mp hw
      have hp := hpre e (E.sup he)
      have ef : frontF lead x m = frontF lead e m := by unfold frontF; rw [hp.2]
      have hqe : (frontF lead e m).length = 1 + lead + m := frontF_len hp.1
      rw [ef, cut_told (qt_front hp.1) (by omega) (by rw [qt_len, mkLine_len]; omega), hqe]
    rw [e] at this
    exact this
end
theorem dec1 : ∀ n, n < 10 → (dec n).length = 1 := by decide +kernel
theorem join_len : ∀ xs : List (List Nat), (∀ x ∈ xs, x.length = 1) → (joinF [44, 32] xs).length ≤ 3 * xs.length
  | [], _ => by simp [joinF]
  | [x], h => by have := h x (.head _); simp [joinF, this]
  | x :: y :: r, h => by
    have := join_len (y :: r) fun z hz => h z (.tail _ hz)
    have hx := h x (.head _)
    simp only [joinF, List.length_append, List.length_cons, List.length_nil] at this ⊢
    omega
theorem listF_len {xs : List Nat} (h : ∀ x ∈ xs, x < 10) : (listF xs).length ≤ 2 + 3 * xs.length := by
  have := join_len (xs.map dec) (fun x hx => by obtain ⟨n, hn, rfl⟩ := List.mem_map.mp hx; exact dec1 n (h n hn))
  unfold listF
  simp only [List.length_cons, List.length_append, List.length_nil, List.length_map] at this ⊢
  omega
theorem listF_pos (xs : List Nat) : 0 < (listF xs).length := by unfold listF; simp
end

section
open PySem PySem.W PySem.Spec PySem.Calls PyProof.Rows
set_option linter.unusedVariables false
set_option maxRecDepth 100000
set_option maxHeartbeats 2000000
theorem fmodNat (a : Int) (m : Nat) (hm : 0 < m) : ∃ k : Nat, k < m ∧ a.fmod m = k := by
  have h1 := Int.fmod_nonneg_of_pos a (show (0 : Int) < m by omega)
  have h2 := Int.fmod_lt_of_pos a (show (0 : Int) < m by omega)
  exact ⟨(a.fmod m).toNat, by omega, by omega⟩
def chOf (z : Int) : Nat := [66, 97, 98].getD (z.fmod 3).toNat 66
theorem chOf_at (z : Int) : ([66, 97, 98] : List Nat)[(z.fmod 3).toNat]? = some (chOf z) ∧ (chOf z = 66 ∨ chOf z = 97 ∨ chOf z = 98) := by
  obtain ⟨k, hk, e⟩ := fmodNat z 3 (by decide)
  have e' : z.fmod 3 = (k : Int) := e
  unfold chOf
  rw [e']
  have : k = 0 ∨ k = 1 ∨ k = 2 := by omega
  rcases this with rfl | rfl | rfl <;> simp
theorem chOf_idx (z : Int) : z.fmod 3 = (((z.fmod 3).toNat : Nat) : Int) := by
  obtain ⟨k, hk, e⟩ := fmodNat z 3 (by decide)
  have e' : z.fmod 3 = (k : Int) := e
  rw [e']; rfl
theorem joinF_nil : ∀ xs : List Nat, joinF [] (xs.map fun x => [x]) = xs
  | [] => rfl
  | [x] => rfl
  | x :: y :: r => by
    have := joinF_nil (y :: r)
    simp only [List.map_cons] at this ⊢
    simp only [joinF, this]
    rfl
def onI (g : Int → PV) : PV → PV
  | .int x => g x
  | _ => .none
def onIB (g : Int → Bool) : PV → Bool
  | .int x => g x
  | _ => false
theorem onI_map (g : Int → PV) (ls : List Int) : ((ls.map PV.int).filter fun _ => true).map (onI g) = ls.map g := by
  rw [List.filter_eq_self.mpr (fun _ _ => rfl), List.map_map]; rfl
theorem slc_toI {α : Type} (x : List α) (k : Int) (m : Nat) (h : k = m) : slc x none (some k) = x.take m := by subst h; exact slc_to x m
theorem map_take_int (cs : List Int) (m : Nat) : (cs.map PV.int).take m = (cs.take m).map .int := by rw [List.map_take]

theorem sum_ones (l : List Int) : ((l.map fun z => [chOf z]).map List.length).sum = l.length := by
  induction l with
  | nil => rfl
  | cons z l ih => simp only [List.map_cons, List.sum_cons, ih, List.length_cons, List.length_nil]; omega
theorem exists_min : ∀ (l : List Nat), l ≠ [] → ∃ m, m ∈ l ∧ ∀ a ∈ l, m ≤ a
  | [], h => absurd rfl h
  | [x], _ => ⟨x, .head _, fun a ha => by rw [List.mem_singleton.mp ha]; exact Nat.le_refl _⟩
  | x :: y :: r, _ => by
    obtain ⟨m, hm, hmin⟩ := exists_min (y :: r) (by simp)
    by_cases h : x ≤ m
    · exact ⟨x, .head _, fun a ha => by
        rcases List.mem_cons.mp ha with rfl | ha
        · exact Nat.le_refl _
        · exact Nat.le_trans h (hmin a ha)⟩
    · exact ⟨m, .tail _ hm, fun a ha => by
        rcases List.mem_cons.mp ha with rfl | ha
        · omega
        · exact hmin a ha⟩
theorem qOpen : (Str.ofString "[").cps.toList = [91] := by decide +kernel
theorem qClose : (Str.ofString "]").cps.toList = [93] := by decide +kernel
theorem qComma : (Str.ofString ", ").cps.toList = [44, 32] := by decide +kernel
theorem qPd : (Str.ofString "%d").cps.toList = [37, 100] := by decide +kernel
theorem flat_filter (l : List PV) : ((l.filter fun _ => false).map fun u => u) = [] := by simp
theorem sum_one : ∀ l : List Nat, (l.map fun _ => 1).sum = l.length
  | [] => rfl
  | _ :: l => by simp only [List.map_cons, List.sum_cons, sum_one l, List.length_cons]; omega
theorem qCH : (Str.ofString " chars]").cps.toList = CH := by decide +kernel

theorem law_walk (c : Cx) (xs : List Int) (hx : xs.length ≤ 1000) : Calls c 8 (.ref 147) [.list (xs.map .int)] (.bool true) := by
  have hcells := law_cells c xs hx
  have hcl := cellAt_len xs xs.length
  generalize cellAt xs xs.length = cs at hcells hcl
  have csAt : ∀ k, k < 8 → (cs.map PV.int)[k]? = some (.int (cs.getD k 0)) := fun k hk => by
    have : k < cs.length := by omega
    simp [this]
  obtain ⟨n0, hn0, en⟩ := fmodNat ((cs.getD 0 0).fdiv 3) 4 (by decide)
  obtain ⟨l0, hl0, el⟩ := fmodNat ((cs.getD 1 0).fdiv 3) 9 (by decide)
  obtain ⟨tail, htl, et⟩ := fmodNat ((cs.getD 2 0).fdiv 3) 4 (by decide)
  obtain ⟨more, hmo, em⟩ := fmodNat ((cs.getD 3 0).fdiv 3) 3 (by decide)
  have en' : (5 : Int) + ((cs.getD 0 0).fdiv 3).fmod 4 = ((5 + n0 : Nat) : Int) := by rw [show ((cs.getD 0 0).fdiv 3).fmod 4 = (n0 : Int) from en]; omega
  have el' : (22 : Int) + ((cs.getD 1 0).fdiv 3).fmod 9 = ((22 + l0 : Nat) : Int) := by rw [show ((cs.getD 1 0).fdiv 3).fmod 9 = (l0 : Int) from el]; omega
  generalize hnn : 5 + n0 = n at en'
  generalize hll : 22 + l0 = lead at el'
  have hn5 : 5 ≤ n ∧ n ≤ 8 := by omega
  have hle : 22 ≤ lead ∧ lead ≤ 30 := by omega
  obtain ⟨t, ht⟩ : ∃ t, (cs.take n).map chOf = t := ⟨_, rfl⟩
  have htn : t.length = n := by rw [← ht, List.length_map, List.length_take]; omega
  have habc : ∀ z ∈ t, z = 66 ∨ z = 97 ∨ z = 98 := fun z hz => by
    rw [← ht] at hz
    obtain ⟨w, _, rfl⟩ := List.mem_map.mp hz
    exact (chOf_at w).2
  obtain ⟨ss, E⟩ := ends_exist habc
  have hsl : ss.length = n := by rw [E.len, htn]
  have hsz := sizeLine_eq
  have hlines := (law_lines c t lead tail more (by omega) (by omega) (by omega) (by omega) (by omega)).mono (n := 7) (by decide)
  have hends : ((List.range t.length).map fun i => mkLine lead tail (t.drop i)) = (sfx t).map (mkLine lead tail) := by unfold sfx; rw [List.map_map]; rfl
  rw [hends] at hlines
  refine Calls.def (n := 7) (names := [Str.ofString "script"]) (ho := rfl) (hcd := by kernel_rfl) (hbody := rfl) (hbind := all1 fun _ => rfl) (hclo := rfl) (hnames := by decide) (hkind := by rfl) (hcn := by decide) (hfree := by rfl) (hb := ?_)
  intro L V
  -- cells, size, text, lead
  refine Ex.cons (St.assign (p := .list (cs.map .int)) (Ev.call (ps := [.list (xs.map .int)]) ?_ (Callee.fn (by kernel_rfl)) (.cons ?_ .nil) (hcells.mono (by decide))) rfl rfl) ?_
  · walk_at "mine atom"
  · walk_at "mine atom"
  refine Ex.cons (St.assign (p := .int n) (Ev.castI (Ev.bin (pa := .int 5) Ev.int (Ev.bin (pb := .int 4) (Ev.bin (pb := .int 3) (Ev.item (l := cs.map .int) (k := 0) ?_ Ev.int (csAt 0 (by decide)) (by rw [List.length_map]; omega)) Ev.int BinF.div3) Ev.int (BinF.mod (by decide))) BinF.add) en') rfl rfl) ?_
  · walk_at "mine atom"
  refine Ex.cons (St.assignC (p := .str t) (Ev.castS (Ev.join (sep := []) (xs := (cs.take n).map fun z => [chOf z]) (Ev.castS Ev.str q0) (Ev.cast (Ev.comp (us := (cs.take n).map .int) (Γc := []) (fun _ => true) (onI fun z => .str [chOf z]) (EvI.list (Ev.cast (Ev.cutL (x := cs.map .int) (l := none) (u := some (n : Int)) ?_ rfl ⟨_, rfl, ?_⟩ (by rw [List.length_map, hsz]; omega)) (by rw [slc_to, List.map_take]))) (CompOK.of (cl := []) rfl (fun _ _ h => by cases h) rfl rfl rfl rfl rfl (fun _ => Cap.nil) rfl) (by rw [List.length_map, List.length_take]; omega) (fun _ _ _ _ => Tsts.nil) (fun C V' u hu _ => ?_)) (by rw [onI_map, List.map_map]; rfl)) ?_) ?_) rfl rfl) ?_
  · walk_at "mine atom"
  · walk_at "mine atom"
  · obtain ⟨z, hz, rfl⟩ := List.mem_map.mp hu
    refine Ev.sign (x := [66, 97, 98]) (k := (z.fmod 3).toNat) (z := chOf z) (Ev.castS Ev.str qBab) (Ev.castI (Ev.bin (pa := .int z) (pb := .int 3) ?_ Ev.int (BinF.mod (by decide))) (chOf_idx z)) (chOf_at z).1 (by decide)
    walk_at "mine atom"
  · rw [sum_ones]; simp; omega
  · have := joinF_nil ((cs.take n).map chOf)
    rw [List.map_map, ht] at this
    exact this
  refine Ex.cons (St.assignC (p := .int lead) (Ev.castI (Ev.bin (pa := .int 22) Ev.int (Ev.bin (pb := .int 9) (Ev.bin (pb := .int 3) (Ev.item (l := cs.map .int) (k := 1) ?_ Ev.int (csAt 1 (by decide)) (by rw [List.length_map]; omega)) Ev.int BinF.div3) Ev.int (BinF.mod (by decide))) BinF.add) el') rfl rfl) ?_
  · walk_at "mine atom"
  -- ends, lines
  refine Ex.cons (St.assign (p := .list (((sfx t).map (mkLine lead tail)).map .str)) (Ev.call (ps := [.str t, .int lead, .int tail, .int more]) ?_ (Callee.fn (by kernel_rfl)) (.cons ?_ (.cons ?_ (.cons (Ev.castI (Ev.bin (pb := .int 4) (Ev.bin (pb := .int 3) (Ev.item (l := cs.map .int) (k := 2) ?_ Ev.int (csAt 2 (by decide)) (by rw [List.length_map]; omega)) Ev.int BinF.div3) Ev.int (BinF.mod (by decide))) et) (.cons (Ev.castI (Ev.bin (pb := .int 3) (Ev.bin (pb := .int 3) (Ev.item (l := cs.map .int) (k := 3) ?_ Ev.int (csAt 3 (by decide)) (by rw [List.length_map]; omega)) Ev.int BinF.div3) Ev.int (BinF.mod (by decide))) em) .nil)))) hlines) rfl rfl) ?_
  · walk_at "mine atom"
  · walk_at "mine atom"
  · walk_at "mine atom"
  · walk_at "mine atom"
  · walk_at "mine atom"
  clear hcells csAt en el et em en' el' hlines hends hnn hll hn0 hl0 ht hmo
  have hperm : (ss.map (mkLine lead tail)).Perm ((sfx t).map (mkLine lead tail)) := E.perm.map _
  have hpair : (ss.map (mkLine lead tail)).Pairwise (fun a b => ¬ b < a) := by
    rw [List.pairwise_map]
    refine List.Pairwise.imp_of_mem ?_ E.up
    intro a b ha hb hab
    exact lt_asymm' (mkLine_div hab (E.big hb)).lt
  have hrise : Calls c 2 (.ref 109) [.list ((ss.map (mkLine lead tail)).map .str), .int lead] (.bool true) := by
    refine law_rising c (ss.map (mkLine lead tail)) lead ((lead + 71 + tail : Nat) : Int) (by rw [List.length_map]; omega) (by rw [List.length_map]; omega) (fun l hl => ?_) (min_in E (by omega)) (min_le E) (letter_at E) (less_in E) (rising E)
    obtain ⟨e, he, rfl⟩ := List.mem_map.mp hl
    have := sfx_len (E.sub he)
    rw [mkLine_len]; omega
  have hsh := adjL_len ss
  rw [hsl] at hsh
  have hP : ∀ i, i + 1 < n → Calls c 6 (.ref 61) [.str ((ss.map (mkLine lead tail)).getD i []), .str ((ss.map (mkLine lead tail)).getD (i + 1) [])] (.tup ([toldF ((ss.map (mkLine lead tail)).getD i []) (1 + lead + (adjL ss).getD i 0), toldF ((ss.map (mkLine lead tail)).getD (i + 1) []) (1 + lead + (adjL ss).getD i 0)].map .str)) ∧
      toldF ((ss.map (mkLine lead tail)).getD i []) (1 + lead + (adjL ss).getD i 0) < toldF ((ss.map (mkLine lead tail)).getD (i + 1) []) (1 + lead + (adjL ss).getD i 0) ∧ (ss.map (mkLine lead tail)).getD i [] < (ss.map (mkLine lead tail)).getD (i + 1) [] ∧
      (FirstAt (toldF ((ss.map (mkLine lead tail)).getD i []) (1 + lead + (adjL ss).getD i 0)) CH (6 + (dec (1 + lead + (adjL ss).getD i 0 - 10)).length) ∧ ((toldF ((ss.map (mkLine lead tail)).getD i []) (1 + lead + (adjL ss).getD i 0)).take (6 + (dec (1 + lead + (adjL ss).getD i 0 - 10)).length)).drop 6 = dec (1 + lead + (adjL ss).getD i 0 - 10)) ∧
      (adjL ss).getD i 0 ≤ 8 ∧ 1 + lead + (adjL ss).getD i 0 + 46 ≤ ((ss.map (mkLine lead tail)).getD i []).length + 2 ∧ 1 + lead + (adjL ss).getD i 0 + 46 ≤ ((ss.map (mkLine lead tail)).getD (i + 1) []).length + 2 ∧ ((ss.map (mkLine lead tail)).getD i []).length < 1000 ∧ ((ss.map (mkLine lead tail)).getD (i + 1) []).length < 1000 := by
    intro i hi
    have hi0 : i < ss.length := by omega
    have hi1 : i + 1 < ss.length := by omega
    have g0 : (ss.map (mkLine lead tail)).getD i [] = mkLine lead tail ss[i] := by simp [hi0]
    have g1 : (ss.map (mkLine lead tail)).getD (i + 1) [] = mkLine lead tail ss[i + 1] := by simp [hi1]
    have g2 : (adjL ss).getD i 0 = lcp ss[i] ss[i + 1] := by rw [List.getD_eq_getElem?_getD, adjL_get ss i hi1]; rfl
    have m0 : ss[i] ∈ ss := List.getElem_mem _
    have m1 : ss[i + 1] ∈ ss := List.getElem_mem _
    have hl := lcp_le ss[i] ss[i + 1]
    have s0 := sfx_len (E.sub m0)
    have s1 := sfx_len (E.sub m1)
    obtain ⟨p1, p2, p3⟩ := csr_pair (lead := lead) (tail := tail) c E m0 m1 (E.lt (Nat.lt_succ_self i) hi1) (by omega) (by omega) (by omega) (by omega)
    rw [g0, g1, g2]
    refine ⟨p1, p2, p3, told_index (qt5 (by omega)) (by omega), by omega, ?_, ?_, ?_, ?_⟩ <;> rw [mkLine_len] <;> omega
  generalize hls : ss.map (mkLine lead tail) = ls at hperm hpair hrise hP
  have hlsl : ls.length = n := by rw [← hls, List.length_map, hsl]
  refine Ex.cons (St.assignC (p := .list (ls.map .str)) (Ev.sortKey (xs := (sfx t).map (mkLine lead tail)) ?_ ?_ ?_ hperm hpair (by simp [sfx]; omega) (by decide)) rfl rfl) ?_
  · walk_at "mine atom"
  · walk_at "mine atom"
  · walk_at "mine atom"
  refine Ex.cons (St.ifF (b := decide (ls = []) || !true) (Tst.or (p := decide (ls = [])) (q := !true) (Tst.cmp (pa := .list (ls.map .str)) (pb := .list (([] : List (List Nat)).map .str)) ?_ (Ev.lst .nil (by decide)) (CmpF.eqL EqG.str) TruF.bool) fun _ => Tst.not (Tst.val (p := .bool true) (Ev.call (ps := [.list (ls.map .str), .int lead]) ?_ (Callee.fn (by kernel_rfl)) (.cons ?_ (.cons ?_ .nil)) (hrise.mono (by decide))) TruF.bool)) ?_ Ex.nil) ?_
  · walk_at "mine atom"
  · walk_at "mine atom"
  · walk_at "mine atom"
  · walk_at "mine atom"
  · have : ls ≠ [] := fun q => by rw [q] at hlsl; simp at hlsl; omega
    simp [this]
  have lsAt : ∀ i, i < n → (ls.map PV.str)[i]? = some (.str (ls.getD i [])) := fun i hi => by
    have : i < ls.length := by omega
    simp [this]
  have lsz : (ls.map PV.str).length < 1000000 := by rw [List.length_map]; omega
  generalize hsd : adjL ss = sh at hsh hP
  -- the loop over neighbours
  refine Ex.owned (us := []) (us' := (sh.take (rowI 0 (n - 1)).length).map fun k : Nat => PV.int k) (Γ' := [(Str.ofString "lines", .list (ls.map .str)), (Str.ofString "ends", .list (((sfx t).map (mkLine lead tail)).map .str)), (Str.ofString "lead", .int lead), (Str.ofString "text", .str t), (Str.ofString "size", .int n)]) (EvFresh.lst .nil (by decide)) rfl (.inr rfl) (fun a => ?_) ?_
  · refine OSt.for (rs := rowI 0 (n - 1)) (fun _ => [(Str.ofString "shared", .fn (.ref a)), (Str.ofString "lines", .list (ls.map .str)), (Str.ofString "ends", .list (((sfx t).map (mkLine lead tail)).map .str)), (Str.ofString "lead", .int lead), (Str.ofString "text", .str t), (Str.ofString "size", .int n)]) (fun i => (sh.take i).map fun k : Nat => PV.int k) (EvI.range1 ?_ (Ev.castI (Ev.bin (pa := .int n) (pb := .int 1) ?_ Ev.int BinF.sub) (by omega)) (by omega)) (.cons rfl (.cons rfl (.cons rfl (.cons rfl (.cons rfl (.cons rfl .nil)))))) rfl rfl rfl (fun i p hp => ?_)
    · walk_at "mine atom"
    · walk_at "mine atom"
    · obtain ⟨hi, rfl⟩ := rowI_get hp
      rw [Int.zero_add]
      obtain ⟨p1, p2, p3, ⟨p4, p5⟩, p6, p7, p8, p9, p10⟩ := hP i (by omega)
      have x0 := lsAt i (by omega)
      have x1 := lsAt (i + 1) (by omega)
      generalize ls.getD i [] = x at p1 p2 p3 p4 p5 p7 p8 p9 p10 x0
      generalize ls.getD (i + 1) [] = y at p1 p2 p3 p8 p10 x1
      have hshi : sh.take (i + 1) = sh.take i ++ [sh.getD i 0] := by
        rw [List.take_add_one, List.getElem?_eq_getElem (by omega)]
        simp [show i < sh.length by omega]
      generalize sh.getD i 0 = d at p1 p2 p4 p5 p6 p7 p8 hshi
      generalize hpt : 1 + lead + d = part at p1 p2 p4 p5 p7 p8
      have hT1 := law_told c x part (by omega) p7 (by omega)
      have hT2 := law_told c y part (by omega) p8 (by omega)
      have hTm := toldF_len (line := x) (part := part) (by omega) (by omega)
      have hTl : (toldF x part).length ≤ 100000 := Nat.le_trans hTm (by decide)
      have hTl' : (toldF x part).length < 100000 := Nat.lt_of_le_of_lt hTm (by decide)
      clear hTm
      generalize hX : toldF x part = T1 at p1 p2 p4 p5 hT1 hTl hTl'
      generalize hY : toldF y part = T2 at p1 p2 hT2
      have hd1 : (dec (part - 10)).length ≤ 640 := dec_len (by omega)
      refine OEx.weak (OEx.cons (OSt.of (St.assign (p := .tup ([T1, T2].map .str)) (Ev.call (ps := [.str x, .str y]) ?_ (Callee.fn (by kernel_rfl)) (.cons (Ev.item (l := ls.map .str) (k := i) ?_ ?_ x0 lsz) (.cons (Ev.item (l := ls.map .str) (k := i + 1) ?_ (Ev.castI (Ev.bin (pa := .int i) (pb := .int 1) ?_ Ev.int BinF.add) (by omega)) x1 lsz) .nil)) (p1.mono (by decide))) rfl rfl))
        (OEx.cons (OSt.of (St.assign (p := .int part) (Ev.castI (Ev.bin (pa := .int 10) (pb := .int ((part - 10 : Nat) : Int)) Ev.int (Ev.call (ps := [.str (dec (part - 10))]) ?_ (by with_reducible exact Callee.type) (.cons (Ev.castS (Ev.cut (x := T1) (l := some ((6 : Nat) : Int)) (u := some ((6 + (dec (part - 10)).length : Nat) : Int)) (Ev.itemT (l := [T1, T2].map .str) (k := 0) ?_ Ev.int rfl (by simp)) ⟨_, rfl, Ev.int⟩ ⟨_, rfl, Ev.indexS (Ev.itemT (l := [T1, T2].map .str) (k := 0) ?_ Ev.int rfl (by simp)) (Ev.castS Ev.str qCH) p4⟩ (by omega)) (by rw [slc_mid]; exact p5)) .nil) (Calls.intDec (by omega))) BinF.add) (by omega)) rfl rfl))
        (OEx.cons (OSt.of (St.ifF (b := !decide ([T1, T2] = [T1, T2])) (Tst.cmp (pa := .tup ([T1, T2].map .str)) (pb := .tup ([T1, T2].map .str)) ?_ (Ev.tup (ps := [.str T1, .str T2]) (.cons (Ev.call (ps := [.str x, .int part]) ?_ (Callee.fn (by kernel_rfl)) (.cons (Ev.item (l := ls.map .str) (k := i) ?_ ?_ x0 lsz) (.cons ?_ .nil)) (hT1.mono (by decide))) (.cons (Ev.call (ps := [.str y, .int part]) ?_ (Callee.fn (by kernel_rfl)) (.cons (Ev.item (l := ls.map .str) (k := i + 1) ?_ (Ev.castI (Ev.bin (pa := .int i) (pb := .int 1) ?_ Ev.int BinF.add) (by omega)) x1 lsz) (.cons ?_ .nil)) (hT2.mono (by decide))) .nil)) (by simp)) (CmpF.neT EqG.str) TruF.bool) (by simp) Ex.nil))
        (OEx.cons (OSt.of (St.ifF (b := !true || !true) (Tst.or (Tst.not (Tst.val (p := .bool true) (Ev.call (ps := [.str T1, .str T2]) ?_ (Callee.fn (by kernel_rfl)) (.cons (Ev.itemT (l := [T1, T2].map .str) (k := 0) ?_ Ev.int rfl (by simp)) (.cons (Ev.itemT (l := [T1, T2].map .str) (k := 1) ?_ Ev.int rfl (by simp)) .nil)) ((law_ordered c _ _ p2 hTl').mono (by decide))) TruF.bool))
          fun _ => Tst.not (Tst.val (p := .bool true) (Ev.call (ps := [.str x, .str y]) ?_ (Callee.fn (by kernel_rfl)) (.cons (Ev.item (l := ls.map .str) (k := i) ?_ ?_ x0 lsz) (.cons (Ev.item (l := ls.map .str) (k := i + 1) ?_ (Ev.castI (Ev.bin (pa := .int i) (pb := .int 1) ?_ Ev.int BinF.add) (by omega)) x1 lsz) .nil)) ((law_ordered c _ _ p3 (by omega)).mono (by decide))) TruF.bool)) (by decide) Ex.nil))
        (OEx.cons (OSt.append (p := .int (d : Int)) ?_ (Ev.castI (Ev.bin (pb := .int lead) (Ev.bin (pa := .int part) (pb := .int 1) ?_ Ev.int BinF.sub) ?_ BinF.sub) (by omega)) ?_) (OEx.nilE ?_)))))) (.cons rfl (.cons rfl (.cons rfl (.cons rfl (.cons rfl (.cons rfl .nil))))))
      all_goals try (first | exact Ev.local rfl rfl rfl rfl | exact Ev.cell rfl rfl rfl rfl | walk_at "mine glob")
      · rw [List.length_map, List.length_take]; omega
      · rw [hshi, List.map_append]; rfl
  rw [show sh.take (rowI 0 (n - 1)).length = sh by rw [rowI_len, ← hsh, List.take_length]]
  have hSI : sh.map (fun k : Nat => PV.int k) = (sh.map fun k : Nat => (k : Int)).map .int := by rw [List.map_map]; rfl
  -- the counts of unlike stretches
  refine Ex.cons (St.for (us := rowI 1 n) (fun _ => [(Str.ofString "shared", .list (sh.map fun k : Nat => PV.int k)), (Str.ofString "lines", .list (ls.map .str)), (Str.ofString "ends", .list (((sfx t).map (mkLine lead tail)).map .str)), (Str.ofString "lead", .int lead), (Str.ofString "text", .str t), (Str.ofString "size", .int n)]) (EvI.range2 (a := 1) (m := n) ?_ (Ev.castI Ev.int rfl) (Ev.castI (Ev.bin (pa := .int n) (pb := .int 1) ?_ Ev.int BinF.add) (by omega)) (by decide) (by omega)) Sub.refl rfl (.inr rfl) (fun i p hp => ?_)) ?_
  · walk_at "mine atom"
  · walk_at "mine atom"
  · obtain ⟨hi, rfl⟩ := rowI_get hp
    have e1 : (PV.int (((1 : Nat) : Int) + (i : Int))) = .int ((1 + i : Nat) : Int) := by congr 1
    have e1' : (PV.int ((1 : Int) + (i : Int))) = .int ((1 + i : Nat) : Int) := by congr 1
    first | rw [e1] | rw [e1']
    generalize hw : 1 + i = w
    have hcount := count_law t ss E.perm E.up w (by omega) (by omega)
    rw [hsd, htn] at hcount
    refine Ex.weak (Ex.setLen (us := rowI 0 (n - w + 1)) (Γc := [(Str.ofString "text", .str t), (Str.ofString "wide", .int w)]) (fun j => (t.drop j).take w) ((n : Int) - w + 1 - ((sh.countP fun k => decide (w ≤ k) : Nat) : Int)) (EvI.range1 ?_ (Ev.castI (Ev.bin (pb := .int 1) (Ev.bin (pa := .int n) (pb := .int w) ?_ ?_ BinF.sub) Ev.int BinF.add) (by omega)) (by omega))
      (CompOK.of rfl (lookupC rfl (lookupC rfl lookupN)) rfl rfl rfl rfl rfl (fun _ => Cap.consB rfl rfl rfl rfl rfl (Cap.consB rfl rfl rfl rfl rfl Cap.nil)) rfl) (by rw [rowI_len]; omega) (fun C V' j u hu => ?_) rfl rfl rfl rfl rfl (fun p => ?_) (fun p => ?_) (by rw [rowI_len]; omega) Ex.nil) (.cons rfl (.cons rfl (.cons rfl (.cons rfl (.cons rfl (.cons rfl .nil))))))
    · walk_at "mine atom"
    · walk_at "mine atom"
    · walk_at "mine atom"
    · obtain ⟨hj, rfl⟩ := rowI_get hu
      rw [Int.zero_add]
      refine Ev.castS (Ev.cut (x := t) (l := some (j : Int)) (u := some ((j + w : Nat) : Int)) ?_ ⟨_, rfl, ?_⟩ ⟨_, rfl, Ev.castI (Ev.bin (pa := .int j) (pb := .int w) ?_ ?_ BinF.add) (by omega)⟩ (by omega)) (by rw [slc_mid, List.drop_take]; congr 1; omega)
      · walk_at "mine atom"
      · walk_at "mine atom"
      · walk_at "mine atom"
      · walk_at "mine atom"
    · walk_at "mine atom"
    · refine Ev.bin (Ev.bin (pb := .int 1) (Ev.bin (pa := .int n) (pb := .int w) ?_ ?_ BinF.sub) Ev.int BinF.add) (Ev.castI (Ev.call (ps := [.list ((sh.map fun k : Nat => PV.int k).filter (onIB fun k => decide (k ≥ (w : Int))))]) ?_ Callee.builtin (.cons (Ev.cast (Ev.comp (us := sh.map fun k : Nat => PV.int k) (Γc := [(Str.ofString "wide", .int w)]) (onIB fun k => decide (k ≥ (w : Int))) (fun u => u) (EvI.list ?_) (CompOK.of rfl (lookupC rfl lookupN) rfl rfl rfl rfl rfl (fun _ => Cap.consB rfl rfl rfl rfl rfl Cap.nil) rfl) (by rw [List.length_map]; omega) (fun C V' u hu => ?_) (fun C V' u hu _ => ?_)) (by simp)) .nil) (Calls.lenL ?_)) ?_) BinF.sub
      · walk_at "mine atom"
      · walk_at "mine atom"
      · walk_at "mine atom"
      · walk_at "mine atom"
      · obtain ⟨k, hk, rfl⟩ := List.mem_map.mp hu
        refine Tsts.one (Tst.cmp (pa := .int (k : Int)) (pb := .int w) ?_ ?_ CmpF.geI TruF.bool)
        · walk_at "mine atom"
        · walk_at "mine atom"
      · obtain ⟨k, hk, rfl⟩ := List.mem_map.mp hu
        walk_at "mine atom"
      · have := List.length_filter_le (onIB fun k => decide (k ≥ (w : Int))) (sh.map fun k : Nat => PV.int k)
        rw [List.length_map] at this
        omega
      · rw [List.filter_map, List.length_map, ← List.countP_eq_length_filter]
        congr 2
        funext k
        show decide ((k : Int) ≥ (w : Int)) = decide (w ≤ k)
        simp
  -- all lines told at once
  have hshm : ∀ a ∈ sh, a ≤ 8 := fun a ha => by
    obtain ⟨i, hi, rfl⟩ := List.getElem_of_mem ha
    have := (hP i (by omega)).2.2.2.2.1
    simpa [hi] using this
  obtain ⟨m, hm, hmin⟩ := exists_min sh (by intro q; rw [q] at hsh; simp at hsh; omega)
  have hm8 := hshm m hm
  have hall := csr_all (lead := lead) (tail := tail) c E (m := m) (hsd ▸ hm) (hsd ▸ hmin) (by omega) (by omega) (by omega) (by omega)
  have hLSlen : ((sfx t).map (mkLine lead tail)).length = n := by simp [sfx, htn]
  have hLSm : ∀ z ∈ (sfx t).map (mkLine lead tail), 1 + lead + m + 46 ≤ z.length + 2 ∧ z.length < 100000 := fun z hz => by
    obtain ⟨e, he, rfl⟩ := List.mem_map.mp hz
    have := sfx_len he
    rw [mkLine_len]; omega
  generalize (sfx t).map (mkLine lead tail) = LS at hall hLSlen hLSm
  have hminI : (m : Int) ∈ sh.map (fun k : Nat => (k : Int)) := List.mem_map.mpr ⟨m, hm, rfl⟩
  have hminI' : ∀ x ∈ sh.map (fun k : Nat => (k : Int)), (m : Int) ≤ x := fun x hx => by
    obtain ⟨a, ha, rfl⟩ := List.mem_map.mp hx
    have := hmin a ha
    omega
  have hTold : Calls c 7 (.ref 61) (LS.map .str) (.tup ((LS.map fun z => toldF z (1 + lead + m)).map .str)) := hall.mono (by decide)
  refine Ex.cons (St.ifF (b := !decide ((LS.map fun z => toldF z (1 + lead + m)) = LS.map fun z => toldF z (1 + lead + m))) (Tst.cmp (pa := .tup ((LS.map fun z => toldF z (1 + lead + m)).map .str)) (pb := .tup ((LS.map fun z => toldF z (1 + lead + m)).map .str)) (Ev.callStar ?_ (by kernel_rfl) ?_ (by rw [List.length_map]; omega) hTold)
    (Ev.call (ps := [.list ((LS.map fun z => toldF z (1 + lead + m)).map .str)]) ?_ (by with_reducible exact Callee.type) (.cons (Ev.cast (Ev.comp (us := LS.map .str) (Γc := [(Str.ofString "lead", .int lead), (Str.ofString "shared", .list (sh.map fun k : Nat => PV.int k))]) (fun _ => true) (onS fun z => .str (toldF z (1 + lead + m))) (EvI.list ?_) (CompOK.of rfl (lookupC rfl (lookupC rfl lookupN)) rfl rfl rfl rfl rfl (fun _ => Cap.consB rfl rfl rfl rfl rfl (Cap.consB rfl rfl rfl rfl rfl Cap.nil)) rfl) (by rw [List.length_map]; omega) (fun _ _ _ _ => Tsts.nil) (fun C V' u hu _ => ?_)) (by rw [onS_map, List.map_map]; rfl)) .nil) (Calls.tupleL (by rw [List.length_map, List.length_map]; omega))) (CmpF.neT EqG.str) TruF.bool) (by simp) Ex.nil) ?_
  · walk_at "mine atom"
  · walk_at "mine atom"
  · walk_at "mine atom"
  · walk_at "mine atom"
  · obtain ⟨z, hz, rfl⟩ := List.mem_map.mp hu
    have hz' := hLSm z hz
    refine Ev.call (ps := [.str z, .int ((1 + lead + m : Nat) : Int)]) ?_ (Callee.fn (by kernel_rfl)) (.cons ?_ (.cons (Ev.castI (Ev.bin (pb := .int m) (Ev.bin (pa := .int 1) (pb := .int lead) Ev.int ?_ BinF.add) (Ev.call (ps := [.list ((sh.map fun k : Nat => (k : Int)).map .int)]) ?_ Callee.builtin (.cons (Ev.cast (p := .list (sh.map fun k : Nat => PV.int k)) ?_ (by rw [hSI])) .nil) (Calls.minI hminI hminI')) BinF.add) (by omega)) .nil)) ((law_told c z (1 + lead + m) (by omega) hz'.1 hz'.2).mono (by decide))
    · walk_at "mine atom"
    · walk_at "mine atom"
    · walk_at "mine atom"
    · walk_at "mine atom"
    · walk_at "mine atom"
  -- the first line alone
  have hx0 : ∃ e0, e0 ∈ ss ∧ ls.getD 0 [] = mkLine lead tail e0 := by
    refine ⟨ss[0]'(by omega), List.getElem_mem _, ?_⟩
    have h0 : ls.getD 0 [] = (ss.map (mkLine lead tail)).getD 0 [] := by rw [hls]
    rw [h0]
    simp [show 0 < ss.length by omega]
  obtain ⟨e0, he0, ex0⟩ := hx0
  have x0 := lsAt 0 (by omega)
  rw [ex0] at x0
  have hpl := mkLine_plain (lead := lead) (tail := tail) (E.abc' he0)
  have hx0l := mkLine_len lead tail e0
  have se0 := sfx_len (E.sub he0)
  have hdv : Div [] ((mkLine lead tail e0).take 79) t := by
    obtain ⟨k, rfl⟩ : ∃ k, lead = k + 1 := ⟨lead - 1, by omega⟩
    match t, habc, htn with
    | [], _, htn => simp at htn; omega
    | b :: t', habc, _ =>
      refine ⟨45, b, (List.replicate k 45 ++ (e0 ++ 33 :: (List.replicate 69 33 ++ bl tail))).take 78, t', ?_, rfl, ?_⟩
      · rw [mkLine_cons, List.replicate_succ]; rfl
      · rcases habc b (.head _) with rfl | rfl | rfl <;> decide
  generalize mkLine lead tail e0 = x at x0 hpl hx0l hdv
  have hql := qt_len x
  refine Ex.cons (St.assign (p := .str (qt x)) (Ev.castS (Ev.bin (pa := .str ([39] ++ x)) (pb := .str [39]) (Ev.bin (pa := .str [39]) (pb := .str x) (Ev.castS Ev.str q39) (Ev.item (l := ls.map .str) (k := 0) ?_ Ev.int x0 lsz) (BinF.cat ?_)) (Ev.castS Ev.str q39) (BinF.cat ?_)) (by simp [qt])) rfl rfl) ?_
  · walk_at "mine atom"
  · simp; omega
  · simp; omega
  have hone := csrS_one c hpl (by omega) (by omega)
  have hnl := note_len (n := (qt x).length - 68) (by omega)
  generalize hW : (qt x).take 5 ++ note ((qt x).length - 68) ++ (qt x).drop ((qt x).length - 63) = W at hone
  refine Ex.cons (St.ifF (b := !decide ([W] = [W])) (Tst.cmp (pa := .tup ([W].map .str)) (pb := .tup ([W].map .str)) (Ev.call (ps := [.str x]) ?_ (Callee.fn (by kernel_rfl)) (.cons (Ev.item (l := ls.map .str) (k := 0) ?_ Ev.int x0 lsz) .nil) (hone.mono (by decide)))
    (Ev.tup (ps := [.str W]) (.cons (Ev.castS (Ev.bin (pa := .str ((qt x).take 5 ++ note ((qt x).length - 68))) (pb := .str ((qt x).drop ((qt x).length - 63))) (Ev.bin (pa := .str ((qt x).take 5)) (pb := .str (note ((qt x).length - 68))) (Ev.castS (Ev.cut (x := qt x) (l := none) (u := some ((5 : Nat) : Int)) ?_ rfl ⟨_, rfl, Ev.int⟩ ?_) (slc_to _ _)) (Ev.call (ps := [.int (((qt x).length - 68 : Nat) : Int)]) ?_ (Callee.fn (by kernel_rfl)) (.cons (Ev.castI (Ev.bin (pa := .int (qt x).length) (pb := .int 68) (Ev.call (ps := [.str (qt x)]) ?_ Callee.builtin (.cons ?_ .nil) (Calls.lenS (by omega))) Ev.int BinF.sub) (by omega)) .nil) ((law_note c ((qt x).length - 68) (by omega)).mono (by decide))) (BinF.cat ?_)) (Ev.castS (Ev.cut (x := qt x) (l := some (-((63 : Nat) : Int))) (u := none) ?_ ⟨_, rfl, Ev.neg (i := 63) ?_⟩ rfl ?_) (slc_neg _ _ (by decide))) (BinF.cat ?_)) hW) .nil) (by simp)) (CmpF.neT EqG.str) TruF.bool) (by simp) Ex.nil) ?_
  · walk_at "mine atom"
  · walk_at "mine atom"
  · walk_at "mine atom"
  · omega
  · walk_at "mine atom"
  · walk_at "mine atom"
  · walk_at "mine atom"
  · rw [List.length_take]; omega
  · walk_at "mine atom"
  · walk_at "mine atom"
  · omega
  · rw [List.length_append, List.length_take, List.length_drop]; omega
  -- the three that part late
  have hlate : ∀ k : Nat, 1 ≤ k → k ≤ 58 → Calls c 7 (.ref 135) [.str x, .int k] (.bool true) := fun k h1 h2 => law_late c x k hpl (by omega) (by omega) h1 (by omega)
  refine Ex.cons (St.ifF (b := !decide (([] : List Int) = [])) (Tst.cmp (pa := .list (([] : List Int).map .int)) (pb := .list (([] : List Int).map .int)) (Ev.cast (Ev.comp (us := [.int 2, .int 56, .int 57, .int 58]) (Γc := [(Str.ofString "lines", .list (ls.map .str))]) (fun _ => !true) (fun u => u) (EvI.tup (Ev.tup (.cons Ev.int (.cons Ev.int (.cons Ev.int (.cons Ev.int .nil)))) (by decide))) (CompOK.of rfl (lookupC rfl lookupN) rfl rfl rfl rfl rfl (fun _ => Cap.consB rfl rfl rfl rfl rfl Cap.nil) rfl) (by decide) (fun C V' u hu => ?_) (fun C V' u hu h => by cases h)) rfl) (Ev.cast (Ev.lst .nil (by decide)) rfl) (CmpF.neL EqG.int) TruF.bool) rfl Ex.nil) ?_
  · obtain ⟨k, hk1, hk2, rfl⟩ : ∃ k : Nat, 1 ≤ k ∧ k ≤ 58 ∧ u = .int (k : Int) := by
      rcases List.mem_cons.mp hu with rfl | hu
      · exact ⟨2, by decide, by decide, rfl⟩
      · rcases List.mem_cons.mp hu with rfl | hu
        · exact ⟨56, by decide, by decide, rfl⟩
        · rcases List.mem_cons.mp hu with rfl | hu
          · exact ⟨57, by decide, by decide, rfl⟩
          · rw [List.mem_singleton.mp hu]; exact ⟨58, by decide, by decide, rfl⟩
    refine Tsts.one (Tst.not (Tst.val (p := .bool true) (Ev.call (ps := [.str x, .int k]) ?_ (Callee.fn (by kernel_rfl)) (.cons (Ev.item (l := ls.map .str) (k := 0) ?_ Ev.int x0 lsz) (.cons ?_ .nil)) (hlate k hk1 hk2)) TruF.bool))
    · walk_at "mine atom"
    · walk_at "mine atom"
    · walk_at "mine atom"
  -- the numbers alone
  have hjl := join_len (sh.map dec) (fun y hy => by obtain ⟨a, ha, rfl⟩ := List.mem_map.mp hy; exact dec1 a (by have := hshm a ha; omega))
  rw [List.length_map] at hjl
  refine Ex.cons (St.assign (p := .str (listF sh)) (Ev.castS (Ev.bin (pa := .str (91 :: joinF [44, 32] (sh.map dec))) (pb := .str [93]) (Ev.castS (Ev.bin (pa := .str [91]) (pb := .str (joinF [44, 32] (sh.map dec))) (Ev.castS Ev.str qOpen) (Ev.join (sep := [44, 32]) (xs := sh.map dec) (Ev.castS Ev.str qComma) (Ev.cast (Ev.comp (us := (sh.map fun k : Nat => (k : Int)).map .int) (Γc := []) (fun _ => true) (onI fun k => .str (dec k.toNat)) (EvI.list (Ev.cast (p := .list (sh.map fun k : Nat => PV.int k)) ?_ (by rw [hSI]))) (CompOK.of (cl := []) rfl (fun _ _ h => by cases h) rfl rfl rfl rfl rfl (fun _ => Cap.nil) rfl) (by rw [List.length_map, List.length_map]; omega) (fun _ _ _ _ => Tsts.nil) (fun C V' u hu _ => ?_)) (by rw [onI_map, List.map_map, List.map_map]; rfl)) ?_) (BinF.cat ?_)) rfl) (Ev.castS Ev.str qClose) (BinF.cat ?_)) rfl) rfl rfl) ?_
  · walk_at "mine atom"
  · obtain ⟨z, hz, rfl⟩ := List.mem_map.mp hu
    obtain ⟨k, hk, rfl⟩ := List.mem_map.mp hz
    refine Ev.bin (pa := .str [37, 100]) (pb := .int k) (Ev.castS Ev.str qPd) ?_ (BinF.fmt0 (by have := hshm k hk; omega))
    walk_at "mine atom"
  · have : ((sh.map dec).map (·.length)).sum ≤ 1 * sh.length := by
      have h1 : (sh.map dec).map (·.length) = sh.map fun _ => 1 := by
        rw [List.map_map]
        exact List.map_congr_left fun a ha => dec1 a (by have := hshm a ha; omega)
      rw [h1, sum_one]; omega
    rw [List.length_map]; simp only [List.length_cons, List.length_nil]; omega
  · simp only [List.length_cons, List.length_nil]; omega
  · simp only [List.length_cons, List.length_nil]; omega
  have hsafe := safe_reprL c sh (fun a ha => by have := hshm a ha; omega) (by have := listF_len (xs := sh) (fun a ha => by have := hshm a ha; omega); omega)
  have hnum : Calls c 6 (.ref 61) [.list (sh.map fun k : Nat => PV.int k)] (.tup ([listF sh].map .str)) := by
    refine csr_short c (as := [.list (sh.map fun k : Nat => PV.int k)]) (rs := [listF sh]) (mx := (listF sh).length) rfl (fun i p q h1 h2 => ?_) ⟨listF sh, by simp, rfl⟩ (fun y hy => by rw [List.mem_singleton.mp hy]; exact Nat.le_refl _) (by simp) (by have := listF_len (xs := sh) (fun a ha => by have := hshm a ha; omega); omega)
    cases i with
    | zero => simp at h1 h2; subst h1 h2; exact hsafe
    | succ i => simp at h1
  have hbound := law_bound c t x (fun z hz => by rcases habc z hz with rfl | rfl | rfl <;> decide) hpl (by omega) (by omega) (by omega) hdv
  refine Ex.ret (St.ret (Ev.andT (pa := .bool true) (q := true) (Ev.call (ps := [.str t, .str x]) ?_ (Callee.fn (by kernel_rfl)) (.cons ?_ (.cons (Ev.item (l := ls.map .str) (k := 0) ?_ Ev.int x0 lsz) .nil)) hbound) TruF.bool rfl (Ev.cast (Ev.cmp (pa := .tup ([listF sh].map .str)) (pb := .tup ([listF sh].map .str)) (Ev.call (ps := [.list (sh.map fun k : Nat => PV.int k)]) ?_ (Callee.fn (by kernel_rfl)) (.cons ?_ .nil) (hnum.mono (by decide))) (Ev.tup (ps := [.str (listF sh)]) (.cons ?_ .nil) (by simp)) (CmpF.eqT EqG.str)) (by simp))))
  · walk_at "mine atom"
  · walk_at "mine atom"
  · walk_at "mine atom"
  · walk_at "mine atom"
  · walk_at "mine atom"
  · walk_at "mine atom"
end

section
open PySem PySem.W PySem.Spec PySem.Calls PyProof.Rows
set_option linter.unusedVariables false
set_option maxRecDepth 100000
set_option maxHeartbeats 2000000

theorem rep_script {P : Params} {h : Heap} {V : List Addr} : ∀ (xs : List Int) (vs : List Value), WellAll P h vs (ofPys (xs.map PyData.int)) → RepL V h (xs.map .int) vs
  | [], vs, w => by
    cases w
    exact RepL.nil
  | x :: xs, vs, w => by
    cases w with
    | cons w1 w2 =>
      cases w1
      exact RepL.cons rep_int (rep_script xs _ w2)

theorem code_60 {c : Cx} {h : Heap} {loose : List PySem.Str} {mean : ExcName → Option Value} (K : c.K.In h) (T : Top view0 loose mean c.mg c.mb h) : h.IsCode 60 56 #[] ∧ h.TableAt 60 56 #[] := by
  have hm := mg_of K T.g (n := Str.ofString "_common_shorten_repr") (v := .ref 61) (by kernel_rfl)
  have h61 := K 61 _ rfl
  obtain ⟨C, P, hc, B⟩ := based_of_top T (name := Str.ofString "_common_shorten_repr") rfl hm h61 rfl
  have e60 : C = 60 := by
    injection hc with hc
    exact hc.symm
  subst e60
  have ht := B.tab
  obtain ⟨⟨o, vs, e1, e2, e3, e4⟩, e5⟩ := id ht
  rw [K 60 _ rfl] at e1
  cases e1
  injection e3 with e3
  subst e3
  have e56 : P = 56 := by
    injection e4 with e4
    injection e4 with e4
    exact e4.symm
  subst e56
  exact ⟨B.code, ht⟩

/-- from the law's walk to what the row asks -/
theorem finish {w : World} {s₁ : Shared} {mg mb : PySem.Str → Option Value} {loose : List PySem.Str} {mean : ExcName → Option Value} {bm fa l : Addr} {ob : Obj} {xs : List Int} {Q : Value → Shared → Prop} {E : Value → Shared → Prop}
    (KX : (hd.heap_39 w.params).In s₁.heap) (T : Top view0 loose mean mg mb s₁.heap) (M : BMod s₁.heap mainGlobals mg bm ob) (hg : s₁.gens = #[]) (hmg : mg (Str.ofString "law") = some (.ref fa))
    (w1 : Well w.params s₁.heap (.ref l) (ofPy (PyData.list (xs.map PyData.int)))) (hx : xs.length ≤ 1000)
    (hQ : ∀ s', OldK s₁.heap s'.heap → s'.os = s₁.os → AllBare s'.gens → Q (.bool true) s') : wpAny (model P0 w) callerA (call (.ref fa) [.ref l]) Q E s₁ := by
  have hf : fa = 147 := by
    have := mg_of KX T.g (n := Str.ofString "law") (v := .ref 147) (by kernel_rfl)
    rw [hmg] at this
    cases this; rfl
  subst hf
  obtain ⟨c1, t1⟩ := code_60 (c := ⟨w, mg, mb, bm, ob⟩) KX T
  have gi : GI ⟨w, mg, mb, bm, ob⟩ s₁.heap := ⟨KX, T.g, T.b, T.builtins, T.nolimit, T.nodigits, M, ⟨#[], c1, t1⟩⟩
  have gs : GS ⟨w, mg, mb, bm, ob⟩ [56] s₁ := ⟨gi, .of_eq hg, fun a ha => by rw [List.mem_singleton.mp ha]; exact ⟨_, t1.2⟩, .head _⟩
  have w1' : Well w.params s₁.heap (.ref l) (.list (ofPys (xs.map PyData.int))) := w1
  cases w1' with
  | list he hwa =>
    have hl : l ∉ [56] := fun hm => by
      rw [List.mem_singleton.mp hm, t1.2] at he
      cases he
    refine law_walk ⟨w, mg, mb, bm, ob⟩ xs hx callerA ⟨rfl, fun _ => ⟨by decide, by decide, rfl⟩⟩ [56] s₁ [.ref l] Q E gs (.cons (rep_list (n := 0) hl he (rep_script xs _ hwa)) .nil) fun x s' st r => ?_
    rw [Rep] at r
    subst r
    obtain ⟨ps, _, t2⟩ := st.tab gi.tab
    refine hQ s' ⟨fun b o e => ?_, fun b o e => ?_⟩ st.os (st.bare.1 (.of_eq hg))
    · by_cases q : b = 56
      · subst q
        rw [t1.2] at e
        cases e
        exact .inr (.inl ⟨t1.isCodeTable, rfl, #[], ps, rfl, by rw [t2.2]; simp⟩)
      · exact .inl (st.keep b o (by simpa using q) e)
    · by_cases q : b = 56
      · subst q; exact ⟨_, t2.2⟩
      · exact ⟨o, st.keep b o (by simpa using q) e⟩
end

end Mine

open PySem PySem.W PyProof.Rows
set_option maxRecDepth 100000 in
set_option maxHeartbeats 8000000 in
theorem PySem.Challenge.cw_tv0006_01_holds : PySem.Challenge.rw_tv0006_01.Holds := by
  refine Mine.hd ?_
  intro w s₀ s₁ mg mb G Y fa o pm cd doc dV kV ho hdd hcd hD hmg hg args vals as hpre hlay hrd hwl hlo
  have KX := kIn_of Y
  refine Ground.open G ?_
  intro T B D TE TW
  obtain ⟨bm, ob, M⟩ := bmod_of_top T
  wrow_args hpre hlay hrd hwl hlo
  rename_i xs _ _ _ _ _ _ _ l vs _ hL ra w1 r0 hI hr hcond _
  refine Mine.finish KX T M hg hmg w1 (by omega) fun s' h1 h2 h3 => ⟨.inl ⟨.bool true, .bool true, [], rfl, fun _ => rfl, ?_, ?_, ?_⟩, h1, h2, h3⟩
  · first | exact ReadsW.bool _ | constructor
  · wrow_post
  · exact fun _ => ⟨List.nodup_nil, fun a ha => by cases ha⟩
