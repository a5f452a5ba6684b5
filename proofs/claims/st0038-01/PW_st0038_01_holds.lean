import PyProof.Rows.All
import Wide.All
import OpenK.AllK
import Wide.FinOn
import PySem.Challenge.RW_st0038_01
set_option Elab.async false
set_option linter.all false
section
open PySem PySem.W PyProof.Rows PySem.Calls PySem.Spec
namespace Mine

abbrev PW : Program := PySem.Challenge.pw_st0038_01

/-- values without their tokens -/
inductive AV where
  | int (i : Int)
  | str (x : List Nat)
  | bool (b : Bool)
  | none
  | ref (a : Addr)
  | oth (v : Value)

def er : Value → AV
  | .int i _ => .int i
  | .str x _ => .str x.cps.toList
  | .bool b => .bool b
  | .none => .none
  | .ref a => .ref a
  | v => .oth v

theorem er_int {v : Value} {i : Int} (h : er v = .int i) : ∃ t, v = .int i t := by
  cases v <;> simp [er] at h; subst h; exact ⟨_, rfl⟩
theorem er_str {v : Value} {x : List Nat} (h : er v = .str x) : ∃ t, v = .str ⟨x.toArray⟩ t := by
  cases v <;> simp [er] at h; subst h; exact ⟨_, rfl⟩
theorem er_bool {v : Value} {b : Bool} (h : er v = .bool b) : v = .bool b := by
  cases v <;> simp [er] at h; subst h; rfl
theorem er_none {v : Value} (h : er v = .none) : v = .none := by
  cases v <;> simp [er] at h; rfl
theorem er_ref {v : Value} {a : Addr} (h : er v = .ref a) : v = .ref a := by
  cases v <;> simp [er] at h; subst h; rfl
theorem er_oth {v u : Value} (h : er v = .oth u) : v = u := by
  cases v <;> simp [er] at h <;> exact h
theorem er_type (n : String) : er (.type n) = .oth (.type n) := rfl
theorem er_builtin (n : String) : er (.builtin n) = .oth (.builtin n) := rfl

abbrev Loc := List (Str × AV)

inductive Cell where
  | list (vs : List AV)
  | tup (vs : List AV)
  | liter (l : Addr) (i : Nat)
  | cellv (v : AV)
  | range (a b c : Int)
  | riter (x l c : Int)
  | obj (o : Obj)
  | pr (P : Obj → Prop)

def Cell.Sat (h : Heap) (a : Addr) : Cell → Prop
  | .list vs => ∃ xs : Array Value, h.PlainList a xs ∧ xs.toList.map er = vs
  | .tup vs => ∃ xs : Array Value, h.IsTuple a xs ∧ xs.toList.map er = vs
  | .liter l i => h.IsListIter a l i
  | .cellv v => ∃ u, h.IsCell a (some u) ∧ er u = v
  | .range x y z => ∃ t u v, IsRange h a x y z t u v
  | .riter x l c => IsRangeIter h a x l c
  | .obj o => h.get? a = some o
  | .pr P => ∃ o, h.get? a = some o ∧ P o

theorem Cell.Sat.at {h h' : Heap} {a : Addr} {c : Cell} (x : c.Sat h a) (e : ∀ o, h.get? a = some o → h'.get? a = some o) : c.Sat h' a := by
  cases c with
  | list vs => obtain ⟨xs, p, q⟩ := x; exact ⟨xs, p.at e, q⟩
  | tup vs => obtain ⟨xs, p, q⟩ := x; exact ⟨xs, Heap.IsTuple.at p e, q⟩
  | liter l i => exact Heap.IsListIter.at x e
  | cellv v => obtain ⟨u, ⟨o, ho, hd⟩, q⟩ := x; exact ⟨u, ⟨o, e _ ho, hd⟩, q⟩
  | range x y z => obtain ⟨t, u, v, p⟩ := x; exact ⟨t, u, v, e _ p⟩
  | riter x l c => exact e _ x
  | obj o => exact e _ x
  | pr P => obtain ⟨o, p, q⟩ := x; exact ⟨o, e _ p, q⟩
theorem Cell.Sat.alive {h : Heap} {a : Addr} {c : Cell} (x : c.Sat h a) : ∃ o, h.get? a = some o := by
  cases c with
  | list vs => obtain ⟨xs, ⟨n, p⟩, q⟩ := x; exact ⟨_, p⟩
  | tup vs => obtain ⟨xs, ⟨o, p, _⟩, q⟩ := x; exact ⟨o, p⟩
  | liter l i => obtain ⟨o, p, _⟩ := x; exact ⟨o, p⟩
  | cellv v => obtain ⟨u, ⟨o, ho, hd⟩, q⟩ := x; exact ⟨o, ho⟩
  | range x y z => obtain ⟨t, u, v, p⟩ := x; exact ⟨_, p⟩
  | riter x l c => exact ⟨_, x⟩
  | obj o => exact ⟨o, x⟩
  | pr P => obtain ⟨o, p, q⟩ := x; exact ⟨o, p⟩

abbrev Cells := List (Addr × Cell)

/-- the base b (the law's entry) is kept; the frame's namespace L bears m; the cells stand, each at its own place, none of the base's -/
structure Inv (b : Shared) (L : Addr) (m : Loc) (σ : Cells) (s : Shared) : Prop where
  ns : ∃ mm, s.heap.Ns L mm ∧ ∀ x v, m.lookup x = some v → ∃ v', mm x = some v' ∧ er v' = v
  cells : ∀ p ∈ σ, p.2.Sat s.heap p.1
  nd : (L :: σ.map (·.1)).Nodup
  new : ∀ a ∈ L :: σ.map (·.1), b.heap.get? a = none
  keep : ∀ a o, b.heap.get? a = some o → s.heap.get? a = some o
  gens : s.gens = b.gens
  drawn : s.drawn = b.drawn
  os : s.os = b.os

structure Ext (L : Addr) (σ σ' : Cells) (s s' : Shared) : Prop where
  kept : ∀ a o, a ∉ L :: σ.map (·.1) → s.heap.get? a = some o → s'.heap.get? a = some o
  fresh : ∀ a ∈ σ'.map (·.1), a ∈ L :: σ.map (·.1) ∨ s.heap.get? a = none
  gens : s'.gens = s.gens
  drawn : s'.drawn = s.drawn
  os : s'.os = s.os

theorem Ext.refl {L : Addr} {σ : Cells} {s : Shared} : Ext L σ σ s s := ⟨fun _ _ _ e => e, fun _ h => .inl (.tail _ h), rfl, rfl, rfl⟩
theorem Ext.trans {L : Addr} {σ σ₁ σ₂ : Cells} {s s₁ s₂ : Shared} (x : Ext L σ σ₁ s s₁) (y : Ext L σ₁ σ₂ s₁ s₂) : Ext L σ σ₂ s s₂ where
  kept := fun a o ha e => by
    have e1 := x.kept a o ha e
    refine y.kept a o (fun hm => ?_) e1
    cases hm with
    | head => exact ha (.head _)
    | tail _ hm =>
      rcases x.fresh a hm with h | h
      · exact ha h
      · rw [h] at e; cases e
  fresh := fun a ha => by
    rcases y.fresh a ha with h | h
    · cases h with
      | head => exact .inl (.head _)
      | tail _ h => exact x.fresh a h
    · by_cases hm : a ∈ L :: σ.map (·.1)
      · exact .inl hm
      · cases q : s.heap.get? a with
        | none => exact .inr rfl
        | some o => rw [x.kept a o hm q] at h; cases h
  gens := y.gens.trans x.gens
  drawn := y.drawn.trans x.drawn
  os := y.os.trans x.os

/-- what is grown, and only that -/
def Grown (s s' : Shared) : Prop := ∃ h' tk, s' = { s with heap := h', toks := tk } ∧ ∀ a o, s.heap.get? a = some o → h'.get? a = some o
theorem Grown.refl {s : Shared} : Grown s s := ⟨s.heap, s.toks, rfl, fun _ _ e => e⟩
theorem Grown.trans {s s₁ s₂ : Shared} (x : Grown s s₁) (y : Grown s₁ s₂) : Grown s s₂ := by
  obtain ⟨h, t, rfl, k⟩ := x
  obtain ⟨h', t', rfl, k'⟩ := y
  exact ⟨h', t', rfl, fun a o e => k' a o (k a o e)⟩
theorem Grown.tok {s : Shared} {t : Tok} : Grown s { s with toks := t } := ⟨s.heap, t, rfl, fun _ _ e => e⟩
theorem Grown.push {s : Shared} {o : Obj} : Grown s { s with heap := s.heap.push o } := ⟨_, s.toks, rfl, fun _ _ e => Heap.get?_push_of_some o e⟩
theorem Grown.kept {s s' : Shared} (x : Grown s s') : ∀ a o, s.heap.get? a = some o → s'.heap.get? a = some o := by
  obtain ⟨h, t, rfl, k⟩ := x; exact k
theorem Grown.of_keeps {s s' : Shared} (x : Keeps s s') : Grown s s' := x

theorem Inv.grow {b : Shared} {L : Addr} {m : Loc} {σ : Cells} {s s' : Shared} (I : Inv b L m σ s) (g : Grown s s') : Inv b L m σ s' := by
  obtain ⟨h', tk, rfl, k⟩ := g
  obtain ⟨⟨mm, hn, hm⟩, c, nd, nw, kp, g1, g2, g3⟩ := I
  exact ⟨⟨mm, hn.keeps k, hm⟩, fun p hp => (c p hp).at fun o e => k _ o e, nd, nw, fun a o e => k a o (kp a o e), g1, g2, g3⟩
theorem Ext.grow {L : Addr} {σ : Cells} {s s' : Shared} (g : Grown s s') : Ext L σ σ s s' := by
  obtain ⟨h', tk, rfl, k⟩ := g
  exact ⟨fun a o _ e => k a o e, fun _ h => .inl (.tail _ h), rfl, rfl, rfl⟩

theorem Inv.dead {b : Shared} {L : Addr} {m : Loc} {σ : Cells} {s : Shared} {a : Addr} (I : Inv b L m σ s) (h : s.heap.get? a = none) : a ∉ L :: σ.map (·.1) := fun hm => by
  cases hm with
  | head =>
    obtain ⟨mm, ⟨o, es, ep, ho, r⟩, _⟩ := I.ns
    rw [ho] at h; cases h
  | tail _ hm =>
    obtain ⟨p, hp, rfl⟩ := List.mem_map.mp hm
    obtain ⟨o, ho⟩ := (I.cells p hp).alive
    rw [ho] at h; cases h

/-- a new cell onto the ledger -/
theorem Inv.alloc {b : Shared} {L : Addr} {m : Loc} {σ : Cells} {s s' : Shared} {a : Addr} {c : Cell} (I : Inv b L m σ s) (g : Grown s s') (h : s.heap.get? a = none) (x : c.Sat s'.heap a) : Inv b L m ((a, c) :: σ) s' := by
  have I' := I.grow g
  have hd := I.dead h
  obtain ⟨ns, cs, nd, nw, kp, g1, g2, g3⟩ := I'
  have nd' := List.nodup_cons.mp nd
  refine ⟨ns, fun p hp => ?_, ?_, fun a' ha => ?_, kp, g1, g2, g3⟩
  · cases hp with
    | head => exact x
    | tail _ hp => exact cs p hp
  · rw [List.map_cons]
    refine List.nodup_cons.mpr ⟨fun hm => ?_, List.nodup_cons.mpr ⟨fun hm => hd (.tail _ hm), nd'.2⟩⟩
    cases hm with
    | head => exact hd (.head _)
    | tail _ hm => exact nd'.1 hm
  · rw [List.map_cons] at ha
    cases ha with
    | head => exact nw _ (.head _)
    | tail _ ha =>
      cases ha with
      | head =>
        cases q : b.heap.get? a with
        | none => rfl
        | some o => rw [I.keep a o q] at h; cases h
      | tail _ ha => exact nw _ (.tail _ ha)
theorem Ext.alloc {L : Addr} {σ : Cells} {s s' : Shared} {a : Addr} {c : Cell} (g : Grown s s') (h : s.heap.get? a = none) : Ext L σ ((a, c) :: σ) s s' := by
  obtain ⟨h', tk, rfl, k⟩ := g
  refine ⟨fun a o _ e => k a o e, fun a' ha => ?_, rfl, rfl, rfl⟩
  rw [List.map_cons] at ha
  cases ha with
  | head => exact .inr h
  | tail _ ha => exact .inl (.tail _ ha)

/-- one cell is turned, all else stays -/
theorem Inv.turn {b : Shared} {L : Addr} {m : Loc} {pre post : Cells} {a : Addr} {c c' : Cell} {s : Shared} {h' : Heap} {tk : Tok} (I : Inv b L m (pre ++ (a, c) :: post) s)
    (k : ∀ d o, d ≠ a → s.heap.get? d = some o → h'.get? d = some o) (x : c'.Sat h' a) : Inv b L m (pre ++ (a, c') :: post) { s with heap := h', toks := tk } := by
  obtain ⟨⟨mm, hn, hm⟩, cs, nd, nw, kp, g1, g2, g3⟩ := I
  have e : (pre ++ (a, c) :: post).map (·.1) = (pre ++ (a, c') :: post).map (·.1) := by simp
  have nd1 := List.nodup_cons.mp nd
  have hLa : L ≠ a := fun q => nd1.1 (by rw [q]; simp)
  have nd2 : (pre.map (·.1) ++ a :: post.map (·.1)).Nodup := by have := nd1.2; simpa using this
  have h3 := List.nodup_append.mp nd2
  have h4 := List.nodup_cons.mp h3.2.1
  refine ⟨⟨mm, hn.at' fun o e => k _ o hLa e, hm⟩, fun p hp => ?_, e ▸ nd, e ▸ nw, fun d o q => k d o (fun hd => ?_) (kp d o q), g1, g2, g3⟩
  · rcases List.mem_append.mp hp with h | h
    · exact (cs p (List.mem_append_left _ h)).at fun o q => k _ o (fun hq => h3.2.2 p.1 (List.mem_map_of_mem h) a (.head _) hq) q
    · cases h with
      | head => exact x
      | tail _ h => exact (cs p (List.mem_append_right _ (.tail _ h))).at fun o q => k _ o (fun hq => h4.1 (hq ▸ List.mem_map_of_mem h)) q
  · have := nw a (List.mem_cons_of_mem _ (by simp))
    rw [hd, this] at q; cases q
theorem Ext.turn {L : Addr} {pre post : Cells} {a : Addr} {c c' : Cell} {s : Shared} {h' : Heap} {tk : Tok} (k : ∀ d o, d ≠ a → s.heap.get? d = some o → h'.get? d = some o) :
    Ext L (pre ++ (a, c) :: post) (pre ++ (a, c') :: post) s { s with heap := h', toks := tk } :=
  ⟨fun d o hd e => k d o (fun q => hd (by rw [q]; simp)) e, fun d hd => .inl (.tail _ ((show (pre ++ (a, c') :: post).map (·.1) = (pre ++ (a, c) :: post).map (·.1) by simp) ▸ hd)), rfl, rfl, rfl⟩

/-- forgetting cells -/
theorem Inv.drop {b : Shared} {L : Addr} {m : Loc} {σ σ' : Cells} {s : Shared} (I : Inv b L m σ s) (h : σ'.Sublist σ) : Inv b L m σ' s := by
  obtain ⟨ns, cs, nd, nw, kp, g1, g2, g3⟩ := I
  have hm : (σ'.map (·.1)).Sublist (σ.map (·.1)) := h.map _
  exact ⟨ns, fun p hp => cs p (h.subset hp), nd.sublist (hm.cons_cons L), fun a ha => nw a ((hm.cons_cons L).subset ha), kp, g1, g2, g3⟩

/-- where a tree ends -/
def PG {α β : Type} (b : Shared) (L : Addr) (σ : Cells) (s : Shared) (f : α → β) (Q : β → Loc → Cells → Prop) (v : α) (s' : Shared) : Prop :=
  ∃ m' σ', Inv b L m' σ' s' ∧ Ext L σ σ' s s' ∧ Q (f v) m' σ'
def NoE : Value → Shared → Prop := fun _ _ => False

/-- what a tree does over the frame at L and the cells: whatever state bears them -/
def H {α β : Type} (w : World) (A : Around) (b : Shared) (L : Addr) (f : α → β) (t : Sem α) (m : Loc) (σ : Cells) (Q : β → Loc → Cells → Prop) : Prop :=
  ∀ s, Inv b L m σ s → wpAny (model PW w) A t (PG b L σ s f Q) NoE s

inductive FL where
  | next | brk | cont
  | ret (v : AV)
def erF : Flow → FL
  | .next => .next
  | .brk => .brk
  | .cont => .cont
  | .ret v => .ret (er v)

abbrev HV (w : World) (A : Around) (b : Shared) (L : Addr) (t : Sem Value) (m : Loc) (σ : Cells) (Q : AV → Loc → Cells → Prop) : Prop := H w A b L er t m σ Q
abbrev HE (w : World) (A : Around) (b : Shared) (env : Env) (e : Expr) (m : Loc) (σ : Cells) (Q : AV → Loc → Cells → Prop) : Prop := H w A b env.locals er (eval e env) m σ Q
abbrev HT (w : World) (A : Around) (b : Shared) (env : Env) (e : Expr) (m : Loc) (σ : Cells) (Q : Bool → Loc → Cells → Prop) : Prop := H w A b env.locals id (isTrue e env (eval e env)) m σ Q
abbrev HS (w : World) (A : Around) (b : Shared) (env : Env) (st : Stmt) (m : Loc) (σ : Cells) (Q : FL → Loc → Cells → Prop) : Prop := H w A b env.locals erF (exec st env) m σ Q
abbrev HB (w : World) (A : Around) (b : Shared) (env : Env) (l : List Stmt) (m : Loc) (σ : Cells) (Q : FL → Loc → Cells → Prop) : Prop := H w A b env.locals erF (execs l env) m σ Q
abbrev HL (w : World) (A : Around) (b : Shared) (L : Addr) (l : List (Bool × Sem Value)) (m : Loc) (σ : Cells) (Q : List AV → Loc → Cells → Prop) : Prop := H w A b L (List.map er) (spliced l) m σ Q

section
variable {α β : Type} {w : World} {A : Around} {b : Shared} {L : Addr} {m : Loc} {σ σ₁ : Cells} {s s₁ s' : Shared} {f : α → β} {Q Q' : β → Loc → Cells → Prop}
theorem PG.mono {v : α} (p : PG b L σ s f Q v s') (h : ∀ v m σ, Q v m σ → Q' v m σ) : PG b L σ s f Q' v s' :=
  let ⟨m, σ', i, x, q⟩ := p; ⟨m, σ', i, x, h _ _ _ q⟩
theorem PG.grow {v : α} (I : Inv b L m σ s) (g : Grown s s') (h : Q (f v) m σ) : PG b L σ s f Q v s' := ⟨m, σ, I.grow g, .grow g, h⟩
theorem PG.after {v : α} (x : Ext L σ σ₁ s s₁) (p : PG b L σ₁ s₁ f Q v s') : PG b L σ s f Q v s' :=
  let ⟨m, σ', i, y, q⟩ := p; ⟨m, σ', i, x.trans y, q⟩
theorem H.mono {t : Sem α} (h : H w A b L f t m σ Q') (hq : ∀ v m σ, Q' v m σ → Q v m σ) : H w A b L f t m σ Q :=
  fun s I => wpAny_mono (h s I) (fun _ _ p => p.mono hq) fun _ _ x => x
theorem H.pure {a : α} (h : Q (f a) m σ) : H w A b L f (Pure.pure a) m σ Q := fun _ I => wpAny_pure (PG.grow I .refl h)
/-- after a part, the rest -/
theorem H.seq {γ δ : Type} {g : γ → δ} {t : Sem γ} {R : γ → Shared → Prop} {Q₁ : δ → Loc → Cells → Prop} (I : Inv b L m σ s) (h : H w A b L g t m σ Q₁)
    (k : ∀ a m₁ σ₁ s₁, Q₁ (g a) m₁ σ₁ → Inv b L m₁ σ₁ s₁ → Ext L σ σ₁ s s₁ → R a s₁) : wpAny (model PW w) A t R NoE s :=
  wpAny_mono (h s I) (fun a s₁ ⟨m₁, σ₁, I₁, X₁, q⟩ => k a m₁ σ₁ s₁ q I₁ X₁) fun _ _ x => x
theorem H.bind {γ δ : Type} {g : γ → δ} {t : Sem γ} {k : γ → Sem α} (h : H w A b L g t m σ (fun x m₁ σ₁ => ∀ a, g a = x → H w A b L f (k a) m₁ σ₁ Q)) : H w A b L f (t >>= k) m σ Q :=
  fun _ I => wpAny_bind (H.seq I h fun a m₁ σ₁ s₁ q I₁ X₁ => wpAny_mono (q a rfl s₁ I₁) (fun _ _ p => p.after X₁) fun _ _ x => x)
end

section
variable {w : World} {A : Around} {b : Shared} {env : Env} {m : Loc} {σ : Cells} {Q : AV → Loc → Cells → Prop}

theorem HE_int {i : Int} {k pos} (h : Q (.int i) m σ) : HE w A b env (.Constant (.int i) k pos) m σ Q := fun _ I => wpAny_Constant_int (PG.grow I .tok h)
theorem HE_str {x : Str} {k pos} (h : Q (.str x.cps.toList) m σ) : HE w A b env (.Constant (.str x) k pos) m σ Q := fun _ I => Constant_str (PG.grow I .tok h)
theorem HE_bool {c : Bool} {k pos} (h : Q (.bool c) m σ) : HE w A b env (.Constant (.bool c) k pos) m σ Q := fun _ I => Constant_bool (PG.grow I .refl h)
theorem HE_none {k pos} (h : Q .none m σ) : HE w A b env (.Constant .none k pos) m σ Q := fun _ I => Constant_none (PG.grow I .refl h)

theorem HE_name {x : Str} {pos : Pos} (v : AV) (hv : m.lookup x = some v) (h : Q v m σ)
    (hk : env.scope.kind = .function := by rfl) (hl : env.kindOf x = some .local := by rfl) (hd : (x == ("__debug__" : Str)) = false := by decide) :
    HE w A b env (.Name x pos) m σ Q := fun s I => by
  obtain ⟨mm, hn, hm⟩ := I.ns
  obtain ⟨v', e, rfl⟩ := hm x v hv
  exact wpAny_Name (wpAny_loadName_local hk hl hn e (PG.grow I .refl h)) hd

/-- a variable that is a cell of the frame or free in it -/
theorem HE_cell {x : Str} {pos : Pos} (c : Addr) (v : AV) (hc : env.cells.lookup x = some c) (hv : (c, Cell.cellv v) ∈ σ) (h : Q v m σ)
    (hk : env.scope.kind = .function := by rfl) (hl : env.kindOf x = some .cell := by rfl) (hd : (x == ("__debug__" : Str)) = false := by decide) :
    HE w A b env (.Name x pos) m σ Q := fun s I => by
  obtain ⟨u, hu, rfl⟩ := I.cells _ hv
  exact wpAny_Name (wpAny_loadName_cell hk hl hc hu (PG.grow I .refl h)) hd

theorem HE_bin {op l r pos} (h : HE w A b env l m σ (fun x m₁ σ₁ => HE w A b env r m₁ σ₁ (fun y m₂ σ₂ => ∀ v u, er v = x → er u = y → HV w A b env.locals (binaryOp op v u) m₂ σ₂ Q))) :
    HE w A b env (.BinOp l op r pos) m σ Q := fun s I =>
  wpAny_BinOp (H.seq I h fun v _ _ _ h₁ I₁ X₁ => H.seq I₁ h₁ fun u _ _ s₂ h₂ I₂ X₂ => wpAny_mono (h₂ v u rfl rfl s₂ I₂) (fun _ _ p => p.after (X₁.trans X₂)) fun _ _ x => x)
theorem HE_cmp {op l r pos} (h : HE w A b env l m σ (fun x m₁ σ₁ => HE w A b env r m₁ σ₁ (fun y m₂ σ₂ => ∀ v u, er v = x → er u = y → HV w A b env.locals (compareOp op v u) m₂ σ₂ Q)))
    (hm : behindInMarks op r = false := by with_unfolding_all rfl) : HE w A b env (.Compare l [op] [r] pos) m σ Q := fun s I =>
  wpAny_Compare1 (H.seq I h fun v _ _ _ h₁ I₁ X₁ => H.seq I₁ h₁ fun u _ _ s₂ h₂ I₂ X₂ => wpAny_mono (h₂ v u rfl rfl s₂ I₂) (fun _ _ p => p.after (X₁.trans X₂)) fun _ _ x => x) hm
theorem HE_un {op x pos} (h : HE w A b env x m σ (fun y m₁ σ₁ => ∀ v, er v = y → HV w A b env.locals (unaryOp op v) m₁ σ₁ Q)) : HE w A b env (.UnaryOp op x pos) m σ Q := fun s I =>
  UnaryOp_ (H.seq I h fun v _ _ s₁ h₁ I₁ X₁ => wpAny_mono (h₁ v rfl s₁ I₁) (fun _ _ p => p.after X₁) fun _ _ x => x)
theorem HE_ife {test body orelse pos} (h : HT w A b env test m σ (fun c m₁ σ₁ => if c = true then HE w A b env body m₁ σ₁ Q else HE w A b env orelse m₁ σ₁ Q)) :
    HE w A b env (.IfExp test body orelse pos) m σ Q := fun s I =>
  IfExp_ (H.seq I h fun c _ _ s₁ h₁ I₁ X₁ => by
    cases c with
    | true => exact wpAny_mono ((show HE w A b env body _ _ Q from h₁) s₁ I₁) (fun _ _ p => p.after X₁) fun _ _ x => x
    | false => exact wpAny_mono ((show HE w A b env orelse _ _ Q from h₁) s₁ I₁) (fun _ _ p => p.after X₁) fun _ _ x => x)

variable {QB : Bool → Loc → Cells → Prop}
theorem HT_cmp {op l r pos} (h : HE w A b env (.Compare l [op] [r] pos) m σ (fun v m₁ σ₁ => ∃ c, v = .bool c ∧ QB c m₁ σ₁)) (hm : behindInMarks op r = false := by with_unfolding_all rfl) :
    HT w A b env (.Compare l [op] [r] pos) m σ QB := fun s I => by
  have e : isTrue (.Compare l [op] [r] pos) env (eval (.Compare l [op] [r] pos) env) = (do
      let a ← eval l env; let b ← holding [a] (markedBehindIn op r (eval r env)); standAt pos; let c ← operate [a, b] (compareOp op a b); holding [c] (truthy c)) := rfl
  have h1 := h s I
  rw [eval_Compare1] at h1
  rw [e]
  intro Γ p hΓ
  have h2 := h1 Γ p hΓ
  simp only [Sem.wp_bind', Sem.wp_holding, Sem.wp_cmd_standAt, Sem.wp_operate] at h2 ⊢
  refine Sem.wp_mono _ _ _ (fun a p₁ s₁ h₁ => Sem.wp_mono _ _ _ (fun u p₂ s₂ h₂ => Sem.wp_mono _ _ _ (fun c p₃ s₃ h₃ => ?_) (fun _ _ _ h' => h') _ _ h₂) (fun _ _ _ h' => h') _ _ h₁) (fun _ _ _ h' => h') _ _ h2
  obtain ⟨m₁, σ₁, I₁, X₁, c', hc, q⟩ := h₃
  obtain rfl := er_bool hc
  exact ⟨m₁, σ₁, I₁, X₁, q⟩
theorem HT_not {x pos} (h : HT w A b env x m σ (fun c m₁ σ₁ => QB (!c) m₁ σ₁)) : HT w A b env (.UnaryOp .Not x pos) m σ QB := fun s I =>
  wpAny_isTrue_Not (H.seq I h fun c m₁ σ₁ s₁ q I₁ X₁ => ⟨m₁, σ₁, I₁, X₁, q⟩)
theorem HT_val {e : Expr} (h : HE w A b env e m σ (fun x m₁ σ₁ => ∀ v, er v = x → H w A b env.locals id (truthy v) m₁ σ₁ QB))
    (he : isTrue e env (eval e env) = (do let v ← eval e env; standAt e.pos; holding [v] (truthy v)) := by rfl) : HT w A b env e m σ QB := fun s I =>
  wpAny_isTrue_value (H.seq I h fun v _ _ s₁ h₁ I₁ X₁ => wpAny_mono (h₁ v rfl s₁ I₁) (fun _ _ p => p.after X₁) fun _ _ x => x) he
theorem HT_and {l pos} (h : H w A b env.locals id (allTrue .And l env) m σ QB) : HT w A b env (.BoolOp .And l pos) m σ QB := fun s I => wpAny_isTrue_BoolOp (h s I)
theorem HT_or {l pos} (h : H w A b env.locals id (allTrue .Or l env) m σ QB) : HT w A b env (.BoolOp .Or l pos) m σ QB := fun s I => wpAny_isTrue_BoolOp (h s I)
theorem HA_and_nil (h : QB true m σ) : H w A b env.locals id (allTrue .And [] env) m σ QB := fun s I => wpAny_allTrue_And_nil (PG.grow I .refl h)
theorem HA_or_nil (h : QB false m σ) : H w A b env.locals id (allTrue .Or [] env) m σ QB := fun s I => wpAny_allTrue_Or_nil (PG.grow I .refl h)
theorem HA_and {x rest} (h : HT w A b env x m σ (fun c m₁ σ₁ => if c = true then H w A b env.locals id (allTrue .And rest env) m₁ σ₁ QB else QB false m₁ σ₁)) :
    H w A b env.locals id (allTrue .And (x :: rest) env) m σ QB := fun s I => wpAny_allTrue_And_cons (H.seq I h fun c m₁ σ₁ s₁ h₁ I₁ X₁ => by
  cases c with
  | true => exact wpAny_mono ((show H w A b env.locals id (allTrue .And rest env) m₁ σ₁ QB from h₁) s₁ I₁) (fun _ _ p => p.after X₁) fun _ _ x => x
  | false => exact ⟨m₁, σ₁, I₁, X₁, (show QB false m₁ σ₁ from h₁)⟩)
theorem HA_or {x rest} (h : HT w A b env x m σ (fun c m₁ σ₁ => if c = true then QB true m₁ σ₁ else H w A b env.locals id (allTrue .Or rest env) m₁ σ₁ QB)) :
    H w A b env.locals id (allTrue .Or (x :: rest) env) m σ QB := fun s I => wpAny_allTrue_Or_cons (H.seq I h fun c m₁ σ₁ s₁ h₁ I₁ X₁ => by
  cases c with
  | true => exact ⟨m₁, σ₁, I₁, X₁, (show QB true m₁ σ₁ from h₁)⟩
  | false => exact wpAny_mono ((show H w A b env.locals id (allTrue .Or rest env) m₁ σ₁ QB from h₁) s₁ I₁) (fun _ _ p => p.after X₁) fun _ _ x => x)
end

section
variable {w : World} {A : Around} {b : Shared} {env : Env} {m : Loc} {σ : Cells} {Q : FL → Loc → Cells → Prop}
theorem HB_nil (h : Q .next m σ) : HB w A b env [] m σ Q := fun _ I => wpAny_execs_nil (PG.grow I .refl h)
theorem HB_cons {st rest} (h : HS w A b env st m σ (fun f m₁ σ₁ => match f with | .next => HB w A b env rest m₁ σ₁ Q | f => Q f m₁ σ₁)) : HB w A b env (st :: rest) m σ Q := fun s I =>
  wpAny_execs_cons (H.seq I h fun f m₁ σ₁ s₁ h₁ I₁ X₁ => by
    cases f with
    | next => exact wpAny_mono ((show HB w A b env rest m₁ σ₁ Q from h₁) s₁ I₁) (fun _ _ p => p.after X₁) fun _ _ x => x
    | brk => exact ⟨m₁, σ₁, I₁, X₁, h₁⟩
    | cont => exact ⟨m₁, σ₁, I₁, X₁, h₁⟩
    | ret v => exact ⟨m₁, σ₁, I₁, X₁, h₁⟩)

/-- a name is stored -/
def put (x : Str) (v : AV) : Loc → Loc
  | [] => [(x, v)]
  | p :: r => if p.1 = x then (x, v) :: r else p :: put x v r
theorem put_lookup {x y : Str} {v : AV} : ∀ {m : Loc}, (put x v m).lookup y = if y = x then some v else m.lookup y
  | [] => by
    by_cases h : y = x
    · simp [put, List.lookup, h]
    · simp [put, List.lookup, h, beq_eq_false_iff_ne.mpr h]
  | p :: r => by
    have ih := put_lookup (x := x) (y := y) (v := v) (m := r)
    unfold put
    by_cases hp : p.1 = x
    · rw [if_pos hp]
      obtain ⟨k, u⟩ := p
      cases hp
      by_cases h : y = k
      · simp [List.lookup, h]
      · simp [List.lookup, h, beq_eq_false_iff_ne.mpr h]
    · rw [if_neg hp]
      obtain ⟨k, u⟩ := p
      by_cases h : y = k
      · subst h
        simp [List.lookup, show ¬ y = x from hp]
      · simp only [List.lookup, beq_eq_false_iff_ne.mpr h, ih]

theorem Inv.store {b : Shared} {L : Addr} {m : Loc} {σ : Cells} {s : Shared} {mm : Str → Option Value} {x : Str} {v : Value} {h' : Heap} {tk : Tok} (I : Inv b L m σ s)
    (hm : ∀ y u, m.lookup y = some u → ∃ v', mm y = some v' ∧ er v' = u) (hn : h'.Ns L fun y => if y = x then some v else mm y) (hs : Heap.SameBut L s.heap h') :
    Inv b L (put x (er v) m) σ { s with heap := h', toks := tk } ∧ Ext L σ σ s { s with heap := h', toks := tk } := by
  obtain ⟨_, cs, nd, nw, kp, g1, g2, g3⟩ := I
  have nL := (List.nodup_cons.mp nd).1
  refine ⟨⟨⟨_, hn, fun y u e => ?_⟩, fun p hp => (cs p hp).at fun o e => hs.extBut _ o (fun q => nL (q ▸ List.mem_map_of_mem hp)) e, nd, nw,
    fun a o e => hs.extBut a o (fun q => ?_) (kp a o e), g1, g2, g3⟩, ⟨fun a o ha e => hs.extBut a o (fun q => ha (q ▸ .head _)) e, fun a ha => .inl (.tail _ ha), rfl, rfl, rfl⟩⟩
  · rw [put_lookup] at e
    by_cases h : y = x
    · rw [if_pos h] at e; cases e; exact ⟨v, if_pos h, rfl⟩
    · rw [if_neg h] at e; obtain ⟨v', e1, e2⟩ := hm y u e; exact ⟨v', (if_neg h).trans e1, e2⟩
  · have := nw L (.head _)
    rw [q, this] at e; cases e

theorem H_store {x : Str} {v : Value} {QU : Unit → Loc → Cells → Prop} (h : QU () (put x (er v) m) σ) (hl : env.kindOf x = some .local := by rfl)
    (hp : (env.scope.kind == .class || (env.scope.kind == .module && env.locals != env.globals)) = false := by rfl) : H w A b env.locals id (storeName env x v) m σ QU := fun s I => by
  obtain ⟨mm, hn, hm⟩ := I.ns
  exact wpAny_storeName_local hl hn (fun h' hn' hs => have z := I.store (tk := s.toks + 1) hm hn' hs; ⟨_, _, z.1, z.2, h⟩) hp

theorem HS_assign {x : Str} {pos' value pos} (h : HE w A b env value m σ (fun v m₁ σ₁ => Q .next (put x v m₁) σ₁))
    (hl : env.kindOf x = some .local := by rfl) (hp : (env.scope.kind == .class || (env.scope.kind == .module && env.locals != env.globals)) = false := by rfl)
    (hs : swapsWith value (some (.Name x pos')) pos.line env = pure false := by rfl) : HS w A b env (.Assign [.Name x pos'] value pos) m σ Q := fun s I =>
  wpAny_Assign_Name (H.seq I h fun v m₁ σ₁ s₁ q I₁ X₁ => by
    obtain ⟨mm, hn, hm⟩ := I₁.ns
    exact wpAny_storeName_local hl hn (fun h' hn' hs => have z := I₁.store (tk := s₁.toks + 1) hm hn' hs; ⟨_, _, z.1, X₁.trans z.2, q⟩) hp) hs
theorem HS_aug {x : Str} {pos' op value pos} (u : AV) (hu : m.lookup x = some u)
    (h : HE w A b env value m σ (fun y m₁ σ₁ => ∀ v v', er v = u → er v' = y → HV w A b env.locals (inplaceOp op v v') m₁ σ₁ (fun r m₂ σ₂ => Q .next (put x r m₂) σ₂)))
    (hk : env.scope.kind = .function := by rfl)
    (hl : env.kindOf x = some .local := by rfl) (hp : (env.scope.kind == .class || (env.scope.kind == .module && env.locals != env.globals)) = false := by rfl) :
    HS w A b env (.AugAssign (.Name x pos') op value pos) m σ Q := fun s I => by
  obtain ⟨mm, hn, hm⟩ := I.ns
  obtain ⟨v', e, rfl⟩ := hm x u hu
  refine wpAny_AugAssign_Name (wpAny_loadName_local hk hl hn e (H.seq I h fun y m₁ σ₁ s₁ q I₁ X₁ => H.seq I₁ (q v' y rfl rfl) fun r m₂ σ₂ s₂ q₂ I₂ X₂ => ?_))
  obtain ⟨mm₂, hn₂, hm₂⟩ := I₂.ns
  exact wpAny_storeName_local hl hn₂ (fun h' hn' hs => have z := I₂.store (tk := s₂.toks + 1) hm₂ hn' hs; ⟨_, _, z.1, (X₁.trans X₂).trans z.2, q₂⟩) hp
theorem HS_if {test body orelse pos} (h : HT w A b env test m σ (fun c m₁ σ₁ => if c = true then HB w A b env body m₁ σ₁ Q else HB w A b env orelse m₁ σ₁ Q)) : HS w A b env (.If test body orelse pos) m σ Q := fun s I =>
  wpAny_If (H.seq I h fun c m₁ σ₁ s₁ h₁ I₁ X₁ => by
    cases c with
    | true => exact wpAny_mono ((show HB w A b env body m₁ σ₁ Q from h₁) s₁ I₁) (fun _ _ p => p.after X₁) fun _ _ x => x
    | false => exact wpAny_mono ((show HB w A b env orelse m₁ σ₁ Q from h₁) s₁ I₁) (fun _ _ p => p.after X₁) fun _ _ x => x)
theorem HS_return {e pos} (h : HE w A b env e m σ (fun v m₁ σ₁ => Q (.ret v) m₁ σ₁)) : HS w A b env (.Return (some e) pos) m σ Q := fun s I =>
  wpAny_Return_some (H.seq I h fun v m₁ σ₁ s₁ q I₁ X₁ => ⟨m₁, σ₁, I₁, X₁, q⟩)
theorem HS_break {pos} (h : Q .brk m σ) : HS w A b env (.Break pos) m σ Q := fun s I => wpAny_Break (PG.grow I .refl h)
theorem HS_expr {e pos} (h : HE w A b env e m σ (fun v m₁ σ₁ => (∀ a, v ≠ .ref a) ∧ Q .next m₁ σ₁))
    (hi : interactive env = false := by rfl) (hs : swapsWith e none pos.line env = pure false := by rfl) : HS w A b env (.Expr e pos) m σ Q := fun s I =>
  wpAny_Expr (H.seq I h fun v m₁ σ₁ s₁ q I₁ X₁ => by
    cases v <;> first | exact ⟨m₁, σ₁, I₁, X₁, q.2⟩ | exact q.1 _ rfl) hi hs
end
end Mine
end
section
open PySem PySem.W PyProof.Rows PySem.Calls PySem.Spec
namespace Mine

abbrev Str.l (x : PySem.Str) : List Nat := x.cps.toList
def mk (l : List Nat) : PySem.Str := ⟨l.toArray⟩
theorem str_ext {x y : PySem.Str} (h : x.cps.toList = y.cps.toList) : x = y := by
  cases x; cases y; simp only [Str.mk.injEq]; exact Array.toList_inj.mp h
theorem str_beq (x y : PySem.Str) : (x == y) = decide (x.cps.toList = y.cps.toList) := by
  by_cases h : x = y
  · subst h; simp
  · have : ¬ x.cps.toList = y.cps.toList := fun e => h (str_ext e)
    simp [h, this]
theorem str_app (x y : PySem.Str) : (x ++ y).cps.toList = x.cps.toList ++ y.cps.toList := by
  rw [Str.cps_append]; simp
theorem str_len (x : PySem.Str) : x.length = x.cps.toList.length := by simp [Str.length]

section
variable {α β : Type} {w : World} {A : Around} {b : Shared} {L : Addr} {m : Loc} {σ : Cells}

def HBin (w : World) (A : Around) (b : Shared) (L : Addr) (op : Operator) (x y : AV) (m : Loc) (σ : Cells) (Q : AV → Loc → Cells → Prop) : Prop :=
  ∀ v u, er v = x → er u = y → HV w A b L (binaryOp op v u) m σ Q
def HIn (w : World) (A : Around) (b : Shared) (L : Addr) (op : Operator) (x y : AV) (m : Loc) (σ : Cells) (Q : AV → Loc → Cells → Prop) : Prop :=
  ∀ v u, er v = x → er u = y → HV w A b L (inplaceOp op v u) m σ Q
def HCmp (w : World) (A : Around) (b : Shared) (L : Addr) (op : CmpOp) (x y : AV) (m : Loc) (σ : Cells) (Q : AV → Loc → Cells → Prop) : Prop :=
  ∀ v u, er v = x → er u = y → HV w A b L (compareOp op v u) m σ Q
def HUn (w : World) (A : Around) (b : Shared) (L : Addr) (op : UnaryOp) (x : AV) (m : Loc) (σ : Cells) (Q : AV → Loc → Cells → Prop) : Prop :=
  ∀ v, er v = x → HV w A b L (unaryOp op v) m σ Q
def HTr (w : World) (A : Around) (b : Shared) (L : Addr) (x : AV) (m : Loc) (σ : Cells) (Q : Bool → Loc → Cells → Prop) : Prop :=
  ∀ v, er v = x → H w A b L id (truthy v) m σ Q
def HC (w : World) (A : Around) (b : Shared) (L : Addr) (f : Value) (vs : List AV) (m : Loc) (σ : Cells) (Q : AV → Loc → Cells → Prop) : Prop :=
  ∀ as, as.map er = vs → HV w A b L (call f as) m σ Q
variable {Q : AV → Loc → Cells → Prop}

theorem HBin_add {i j : Int} (h : Q (.int (i + j)) m σ) : HBin w A b L .Add (.int i) (.int j) m σ Q := fun v u e1 e2 s I => by
  obtain ⟨t, rfl⟩ := er_int e1; obtain ⟨t', rfl⟩ := er_int e2
  exact add_int (PG.grow I .tok h)
theorem HBin_sub {i j : Int} (h : Q (.int (i - j)) m σ) : HBin w A b L .Sub (.int i) (.int j) m σ Q := fun v u e1 e2 s I => by
  obtain ⟨t, rfl⟩ := er_int e1; obtain ⟨t', rfl⟩ := er_int e2
  exact sub_int (PG.grow I .tok h)
theorem HBin_mul {i j : Int} (hk : IntMulOk i j) (h : Q (.int (i * j)) m σ) : HBin w A b L .Mult (.int i) (.int j) m σ Q := fun v u e1 e2 s I => by
  obtain ⟨t, rfl⟩ := er_int e1; obtain ⟨t', rfl⟩ := er_int e2
  exact mul_int (PG.grow I .tok h) hk
theorem HBin_mod {i j : Int} (hj : j ≠ 0) (h : Q (.int (i.fmod j)) m σ) : HBin w A b L .Mod (.int i) (.int j) m σ Q := fun v u e1 e2 s I => by
  obtain ⟨t, rfl⟩ := er_int e1; obtain ⟨t', rfl⟩ := er_int e2
  exact mod_int hj (PG.grow I .tok h)
theorem HBin_div {i j : Int} (hj : j ≠ 0) (hp : Builtin.divisionGoesByPylong i j = false) (h : Q (.int (i.fdiv j)) m σ) : HBin w A b L .FloorDiv (.int i) (.int j) m σ Q := fun v u e1 e2 s I => by
  obtain ⟨t, rfl⟩ := er_int e1; obtain ⟨t', rfl⟩ := er_int e2
  exact floordiv_int hj (PG.grow I .tok h) (.inl hp)
theorem HBin_pow {i j : Int} (h0 : 0 ≤ j) (h1 : j ≤ 1000000) (h2 : i.natAbs < 2 ^ 64) (h : Q (.int (i ^ j.toNat)) m σ) : HBin w A b L .Pow (.int i) (.int j) m σ Q := fun v u e1 e2 s I => by
  obtain ⟨t, rfl⟩ := er_int e1; obtain ⟨t', rfl⟩ := er_int e2
  exact pow_int_small h0 h1 h2 (PG.grow I .tok h)
theorem HBin_shl {i j : Int} (h0 : 0 ≤ j) (h1 : j ≤ 1000000) (h2 : i.natAbs < 2 ^ 64) (h : Q (.int (i * 2 ^ j.toNat)) m σ) : HBin w A b L .LShift (.int i) (.int j) m σ Q := fun v u e1 e2 s I => by
  obtain ⟨t, rfl⟩ := er_int e1; obtain ⟨t', rfl⟩ := er_int e2
  exact lshift_int_small h0 h1 h2 (PG.grow I .tok h)
theorem HBin_and {i j : Int} (h : Q (.int (Builtin.bitAnd i j)) m σ) : HBin w A b L .BitAnd (.int i) (.int j) m σ Q := fun v u e1 e2 s I => by
  obtain ⟨t, rfl⟩ := er_int e1; obtain ⟨t', rfl⟩ := er_int e2
  exact and_int (PG.grow I .tok h)
theorem HBin_xor {i j : Int} (h : Q (.int (Builtin.bitXor i j)) m σ) : HBin w A b L .BitXor (.int i) (.int j) m σ Q := fun v u e1 e2 s I => by
  obtain ⟨t, rfl⟩ := er_int e1; obtain ⟨t', rfl⟩ := er_int e2
  exact xor_int (PG.grow I .tok h)
theorem HBin_cat {x y : List Nat} (hsz : x.length + y.length ≤ sizeLine) (h : Q (.str (x ++ y)) m σ) : HBin w A b L .Add (.str x) (.str y) m σ Q := fun v u e1 e2 s I => by
  obtain ⟨t, rfl⟩ := er_str e1; obtain ⟨t', rfl⟩ := er_str e2
  refine add_str (fun t' tk => PG.grow I .tok ?_) (by simpa [str_len] using hsz)
  simp only [er, str_app]; exact h
theorem HIn_add {i j : Int} (h : Q (.int (i + j)) m σ) : HIn w A b L .Add (.int i) (.int j) m σ Q := fun v u e1 e2 s I => by
  obtain ⟨t, rfl⟩ := er_int e1; obtain ⟨t', rfl⟩ := er_int e2
  exact iadd_int (PG.grow I .tok h)
theorem HIn_sub {i j : Int} (h : Q (.int (i - j)) m σ) : HIn w A b L .Sub (.int i) (.int j) m σ Q := fun v u e1 e2 s I => by
  obtain ⟨t, rfl⟩ := er_int e1; obtain ⟨t', rfl⟩ := er_int e2
  exact isub_int (PG.grow I .tok h)
theorem HIn_div {i j : Int} (hj : j ≠ 0) (hp : Builtin.divisionGoesByPylong i j = false) (h : Q (.int (i.fdiv j)) m σ) : HIn w A b L .FloorDiv (.int i) (.int j) m σ Q := fun v u e1 e2 s I => by
  obtain ⟨t, rfl⟩ := er_int e1; obtain ⟨t', rfl⟩ := er_int e2
  exact ifloordiv_int hj (PG.grow I .tok h) (.inl hp)
theorem HIn_shl {i j : Int} (h0 : 0 ≤ j) (h1 : j ≤ 1000000) (h2 : i.natAbs < 2 ^ 64) (h : Q (.int (i * 2 ^ j.toNat)) m σ) : HIn w A b L .LShift (.int i) (.int j) m σ Q := fun v u e1 e2 s I => by
  obtain ⟨t, rfl⟩ := er_int e1; obtain ⟨t', rfl⟩ := er_int e2
  exact ilshift_int_small h0 h1 h2 (PG.grow I .tok h)
theorem HIn_or {i j : Int} (h : Q (.int (Builtin.bitOr i j)) m σ) : HIn w A b L .BitOr (.int i) (.int j) m σ Q := fun v u e1 e2 s I => by
  obtain ⟨t, rfl⟩ := er_int e1; obtain ⟨t', rfl⟩ := er_int e2
  exact ior_int (PG.grow I .tok h)
theorem HIn_xor {i j : Int} (h : Q (.int (Builtin.bitXor i j)) m σ) : HIn w A b L .BitXor (.int i) (.int j) m σ Q := fun v u e1 e2 s I => by
  obtain ⟨t, rfl⟩ := er_int e1; obtain ⟨t', rfl⟩ := er_int e2
  exact ixor_int (PG.grow I .tok h)
theorem HIn_cat {x y : List Nat} (hsz : x.length + y.length ≤ sizeLine) (h : Q (.str (x ++ y)) m σ) : HIn w A b L .Add (.str x) (.str y) m σ Q := fun v u e1 e2 s I => by
  obtain ⟨t, rfl⟩ := er_str e1; obtain ⟨t', rfl⟩ := er_str e2
  refine iadd_str (fun t' tk => PG.grow I .tok ?_) (by simpa [str_len] using hsz)
  simp only [er, str_app]; exact h

theorem HCmp_lt {i j : Int} (h : Q (.bool (decide (i < j))) m σ) : HCmp w A b L .Lt (.int i) (.int j) m σ Q := fun v u e1 e2 s I => by
  obtain ⟨t, rfl⟩ := er_int e1; obtain ⟨t', rfl⟩ := er_int e2
  exact lt_int (PG.grow I .refl h)
theorem HCmp_gt {i j : Int} (h : Q (.bool (decide (j < i))) m σ) : HCmp w A b L .Gt (.int i) (.int j) m σ Q := fun v u e1 e2 s I => by
  obtain ⟨t, rfl⟩ := er_int e1; obtain ⟨t', rfl⟩ := er_int e2
  exact gt_int (PG.grow I .refl h)
theorem HCmp_eq {i j : Int} (h : Q (.bool (decide (i = j))) m σ) : HCmp w A b L .Eq (.int i) (.int j) m σ Q := fun v u e1 e2 s I => by
  obtain ⟨t, rfl⟩ := er_int e1; obtain ⟨t', rfl⟩ := er_int e2
  exact eq_int (PG.grow I .refl (by show Q (.bool (i == j)) m σ; rw [show (i == j) = decide (i = j) from (by by_cases q : i = j <;> simp [q])]; exact h))
theorem HCmp_ne {i j : Int} (h : Q (.bool (decide (i ≠ j))) m σ) : HCmp w A b L .NotEq (.int i) (.int j) m σ Q := fun v u e1 e2 s I => by
  obtain ⟨t, rfl⟩ := er_int e1; obtain ⟨t', rfl⟩ := er_int e2
  exact ne_int (PG.grow I .refl (by show Q (.bool (i != j)) m σ; rw [show (i != j) = decide (i ≠ j) from (by by_cases q : i = j <;> simp [q])]; exact h))
theorem HCmp_seq {x y : List Nat} (h : Q (.bool (decide (x = y))) m σ) : HCmp w A b L .Eq (.str x) (.str y) m σ Q := fun v u e1 e2 s I => by
  obtain ⟨t, rfl⟩ := er_str e1; obtain ⟨t', rfl⟩ := er_str e2
  refine eq_str (PG.grow I .refl ?_)
  rw [str_beq]; exact h
theorem HCmp_sne {x y : List Nat} (h : Q (.bool (decide (x ≠ y))) m σ) : HCmp w A b L .NotEq (.str x) (.str y) m σ Q := fun v u e1 e2 s I => by
  obtain ⟨t, rfl⟩ := er_str e1; obtain ⟨t', rfl⟩ := er_str e2
  refine ne_str (PG.grow I .refl ?_)
  show Q (.bool (!(_ == _))) m σ
  rw [str_beq]; simpa using h
theorem HCmp_is {x : AV} (h : Q (.bool (match x with | .none => true | _ => false)) m σ) : HCmp w A b L .Is x .none m σ Q := fun v u e1 e2 s I => by
  obtain rfl := er_none e2
  refine is_none (PG.grow I .refl ?_)
  subst e1
  cases v <;> exact h

theorem HTr_int {i : Int} {Q : Bool → Loc → Cells → Prop} (h : Q (decide (i ≠ 0)) m σ) : HTr w A b L (.int i) m σ Q := fun v e s I => by
  obtain ⟨t, rfl⟩ := er_int e
  exact truthy_int (PG.grow I .refl (by show Q (i != 0) m σ; rw [show (i != 0) = decide (i ≠ 0) from (by by_cases q : i = 0 <;> simp [q])]; exact h))
theorem HTr_bool {c : Bool} {Q : Bool → Loc → Cells → Prop} (h : Q c m σ) : HTr w A b L (.bool c) m σ Q := fun v e s I => by
  obtain rfl := er_bool e
  exact wpAny_truthy_bool (PG.grow I .refl h)
end
end Mine
end
section
open PySem PySem.W PyProof.Rows PySem.Calls PySem.Spec
namespace Mine

/-- room for n more frames -/
structure Rm (n : Nat) (A : Around) : Prop where
  h : A.handled = none
  d : A.depth + n ≤ 990
  u : A.units + 20 * n ≤ 9000
theorem Rm.deeper {n : Nat} {A : Around} (R : Rm (n + 1) A) (env : Env) : Rm n (A.deeper env) :=
  ⟨R.h, by have := R.d; show A.depth + 1 + n ≤ 990; omega, by have := R.u; show A.units + 3 + 20 * n ≤ 9000; omega⟩
theorem Rm.le {n k : Nat} {A : Around} (R : Rm n A) (h : k ≤ n) : Rm k A := ⟨R.h, by have := R.d; omega, by have := R.u; omega⟩
theorem Rm.lim {n : Nat} {A : Around} (R : Rm n A) : A.depth < recursionLimit := by have := R.d; show A.depth < 1000; omega

def fnRec (i : Nat) : Option (PySem.Str × Arguments × List Stmt × Scope) := match PW.main.body[i]? with
  | some (.FunctionDef n a b _ _ _ sc _ _ _) => some (n, a, b, sc)
  | _ => none
def FnAt (mg : PySem.Str → Option Value) (h : Heap) (name : PySem.Str) (params : Arguments) (body : List Stmt) (scope : Scope) : Prop :=
  ∃ f o pm cd doc, mg name = some (.ref f) ∧ h.get? f = some o ∧ o.data = .func (docDef name params body scope pm cd doc) ∧ h.CodeRec cd name

def bnames : List PySem.Str := ["list", "range", "enumerate", "len", "min", "hex", "next", "iter", "ord", "chr", "str", "sum", "isinstance", "bool"]

def b1 : List Nat := [173, 847, 6150, 6155, 6156, 6157, 8203, 8204, 8205, 8288, 65279, 65024, 65025, 65026, 65027, 65028, 65029, 65030, 65031, 65032, 65033, 65034, 65035, 65036, 65037, 65038, 65039]
theorem SetOf.keeps {w : World} {h h' : Heap} {a : Addr} {S : Int → Bool} {n : Nat} (x : h.SetOf (intKind PW w) a S n) (k : ∀ a o, h.get? a = some o → h'.get? a = some o) : h'.SetOf (intKind PW w) a S n :=
  let ⟨o, es, ep, t, e, r⟩ := x; ⟨o, es, ep, t, k _ _ e, r⟩
theorem MapOf.keeps {w : World} {h h' : Heap} {a : Addr} {f : Int → Option Value} (x : h.MapOf (intKind PW w) a f) (k : ∀ a o, h.get? a = some o → h'.get? a = some o) : h'.MapOf (intKind PW w) a f :=
  let ⟨o, es, ep, e, r⟩ := x; ⟨o, es, ep, k _ _ e, r⟩

/-- what the law's world bears, and all that grows out of it -/
structure GB (w : World) (mg mb : PySem.Str → Option Value) (h : Heap) : Prop where
  lim : h.NoLimit
  g : h.Ns mainGlobals mg
  bl : h.Ns builtinsNs mb
  boot : ∀ x : PySem.Str, x ≠ "__name__" → mb x = bootBuiltins x
  digits : h.NoDigits
  fn : ∀ i n a b sc, fnRec i = some (n, a, b, sc) → FnAt mg h n a b sc
  free : ∀ x ∈ bnames, mg x = none
  c1 : ∃ t, mg "_CASE_COST" = some (.int 1 t)
  c2 : ∃ t, mg "_MOVE_COST" = some (.int 2 t)
  c40 : ∃ t, mg "_MAX_STRING_SIZE" = some (.int 40 t)
  b1 : ∃ a n, mg "b1_set" = some (.ref a) ∧ h.SetOf (intKind PW w) a (fun k => decide (0 ≤ k ∧ k.toNat ∈ b1)) n
  b3 : ∃ d f, mg "b3_exceptions" = some (.ref d) ∧ (d == sysModules) = false ∧ h.MapOf (intKind PW w) d f ∧ ∀ i, 0 ≤ i → i < 128 → f i = none
  fl : ∃ d f, mg "COMPILER_FLAG_NAMES" = some (.ref d) ∧ (d == sysModules) = false ∧ h.MapOf (intKind PW w) d f ∧ ∀ i, 1024 ≤ i → f i = none

theorem GB.keeps {w : World} {mg mb : PySem.Str → Option Value} {h h' : Heap} (G : GB w mg mb h) (k : ∀ a o, h.get? a = some o → h'.get? a = some o) : GB w mg mb h' :=
  ⟨G.lim.keeps k, G.g.keeps k, G.bl.keeps k, G.boot, G.digits.keeps k, fun i n a b sc e => let ⟨f, o, pm, cd, doc, h1, h2, h3, h4⟩ := G.fn i n a b sc e; ⟨f, o, pm, cd, doc, h1, k _ _ h2, h3, h4.keeps k⟩, G.free, G.c1, G.c2, G.c40,
    (let ⟨a, n, e, x⟩ := G.b1; ⟨a, n, e, SetOf.keeps x k⟩), (let ⟨d, f, e, l, x, z⟩ := G.b3; ⟨d, f, e, l, MapOf.keeps x k, z⟩), (let ⟨d, f, e, l, x, z⟩ := G.fl; ⟨d, f, e, l, MapOf.keeps x k, z⟩)⟩

/-- an object's shape: of a cell, or of the base -/
def Has (b : Shared) (σ : Cells) (a : Addr) (c : Cell) : Prop := (a, c) ∈ σ ∨ c.Sat b.heap a
theorem Has.sat {b : Shared} {L : Addr} {m : Loc} {σ : Cells} {s : Shared} {a : Addr} {c : Cell} (x : Has b σ a c) (I : Inv b L m σ s) : c.Sat s.heap a :=
  x.elim (fun h => I.cells _ h) fun h => h.at fun o e => I.keep a o e

section
variable {w : World} {A : Around} {b : Shared} {env : Env} {L : Addr} {m : Loc} {σ : Cells} {Q : AV → Loc → Cells → Prop} {mg mb : PySem.Str → Option Value}

theorem HE_glob {x : PySem.Str} {pos : Pos} (v : Value) (G : GB w mg mb b.heap) (hv : mg x = some v) (h : Q (er v) m σ)
    (hk : env.scope.kind = .function := by rfl) (hx : env.kindOf x = some .globalImplicit := by rfl) (hg : env.globals = mainGlobals := by rfl) (hd : (x == ("__debug__" : PySem.Str)) = false := by decide) :
    HE w A b env (.Name x pos) m σ Q := fun s I =>
  Calls.Name_function_global hk hx (Calls.loadGlobal_global (env := env) (hg ▸ G.g.keeps I.keep) hv (PG.grow I .refl h)) hd
theorem HE_boot {x : PySem.Str} {pos : Pos} (v : Value) (G : GB w mg mb b.heap) (hm : x ∈ bnames) (hv : bootBuiltins x = some v) (h : Q (er v) m σ)
    (hn : x ≠ "__name__" := by decide)
    (hk : env.scope.kind = .function := by rfl) (hx : env.kindOf x = some .globalImplicit := by rfl) (hg : env.globals = mainGlobals := by rfl) (hb : env.builtins = builtinsNs := by rfl) (hd : (x == ("__debug__" : PySem.Str)) = false := by decide) :
    HE w A b env (.Name x pos) m σ Q := fun s I =>
  Calls.Name_function_global hk hx (Calls.loadGlobal_builtin (env := env) (hg ▸ G.g.keeps I.keep) (G.free x hm) (hb ▸ G.bl.keeps I.keep) ((G.boot x hn).trans hv) (PG.grow I .refl h)) hd

theorem HL_nil {Q : List AV → Loc → Cells → Prop} (h : Q [] m σ) : HL w A b L [] m σ Q := fun _ I => Calls.spliced_nil (PG.grow I .refl h)
theorem HL_cons {t : Sem Value} {rest} {Q : List AV → Loc → Cells → Prop} (h : HV w A b L t m σ (fun v m₁ σ₁ => HL w A b L rest m₁ σ₁ (fun vs m₂ σ₂ => Q (v :: vs) m₂ σ₂))) : HL w A b L ((false, t) :: rest) m σ Q := fun s I =>
  Calls.spliced_cons (H.seq I h fun v m₁ σ₁ s₁ h₁ I₁ X₁ => wpAny_mono (h₁ s₁ I₁) (fun vs s₂ ⟨m₂, σ₂, I₂, X₂, q⟩ => ⟨m₂, σ₂, I₂, X₁.trans X₂, q⟩) fun _ _ x => x)

/-- f(..), f a built-in -/
theorem HE_callB {x : PySem.Str} {p pos : Pos} {args : List Expr} {t : Sem Value} {rest : List (Bool × Sem Value)} (id : String) (G : GB w mg mb b.heap) (hm : x ∈ bnames) (hv : bootBuiltins x = some (.builtin id))
    (ht : backTo pos (starEach args env) = (false, t) :: rest) (hp : rest.any (·.1) = false)
    (h : HL w A b env.locals ((false, t) :: rest) m σ (fun vs m₁ σ₁ => HC w A b env.locals (.builtin id) vs m₁ σ₁ Q))
    (hn : x ≠ "__name__" := by decide)
    (hk : env.scope.kind = .function := by rfl) (hx : env.kindOf x = some .globalImplicit := by rfl) (hg : env.globals = mainGlobals := by rfl) (hb : env.builtins = builtinsNs := by rfl) (hd : (x == ("__debug__" : PySem.Str)) = false := by decide) :
    HE w A b env (.Call (.Name x p) args [] pos) m σ Q := fun s I =>
  Call_Name ht (Calls.Name_function_global hk hx (Calls.loadGlobal_builtin (env := env) (hg ▸ G.g.keeps I.keep) (G.free x hm) (hb ▸ G.bl.keeps I.keep) ((G.boot x hn).trans hv)
    (Calls.callWith_builtin (by show (false || rest.any (·.1)) = false; rw [hp]; rfl) (Calls.evalArgs_plain (H.seq I h fun vs m₁ σ₁ s₁ h₁ I₁ X₁ => wpAny_mono (h₁ vs rfl s₁ I₁) (fun _ _ p => p.after X₁) fun _ _ x => x)))) hd)
/-- T(..), T a built-in type -/
theorem HE_callT {x : PySem.Str} {p pos : Pos} {args : List Expr} {t : Sem Value} {rest : List (Bool × Sem Value)} (id : String) (G : GB w mg mb b.heap) (hm : x ∈ bnames) (hv : bootBuiltins x = some (.type id))
    (ht : backTo pos (starEach args env) = (false, t) :: rest) (hp : rest.any (·.1) = false)
    (h : HL w A b env.locals ((false, t) :: rest) m σ (fun vs m₁ σ₁ => HC w A b env.locals (.type id) vs m₁ σ₁ Q))
    (hn : x ≠ "__name__" := by decide)
    (hk : env.scope.kind = .function := by rfl) (hx : env.kindOf x = some .globalImplicit := by rfl) (hg : env.globals = mainGlobals := by rfl) (hb : env.builtins = builtinsNs := by rfl) (hd : (x == ("__debug__" : PySem.Str)) = false := by decide) :
    HE w A b env (.Call (.Name x p) args [] pos) m σ Q := fun s I =>
  Call_Name ht (Calls.Name_function_global hk hx (Calls.loadGlobal_builtin (env := env) (hg ▸ G.g.keeps I.keep) (G.free x hm) (hb ▸ G.bl.keeps I.keep) ((G.boot x hn).trans hv)
    (PyProof.Rows.callWith_type (by show (false || rest.any (·.1)) = false; rw [hp]; rfl) (Calls.evalArgs_plain (H.seq I h fun vs m₁ σ₁ s₁ h₁ I₁ X₁ => wpAny_mono (h₁ vs rfl s₁ I₁) (fun _ _ p => p.after X₁) fun _ _ x => x)))) hd)
/-- f(..), f a def of the text -/
theorem HE_callF {x : PySem.Str} {p pos : Pos} {args : List Expr} {t : Sem Value} {rest : List (Bool × Sem Value)} (i : Nat) {a : Arguments} {bd : List Stmt} {sc : Scope} (G : GB w mg mb b.heap) (hi : fnRec i = some (x, a, bd, sc))
    (ht : backTo pos (starEach args env) = (false, t) :: rest)
    (h : ∀ f, mg x = some (.ref f) → HL w A b env.locals ((false, t) :: rest) m σ (fun vs m₁ σ₁ => HC w A b env.locals (.ref f) vs m₁ σ₁ Q))
    (hk : env.scope.kind = .function := by rfl) (hx : env.kindOf x = some .globalImplicit := by rfl) (hg : env.globals = mainGlobals := by rfl) (hd : (x == ("__debug__" : PySem.Str)) = false := by decide) :
    HE w A b env (.Call (.Name x p) args [] pos) m σ Q := fun s I => by
  obtain ⟨f, o, pm, cd, doc, h1, h2, h3, h4⟩ := G.fn i _ _ _ _ hi
  refine Call_Name ht (Calls.Name_function_global hk hx (Calls.loadGlobal_global (env := env) (hg ▸ G.g.keeps I.keep) h1 ?_) hd)
  exact Calls.callWith_function (o := o) (Calls.evalArgs_plain (H.seq I (h f h1) fun vs m₁ σ₁ s₁ h₁ I₁ X₁ => ⟨⟨I₁.keep _ _ h2, h3⟩, wpAny_mono (h₁ vs rfl s₁ I₁) (fun _ _ p => p.after X₁) fun _ _ x => x⟩))

/-- what a call leaves: the state grown, its new cells -/
def Left (s : Shared) (Q : AV → Cells → Prop) (v : Value) (s' : Shared) : Prop :=
  Grown s s' ∧ ∃ σ' : Cells, (∀ p ∈ σ', p.2.Sat s'.heap p.1 ∧ s.heap.get? p.1 = none) ∧ (σ'.map (·.1)).Nodup ∧ Q (er v) σ'

/-- a def's contract -/
def Fn (w : World) (mg mb : PySem.Str → Option Value) (x : PySem.Str) (d : Nat) (vs : List AV) (Pre : Shared → Prop) (Q : AV → Cells → Prop) : Prop :=
  ∀ A s f as, Rm d A → GB w mg mb s.heap → Pre s → mg x = some (.ref f) → as.map er = vs → wpAny (model PW w) A (call (.ref f) as) (Left s Q) NoE s

theorem Inv.adopt {s s' : Shared} {σ' : Cells} (I : Inv b L m σ s) (g : Grown s s') (h : ∀ p ∈ σ', p.2.Sat s'.heap p.1 ∧ s.heap.get? p.1 = none) (nd : (σ'.map (·.1)).Nodup) :
    Inv b L m (σ' ++ σ) s' ∧ Ext L σ (σ' ++ σ) s s' := by
  have I' := I.grow g
  obtain ⟨ns, cs, nd0, nw, kp, g1, g2, g3⟩ := I'
  have hd : ∀ p ∈ σ', p.1 ∉ L :: σ.map (·.1) := fun p hp => I.dead (h p hp).2
  have nd1 := List.nodup_cons.mp nd0
  refine ⟨⟨ns, fun p hp => ?_, ?_, fun a ha => ?_, kp, g1, g2, g3⟩, ?_⟩
  · rcases List.mem_append.mp hp with q | q
    · exact (h p q).1
    · exact cs p q
  · rw [List.map_append]
    refine List.nodup_cons.mpr ⟨fun hm => ?_, List.nodup_append.mpr ⟨nd, nd1.2, fun a ha c hc e => ?_⟩⟩
    · rcases List.mem_append.mp hm with q | q
      · obtain ⟨p, hp, e⟩ := List.mem_map.mp q
        exact hd p hp (e ▸ .head _)
      · exact nd1.1 q
    · obtain ⟨p, hp, rfl⟩ := List.mem_map.mp ha
      exact hd p hp (.tail _ (e ▸ hc))
  · rw [List.map_append] at ha
    cases ha with
    | head => exact nw _ (.head _)
    | tail _ ha =>
      rcases List.mem_append.mp ha with q | q
      · obtain ⟨p, hp, rfl⟩ := List.mem_map.mp q
        cases e : b.heap.get? p.1 with
        | none => rfl
        | some o => have := I.keep _ _ e; rw [(h p hp).2] at this; cases this
      · exact nw _ (.tail _ q)
  · obtain ⟨h', tk, rfl, k⟩ := g
    refine ⟨fun a o _ e => k a o e, fun a ha => ?_, rfl, rfl, rfl⟩
    rw [List.map_append] at ha
    rcases List.mem_append.mp ha with q | q
    · obtain ⟨p, hp, rfl⟩ := List.mem_map.mp q
      exact .inr (h p hp).2
    · exact .inl (.tail _ q)

theorem HC_fn {x : PySem.Str} {f : Addr} {d : Nat} {vs : List AV} {Pre : Shared → Prop} {QF : AV → Cells → Prop} (R : Rm d A) (G : GB w mg mb b.heap) (S : Fn w mg mb x d vs Pre QF) (hf : mg x = some (.ref f))
    (hp : ∀ s, Inv b L m σ s → Pre s) (h : ∀ v σ', QF v σ' → Q v m (σ' ++ σ)) : HC w A b L (.ref f) vs m σ Q := fun as ha s I =>
  wpAny_mono (S A s f as R (G.keeps I.keep) (hp s I) hf ha) (fun v s' ⟨g, σ', c1, c2, q⟩ => have z := I.adopt g c1 c2; ⟨m, σ' ++ σ, z.1, z.2, h _ _ q⟩) fun _ _ x => x

theorem lookup_zip {ns : List PySem.Str} {y : PySem.Str} {v : AV} : ∀ {as : List Value}, (ns.zip (as.map er)).lookup y = some v → ∃ v', (ns.zip as).lookup y = some v' ∧ er v' = v := by
  induction ns with
  | nil => intro as h; cases h
  | cons n ns ih =>
    intro as h
    cases as with
    | nil => cases h
    | cons a as =>
      rw [List.map_cons, List.zip_cons_cons, List.lookup_cons] at h
      rw [List.zip_cons_cons, List.lookup_cons]
      cases q : y == n with
      | true => rw [q] at h; cases h; exact ⟨a, rfl, rfl⟩
      | false => rw [q] at h; exact ih h
theorem lookup_snoc {β : Type} {l : List (PySem.Str × β)} {y z : PySem.Str} {v : β} : (l ++ [(z, v)]).lookup y = (l.lookup y).or (if y = z then some v else none) := by
  induction l with
  | nil => by_cases h : y = z <;> simp [List.lookup, h, beq_eq_false_iff_ne.mpr]
  | cons p l ih =>
    obtain ⟨k, u⟩ := p
    rw [List.cons_append, List.lookup_cons, List.lookup_cons]
    cases q : y == k with
    | true => rfl
    | false => exact ih
theorem lookup_none_of {β : Type} {l : List (PySem.Str × β)} {y : PySem.Str} (h : y ∉ l.map (·.1)) : l.lookup y = none := by
  induction l with
  | nil => rfl
  | cons p l ih =>
    obtain ⟨k, u⟩ := p
    have hk : y ≠ k := fun q => h (by rw [q]; exact List.mem_cons_self)
    rw [List.lookup_cons, beq_eq_false_iff_ne.mpr hk]
    exact ih fun q => h (.tail _ q)
theorem lookup_rev {β : Type} {y : PySem.Str} : ∀ {l : List (PySem.Str × β)}, (l.map (·.1)).Nodup → l.reverse.lookup y = l.lookup y := by
  intro l
  induction l with
  | nil => intro _; rfl
  | cons p l ih =>
    intro h
    obtain ⟨k, u⟩ := p
    have h2 := List.nodup_cons.mp h
    rw [List.reverse_cons, lookup_snoc, ih h2.2, List.lookup_cons]
    by_cases q : y = k
    · subst q
      rw [lookup_none_of h2.1]; simp
    · rw [if_neg q, beq_eq_false_iff_ne.mpr q, Option.or_none]
theorem zip_fst {β : Type} : ∀ {ns : List PySem.Str} {as : List β}, ((ns.zip as).map (·.1)).Sublist ns := by
  intro ns
  induction ns with
  | nil => intro as; exact .slnil
  | cons n ns ih => intro as; cases as with
    | nil => exact List.nil_sublist _
    | cons a as => exact ih.cons_cons n

/-- a contract out of its body -/
theorem Fn_of_body {x : PySem.Str} {d : Nat} {vs : List AV} {Pre : Shared → Prop} {QF : AV → Cells → Prop} (i : Nat) {a : Arguments} {bd : List Stmt} {sc : Scope} (hi : fnRec i = some (x, a, bd, sc))
    (hb : ∀ pm cd doc as, as.map er = vs → bindArgs (docDef x a bd sc pm cd doc) ⟨as, []⟩ = pure ((a.args.map (·.arg)).zip as))
    (h : ∀ A s L f cd, Rm d A → GB w mg mb s.heap → Pre s → HB w A s (envOf x sc L f cd) bd ((a.args.map (·.arg)).zip vs) [] (fun fl m' σ' => ∃ v, fl = .ret v ∧ ∃ σ'', σ''.Sublist σ' ∧ QF v σ''))
    (hco : sc.isCoroutine = false := by rfl) (hgen : sc.isGenerator = false := by rfl) (hk : sc.kind = .function := by rfl)
    (hcell : ∀ x ∈ sc.names, x.2 ≠ .cell := by decide) (hloc : ((a.args.map (·.arg)).all fun y => decide (sc.names.lookup y = some .local)) = true := by decide) (hnd : (a.args.map (·.arg)).Nodup := by decide) : Fn w mg mb x (d + 1) vs Pre QF := fun A s f as R G hp hf ha => by
  obtain ⟨f', o, pm, cd, doc, h1, h2, h3, h4⟩ := G.fn i _ _ _ _ hi
  obtain rfl : f' = f := by rw [h1] at hf; cases hf; rfl
  have b1 := hb pm cd doc as ha
  have b2 : ∀ y ∈ (a.args.map (·.arg)).zip as, sc.names.lookup y.1 = some .local := fun y hy =>
    of_decide_eq_true (List.all_eq_true.mp hloc y.1 (zip_fst.subset (List.mem_map_of_mem hy)))
  refine wpAny_call (call_plain_ret R.lim h2 h3 G.lim h4 b1 b2 (fun h₁ F => ?_) hco hgen hk hcell)
  have I : Inv s s.heap.objs.size ((a.args.map (·.arg)).zip vs) [] { s with heap := h₁, toks := s.toks + ((a.args.map (·.arg)).zip as).length } :=
    ⟨⟨_, F.ns, fun y v e => by
      rw [lookup_rev (hnd.sublist zip_fst)]
      exact lookup_zip (ha ▸ e)⟩, fun p hp => (nomatch hp), by simp, fun a ha => by
      obtain rfl : a = s.heap.objs.size := by simpa using ha
      cases q : s.heap.get? s.heap.objs.size with
      | none => rfl
      | some o => exact absurd (Heap.lt_size q) (Nat.lt_irrefl _), F.keep, rfl, rfl, rfl⟩
  refine wpAny_mono (h _ s s.heap.objs.size f' cd (R.deeper _) G hp _ I) (fun fl s' hl => ?_) fun _ _ x => x
  obtain ⟨m', σ', I', X', v, hv, σ'', hs, q⟩ := hl
  have I'' := I'.drop hs
  cases fl with
  | ret u =>
    have hu : er u = v := by injection hv
    refine ⟨⟨s'.heap, s'.toks, ?_, I'.keep⟩, σ'', fun p hp => ⟨I''.cells p hp, I''.new _ (.tail _ (List.mem_map_of_mem hp))⟩, (List.nodup_cons.mp I''.nd).2, hu ▸ q⟩
    obtain ⟨hh, gg, dd, tt, oo⟩ := s'
    have e1 : gg = s.gens := I'.gens
    have e2 : dd = s.drawn := I'.drawn
    have e3 : oo = s.os := I'.os
    subst e1 e2 e3
    rfl
  | next => cases hv
  | brk => cases hv
  | cont => cases hv
end
end Mine
end
section
open PySem PySem.W PyProof.Rows PySem.Calls PySem.Spec
namespace Mine
section
variable {w : World} {A : Around} {b : Shared} {env : Env} {L : Addr} {m : Loc} {σ : Cells} {Q : AV → Loc → Cells → Prop} {mg mb : PySem.Str → Option Value}

/-- o.name(..), a method of a built-in type -/
theorem HE_meth {o : Expr} {name : PySem.Str} {apos pos : Pos} {args : List Expr} (T id : String) {t : Sem Value} {rest : List (Bool × Sem Value)} (pa : PlainAttrs T) (slot : Slot T name id) (hty : typeOf (.builtin id) = pure (.type "method_descriptor"))
    (ht : backTo pos (starEach args env) = (false, t) :: rest) (hp : rest.any (·.1) = false)
    (h : HE w A b env o m σ (fun x m₁ σ₁ => (∀ v s, er v = x → Inv b env.locals m₁ σ₁ s → s.TypeIs v T ∧ ∀ a, v = .ref a → ∃ ob, s.heap.get? a = some ob ∧ ob.dict = none) ∧
      HL w A b env.locals ((false, t) :: rest) m₁ σ₁ (fun vs m₂ σ₂ => HC w A b env.locals (.builtin id) (x :: vs) m₂ σ₂ Q)))
    (hbase : attributeBase o name env (eval o env) = eval o env := by rfl)
    (hfew : ((backTo pos (starEach args env)).all (fun x => !x.1) && (backToKw pos (keywordEach [] env)).all (fun x => x.1.isSome)
      && decide (args.length + ([] : List Keyword).length + (if ([] : List Keyword).isEmpty then 0 else 1) < 30)) = true := by rfl)
    (hline : (apos.endLine == pos.line) = true := by rfl) :
    HE w A b env (.Call (.Attribute o name apos) args [] pos) m σ Q := fun s I => by
  refine wpAny_Call_method hbase hfew hline pa slot hty (H.seq I h fun v m₁ σ₁ s₁ h₁ I₁ X₁ => ?_)
  obtain ⟨hT, h₁⟩ := h₁
  have z := hT v s₁ rfl I₁
  refine ⟨z.1, z.2, ?_⟩
  rw [ht]
  refine Calls.callWith_builtin (by show (false || rest.any (·.1)) = false; rw [hp]; rfl) ?_
  exact Calls.evalArgs_plain (H.seq I₁ h₁ fun vs m₂ σ₂ s₂ h₂ I₂ X₂ => wpAny_mono (h₂ (v :: vs) rfl s₂ I₂) (fun _ _ p => (p.after X₂).after X₁) fun _ _ x => x)
/-- o.name() -/
theorem HE_meth0 {o : Expr} {name : PySem.Str} {apos pos : Pos} (T id : String) (pa : PlainAttrs T) (slot : Slot T name id) (hty : typeOf (.builtin id) = pure (.type "method_descriptor"))
    (h : HE w A b env o m σ (fun x m₁ σ₁ => (∀ v s, er v = x → Inv b env.locals m₁ σ₁ s → s.TypeIs v T ∧ ∀ a, v = .ref a → ∃ ob, s.heap.get? a = some ob ∧ ob.dict = none) ∧
      HC w A b env.locals (.builtin id) [x] m₁ σ₁ Q))
    (hbase : attributeBase o name env (eval o env) = eval o env := by rfl)
    (hline : (apos.endLine == pos.line) = true := by rfl) :
    HE w A b env (.Call (.Attribute o name apos) [] [] pos) m σ Q := fun s I => by
  refine wpAny_Call_method hbase rfl hline pa slot hty (H.seq I h fun v m₁ σ₁ s₁ h₁ I₁ X₁ => ?_)
  obtain ⟨hT, h₁⟩ := h₁
  have z := hT v s₁ rfl I₁
  refine ⟨z.1, z.2, ?_⟩
  refine Calls.callWith_builtin rfl ?_
  exact PyProof.Rows.evalArgs_nil3 (wpAny_mono (h₁ [v] rfl s₁ I₁) (fun _ _ p => p.after X₁) fun _ _ x => x)

theorem ty_str {x : List Nat} {v : Value} {s : Shared} (e : er v = .str x) : s.TypeIs v "str" ∧ ∀ a, v = .ref a → ∃ ob, s.heap.get? a = some ob ∧ ob.dict = none := by
  obtain ⟨t, rfl⟩ := er_str e
  exact ⟨typeIs_str s _ t, fun a h => by cases h⟩

theorem map_one {as : List Value} {x : AV} (h : as.map er = [x]) : ∃ v, as = [v] ∧ er v = x := by
  match as, h with
  | [v], h => exact ⟨v, rfl, by simpa using h⟩
theorem map_two {as : List Value} {x y : AV} (h : as.map er = [x, y]) : ∃ v u, as = [v, u] ∧ er v = x ∧ er u = y := by
  obtain ⟨v, as, rfl, e1, h⟩ := List.map_eq_cons_iff.mp h
  obtain ⟨u, as, rfl, e2, h⟩ := List.map_eq_cons_iff.mp h
  obtain rfl := List.map_eq_nil_iff.mp h
  exact ⟨v, u, rfl, e1, e2⟩
theorem map_three {as : List Value} {x y z : AV} (h : as.map er = [x, y, z]) : ∃ v u r, as = [v, u, r] ∧ er v = x ∧ er u = y ∧ er r = z := by
  obtain ⟨v, as, rfl, e1, h⟩ := List.map_eq_cons_iff.mp h
  obtain ⟨u, as, rfl, e2, h⟩ := List.map_eq_cons_iff.mp h
  obtain ⟨r, as, rfl, e3, h⟩ := List.map_eq_cons_iff.mp h
  obtain rfl := List.map_eq_nil_iff.mp h
  exact ⟨v, u, r, rfl, e1, e2, e3⟩

theorem HC_lower {x : List Nat} (hs : Builtin.Str.tooLong (Txt.lower (mk x)).length = false) (h : Q (.str (Txt.lower (mk x)).cps.toList) m σ) : HC w A b L (.builtin "str.lower") [.str x] m σ Q := fun as ha s I => by
  obtain ⟨v, rfl, e⟩ := map_one ha
  obtain ⟨t, rfl⟩ := er_str e
  exact SC.lower hs (PG.grow I .tok h)

def OkC (c : Nat) : Prop := c < 128 ∨ c ∈ b1
def low (c : Nat) : Nat := if 65 ≤ c ∧ c ≤ 90 then c + 32 else c
set_option maxRecDepth 100000 in
theorem lower_small : ∀ c < 128, (Txt.lower ⟨#[c]⟩).cps.toList = [low c] := by decide +kernel
set_option maxRecDepth 100000 in
theorem lower_b1 : ∀ c ∈ b1, (Txt.lower ⟨#[c]⟩).cps.toList = [low c] := by decide +kernel
theorem lower_ok {c : Nat} (h : OkC c) : (Txt.lower (mk [c])).cps.toList = [low c] := h.elim (lower_small c) (lower_b1 c)
theorem tooLong_ok {c : Nat} (h : OkC c) : Builtin.Str.tooLong (Txt.lower (mk [c])).length = false := by
  have e := lower_ok h
  have : (Txt.lower (mk [c])).length = 1 := by rw [str_len, e]; rfl
  rw [this]; rfl

def subC (c d : Nat) : Nat := if c = d then 0 else if low c = low d then 1 else 2

abbrev I_sub : Nat := 16
theorem fn_sub (w : World) {mg mb : PySem.Str → Option Value} {c d : Nat} (hc : OkC c) (hd : OkC d) : Fn w mg mb "_substitution_cost" 1 [.str [c], .str [d]] (fun _ => True) (fun v σ => v = .int (subC c d) ∧ σ = []) := by
  refine Fn_of_body 16 (by rfl) ?_ ?_
  · intro pm cd doc as ha
    obtain ⟨v, u, rfl, e1, e2⟩ := map_two ha
    rfl
  · intro A s L f cd R G _
    refine HB_cons (HS_if (HT_cmp (HE_cmp (HE_name _ (by rfl) (HE_name _ (by rfl) (HCmp_seq ⟨_, rfl, ?_⟩))))))
    split
    · refine HB_cons (HS_return (HE_int ?_))
      rename_i hq
      have hq' : c = d := by simpa using hq
      refine ⟨_, rfl, [], .refl _, ?_, rfl⟩
      rw [subC, if_pos hq']; rfl
    · rename_i hq
      have hq' : ¬ c = d := by simpa using hq
      refine HB_nil ?_
      refine HB_cons (HS_if (HT_cmp (HE_cmp (HE_meth0 "str" "str.lower" PySem.F.plainAttrs_str PySem.F.slot_str_lower PySem.F.type_str_lower (HE_name _ (by rfl) ⟨fun v s e _ => ty_str e, HC_lower (tooLong_ok hc) ?_⟩)))))
      refine HE_meth0 "str" "str.lower" PySem.F.plainAttrs_str PySem.F.slot_str_lower PySem.F.type_str_lower (HE_name _ (by rfl) ⟨fun v s e _ => ty_str e, HC_lower (tooLong_ok hd) ?_⟩)
      refine HCmp_seq ⟨_, rfl, ?_⟩
      rw [lower_ok hc, lower_ok hd]
      split
      · rename_i hl
        have hl' : low c = low d := by simpa using hl
        obtain ⟨t, ht⟩ := G.c1
        refine HB_cons (HS_return (HE_glob _ G ht ?_))
        refine ⟨_, rfl, [], .refl _, ?_, rfl⟩
        rw [subC, if_neg hq', if_pos hl']; rfl
      · rename_i hl
        have hl' : ¬ low c = low d := by simpa using hl
        obtain ⟨t, ht⟩ := G.c2
        refine HB_nil (HB_cons (HS_return (HE_glob _ G ht ?_)))
        refine ⟨_, rfl, [], .refl _, ?_, rfl⟩
        rw [subC, if_neg hq', if_neg hl']; rfl
end
end Mine
end
section
open PySem PySem.W PyProof.Rows PySem.Calls PySem.Spec
namespace Mine
section
variable {w : World} {A : Around} {b : Shared} {env : Env} {L : Addr} {m : Loc} {σ : Cells} {Q : AV → Loc → Cells → Prop} {mg mb : PySem.Str → Option Value}

theorem HC_ord {c : Nat} (h : Q (.int c) m σ) : HC w A b L (.builtin "ord") [.str [c]] m σ Q := fun as ha s I => by
  obtain ⟨v, rfl, e⟩ := map_one ha
  obtain ⟨t, rfl⟩ := er_str e
  exact P.ord_of_char (PG.grow I .tok h)
theorem HC_chr {i : Int} (h0 : 0 ≤ i) (h1 : i ≤ 1114111) (h : Q (.str [i.toNat]) m σ) : HC w A b L (.builtin "chr") [.int i] m σ Q := fun as ha s I => by
  obtain ⟨v, rfl, e⟩ := map_one ha
  obtain ⟨t, rfl⟩ := er_int e
  exact chr_of_range h0 h1 (PG.grow I .tok h)
theorem HC_lenS {x : List Nat} (hx : x.length ≤ sizeLine) (h : Q (.int x.length) m σ) : HC w A b L (.builtin "len") [.str x] m σ Q := fun as ha s I => by
  obtain ⟨v, rfl, e⟩ := map_one ha
  obtain ⟨t, rfl⟩ := er_str e
  refine SBL.len ?_ (PG.grow I .tok ?_)
  · rw [str_len]; rw [sizeLine_eq] at hx; simp; omega
  · simpa [er, str_len] using h
theorem HC_lenL {a : Addr} {vs : List AV} (hl : Has b σ a (.list vs)) (hx : vs.length ≤ sizeLine) (h : Q (.int vs.length) m σ) : HC w A b L (.builtin "len") [.ref a] m σ Q := fun as ha s I => by
  obtain ⟨v, rfl, e⟩ := map_one ha
  obtain rfl := er_ref e
  obtain ⟨xs, p, q⟩ := hl.sat I
  have hs : xs.size = vs.length := by rw [← q]; simp
  refine Calls.call_len_list p.isList ?_ (PG.grow I .tok ?_)
  · rw [hs]; rw [sizeLine_eq] at hx; omega
  · show Q (.int (xs.size : Int)) m σ
    rw [hs]; exact h
theorem HTr_str {x : List Nat} {Q : Bool → Loc → Cells → Prop} (hx : x.length ≤ sizeLine) (h : Q (!x.isEmpty) m σ) : HTr w A b L (.str x) m σ Q := fun v e s I => by
  obtain ⟨t, rfl⟩ := er_str e
  refine SBL.truthy ?_ (PG.grow I .tok ?_)
  · rw [str_len]; rw [sizeLine_eq] at hx; simp; omega
  · show Q (((mk x).length : Int) != 0) m σ
    rw [str_len]
    have : (((mk x).cps.toList.length : Int) != 0) = !x.isEmpty := by
      simp only [mk]
      cases x <;> simp <;> omega
    rw [this]; exact h

theorem HCmp_inB1 {i : Int} (G : GB w mg mb b.heap) {a : Addr} (ha : mg "b1_set" = some (.ref a)) (h : Q (.bool (decide (0 ≤ i ∧ i.toNat ∈ b1))) m σ) : HCmp w A b L .In (.int i) (.ref a) m σ Q := fun v u e1 e2 s I => by
  obtain ⟨t, rfl⟩ := er_int e1
  obtain rfl := er_ref e2
  obtain ⟨a', n, e, S⟩ := (G.keeps I.keep).b1
  rw [ha] at e; cases e
  exact wpAny_inSet_of (intKind_is PW w i t) rfl S (PG.grow I .tok h)

theorem HC_dget1 {d : Addr} {f : Int → Option Value} {i : Int} (hd : (d == sysModules) = false) (hm : b.heap.MapOf (intKind PW w) d f) (hf : f i = none) (h : Q .none m σ) : HC w A b L (.builtin "dict.get") [.ref d, .int i] m σ Q := fun as ha s I => by
  obtain ⟨v, u, rfl, e1, e2⟩ := map_two ha
  obtain rfl := er_ref e1
  obtain ⟨t, rfl⟩ := er_int e2
  have hm' := MapOf.keeps hm I.keep
  refine call_meetsIn PySem.F.slot_dict_get hm'.typeIs PySem.F.entry_dict_get (PySem.F.args_dict_get_2 _ _) (meets_dict_get (intKind PW w) d (intKind_is PW w i t) hd) ⟨_, hm', PG.grow I .tok ?_⟩
  rw [hf]; exact h
theorem HC_dget2 {d : Addr} {f : Int → Option Value} {i : Int} {x : AV} (hd : (d == sysModules) = false) (hm : b.heap.MapOf (intKind PW w) d f) (hf : f i = none) (h : Q x m σ) : HC w A b L (.builtin "dict.get") [.ref d, .int i, x] m σ Q := fun as ha s I => by
  obtain ⟨v, u, r, rfl, e1, e2, rfl⟩ := map_three ha
  obtain rfl := er_ref e1
  obtain ⟨t, rfl⟩ := er_int e2
  have hm' := MapOf.keeps hm I.keep
  refine call_meetsIn PySem.F.slot_dict_get hm'.typeIs PySem.F.entry_dict_get (PySem.F.args_dict_get_3 _ _ _) (meets_dict_get_default (intKind PW w) d (intKind_is PW w i t) hd r) ⟨_, hm', PG.grow I .tok ?_⟩
  rw [hf]; exact h
theorem ty_dict {d : Addr} {f : Int → Option Value} {v : Value} {s : Shared} (hm : b.heap.MapOf (intKind PW w) d f) (I : Inv b L m σ s) (e : er v = .ref d) : s.TypeIs v "dict" ∧ ∀ a, v = .ref a → ∃ ob, s.heap.get? a = some ob ∧ ob.dict = none := by
  obtain rfl := er_ref e
  have hm' := MapOf.keeps hm I.keep
  exact ⟨hm'.typeIs, hm'.noDict⟩
theorem ty_list {a : Addr} {vs : List AV} {v : Value} {s : Shared} (hl : Has b σ a (.list vs)) (I : Inv b L m σ s) (e : er v = .ref a) : s.TypeIs v "list" ∧ ∀ a, v = .ref a → ∃ ob, s.heap.get? a = some ob ∧ ob.dict = none := by
  obtain rfl := er_ref e
  obtain ⟨xs, ⟨n, p⟩, q⟩ := hl.sat I
  exact ⟨⟨_, p, rfl⟩, fun a h => by cases h; exact ⟨_, p, rfl⟩⟩
end
end Mine
end
section
open PySem PySem.W PyProof.Rows PySem.Calls PySem.Spec
namespace Mine

/-- cells may be forgotten -/
def Dr {β : Type} (Q : β → Loc → Cells → Prop) : β → Loc → Cells → Prop := fun v m σ => ∃ σ' : Cells, σ'.Sublist σ ∧ Q v m σ'

theorem Ext.drop {L : Addr} {σ σ' σ'' : Cells} {s s' : Shared} (x : Ext L σ σ' s s') (h : σ''.Sublist σ') : Ext L σ σ'' s s' :=
  ⟨x.kept, fun a ha => x.fresh a ((h.map _).subset ha), x.gens, x.drawn, x.os⟩
theorem H.dr {α β : Type} {w : World} {A : Around} {b : Shared} {L : Addr} {m : Loc} {σ : Cells} {f : α → β} {t : Sem α} {Q : β → Loc → Cells → Prop} (h : H w A b L f t m σ (Dr Q)) : H w A b L f t m σ Q := fun s I =>
  wpAny_mono (h s I) (fun a s' ⟨m', σ', I', X', σ'', hs, q⟩ => ⟨m', σ'', I'.drop hs, X'.drop hs, q⟩) fun _ _ x => x

/-- an iterator that is a cell of its own: n items, the i-th xs i -/
structure Itr (w : World) (A : Around) (b : Shared) (L : Addr) (n : Nat) (xs : Nat → AV) (c : Nat → Cell) (J : Nat → Loc → Cells → Prop) : Prop where
  next : ∀ I i m σ s, J i m σ → i < n → Inv b L m ((I, c i) :: σ) s → wpAny (model PW w) A (pyNext (.ref I)) (fun r s' => ∃ v, r = some v ∧ er v = xs i ∧
    Inv b L m ((I, c (i + 1)) :: σ) s' ∧ Ext L ((I, c i) :: σ) ((I, c (i + 1)) :: σ) s s' ∧ ∀ tg, letOwnedTupleGo tg (.ref I) v = pure () ∨ ∀ Q E, Q () s' → wpAny (model PW w) A (letOwnedTupleGo tg (.ref I) v) Q E s') NoE s
  stop : ∀ I m σ s, J n m σ → Inv b L m ((I, c n) :: σ) s → wpAny (model PW w) A (pyNext (.ref I)) (fun r s' => r = none ∧ Inv b L m σ s' ∧ Ext L ((I, c n) :: σ) σ s s') NoE s

section
variable {w : World} {A : Around} {b : Shared} {env : Env} {m : Loc} {σ : Cells} {Q : FL → Loc → Cells → Prop} {mg mb : PySem.Str → Option Value}

/-- what pyIter makes -/
def Starts (w : World) (A : Around) (b : Shared) (L : Addr) (c : Cell) (v : AV) (m : Loc) (σ : Cells) : Prop :=
  ∀ u, er u = v → ∀ s, Inv b L m σ s → wpAny (model PW w) A (pyIter u) (fun it s' => ∃ I, it = .ref I ∧ s.heap.get? I = none ∧ Grown s s' ∧ c.Sat s'.heap I) NoE s

theorem HS_forX {tg iter : Expr} {body orelse : List Stmt} {pos : Pos}
    (h : HE w A b env iter m σ (fun v m₁ σ₁ => ∃ (n : Nat) (xs : Nat → AV) (c : Nat → Cell) (J : Nat → Loc → Cells → Prop), Itr w A b env.locals n xs c J ∧
      (Starts w A b env.locals (c 0) v m₁ σ₁ ∧ ∃ σ₂ : Cells, σ₂.Sublist σ₁ ∧ J 0 m₁ σ₂) ∧
      (∀ I i m σ, J i m σ → i < n → ∀ v, er v = xs i → H w A b env.locals id (assign tg env v) m ((I, c (i + 1)) :: σ) (fun _ m₁ σ₁ => HB w A b env body m₁ σ₁ (fun fl m' σ' => ∃ σ'' : Cells, ((I, c (i + 1)) :: σ'').Sublist σ' ∧
        (match fl with | .next => J (i + 1) m' σ'' | .cont => J (i + 1) m' σ'' | .brk => Q .next m' σ'' | .ret v => Q (.ret v) m' σ'')))) ∧
      (∀ m σ, J n m σ → HB w A b env orelse m σ Q)))
    (hs : ∀ x, foldedSetIterable iter env x = pure x := by intro _; rfl) : HS w A b env (.For tg iter body orelse pos) m σ Q := fun s I => by
  refine wpAny_For (H.seq I h fun v m₁ σ₁ s₁ h₁ I₁ X₁ => ?_) hs
  obtain ⟨n, xs, c, J, W, ⟨hst, σ₂, hsb, hJ⟩, turn, fin⟩ := h₁
  refine wpAny_mono (hst v rfl s₁ I₁) (fun it s₂ h₂ => ?_) fun _ _ x => x.elim
  obtain ⟨It, rfl, hnew, g, hc⟩ := h₂
  have I₂ := (I₁.drop hsb).alloc (c := c 0) g hnew hc
  have X₂ : Ext env.locals σ₁ ((It, c 0) :: σ₂) s₁ s₂ := Ext.drop (Ext.alloc g hnew) (hsb.cons_cons _)
  refine codeAny_forLoop_any (fun k s' => ∃ i m' σ', k = n + 1 - i ∧ i ≤ n ∧ J i m' σ' ∧ Inv b env.locals m' ((It, c i) :: σ') s' ∧ Ext env.locals σ ((It, c i) :: σ') s s') ?_ (n + 1)
    ⟨0, m₁, σ₂, rfl, Nat.zero_le _, hJ, I₂, X₁.trans X₂⟩
  rintro k s' ⟨i, m', σ', rfl, hi, hJ', I', X'⟩
  have noE : ∀ {α : Type} {t : Sem α} {R : α → Shared → Prop} {E : Value → Shared → Prop} {s : Shared}, wpAny (model PW w) A t R NoE s → wpAny (model PW w) A t R E s := fun x => wpAny_mono x (fun _ _ y => y) fun _ _ y => y.elim
  by_cases hlt : i < n
  · refine noE (wpAny_mono (W.next It i m' σ' s' hJ' hlt I') (fun r s₃ h₃ => ?_) fun _ _ x => x)
    obtain ⟨u, rfl, hu, I₃, X₃, hown⟩ := h₃
    have rest : wpAny (model PW w) A (assign tg env u) (fun _ s₂ => wpAny (model PW w) A (execs body env) (fun f s₃ => match f with
            | .next | .cont => ∃ m, m < n + 1 - i ∧ (∃ i m' σ', m = n + 1 - i ∧ i ≤ n ∧ J i m' σ' ∧ Inv b env.locals m' ((It, c i) :: σ') s₃ ∧ Ext env.locals σ ((It, c i) :: σ') s s₃)
            | .brk => PG b env.locals σ s erF Q .next s₃
            | .ret v => PG b env.locals σ s erF Q (.ret v) s₃) NoE s₂) NoE s₃ := by
      refine H.seq I₃ (turn It i m' σ' hJ' hlt u hu) fun _ m₄ σ₄ s₄ h₄ I₄ X₄ => H.seq I₄ h₄ fun fl m₅ σ₅ s₅ h₅ I₅ X₅ => ?_
      obtain ⟨σ₆, hsub, h₅⟩ := h₅
      have I₆ := I₅.drop hsub
      have X₆ := ((X'.trans X₃).trans X₄).trans (X₅.drop hsub)
      have hdrop : σ₆.Sublist ((It, c (i + 1)) :: σ₆) := List.sublist_cons_self _ _
      cases fl with
      | next => exact ⟨n + 1 - (i + 1), by omega, i + 1, m₅, σ₆, rfl, hlt, h₅, I₆, X₆⟩
      | cont => exact ⟨n + 1 - (i + 1), by omega, i + 1, m₅, σ₆, rfl, hlt, h₅, I₆, X₆⟩
      | brk => exact ⟨m₅, σ₆, I₆.drop hdrop, X₆.drop hdrop, h₅⟩
      | ret v => exact ⟨m₅, σ₆, I₆.drop hdrop, X₆.drop hdrop, h₅⟩
    have rest' := wpAny_mono (E' := notedBy (model PW w) A env fun e s' => cameBackBy (model PW w) A env NoE e s') rest (fun _ s₂ x => wpAny_mono (E' := notedBy (model PW w) A env fun e s' => cameBackBy (model PW w) A env NoE e s') x (fun _ _ y => y) fun _ _ y => y.elim) fun _ _ y => y.elim
    have key : ∀ (t : Sem Unit), (t = pure () ∨ ∀ Q E, Q () s₃ → wpAny (model PW w) A t Q E s₃) → wpAny (model PW w) A t (fun _ s₁' => wpAny (model PW w) A (assign tg env u) (fun _ s₂ => wpAny (model PW w) A (execs body env) (fun f s₃ => match f with
            | .next | .cont => ∃ m, m < n + 1 - i ∧ (∃ i m' σ', m = n + 1 - i ∧ i ≤ n ∧ J i m' σ' ∧ Inv b env.locals m' ((It, c i) :: σ') s₃ ∧ Ext env.locals σ ((It, c i) :: σ') s s₃)
            | .brk => PG b env.locals σ s erF Q .next s₃
            | .ret v => PG b env.locals σ s erF Q (.ret v) s₃) (notedBy (model PW w) A env fun e s' => cameBackBy (model PW w) A env NoE e s') s₂) (notedBy (model PW w) A env fun e s' => cameBackBy (model PW w) A env NoE e s') s₁') (notedBy (model PW w) A env fun e s' => cameBackBy (model PW w) A env NoE e s') s₃ := by
      rintro t (rfl | ht)
      · exact wpAny_pure rest'
      · exact ht _ _ rest'
    refine wpAny_mono (key _ (hown tg)) (fun _ s₁' x => wpAny_mono x (fun _ s₂' y => wpAny_mono y (fun f s₃' z => ?_) fun _ _ e => e) fun _ _ e => e) fun _ _ e => e
    cases f <;> exact z
  · obtain rfl : i = n := by omega
    refine noE (wpAny_mono (W.stop It m' σ' s' hJ' I') (fun r s₃ h₃ => ?_) fun _ _ x => x)
    obtain ⟨rfl, I₃, X₃⟩ := h₃
    refine noE (H.seq I₃ (fin m' σ' hJ') fun fl m₄ σ₄ s₄ h₄ I₄ X₄ => ⟨m₄, σ₄, I₄, (X'.trans X₃).trans X₄, h₄⟩)


theorem HS_for {tg iter : Expr} {body orelse : List Stmt} {pos : Pos} (n : Nat) (xs : Nat → AV) (c : Nat → Cell) (J : Nat → Loc → Cells → Prop) (W : Itr w A b env.locals n xs c J)
    (h : HE w A b env iter m σ (fun v m₁ σ₁ => Starts w A b env.locals (c 0) v m₁ σ₁ ∧ ∃ σ₂ : Cells, σ₂.Sublist σ₁ ∧ J 0 m₁ σ₂))
    (turn : ∀ I i m σ, J i m σ → i < n → ∀ v, er v = xs i → H w A b env.locals id (assign tg env v) m ((I, c (i + 1)) :: σ) (fun _ m₁ σ₁ => HB w A b env body m₁ σ₁ (fun fl m' σ' => ∃ σ'' : Cells, ((I, c (i + 1)) :: σ'').Sublist σ' ∧
      (match fl with | .next => J (i + 1) m' σ'' | .cont => J (i + 1) m' σ'' | .brk => Q .next m' σ'' | .ret v => Q (.ret v) m' σ''))))
    (fin : ∀ m σ, J n m σ → HB w A b env orelse m σ Q)
    (hs : ∀ x, foldedSetIterable iter env x = pure x := by intro _; rfl) : HS w A b env (.For tg iter body orelse pos) m σ Q :=
  HS_forX (h.mono fun v m₁ σ₁ p => ⟨n, xs, c, J, W, p, turn, fin⟩) hs

theorem H_assign {x : PySem.Str} {pos : Pos} {v : Value} {QU : Unit → Loc → Cells → Prop} (h : QU () (put x (er v) m) σ) (hl : env.kindOf x = some .local := by rfl)
    (hp : (env.scope.kind == .class || (env.scope.kind == .module && env.locals != env.globals)) = false := by rfl) : H w A b env.locals id (assign (.Name x pos) env v) m σ QU := fun s I =>
  wpAny_assign_Name (H_store h hl hp s I)
end
end Mine
end
section
open PySem PySem.W PyProof.Rows PySem.Calls PySem.Spec
namespace Mine
section
variable {w : World} {A : Around} {b : Shared} {env : Env} {L : Addr} {m : Loc} {σ : Cells} {Q : AV → Loc → Cells → Prop} {mg mb : PySem.Str → Option Value}

/-! ranges -/
theorem new_of (s : Shared) : s.heap.get? s.heap.objs.size = none := by
  cases q : s.heap.get? s.heap.objs.size with
  | none => rfl
  | some o => exact absurd (Heap.lt_size q) (Nat.lt_irrefl _)
theorem PG.new {α β : Type} {f : α → β} {Q : β → Loc → Cells → Prop} {s s' : Shared} {a : Addr} {c : Cell} {v : α} (I : Inv b L m σ s) (g : Grown s s') (h : s.heap.get? a = none) (x : c.Sat s'.heap a) (q : Q (f v) m ((a, c) :: σ)) : PG b L σ s f Q v s' :=
  ⟨m, _, I.alloc g h x, .alloc g h, q⟩
theorem HC_range1 {n : Int} (h : ∀ r, Q (.ref r) m ((r, .range 0 n 1) :: σ)) : HC w A b L (.type "range") [.int n] m σ Q := fun as ha s I => by
  obtain ⟨v, rfl, e⟩ := map_one ha
  obtain ⟨t, rfl⟩ := er_int e
  exact call_range_1 (PG.new (c := .range 0 n 1) I ⟨_, _, rfl, fun _ _ e => Heap.get?_push_of_some _ e⟩ (new_of s) ⟨_, _, _, Heap.get?_push_size _ rfl⟩ (h _))
theorem HC_range2 {a c : Int} (h : ∀ r, Q (.ref r) m ((r, .range a c 1) :: σ)) : HC w A b L (.type "range") [.int a, .int c] m σ Q := fun as ha s I => by
  obtain ⟨v, u, rfl, e1, e2⟩ := map_two ha
  obtain ⟨t, rfl⟩ := er_int e1
  obtain ⟨t, rfl⟩ := er_int e2
  exact call_range_2 (PG.new (c := .range a c 1) I ⟨_, _, rfl, fun _ _ e => Heap.get?_push_of_some _ e⟩ (new_of s) ⟨_, _, _, Heap.get?_push_size _ rfl⟩ (h _))
theorem HC_range3 {a c k : Int} (hk : k ≠ 0) (hp : Builtin.divisionGoesByPylong (c - a) k = false) (h : ∀ r, Q (.ref r) m ((r, .range a c k) :: σ)) : HC w A b L (.type "range") [.int a, .int c, .int k] m σ Q := fun as ha s I => by
  obtain ⟨v, u, x, rfl, e1, e2, e3⟩ := map_three ha
  obtain ⟨t, rfl⟩ := er_int e1
  obtain ⟨t, rfl⟩ := er_int e2
  obtain ⟨t, rfl⟩ := er_int e3
  exact call_range_3 hk (PG.new (c := .range a c k) I ⟨_, s.toks, rfl, fun _ _ e => Heap.get?_push_of_some _ e⟩ (new_of s) ⟨_, _, _, Heap.get?_push_size _ rfl⟩ (h _)) (.inl hp)

theorem starts_range {r : Addr} {a c k : Int} {n : Nat} (hr : Has b σ r (.range a c k)) (hs : Builtin.Range.small a c k = true) (hn : Builtin.Range.rangeSize a c k = n) : Starts w A b L (.riter (a + (0 : Nat) * k) (n - (0 : Nat)) k) (.ref r) m σ := fun u hu s I => by
  obtain rfl := er_ref hu
  obtain ⟨t, t', t'', p⟩ := hr.sat I
  refine PySem.wpAny_pyIter_range p hs ⟨_, rfl, new_of s, .push, ?_⟩
  show IsRangeIter _ _ _ _ _
  rw [hn]
  have e1 : a + ((0 : Nat) : Int) * k = a := by simp
  have e2 : (n : Int) - ((0 : Nat) : Int) = n := by simp
  rw [e1, e2]
  exact Heap.get?_push_size _ rfl
theorem Inv.pop {It : Addr} {c : Cell} {s : Shared} {h' : Heap} {tk : Tok} (I : Inv b L m ((It, c) :: σ) s) (kk : ∀ d o, d ≠ It → s.heap.get? d = some o → h'.get? d = some o) :
    Inv b L m σ { s with heap := h', toks := tk } ∧ Ext L ((It, c) :: σ) σ s { s with heap := h', toks := tk } := by
  obtain ⟨⟨mm, hn, hm⟩, cs, nd, nw, kp, g1, g2, g3⟩ := I
  have nd1 := List.nodup_cons.mp nd
  have nd2 := List.nodup_cons.mp nd1.2
  have hLI : L ≠ It := fun q => nd1.1 (by rw [q]; exact List.mem_cons_self)
  have hsub : ∀ p ∈ σ, p.1 ≠ It := fun p hp q => nd2.1 (by rw [← q]; exact List.mem_map_of_mem (f := (·.1)) hp)
  refine ⟨⟨⟨mm, hn.at' fun o e => kk _ o hLI e, hm⟩, fun p hp => (cs p (.tail _ hp)).at fun o e => kk _ o (hsub p hp) e,
      List.nodup_cons.mpr ⟨fun q => nd1.1 (.tail _ q), nd2.2⟩, fun a ha => nw a (by cases ha with | head => exact .head _ | tail _ ha => exact .tail _ (.tail _ ha)), fun d o q => kk d o (fun hd => ?_) (kp d o q), g1, g2, g3⟩, ?_⟩
  · have := nw It (.tail _ (.head _))
    rw [hd, this] at q; cases q
  · exact ⟨fun d o hd e => kk d o (fun q => hd (q ▸ .tail _ (.head _))) e, fun a ha => .inl (.tail _ (.tail _ ha)), rfl, rfl, rfl⟩
theorem letOwned_int {tg : Expr} {I : Value} {i : Int} {t : Tok} : letOwnedTupleGo tg I (.int i t) = pure () := by
  cases tg <;> first | rfl | (cases I <;> rfl)
theorem itr_range {a k : Int} {n : Nat} {J : Nat → Loc → Cells → Prop} (hh : A.handled = none) : Itr w A b L n (fun i => .int (a + i * k)) (fun i => .riter (a + (i : Nat) * k) (n - (i : Nat)) k) J where
  next := fun It i m σ s _ hi I => by
    have W := Walks.range (prog := PW) (w := w) (A := A) hh It a k n
    refine W.item i s _ _ hi (I.cells _ (.head _)) fun v h' tk hv hst hk => ?_
    obtain ⟨t, rfl⟩ := hv
    have kk : ∀ d o, d ≠ It → s.heap.get? d = some o → h'.get? d = some o := fun d o hd e => hk d o (by simpa using hd) e
    exact ⟨_, rfl, rfl, Inv.turn (pre := []) I kk hst, Ext.turn (pre := []) kk, fun tg => .inl letOwned_int⟩
  stop := fun It m σ s _ I => by
    have W := Walks.range (prog := PW) (w := w) (A := A) hh It a k n
    refine W.done s _ _ (I.cells _ (.head _)) fun h' tk hk => ?_
    have kk : ∀ d o, d ≠ It → s.heap.get? d = some o → h'.get? d = some o := fun d o hd e => hk d o (by simpa using hd) e
    have z := I.pop (tk := tk) kk
    exact ⟨rfl, z.1, z.2⟩

/-! lists -/
theorem HE_list {elts : List Expr} {pos : Pos} {trees} (ht : backTo pos (starEach elts env) = trees) (h : HL w A b env.locals trees m σ (fun vs m₁ σ₁ => vs.length ≤ sizeLine ∧ ∀ a, Q (.ref a) m₁ ((a, .list vs) :: σ₁))) : HE w A b env (.List elts pos) m σ Q := fun s I => by
  refine wpAny_List_spliced ?_
  rw [ht]
  refine H.seq I h fun vs m₁ σ₁ s₁ h₁ I₁ X₁ => ⟨by simpa using h₁.1, ?_⟩
  exact (PG.new (f := er) (v := Value.ref _) (c := .list (vs.map er)) I₁ ⟨_, s₁.toks, rfl, fun _ _ e => Heap.get?_push_of_some _ e⟩ (new_of s₁) ⟨vs.toArray, ⟨0, Heap.get?_push_size _ rfl⟩, rfl⟩ (h₁.2 _)).after X₁
theorem HE_tuple {elts : List Expr} {k : Nat} {pos : Pos} {trees} (ht : backTo pos (starEach elts env) = trees) (h : HL w A b env.locals trees m σ (fun vs m₁ σ₁ => vs.length ≤ sizeLine ∧ ∀ a, Q (.ref a) m₁ ((a, .tup vs) :: σ₁))) : HE w A b env (.Tuple elts k pos) m σ Q := fun s I => by
  refine wpAny_Tuple_spliced ?_
  rw [ht]
  refine H.seq I h fun vs m₁ σ₁ s₁ h₁ I₁ X₁ => ⟨by simpa using h₁.1, ?_⟩
  exact (PG.new (f := er) (v := Value.ref _) (c := .tup (vs.map er)) I₁ ⟨_, s₁.toks, rfl, fun _ _ e => Heap.get?_push_of_some _ e⟩ (new_of s₁) ⟨vs.toArray, ⟨_, Heap.get?_push_size _ rfl, rfl, 0, rfl⟩, rfl⟩ (h₁.2 _)).after X₁
theorem HC_append {a : Addr} {vs : List AV} {x : AV} (pre post : Cells) (hσ : σ = pre ++ (a, .list vs) :: post) (hl : vs.length ≤ sizeLine) (h : Q .none m (pre ++ (a, .list (vs ++ [x])) :: post)) : HC w A b L (.builtin "list.append") [.ref a, x] m σ Q := fun as ha s I => by
  subst hσ
  obtain ⟨v, u, rfl, e1, rfl⟩ := map_two ha
  obtain rfl := er_ref e1
  obtain ⟨xs, p, q⟩ : ∃ xs : Array Value, s.heap.PlainList a xs ∧ xs.toList.map er = vs := I.cells (a, .list vs) (by simp)
  have hs : xs.size = vs.length := by rw [← q]; simp
  refine wpAny_list_append_plain p (fun h' p' hsb => ?_) (by omega)
  have kk : ∀ d o, d ≠ a → s.heap.get? d = some o → h'.get? d = some o := fun d o hd e => hsb.extBut d o hd e
  exact ⟨m, _, Inv.turn (tk := s.toks) (c' := .list (vs ++ [er u])) I kk ⟨xs.push u, p', by simp [q]⟩, Ext.turn (tk := s.toks) kk, h⟩

/-! subscripts -/
def itm (l : List Nat) (i : Int) : Nat := l.getD (if i < 0 then i + l.length else i).toNat 0
theorem item_itm {l : List Nat} {i : Int} (h1 : -(l.length : Int) ≤ i) (h2 : i < l.length) : Txt.item (mk l) i = mk [itm l i] := by
  have hl : (mk l).length = l.length := by simp [mk, Str.length]
  unfold Txt.item Txt.charAt itm
  by_cases h0 : i < 0
  · rw [if_pos h0]
    have hn : (mk l).cps[(i + (mk l).length).toNat]? = some (l.getD (i + l.length).toNat 0) := by
      rw [hl]
      have : (i + l.length).toNat < l.length := by omega
      simp [mk, List.getD, List.getElem?_eq_getElem this]
    rw [StrLaws.at_neg h0 (by rw [hl]; exact h1) hn]
    rfl
  · rw [if_neg h0]
    have : i.toNat < l.length := by omega
    have e : seqIndex? i (mk l).length = some i.toNat := by
      rw [hl]; unfold seqIndex?
      simp only [h0, if_false]
      first | (rw [if_pos (by omega)]) | (simp; omega) | (split <;> simp_all <;> omega)
    rw [e]
    simp [mk, List.getD, List.getElem?_eq_getElem this]
theorem HE_subS {value slice pos} (h : HE w A b env value m σ (fun x m₁ σ₁ => HE w A b env slice m₁ σ₁ (fun y m₂ σ₂ => ∃ l i, x = .str l ∧ y = .int i ∧ -(l.length : Int) ≤ i ∧ i < l.length ∧ l.length ≤ sizeLine ∧ Q (.str [itm l i]) m₂ σ₂)))
    (hs : ∀ x t i u, subscripted slice false (.str x t) (.int i u) = operate [.str x t, .int i u] (getItem (.str x t) (.int i u)) := by intros; rfl) (ht : ∀ x t r, letTemporaryGo value (.str x t) r = pure () := by intros; rfl) :
    HE w A b env (.Subscript value slice pos) m σ Q := fun s I =>
  Subscript_ (H.seq I h fun v m₁ σ₁ s₁ h₁ I₁ X₁ => H.seq I₁ h₁ fun u m₂ σ₂ s₂ h₂ I₂ X₂ => by
    obtain ⟨l, i, e1, e2, hlo, hhi, hz, q⟩ := h₂
    obtain ⟨t, rfl⟩ := er_str e1
    obtain ⟨t', rfl⟩ := er_int e2
    have hl : (mk l).length = l.length := by simp [mk, Str.length]
    refine tail_of_ItemOn (SBL.item (x := mk l) (by rw [hl]; exact hlo) (by rw [hl]; exact hhi) (by rw [hl]; rw [sizeLine_eq] at hz; omega) fun _ => ?_) (hs _ _ _ _) (ht _ _)
    refine PG.after (X₁.trans X₂) (PG.grow I₂ .tok ?_)
    rw [item_itm hlo hhi]; exact q)
/-- an item of a list -/
theorem HE_subL {value slice pos} (h : HE w A b env value m σ (fun x m₁ σ₁ => HE w A b env slice m₁ σ₁ (fun y m₂ σ₂ => ∃ a vs, ∃ i : Nat, ∃ v, x = .ref a ∧ y = .int i ∧ Has b σ₂ a (.list vs) ∧ vs[i]? = some v ∧ i < 2 ^ 63 ∧ Q v m₂ σ₂)))
    (hs : ∀ a i u, subscripted slice false (.ref a) (.int i u) = operate [.ref a, .int i u] (getItem (.ref a) (.int i u)) := by intros; rfl) :
    HE w A b env (.Subscript value slice pos) m σ Q := fun s I =>
  Subscript_ (H.seq I h fun v m₁ σ₁ s₁ h₁ I₁ X₁ => H.seq I₁ h₁ fun u m₂ σ₂ s₂ h₂ I₂ X₂ => by
    obtain ⟨a, vs, i, x, e1, e2, hl, hx, hi, q⟩ := h₂
    obtain rfl := er_ref e1
    obtain ⟨t', rfl⟩ := er_int e2
    obtain ⟨xs, p, hq⟩ := hl.sat I₂
    have hL := p.isList
    obtain ⟨y, hy, rfl⟩ : ∃ y, xs[i]? = some y ∧ er y = x := by
      rw [← hq] at hx
      simpa [List.getElem?_map] using hx
    exact tail_any hL.typeIs slot_list_getitem.lookup (wpAny_getItem_list hL (Int.natCast_nonneg i) (by exact_mod_cast hi) (by simpa using hy) (PG.after (X₁.trans X₂) (PG.grow I₂ .refl q))) (hs _ _ _))
end
end Mine
end
section
open PySem PySem.W PyProof.Rows PySem.Calls PySem.Spec
namespace Mine

theorem lookup_put_eq {x : PySem.Str} {v : AV} {m : Loc} : (put x v m).lookup x = some v := by rw [put_lookup, if_pos rfl]
theorem lookup_put_ne {x y : PySem.Str} {v : AV} {m : Loc} (h : y ≠ x) : (put x v m).lookup y = m.lookup y := by rw [put_lookup, if_neg h]
local macro_rules | `(tactic| walk_at "lk") => `(tactic| ((repeat (first | with_reducible assumption | with_reducible exact lookup_put_eq | with_reducible refine (lookup_put_ne (by decide)).trans ?_)); first | done | rfl))

def jn (sep : List Nat) : List (List Nat) → List Nat
  | [] => []
  | [x] => x
  | x :: y :: r => x ++ sep ++ jn sep (y :: r)
theorem join_jn (sep : List Nat) : ∀ ys : List (List Nat), (Txt.join (mk sep) (ys.map mk)).cps.toList = jn sep ys := by
  intro ys
  have e : Txt.join (mk sep) (ys.map mk) = Str.join (mk sep) (ys.map mk) := beq_iff_eq.mp (join_closes rfl)
  rw [e]
  clear e
  induction ys with
  | nil => rfl
  | cons x r ih =>
    cases r with
    | nil => rfl
    | cons y r =>
      rw [List.map_cons, List.map_cons, join_cons_cons, str_app, str_app, ← List.map_cons, ih]
      rfl
theorem er_strs {vs : List Value} : ∀ {ys : List (List Nat)}, vs.map er = ys.map AV.str → StrsAre vs (ys.map mk) := by
  induction vs with
  | nil => intro ys h; cases ys with
    | nil => exact .nil
    | cons y ys => cases h
  | cons v vs ih => intro ys h; cases ys with
    | nil => cases h
    | cons y ys =>
      rw [List.map_cons, List.map_cons] at h
      injection h with h1 h2
      obtain ⟨t, rfl⟩ := er_str h1
      exact .cons _ _ (ih h2)

section
variable {w : World} {A : Around} {b : Shared} {env : Env} {L : Addr} {m : Loc} {σ : Cells} {Q : AV → Loc → Cells → Prop} {mg mb : PySem.Str → Option Value}
theorem HC_join {a : Addr} {sep : List Nat} {ys : List (List Nat)} (hl : Has b σ a (.list (ys.map AV.str))) (hz : (ys.map List.length).sum + ys.length * sep.length ≤ 16777216) (h : Q (.str (jn sep ys)) m σ) : HC w A b L (.builtin "str.join") [.str sep, .ref a] m σ Q := fun as ha s I => by
  obtain ⟨v, u, rfl, e1, e2⟩ := map_two ha
  obtain ⟨t, rfl⟩ := er_str e1
  obtain rfl := er_ref e2
  obtain ⟨xs, p, q⟩ := hl.sat I
  refine join_list (ys := ys.map mk) p.isList (er_strs q) ?_ fun t' k => PG.grow I .tok ?_
  · simp only [List.map_map, List.length_map]
    have : (PySem.Str.length ∘ mk) = List.length := funext fun l => by simp [mk, Str.length]
    rw [this]
    simpa [Str.length] using hz
  · simp only [er]
    rw [show (⟨sep.toArray⟩ : PySem.Str) = mk sep from rfl, join_jn]; exact h
def hexT (i : Int) : List Nat := (baseText "0x" 16 i).cps.toList
theorem HC_hex {i : Int} (hz : (baseText "0x" 16 i).length ≤ sizeLine) (h : Q (.str (hexT i)) m σ) : HC w A b L (.builtin "hex") [.int i] m σ Q := fun as ha s I => by
  obtain ⟨v, rfl, e⟩ := map_one ha
  obtain ⟨t, rfl⟩ := er_int e
  exact PySem.P.hex_of_int (PG.grow I .tok h) hz
end

/-- the sets of flags that the law asks for -/
def Fs : List Nat := [0, 2 ^ 11, 2 ^ 17, 2 ^ 17 + 2 ^ 11, 2 ^ 23, 2 ^ 23 + 2 ^ 11, 2 ^ 23 + 2 ^ 17, 2 ^ 23 + 2 ^ 17 + 2 ^ 11,
  2 ^ 29, 2 ^ 29 + 2 ^ 11, 2 ^ 29 + 2 ^ 17, 2 ^ 29 + 2 ^ 17 + 2 ^ 11, 2 ^ 29 + 2 ^ 23, 2 ^ 29 + 2 ^ 23 + 2 ^ 11, 2 ^ 29 + 2 ^ 23 + 2 ^ 17, 2 ^ 29 + 2 ^ 23 + 2 ^ 17 + 2 ^ 11]
/-- flags and names ahead of turn i -/
def fr (F : Nat) : Nat → Int × List (List Nat)
  | 0 => (F, [])
  | i + 1 => let p := fr F i
    if Builtin.bitAnd p.1 (1 * 2 ^ i) ≠ 0 then (Builtin.bitXor p.1 (1 * 2 ^ i), p.2 ++ [hexT (1 * 2 ^ i)]) else p
def prettyS (F : Nat) : List Nat := jn [44, 32] (if F = 0 then [hexT 0] else (fr F 32).2)
set_option maxRecDepth 100000 in
theorem fr_big : ∀ F ∈ Fs, ∀ i < 32, Builtin.bitAnd (fr F i).1 (1 * 2 ^ i) ≠ 0 → (1024 : Int) ≤ 1 * 2 ^ i ∧ ((fr F (i + 1)).1 = 0 → (fr F (i + 1)).2 = (fr F 32).2 ∧ F ≠ 0) := by decide +kernel
set_option maxRecDepth 100000 in
theorem fr_end : ∀ F ∈ Fs, ((fr F 32).1 = 0 ∧ (F = 0 → (fr F 32).2 = [])) ∧ (F ≠ 0 → (fr F 0).1 ≠ 0) := by decide +kernel
set_option maxRecDepth 100000 in
theorem fr_size : ∀ F ∈ Fs, ∀ i < 33, (((fr F i).2).map List.length).sum + 3 * (fr F i).2.length ≤ 100 ∧ (fr F i).2.length ≤ 4 := by decide +kernel
set_option maxRecDepth 100000 in
theorem hex_size : ∀ i < 32, (baseText "0x" 16 (1 * 2 ^ i)).length ≤ 20 := by decide +kernel
end Mine
end
section
open PySem PySem.W PyProof.Rows PySem.Calls PySem.Spec
namespace Mine
section
variable {w : World} {A : Around} {b : Shared} {env : Env} {L : Addr} {m : Loc} {σ : Cells} {Q : AV → Loc → Cells → Prop} {mg mb : PySem.Str → Option Value}

/-- a def is walked where it is called: over the caller's cells -/
theorem HC_inline {x : PySem.Str} {f : Addr} {d : Nat} {vs : List AV} (i : Nat) {a : Arguments} {bd : List Stmt} {sc : Scope} (R : Rm (d + 1) A) (G : GB w mg mb b.heap) (hf : mg x = some (.ref f)) (hi : fnRec i = some (x, a, bd, sc))
    (hb : ∀ pm cd doc as, as.map er = vs → bindArgs (docDef x a bd sc pm cd doc) ⟨as, []⟩ = pure ((a.args.map (·.arg)).zip as))
    (h : ∀ A' L' cd, Rm d A' → HB w A' b (envOf x sc L' f cd) bd ((a.args.map (·.arg)).zip vs) σ (fun fl m' σ' => ∃ v, fl = .ret v ∧ ∃ σ'', σ''.Sublist σ' ∧ Q v m σ''))
    (hco : sc.isCoroutine = false := by rfl) (hgen : sc.isGenerator = false := by rfl) (hk : sc.kind = .function := by rfl)
    (hcell : ∀ x ∈ sc.names, x.2 ≠ .cell := by decide) (hloc : ((a.args.map (·.arg)).all fun y => decide (sc.names.lookup y = some .local)) = true := by decide) (hnd : (a.args.map (·.arg)).Nodup := by decide) :
    HC w A b L (.ref f) vs m σ Q := fun as ha s I => by
  obtain ⟨f', o, pm, cd, doc, h1, h2, h3, h4⟩ := (G.keeps I.keep).fn i _ _ _ _ hi
  obtain rfl : f' = f := by rw [h1] at hf; cases hf; rfl
  have b1 := hb pm cd doc as ha
  have b2 : ∀ y ∈ (a.args.map (·.arg)).zip as, sc.names.lookup y.1 = some .local := fun y hy =>
    of_decide_eq_true (List.all_eq_true.mp hloc y.1 (zip_fst.subset (List.mem_map_of_mem hy)))
  refine wpAny_call (call_plain_ret R.lim h2 h3 (G.keeps I.keep).lim h4 b1 b2 (fun h₁ F => ?_) hco hgen hk hcell)
  have hnew := I.dead (new_of s)
  have I' : Inv b s.heap.objs.size ((a.args.map (·.arg)).zip vs) σ { s with heap := h₁, toks := s.toks + ((a.args.map (·.arg)).zip as).length } :=
    ⟨⟨_, F.ns, fun y v e => by
      rw [lookup_rev (hnd.sublist zip_fst)]
      exact lookup_zip (ha ▸ e)⟩, fun p hp => (I.cells p hp).at fun o e => F.keep _ o e,
      List.nodup_cons.mpr ⟨fun q => hnew (.tail _ q), (List.nodup_cons.mp I.nd).2⟩, fun a ha => by
        cases ha with
        | head =>
          cases q : b.heap.get? s.heap.objs.size with
          | none => rfl
          | some o => exact absurd (Heap.lt_size (I.keep _ _ q)) (Nat.lt_irrefl _)
        | tail _ ha => exact I.new _ (.tail _ ha), fun a o e => F.keep _ o (I.keep a o e), I.gens, I.drawn, I.os⟩
  refine wpAny_mono (h _ s.heap.objs.size cd (R.deeper _) _ I') (fun fl s' hl => ?_) fun _ _ x => x
  obtain ⟨m', σ', I₁, X₁, v, hv, σ'', hs, q⟩ := hl
  have I₂ := I₁.drop hs
  have X₂ := X₁.drop hs
  have e1 : s'.gens = s.gens := X₂.gens
  have e2 : s'.drawn = s.drawn := X₂.drawn
  have e3 : s'.os = s.os := X₂.os
  have hk' : ∀ a o, a ∉ σ.map (·.1) → s.heap.get? a = some o → s'.heap.get? a = some o := fun a o hn e => X₂.kept a o (fun hm => by
    cases hm with
    | head => exact absurd (Heap.lt_size e) (Nat.lt_irrefl _)
    | tail _ hm => exact hn hm) (F.keep _ o e)
  have hLσ := (List.nodup_cons.mp I.nd).1
  obtain ⟨mm, hn, hm⟩ := I.ns
  have hLs : s.heap.get? s.heap.objs.size = none := new_of s
  have hLn : L ∉ σ''.map (·.1) := fun hL => by
    rcases X₂.fresh L hL with h | h
    · cases h with
      | head => obtain ⟨o, es, ep, ho, r⟩ := hn; exact absurd (Heap.lt_size ho) (Nat.lt_irrefl _)
      | tail _ h => exact hLσ h
    · obtain ⟨o, es, ep, ho, r⟩ := hn
      have h' : h₁.get? L = none := h
      rw [F.keep _ _ ho] at h'; cases h'
  have hL'n : s.heap.objs.size ∉ σ''.map (·.1) := (List.nodup_cons.mp I₂.nd).1
  have hfr : ∀ a ∈ σ''.map (·.1), a ∈ L :: σ.map (·.1) ∨ s.heap.get? a = none := fun a ha => by
    rcases X₂.fresh a ha with h | h
    · cases h with
      | head => exact absurd ha hL'n
      | tail _ h => exact .inl (.tail _ h)
    · refine .inr ?_
      cases q : s.heap.get? a with
      | none => rfl
      | some o =>
        have h' : h₁.get? a = none := h
        rw [F.keep _ _ q] at h'; cases h'
  cases fl with
  | ret u =>
    have hu : er u = v := by injection hv
    exact ⟨m, σ'', ⟨⟨mm, hn.at' fun o e => hk' _ o hLσ e, hm⟩, I₂.cells, List.nodup_cons.mpr ⟨hLn, (List.nodup_cons.mp I₂.nd).2⟩, fun a ha => by
        cases ha with
        | head => exact I.new _ (.head _)
        | tail _ ha => exact I₂.new _ (.tail _ ha), I₂.keep, I₂.gens, I₂.drawn, I₂.os⟩,
      ⟨fun a o hn e => hk' a o (fun q => hn (.tail _ q)) e, hfr, e1, e2, e3⟩, hu ▸ q⟩
  | next => cases hv
  | brk => cases hv
  | cont => cases hv
end
end Mine
end
section
open PySem PySem.W PyProof.Rows PySem.Calls PySem.Spec
namespace Mine
abbrev gv (m : Loc) (x : PySem.Str) : Option AV := m.lookup x
theorem ab_const {c : Const} {k pos name env} {whole : Sem Value} : attributeBase (.Constant c k pos) name env whole = whole := rfl
theorem ite_t {A B : Prop} (h : A) : if true = true then A else B := h
theorem ite_f {A B : Prop} (h : B) : if false = true then A else B := h
section
variable {w : World} {A : Around} {b : Shared} {env : Env} {L : Addr} {m : Loc} {σ : Cells} {Q : AV → Loc → Cells → Prop} {mg mb : PySem.Str → Option Value}
local macro_rules | `(tactic| walk_at "lk") => `(tactic| ((repeat (first | with_reducible assumption | with_reducible exact lookup_put_eq | with_reducible refine (lookup_put_ne (by decide)).trans ?_)); first | done | rfl))

theorem HE_join {sep : PySem.Str} {k : Nat} {p1 apos pos : Pos} {x : Expr} 
    (h : HE w A b env x m σ (fun x m₁ σ₁ => ∃ a ys, x = .ref a ∧ Has b σ₁ a (.list (ys.map AV.str)) ∧ (ys.map List.length).sum + ys.length * sep.cps.toList.length ≤ 16777216 ∧ Q (.str (jn sep.cps.toList ys)) m₁ σ₁))
    (hline : (apos.endLine == pos.line) = true) (ht : backTo pos (starEach [x] env) = [(false, eval x env)]) :
    HE w A b env (.Call (.Attribute (.Constant (.str sep) k p1) "join" apos) [x] [] pos) m σ Q := by
  refine HE_meth (o := .Constant (.str sep) k p1) (name := "join") (apos := apos) (pos := pos) (args := [x]) "str" "str.join" PySem.F.plainAttrs_str PySem.F.slot_str_join PySem.F.type_str_join ht (by rfl) ?_ ab_const (by rw [ht]; rfl) hline
  refine HE_str ⟨fun v s e _ => ty_str e, ?_⟩
  refine HL_cons (h.mono ?_)
  rintro v m σ ⟨a, ys, rfl, hl, hz, q⟩
  exact HL_nil (HC_join hl hz q)
theorem HCmp_isnot {x : AV} (h : Q (.bool (match x with | .none => false | _ => true)) m σ) : HCmp w A b L .IsNot x .none m σ Q := fun v u e1 e2 s I => by
  obtain rfl := er_none e2
  refine PyProof.Rows.isnot_none_gen (PG.grow I .refl ?_)
  subst e1
  cases v <;> exact h
theorem fn_inb1 (w : World) {mg mb : PySem.Str → Option Value} {c : Nat} : Fn w mg mb "in_table_b1" 1 [.str [c]] (fun _ => True) (fun v σ => v = .bool (decide (c ∈ b1)) ∧ σ = []) := by
  refine Fn_of_body 9 (by rfl) ?_ ?_
  · intro pm cd doc as ha
    obtain ⟨v, rfl, e1⟩ := map_one ha
    rfl
  · intro A s L f cd R G _
    obtain ⟨a, n, ha, hS⟩ := G.b1
    refine HB_cons (HS_return (HE_cmp (HE_callB "ord" G (by decide) (by rfl) (by rfl) (by rfl) (HL_cons (HE_name _ (by rfl) (HL_nil (HC_ord ?_)))))))
    refine HE_glob _ G ha (HCmp_inB1 G ha ?_)
    refine ⟨_, rfl, [], .refl _, ?_, rfl⟩
    simp

set_option maxRecDepth 100000 in
theorem ok_low {c : Nat} (h : c < 128) : low c < 128 := by unfold low; split <;> omega
theorem fn_b3 (w : World) {mg mb : PySem.Str → Option Value} {c : Nat} (hc : c < 128) : Fn w mg mb "map_table_b3" 1 [.str [c]] (fun _ => True) (fun v σ => v = .str [low c] ∧ σ = []) := by
  refine Fn_of_body 11 (by rfl) ?_ ?_
  · intro pm cd doc as ha
    obtain ⟨v, rfl, e1⟩ := map_one ha
    rfl
  · intro A s L f cd R G _
    obtain ⟨d, g, hd, hs, hM, hz⟩ := G.b3
    refine HB_cons (HS_assign (HE_meth "dict" "dict.get" PySem.F.plainAttrs_dict PySem.F.slot_dict_get PySem.F.type_dict_get (by rfl) (by rfl) (HE_glob _ G hd ⟨fun v s e I => ty_dict hM I e, ?_⟩)))
    refine HL_cons (HE_callB "ord" G (by decide) (by rfl) (by rfl) (by rfl) (HL_cons (HE_name _ (by rfl) (HL_nil (HC_ord (HL_nil (HC_dget1 hs hM (hz _ (by omega) (by omega)) ?_)))))))
    refine HB_cons (HS_if (HT_cmp (HE_cmp (HE_name _ (by rfl) (HE_none (HCmp_isnot ⟨_, rfl, ?_⟩))))))
    refine ite_f (HB_nil ?_)
    have hok : OkC c := .inl hc
    refine HB_cons (HS_return (HE_meth0 "str" "str.lower" PySem.F.plainAttrs_str PySem.F.slot_str_lower PySem.F.type_str_lower (HE_name _ (by rfl) ⟨fun v s e _ => ty_str e, HC_lower (tooLong_ok hok) ?_⟩)))
    rw [lower_ok hok]
    exact ⟨_, rfl, [], .refl _, rfl, rfl⟩

theorem bit_pow {i : Nat} (h : i < 32) : (1 : Int) * 2 ^ ((i : Int).toNat) = 1 * 2 ^ i := by simp
theorem sep_l : (Str.ofString ", ").cps.toList = [44, 32] := by decide +kernel
theorem fn_flags (w : World) {mg mb : PySem.Str → Option Value} {F : Nat} (hF : F ∈ Fs) : Fn w mg mb "pretty_flags" 1 [.int F] (fun _ => True) (fun v σ => v = .str (prettyS F) ∧ σ = []) := by
  refine Fn_of_body 2 (by rfl) ?_ ?_
  · intro pm cd doc as ha
    obtain ⟨v, rfl, e1⟩ := map_one ha
    rfl
  · intro A s L f cd R G _
    obtain ⟨d, g, hd, hs, hM, hz⟩ := G.fl
    refine HB_cons (HS_assign (HE_list (by rfl) (HL_nil ⟨by simp, fun a => ?_⟩)))
    refine HB_cons (HS_for 32 (fun i => .int (0 + i * 1)) (fun i => .riter (0 + (i : Nat) * 1) ((32 : Nat) - (i : Nat)) 1)
      (fun i m σ => gv m "flags" = some (.int (fr F i).1) ∧ gv m "names" = some (.ref a) ∧ σ = [(a, .list ((fr F i).2.map .str))] ∧ (F = 0 ∨ (fr F i).1 ≠ 0)) (itr_range R.h) ?_ ?_ ?_)
    · refine HE_callT "range" G (by decide) (by rfl) (by rfl) (by rfl) ?_
      refine HL_cons (HE_int (k := 0) (pos := default) (HL_nil (HC_range1 fun r => ?_)))
      refine ⟨starts_range (.inl (.head _)) (by rfl) (by rfl), _, List.sublist_cons_self _ _, rfl, rfl, rfl, ?_⟩
      by_cases h : F = 0
      · exact .inl h
      · exact .inr (by simpa [fr] using h)
    · rintro I i m σ ⟨h1, h2, rfl, h4⟩ hi v hv
      refine H_assign ?_
      rw [hv]
      refine HB_cons (HS_assign (HE_bin (HE_int ?_)))
      refine HE_name _ (by walk_at "lk") (HBin_shl ?_ ?_ ?_ ?_)
      · omega
      · omega
      · decide
      rw [show ((0 : Int) + i * 1).toNat = i by omega]
      refine HB_cons (HS_if (HT_val (HE_bin (HE_name (.int (fr F i).1) (by walk_at "lk") (HE_name _ (by walk_at "lk") (HBin_and ?_))))))
      refine HTr_int ?_
      by_cases hb : Builtin.bitAnd (fr F i).1 (1 * 2 ^ i) ≠ 0
      · rw [decide_eq_true hb]
        refine ite_t ?_
        obtain ⟨hbig, hend⟩ := fr_big F hF i hi hb
        have hsz := (fr_size F hF i (by omega)).2
        have e : fr F (i + 1) = (Builtin.bitXor (fr F i).1 (1 * 2 ^ i), (fr F i).2 ++ [hexT (1 * 2 ^ i)]) := by simp only [fr]; exact if_pos hb
        refine HB_cons (HS_expr (HE_meth "list" "list.append" PySem.F.plainAttrs_list PySem.F.slot_list_append PySem.F.type_list_append (by rfl) (by rfl) (HE_name (.ref a) (by walk_at "lk") ⟨fun v s e I => ty_list (.inl (.tail _ (.head _))) I e, ?_⟩)))
        refine HL_cons (HE_meth "dict" "dict.get" PySem.F.plainAttrs_dict PySem.F.slot_dict_get PySem.F.type_dict_get (by rfl) (by rfl) (HE_glob _ G hd ⟨fun v s e I => ty_dict hM I e, ?_⟩))
        refine HL_cons (HE_name _ (by walk_at "lk") ?_)
        refine HL_cons (HE_callB "hex" G (by decide) (by rfl) (by rfl) (by rfl) ?_)
        refine HL_cons (HE_name _ (by walk_at "lk") (HL_nil (HC_hex (Nat.le_trans (hex_size i hi) (by decide)) ?_)))
        refine HL_nil (HC_dget2 hs hM (hz _ hbig) (HL_nil (HC_append [_] [] rfl ?_ ⟨by simp, ?_⟩)))
        · rw [List.length_map]; exact Nat.le_trans hsz (by decide)
        refine HB_cons (HS_aug (.int (fr F i).1) (by walk_at "lk") (HE_name _ (by walk_at "lk") (HIn_xor ?_)))
        refine HB_cons (HS_if (HT_not (HT_val (HE_name _ (by walk_at "lk") (HTr_int ?_)))))
        have e1 : (fr F (i + 1)).1 = Builtin.bitXor (fr F i).1 (1 * 2 ^ i) := by rw [e]
        have e2 : (fr F (i + 1)).2 = (fr F i).2 ++ [hexT (1 * 2 ^ i)] := by rw [e]
        rw [← e1]
        by_cases hz0 : (fr F (i + 1)).1 = 0
        · rw [decide_eq_false (by simpa using hz0)]
          refine ite_t ?_
          refine HB_cons (HS_break ?_)
          refine ⟨_, .refl _, ?_⟩
          dsimp only
          refine HB_cons ?_
          refine HS_return ?_
          with_reducible refine HE_join ?_ (by with_unfolding_all rfl) (by with_unfolding_all rfl)
          refine (HE_name (.ref a) (by walk_at "lk") ⟨a, (fr F (i + 1)).2, rfl, .inl ?_, ?_, _, rfl, [], List.nil_sublist _, ?_, rfl⟩)
          · rw [e2]; simp
          · have := (fr_size F hF (i + 1) (by omega)).1
            rw [sep_l]
            simp only [List.length_cons, List.length_nil]
            omega
          · have h5 := hend hz0
            unfold prettyS
            rw [if_neg h5.2, h5.1, sep_l]
        · rw [decide_eq_true (by simpa using hz0)]
          refine ite_f (HB_nil (HB_nil (HB_nil ⟨_, .refl _, ?_, ?_, ?_, .inr hz0⟩)))
          · walk_at "lk"
          · walk_at "lk"
          · rw [e2]; simp
      · rw [decide_eq_false hb]
        have e : fr F (i + 1) = fr F i := by simp only [fr]; exact if_neg hb
        refine ite_f (HB_nil (HB_nil ⟨_, .refl _, ?_, ?_, ?_, ?_⟩))
        · rw [e]; walk_at "lk"
        · walk_at "lk"
        · rw [e]
        · rw [e]; exact h4
    · rintro m σ ⟨h1, h2, rfl, h4⟩
      obtain ⟨⟨e1, e2⟩, e3⟩ := fr_end F hF
      obtain rfl : F = 0 := h4.resolve_right (fun h => h e1)
      rw [e1] at h1
      rw [e2 rfl]
      refine HB_cons (HS_expr (HE_meth "list" "list.append" PySem.F.plainAttrs_list PySem.F.slot_list_append PySem.F.type_list_append (by rfl) (by rfl) (HE_name (.ref a) (by walk_at "lk") ⟨fun v s e I => ty_list (.inl (.head _)) I e, ?_⟩)))
      refine HL_cons (HE_callB "hex" G (by decide) (by rfl) (by rfl) (by rfl) ?_)
      refine HL_cons (HE_name (.int 0) (by walk_at "lk") (HL_nil (HC_hex (by decide +kernel) ?_)))
      refine HL_nil (HC_append [] [] rfl (by simp) ⟨by simp, HB_nil ?_⟩)
      dsimp only
      refine HB_cons ?_
      refine HS_return ?_
      with_reducible refine HE_join ?_ (by with_unfolding_all rfl) (by with_unfolding_all rfl)
      refine (HE_name (.ref a) (by walk_at "lk") ⟨a, [hexT 0], rfl, .inl (.head _), ?_, _, rfl, [], List.nil_sublist _, ?_, rfl⟩)
      · rw [sep_l]; decide +kernel
      · rw [sep_l]; rfl
end
end Mine
end
section
open PySem PySem.W PyProof.Rows PySem.Calls PySem.Spec
namespace Mine
section
variable {w : World} {A : Around} {b : Shared} {env : Env} {L : Addr} {m : Loc} {σ : Cells} {Q : AV → Loc → Cells → Prop} {mg mb : PySem.Str → Option Value}

/-! lists that need not be plain -/
def lst (vs : List AV) : Cell := .pr fun o => o.cls = .type "list" ∧ ∃ n xs, o.data = .seq xs n ∧ xs.toList.map er = vs
theorem lst_sat {h : Heap} {a : Addr} {vs : List AV} : (lst vs).Sat h a ↔ ∃ xs : Array Value, h.IsList a xs ∧ xs.toList.map er = vs := by
  constructor
  · rintro ⟨o, ho, hc, n, xs, hd, q⟩; exact ⟨xs, ⟨o, ho, hc, n, hd⟩, q⟩
  · rintro ⟨xs, ⟨o, ho, hc, n, hd⟩, q⟩; exact ⟨o, ho, hc, n, xs, hd, q⟩
def HasL (b : Shared) (σ : Cells) (a : Addr) (vs : List AV) : Prop := Has b σ a (.list vs) ∨ Has b σ a (lst vs)
theorem HasL.sat {s : Shared} {a : Addr} {vs : List AV} (x : HasL b σ a vs) (I : Inv b L m σ s) : ∃ xs : Array Value, s.heap.IsList a xs ∧ xs.toList.map er = vs := by
  rcases x with x | x
  · obtain ⟨xs, p, q⟩ := x.sat I; exact ⟨xs, p.isList, q⟩
  · exact lst_sat.mp (x.sat I)
theorem HE_subI {value slice pos} (h : HE w A b env value m σ (fun x m₁ σ₁ => HE w A b env slice m₁ σ₁ (fun y m₂ σ₂ => ∃ a vs, ∃ i : Nat, ∃ v, x = .ref a ∧ y = .int i ∧ HasL b σ₂ a vs ∧ vs[i]? = some v ∧ i < 2 ^ 63 ∧ Q v m₂ σ₂)))
    (hs : ∀ a i u, subscripted slice false (.ref a) (.int i u) = operate [.ref a, .int i u] (getItem (.ref a) (.int i u)) := by intros; rfl) :
    HE w A b env (.Subscript value slice pos) m σ Q := fun s I =>
  Subscript_ (H.seq I h fun v m₁ σ₁ s₁ h₁ I₁ X₁ => H.seq I₁ h₁ fun u m₂ σ₂ s₂ h₂ I₂ X₂ => by
    obtain ⟨a, vs, i, x, e1, e2, hl, hx, hi, q⟩ := h₂
    obtain rfl := er_ref e1
    obtain ⟨t', rfl⟩ := er_int e2
    obtain ⟨xs, hL, hq⟩ := hl.sat I₂
    obtain ⟨y, hy, rfl⟩ : ∃ y, xs[i]? = some y ∧ er y = x := by
      rw [← hq] at hx
      simpa [List.getElem?_map] using hx
    exact tail_any hL.typeIs slot_list_getitem.lookup (wpAny_getItem_list hL (Int.natCast_nonneg i) (by exact_mod_cast hi) (by simpa using hy) (PG.after (X₁.trans X₂) (PG.grow I₂ .refl q))) (hs _ _ _))

/-! slices of strings -/
abbrev HP (w : World) (A : Around) (b : Shared) (env : Env) (e : Option Expr) (m : Loc) (σ : Cells) (Q : AV → Loc → Cells → Prop) : Prop := H w A b env.locals er (evalPart e env) m σ Q
theorem HP_none (h : Q .none m σ) : HP w A b env none m σ Q := H.pure (a := Value.none) (f := er) h
theorem HP_some {e : Expr} (h : HE w A b env e m σ Q) : HP w A b env (some e) m σ Q := h
def oi : Option Int → AV
  | none => .none
  | some i => .int i
def sl (l : List Nat) (lo hi : Option Int) : List Nat := (Txt.slice (mk l) lo hi).cps.toList
theorem oi_part {v : Value} {o : Option Int} (h : er v = oi o) : ∃ p : Option (Int × Tok), v = partValue p ∧ p.map (·.1) = o := by
  cases o with
  | none => exact ⟨none, er_none h, rfl⟩
  | some i => obtain ⟨t, rfl⟩ := er_int h; exact ⟨some (i, t), rfl, rfl⟩
theorem HE_slS {value : Expr} {lower upper : Option Expr} {p pos : Pos} (h : HE w A b env value m σ (fun x m₁ σ₁ => HP w A b env lower m₁ σ₁ (fun l m₂ σ₂ => HP w A b env upper m₂ σ₂ (fun u m₃ σ₃ =>
      ∃ xs lo hi, x = .str xs ∧ l = oi lo ∧ u = oi hi ∧ xs.length ≤ sizeLine ∧ Q (.str (sl xs lo hi)) m₃ σ₃))))
    (ht : ∀ o r, letTemporaryGo value o r = pure () := by intro _ _; rfl) :
    HE w A b env (.Subscript value (.Slice lower upper none p) pos) m σ Q := fun s I => by
  refine wpAny_Subscript_str_slice (H.seq I h fun v m₁ σ₁ s₁ h₁ I₁ X₁ => H.seq I₁ h₁ fun vl m₂ σ₂ s₂ h₂ I₂ X₂ => H.seq I₂ h₂ fun vu m₃ σ₃ s₃ h₃ I₃ X₃ => ?_) ht
  obtain ⟨xs, lo, hi, e1, e2, e3, hz, q⟩ := h₃
  obtain ⟨t, rfl⟩ := er_str e1
  obtain ⟨l, rfl, hl⟩ := oi_part e2
  obtain ⟨u, rfl, hu⟩ := oi_part e3
  refine ⟨mk xs, t, l, u, rfl, rfl, rfl, ?_⟩
  have hlen : (mk xs).length ≤ sizeLine := by rw [str_len]; exact hz
  have key : ∀ t' k, PG b env.locals σ s er Q (.str (Txt.slice (mk xs) lo hi) t') { s₃ with heap := s₃.heap.push { cls := .type "slice", data := .fields #[partValue l, partValue u, .none] }, toks := k } := fun t' k =>
    ((PG.grow I₃ ⟨_, k, rfl, fun _ _ e => Heap.get?_push_of_some _ e⟩ q).after X₃).after (X₁.trans X₂)
  subst hl hu
  exact post_val_or_str ⟨Nat.le_trans (Txt.slice_le (mk xs) _ _) hlen, fun t' k => key t' k⟩
theorem sl_from {l : List Nat} {i : Int} (h0 : 0 ≤ i) (h1 : i ≤ l.length) : sl l (some i) none = l.drop i.toNat := by
  unfold sl
  rw [beq_iff_eq.mp (slice_closes_from (x := mk l) ⟨h0, h1⟩)]
  show (List.take _ (List.drop i.toNat l)) = _
  apply List.take_of_length_le
  simp [mk]; omega
theorem sl_all {l : List Nat} : sl l none none = l := by
  unfold sl
  have : Txt.slice (mk l) none none = Txt.slice (mk l) (some 0) none := by
    show StrLaws.sliceText _ _ _ = StrLaws.sliceText _ _ _
    unfold StrLaws.sliceText
    rw [StrLaws.sliceIdx_none_lo]
  rw [this]
  have := sl_from (l := l) (i := 0) (by omega) (by omega)
  simpa [sl] using this
theorem sl_to_neg {l : List Nat} {j : Int} (h0 : j < 0) (h1 : -(l.length : Int) ≤ j) : sl l none (some j) = l.take (l.length + j).toNat := by
  unfold sl
  rw [beq_iff_eq.mp (slice_closes_to_neg (x := mk l) (k := j + l.length) h0 (by rw [str_len]; exact h1) (by rw [str_len]; rfl))]
  show (List.take (j + l.length - 0).toNat (List.drop (0 : Int).toNat l)) = _
  rw [show (j + l.length - 0 : Int) = l.length + j by omega]; simp
theorem sl_mid {l : List Nat} {i j : Int} (h0 : 0 ≤ i) (h1 : i ≤ j) (h2 : j ≤ l.length) : sl l (some i) (some j) = (l.drop i.toNat).take (j - i).toNat := by
  unfold sl
  rw [beq_iff_eq.mp (slice_closes (x := mk l) ⟨h0, h1, h2⟩)]
  rfl

/-! or -/
theorem HE_or {e₁ e₂ rest pos} (h : HE w A b env e₁ m σ (fun x m₁ σ₁ => HTr w A b env.locals x m₁ σ₁ (fun c m₂ σ₂ => if c = true then Q x m₂ σ₂ else HE w A b env (.BoolOp .Or (e₂ :: rest) pos) m₂ σ₂ Q))) :
    HE w A b env (.BoolOp .Or (e₁ :: e₂ :: rest) pos) m σ Q := fun s I =>
  BoolOp_or (H.seq I h fun v m₁ σ₁ s₁ h₁ I₁ X₁ => H.seq I₁ (h₁ v rfl) fun c m₂ σ₂ s₂ h₂ I₂ X₂ => by
    cases c with
    | true => exact ⟨m₂, σ₂, I₂, X₁.trans X₂, (show Q (er v) m₂ σ₂ from h₂)⟩
    | false => exact wpAny_mono ((show HE w A b env (.BoolOp .Or (e₂ :: rest) pos) m₂ σ₂ Q from h₂) s₂ I₂) (fun _ _ p => p.after (X₁.trans X₂)) fun _ _ x => x)
theorem HE_and {e₁ e₂ rest pos} (h : HE w A b env e₁ m σ (fun x m₁ σ₁ => HTr w A b env.locals x m₁ σ₁ (fun c m₂ σ₂ => if c = true then HE w A b env (.BoolOp .And (e₂ :: rest) pos) m₂ σ₂ Q else Q x m₂ σ₂))) :
    HE w A b env (.BoolOp .And (e₁ :: e₂ :: rest) pos) m σ Q := fun s I =>
  BoolOp_and (H.seq I h fun v m₁ σ₁ s₁ h₁ I₁ X₁ => H.seq I₁ (h₁ v rfl) fun c m₂ σ₂ s₂ h₂ I₂ X₂ => by
    cases c with
    | true => exact wpAny_mono ((show HE w A b env (.BoolOp .And (e₂ :: rest) pos) m₂ σ₂ Q from h₂) s₂ I₂) (fun _ _ p => p.after (X₁.trans X₂)) fun _ _ x => x
    | false => exact ⟨m₂, σ₂, I₂, X₁.trans X₂, (show Q (er v) m₂ σ₂ from h₂)⟩)
theorem HE_one {op e pos} (h : HE w A b env e m σ Q) : HE w A b env (.BoolOp op [e] pos) m σ Q := fun s I => BoolOp_one (h s I)
theorem HE_not {x pos} (h : HE w A b env x m σ (fun y m₁ σ₁ => HTr w A b env.locals y m₁ σ₁ (fun c m₂ σ₂ => Q (.bool (!c)) m₂ σ₂))) : HE w A b env (.UnaryOp .Not x pos) m σ Q := fun s I =>
  UnaryOp_ (H.seq I h fun v m₁ σ₁ s₁ h₁ I₁ X₁ => not_of (H.seq I₁ (h₁ v rfl) fun c m₂ σ₂ s₂ h₂ I₂ X₂ => ⟨m₂, σ₂, I₂, X₁.trans X₂, h₂⟩))
end
section
variable {w : World} {A : Around} {b : Shared} {env : Env} {m : Loc} {σ : Cells} {Q : FL → Loc → Cells → Prop} {mg mb : PySem.Str → Option Value}
theorem HS_while {test body orelse pos} (J : Nat → Loc → Cells → Prop) (n : Nat) (h : J n m σ)
    (turn : ∀ n m σ, J n m σ → HT w A b env test m σ (fun c m₁ σ₁ => if c = true then HB w A b env body m₁ σ₁ (fun fl m' σ' => match fl with
      | .next => ∃ k, k < n ∧ J k m' σ' | .cont => ∃ k, k < n ∧ J k m' σ' | .brk => Q .next m' σ' | .ret v => Q (.ret v) m' σ') else HB w A b env orelse m₁ σ₁ Q)) :
    HS w A b env (.While test body orelse pos) m σ Q := fun s I => by
  have noE : ∀ {α : Type} {t : Sem α} {R : α → Shared → Prop} {E : Value → Shared → Prop} {s : Shared}, wpAny (model PW w) A t R NoE s → wpAny (model PW w) A t R E s := fun x => wpAny_mono x (fun _ _ y => y) fun _ _ y => y.elim
  refine wpAny_While (codeAny_whileLoop (fun k s' => ∃ m' σ', J k m' σ' ∧ Inv b env.locals m' σ' s' ∧ Ext env.locals σ σ' s s') ?_ n ⟨m, σ, h, I, .refl⟩)
  rintro k s' ⟨m', σ', hJ, I', X'⟩
  refine noE (H.seq I' (turn k m' σ' hJ) fun c m₁ σ₁ s₁ h₁ I₁ X₁ => ?_)
  cases c with
  | true =>
    refine noE (H.seq I₁ (show HB w A b env body m₁ σ₁ _ from h₁) fun fl m₂ σ₂ s₂ h₂ I₂ X₂ => ?_)
    have X := (X'.trans X₁).trans X₂
    cases fl with
    | next => obtain ⟨j, hj, hJ'⟩ := h₂; exact ⟨j, hj, m₂, σ₂, hJ', I₂, X⟩
    | cont => obtain ⟨j, hj, hJ'⟩ := h₂; exact ⟨j, hj, m₂, σ₂, hJ', I₂, X⟩
    | brk => exact ⟨m₂, σ₂, I₂, X, h₂⟩
    | ret v => exact ⟨m₂, σ₂, I₂, X, h₂⟩
  | false => exact noE (H.seq I₁ (show HB w A b env orelse m₁ σ₁ Q from h₁) fun fl m₂ σ₂ s₂ h₂ I₂ X₂ => ⟨m₂, σ₂, I₂, (X'.trans X₁).trans X₂, h₂⟩)

theorem HS_assign2 {x y : PySem.Str} {p1 p2 value pos} (h : HE w A b env value m σ (fun v m₁ σ₁ => Q .next (put y v (put x v m₁)) σ₁))
    (hx : env.kindOf x = some .local := by rfl) (hy : env.kindOf y = some .local := by rfl) (hp : (env.scope.kind == .class || (env.scope.kind == .module && env.locals != env.globals)) = false := by rfl)
    (hw : swappedStores [.Name x p1, .Name y p2] value env = pure none := by rfl) : HS w A b env (.Assign [.Name x p1, .Name y p2] value pos) m σ Q := fun s I =>
  wpAny_Assign_two (H.seq I h fun v m₁ σ₁ s₁ q I₁ X₁ => H.seq I₁ (H_assign (QU := fun _ m' σ' => m' = put x (er v) m₁ ∧ σ' = σ₁) ⟨rfl, rfl⟩ hx hp) fun _ m₂ σ₂ s₂ q₂ I₂ X₂ => by
    obtain ⟨rfl, rfl⟩ := q₂
    exact H.seq I₂ (H_assign (QU := fun _ m' σ' => m' = put y (er v) (put x (er v) m₁) ∧ σ' = σ₂) ⟨rfl, rfl⟩ hy hp) fun _ m₃ σ₃ s₃ q₃ I₃ X₃ => by
      obtain ⟨rfl, rfl⟩ := q₃
      exact ⟨_, _, I₃, (X₁.trans X₂).trans X₃, q⟩) (by rfl) hw
/-- row[i] = v -/
theorem HS_setitem {o i pos' value pos} (h : HE w A b env value m σ (fun v m₁ σ₁ => HE w A b env o m₁ σ₁ (fun x m₂ σ₂ => HE w A b env i m₂ σ₂ (fun y m₃ σ₃ =>
      ∃ a vs, ∃ k : Nat, ∃ pre post, x = .ref a ∧ y = .int k ∧ σ₃ = pre ++ (a, lst vs) :: post ∧ k < vs.length ∧ k < 2 ^ 63 ∧ Q .next m₃ (pre ++ (a, lst (vs.set k v)) :: post)))))
    (hs : swapsWith value (some (.Subscript o i pos')) pos.line env = pure false := by rfl) : HS w A b env (.Assign [.Subscript o i pos'] value pos) m σ Q := fun s I => by
  refine wpAny_Assign_Subscript (H.seq I h fun v m₁ σ₁ s₁ h₁ I₁ X₁ => H.seq I₁ h₁ fun vo m₂ σ₂ s₂ h₂ I₂ X₂ => H.seq I₂ h₂ fun vi m₃ σ₃ s₃ h₃ I₃ X₃ => ?_) hs
  obtain ⟨a, vs, k, pre, post, e1, e2, rfl, hk, hk2, q⟩ := h₃
  obtain rfl := er_ref e1
  obtain ⟨t, rfl⟩ := er_int e2
  obtain ⟨xs, p, hq⟩ := lst_sat.mp (I₃.cells (a, lst vs) (by simp))
  have hsz : xs.size = vs.length := by rw [← hq]; simp
  refine wpAny_setItem_list p (Int.natCast_nonneg k) (by exact_mod_cast hk2) (by omega) fun h' p' hsb => ?_
  have kk : ∀ d o, d ≠ a → s₃.heap.get? d = some o → h'.get? d = some o := fun d o hd e => hsb.extBut d o hd e
  exact ⟨m₃, _, Inv.turn (tk := s₃.toks) (c' := lst (vs.set k (er v))) I₃ kk (lst_sat.mpr ⟨_, p', by rw [← hq]; simp⟩), ((X₁.trans X₂).trans X₃).trans (Ext.turn (tk := s₃.toks) kk), q⟩

theorem HS_swap {x y : PySem.Str} {k1 k2 t1 t2 p1 p2 q1 q2 pos} {u v : AV} (hh : A.handled = none) (hu : m.lookup x = some u) (hv : m.lookup y = some v)
    (h : Q .next (put x v (put y u m)) σ) (hk : env.scope.kind = .function := by rfl)
    (hx : env.kindOf x = some .local := by rfl) (hy : env.kindOf y = some .local := by rfl) (hp : (env.scope.kind == .class || (env.scope.kind == .module && env.locals != env.globals)) = false := by rfl)
    (hdx : (x == ("__debug__" : PySem.Str)) = false := by decide) (hdy : (y == ("__debug__" : PySem.Str)) = false := by decide)
    (hw : swappedStores [.Tuple [.Name x p1, .Name y p2] k1 t1] (.Tuple [.Name y q1, .Name x q2] k2 t2) env = pure (some [x, y]) := by rfl)
    (hb : backTo t2 (starEach [.Name y q1, .Name x q2] env) = [(false, eval (.Name y q1) env), (false, eval (.Name x q2) env)] := by rfl) :
    HS w A b env (.Assign [.Tuple [.Name x p1, .Name y p2] k1 t1] (.Tuple [.Name y q1, .Name x q2] k2 t2) pos) m σ Q := fun s I => by
  refine PyProof.Rows.Assign_Tuple_swapped (names := [x, y]) ?_ rfl hw
  have ht : HE w A b env (.Tuple [.Name y q1, .Name x q2] k2 t2) m σ (fun r m₁ σ₁ => ∃ a, r = .ref a ∧ m₁ = m ∧ σ₁ = (a, .tup [v, u]) :: σ) := by
    refine HE_tuple hb ?_
    refine HL_cons (HE_name v hv (HL_cons (HE_name u hu (HL_nil ⟨by simp [sizeLine_eq], fun a => ⟨a, rfl, rfl, rfl⟩⟩) hk hx hdx)) hk hy hdy)
  refine H.seq I ht fun r m₁ σ₁ s₁ h₁ I₁ X₁ => ?_
  obtain ⟨a, e, rfl, rfl⟩ := h₁
  obtain rfl := er_ref e
  obtain ⟨xs, p, hq⟩ := I₁.cells (a, .tup [v, u]) (.head _)
  have hsz : xs.size = 2 := by have := congrArg List.length hq; simpa using this
  rw [show ([x, y] : List PySem.Str).length = xs.size by rw [hsz]; rfl]
  refine wpAny_unpackItems_tuple hh p fun h' hx' => ?_
  have I₂ : Inv b env.locals m₁ ((a, .tup [v, u]) :: σ) { s₁ with heap := h' } := I₁.grow ⟨h', s₁.toks, rfl, fun c o e => hx' c o (Nat.ne_of_lt (Heap.lt_size e)) e⟩
  have X₂ : Ext env.locals ((a, Cell.tup [v, u]) :: σ) ((a, .tup [v, u]) :: σ) s₁ { s₁ with heap := h' } := Ext.grow ⟨h', s₁.toks, rfl, fun c o e => hx' c o (Nat.ne_of_lt (Heap.lt_size e)) e⟩
  obtain ⟨z1, z2, hz, hz1, hz2⟩ := map_two hq
  rw [hz]
  show wpAny _ A (assignInOrder [fun v => bindName env y v, fun v => bindName env x v] [z2, z1]) _ _ _
  refine wpAny_assignInOrder_more (bindName_ (H.seq I₂ (H_store (QU := fun _ m' σ' => m' = put y u m₁ ∧ σ' = (a, .tup [v, u]) :: σ) ⟨by rw [hz2], rfl⟩ hy hp) fun _ m₂ σ₂ s₂ h₂ I₃ X₃ => ?_))
  obtain ⟨rfl, rfl⟩ := h₂
  refine wpAny_assignInOrder_more (bindName_ (H.seq I₃ (H_store (QU := fun _ m' σ' => m' = put x v (put y u m₁) ∧ σ' = (a, .tup [v, u]) :: σ) ⟨by rw [hz1], rfl⟩ hx hp) fun _ m₃ σ₃ s₃ h₃ I₄ X₄ => ?_))
  obtain ⟨rfl, rfl⟩ := h₃
  refine wpAny_assignInOrder_none ?_
  exact ⟨_, σ, I₄.drop (List.sublist_cons_self _ _), ((X₁.trans X₂).trans (X₃.trans X₄)).drop (List.sublist_cons_self _ _), h⟩
end
section
variable {w : World} {A : Around} {b : Shared} {env : Env} {L : Addr} {m : Loc} {σ : Cells} {Q : AV → Loc → Cells → Prop} {mg mb : PySem.Str → Option Value}
theorem HC_min {i j : Int} (hh : A.handled = none) (h : Q (.int (if j < i then j else i)) m σ) : HC w A b L (.builtin "min") [.int i, .int j] m σ Q := fun as ha s I => by
  obtain ⟨v, u, rfl, e1, e2⟩ := map_two ha
  obtain ⟨t, rfl⟩ := er_int e1
  obtain ⟨t', rfl⟩ := er_int e2
  refine min_two_ints hh fun h' tk k => PG.grow I ⟨_, _, rfl, k⟩ ?_
  split
  · rename_i hl; rw [if_pos hl] at h; exact h
  · rename_i hl; rw [if_neg hl] at h; exact h
theorem HC_listRange {r : Addr} {a c k : Int} {n : Nat} (hh : A.handled = none) (hr : Has b σ r (.range a c k)) (hs : Builtin.Range.small a c k = true) (hn : Builtin.Range.rangeSize a c k = n) (hlen : n ≤ 2 ^ 24)
    (h : ∀ l, Q (.ref l) m ((l, lst ((List.range n).map fun (i : Nat) => .int (a + i * k))) :: σ)) : HC w A b L (.type "list") [.ref r] m σ Q := fun as ha s I => by
  obtain ⟨v, rfl, e⟩ := map_one ha
  obtain rfl := er_ref e
  obtain ⟨t, t', t'', p⟩ := hr.sat I
  refine PySem.call_list_range hh p hs hn hlen fun h' tk acc c' kk hS hacc => ?_
  refine PG.new (c := lst _) I ⟨h', tk, rfl, kk⟩ (new_of s) (lst_sat.mpr ⟨acc, ⟨_, hS, rfl, c', rfl⟩, ?_⟩) (h _)
  obtain ⟨h1, h2⟩ := hacc
  apply List.ext_getElem?
  intro i
  rw [List.getElem?_map, List.getElem?_map, Array.getElem?_toList]
  by_cases hi : i < n
  · obtain ⟨t, ht⟩ := h2 i acc[i] (Array.getElem?_eq_getElem (by omega))
    rw [Array.getElem?_eq_getElem (by omega), ht, List.getElem?_eq_getElem (by simpa using hi)]
    simp [er]
  · rw [Array.getElem?_eq_none (by omega), List.getElem?_eq_none (by simpa using hi)]; rfl
end
end Mine
end
section
open PySem PySem.W PyProof.Rows PySem.Calls PySem.Spec
namespace Mine

def lcp : List Nat → List Nat → Nat
  | x :: xs, y :: ys => if x = y then lcp xs ys + 1 else 0
  | _, _ => 0
theorem lcp_le : ∀ a b : List Nat, lcp a b ≤ a.length ∧ lcp a b ≤ b.length
  | [], b => by simp [lcp]
  | x :: xs, [] => by simp [lcp]
  | x :: xs, y :: ys => by
    have := lcp_le xs ys
    unfold lcp
    split <;> simp <;> omega
theorem lcp_step : ∀ (a b : List Nat) (k : Nat), k ≤ lcp a b → ((k < a.length ∧ k < b.length ∧ a.getD k 0 = b.getD k 0) ↔ k < lcp a b)
  | [], b, k, h => by simp [lcp]
  | x :: xs, [], k, h => by simp [lcp]
  | x :: xs, y :: ys, 0, h => by
    unfold lcp
    by_cases e : x = y <;> simp [e]
  | x :: xs, y :: ys, k + 1, h => by
    unfold lcp at h ⊢
    by_cases e : x = y
    · rw [if_pos e] at h ⊢
      have := lcp_step xs ys k (by omega)
      simpa using this
    · rw [if_neg e] at h; omega

def nx (bc ac i : Nat) (s : Int × Int × Int × List Int) : Int × Int × Int × List Int :=
  let old := s.2.2.2.getD i 0
  let sub := s.1 + subC bc ac
  let ins := (if old < s.2.1 then old else s.2.1) + 2
  let res := if sub < ins then sub else ins
  (old, res, (if res < s.2.2.1 then res else s.2.2.1), s.2.2.2.set i res)
/-- one row's walk: distance, result, minimum, row after i turns -/
def inn (bc : Nat) (a : List Nat) (row : List Int) (B : Nat) : Nat → Int × Int × Int × List Int
  | 0 => (B * 2, B * 2, 9223372036854775807, row)
  | i + 1 => nx bc (a.getD i 0) i (inn bc a row B i)
def row0 (a : List Nat) : List Int := (List.range a.length).map fun (i : Nat) => 2 + i * 2
/-- row and result after j signs of b -/
def out (a b : List Nat) : Nat → List Int × Int
  | 0 => (row0 a, 0)
  | j + 1 => let s := inn (b.getD j 0) a (out a b j).1 j a.length; (s.2.2.2, s.2.1)
def mn (a b : List Nat) (j : Nat) : Int := (inn (b.getD j 0) a (out a b j).1 j a.length).2.2.1
/-- the table's part: a not the longer one -/
def tab (a b : List Nat) (mx : Int) : Int :=
  if mx < (b.length - a.length : Int) * 2 then mx + 1 else
  if (List.range b.length).any (fun j => decide (mx < mn a b j)) then mx + 1 else (out a b b.length).2
def strip (a b : List Nat) : List Nat × List Nat :=
  let p := lcp a b
  let a1 := a.drop p
  let b1 := b.drop p
  let q := lcp a1.reverse b1.reverse
  (a1.take (a1.length - q), b1.take (b1.length - q))
def lev (a b : List Nat) (mx : Int) : Int :=
  if a = b then 0 else
  let s := strip a b
  if s.1 = [] ∨ s.2 = [] then 2 * (s.1.length + s.2.length) else
  if s.2.length < s.1.length then tab s.2 s.1 mx else tab s.1 s.2 mx
theorem inn_len {bc : Nat} {a : List Nat} {row : List Int} {B : Nat} : ∀ i, (inn bc a row B i).2.2.2.length = row.length
  | 0 => rfl
  | i + 1 => by simp only [inn, nx, List.length_set]; exact inn_len i
theorem out_len {a b : List Nat} : ∀ j, (out a b j).1.length = a.length
  | 0 => by simp [out, row0]
  | j + 1 => by simp only [out]; rw [inn_len]; exact out_len j

section
variable {w : World} {A : Around} {b : Shared} {env : Env} {L : Addr} {m : Loc} {σ : Cells} {Q : AV → Loc → Cells → Prop} {mg mb : PySem.Str → Option Value}
theorem sl_cut {l : List Nat} {k : Nat} (hk : k ≤ l.length) : sl l none (if k = 0 then none else some (-(k : Int))) = l.take (l.length - k) := by
  by_cases h : k = 0
  · subst h; rw [if_pos rfl, sl_all]; simp
  · rw [if_neg h, sl_to_neg (by omega) (by omega)]
    rw [show ((l.length : Int) + -(k : Int)).toNat = l.length - k by omega]
theorem HE_cut {x : PySem.Str} {k3 p1 p2 p3 p4 p5 p6} {l : List Nat} {k : Nat} (hx : m.lookup x = some (.str l)) (hp : m.lookup ("post" : PySem.Str) = some (.int (-(k : Int)))) (hk : k ≤ l.length) (hl : l.length ≤ sizeLine) (h : Q (.str (l.take (l.length - k))) m σ)
    (hf : env.scope.kind = .function) (h1 : env.kindOf x = some .local) (h2 : env.kindOf "post" = some .local) (hd : (x == ("__debug__" : PySem.Str)) = false) :
    HE w A b env (.Subscript (.Name x p1) (.Slice none (some (.BoolOp .Or [.Name "post" p2, .Constant .none k3 p3] p4)) none p5) p6) m σ Q := by
  refine HE_slS (HE_name _ hx (HP_none (HP_some (HE_or (HE_name _ hp (HTr_int ?_) hf h2 (by decide))))) hf h1 hd)
  by_cases h0 : k = 0
  · subst h0
    exact ite_f (HE_one (HE_none ⟨l, none, none, rfl, rfl, rfl, hl, by simpa [sl_all] using h⟩))
  · rw [decide_eq_true (by omega)]
    refine ite_t ⟨l, none, some (-(k : Int)), rfl, rfl, rfl, hl, ?_⟩
    have := sl_cut hk
    rw [if_neg h0] at this
    rw [this]; exact h
theorem HE_from {x y : PySem.Str} {p1 p2 p5 p6} {l : List Nat} {k : Nat} (hx : m.lookup x = some (.str l)) (hp : m.lookup y = some (.int k)) (hk : k ≤ l.length) (hl : l.length ≤ sizeLine) (h : Q (.str (l.drop k)) m σ)
    (hf : env.scope.kind = .function) (h1 : env.kindOf x = some .local) (h2 : env.kindOf y = some .local) (hd : (x == ("__debug__" : PySem.Str)) = false) (hd2 : (y == ("__debug__" : PySem.Str)) = false) :
    HE w A b env (.Subscript (.Name x p1) (.Slice (some (.Name y p2)) none none p5) p6) m σ Q := by
  refine HE_slS (HE_name _ hx (HP_some (HE_name _ hp (HP_none ⟨l, some (k : Int), none, rfl, rfl, rfl, hl, ?_⟩) hf h2 hd2)) hf h1 hd)
  rw [sl_from (by omega) (by omega)]
  simpa using h
end
end Mine
end
section
open PySem PySem.W PyProof.Rows PySem.Calls PySem.Spec
namespace Mine

theorem rg1 {n : Nat} (h : n ≤ 100000) : Builtin.Range.small 0 n 1 = true ∧ Builtin.Range.rangeSize 0 n 1 = n := by
  refine ⟨PySem.small_one (by omega) (by omega) (by omega) (by omega), ?_⟩
  rw [PySem.rangeSize_one]; split <;> omega
theorem rg2' : ∀ n : Fin 41, Builtin.Range.small 2 (2 * (((n : Nat) : Int) + 1)) 2 = true ∧ Builtin.Range.rangeSize 2 (2 * (((n : Nat) : Int) + 1)) 2 = ((n : Nat) : Int) ∧ Builtin.divisionGoesByPylong (2 * (((n : Nat) : Int) + 1) - 2) 2 = false := by decide +kernel
theorem rg2 {n : Nat} (h : n < 41) : Builtin.Range.small 2 (2 * ((n : Int) + 1)) 2 = true ∧ Builtin.Range.rangeSize 2 (2 * ((n : Int) + 1)) 2 = (n : Int) ∧ Builtin.divisionGoesByPylong (2 * ((n : Int) + 1) - 2) 2 = false := rg2' ⟨n, h⟩
def lenOk (l : List Nat) : Prop := l.length ≤ 40 ∧ ∀ c ∈ l, OkC c
section
variable {w : World} {A : Around} {b : Shared} {env : Env} {L : Addr} {m : Loc} {σ : Cells} {Q : AV → Loc → Cells → Prop} {mg mb : PySem.Str → Option Value}
local macro_rules | `(tactic| walk_at "lk") => `(tactic| ((repeat (first | with_reducible assumption | with_reducible exact lookup_put_eq | with_reducible refine (lookup_put_ne (by decide)).trans ?_)); first | done | exact lookup_put_eq | rfl))

theorem HB_cut {st rest} {Q : FL → Loc → Cells → Prop} (P : Loc → Cells → Prop) (h : HS w A b env st m σ (fun f m₁ σ₁ => match f with | .next => P m₁ σ₁ | f => Q f m₁ σ₁)) (k : ∀ m₁ σ₁, P m₁ σ₁ → HB w A b env rest m₁ σ₁ Q) : HB w A b env (st :: rest) m σ Q :=
  HB_cons (h.mono fun f m₁ σ₁ q => by cases f <;> first | exact k _ _ q | exact q)
def LV (m : Loc) (a b : List Nat) (mx : Int) : Prop := gv m "a" = some (.str a) ∧ gv m "b" = some (.str b) ∧ gv m "max_cost" = some (.int mx)
theorem le_line {l : List Nat} (h : l.length ≤ 40) : l.length ≤ sizeLine := by rw [sizeLine_eq]; omega
theorem some17 : (fnRec 17).isSome = true := by rfl
abbrev bd17 : List Stmt := ((fnRec 17).get some17).2.2.1
abbrev sc17 : Scope := ((fnRec 17).get some17).2.2.2
theorem str_ne {x : List Nat} : (!x.isEmpty) = decide (x ≠ []) := by cases x <;> simp

theorem itm_neg {l : List Nat} {k : Nat} (h : k < l.length) : itm l (-(k : Int) - 1) = l.reverse.getD k 0 := by
  unfold itm
  rw [if_pos (by omega), List.getD_eq_getElem?_getD, List.getD_eq_getElem?_getD, List.getElem?_reverse h]
  congr 2; omega
theorem itm_nat {l : List Nat} {k : Nat} : itm l (k : Int) = l.getD k 0 := by
  unfold itm
  rw [if_neg (by omega)]; rfl

theorem drop_lt {l : List Nat} {k : Nat} (q : l.drop k ≠ []) : k < l.length := by
  rcases Nat.lt_or_ge k l.length with h | h
  · exact h
  · exact absurd (List.drop_eq_nil_iff.mpr h) q
theorem take_lt {l : List Nat} {k : Nat} (q : l.take (l.length - k) ≠ []) : k < l.length := by
  rcases Nat.lt_or_ge k l.length with h | h
  · exact h
  · exact absurd (by rw [show l.length - k = 0 by omega]; rfl) q
theorem lt_take {l : List Nat} {k : Nat} (q : ¬ l.take (l.length - k) ≠ []) : l.length ≤ k := by
  have := Classical.not_not.mp q
  rw [List.take_eq_nil_iff] at this
  rcases this with h | h
  · omega
  · rw [h]; simp
theorem w_post {f cd} {a c : List Nat} {mx : Int} {Q : FL → Loc → Cells → Prop} (ha : a.length ≤ 40) (hc : c.length ≤ 40) (hm : LV m a c mx)
    (k : ∀ m', LV m' (a.take (a.length - lcp a.reverse c.reverse)) (c.take (c.length - lcp a.reverse c.reverse)) mx → HB w A b (envOf "_levenshtein_distance" sc17 L f cd) (bd17.drop 9) m' σ Q) : HB w A b (envOf "_levenshtein_distance" sc17 L f cd) (bd17.drop 5) m σ Q := by
  obtain ⟨h1, h2, h3⟩ := hm
  have hlc := lcp_le a.reverse c.reverse
  simp only [List.length_reverse] at hlc
  obtain ⟨hlc1, hlc2⟩ := hlc
  refine HB_cons (HS_assign (HE_int ?_))
  refine HB_cut (fun m' σ' => LV m' a c mx ∧ gv m' "post" = some (.int (-(lcp a.reverse c.reverse : Int))) ∧ σ' = σ) (HS_while (fun n m' σ' => LV m' a c mx ∧ σ' = σ ∧ ∃ k : Nat, gv m' "post" = some (.int (-(k : Int))) ∧ k ≤ lcp a.reverse c.reverse ∧ n + k = lcp a.reverse c.reverse) (lcp a.reverse c.reverse) ⟨⟨?_, ?_, ?_⟩, rfl, 0, ?_, Nat.zero_le _, rfl⟩ ?_) ?_
  · walk_at "lk"
  · walk_at "lk"
  · walk_at "lk"
  · walk_at "lk"
  · rintro n m' σ' ⟨⟨g1, g2, g3⟩, rfl, k, g4, hk, hn⟩
    have st := lcp_step a.reverse c.reverse k hk
    rw [List.length_reverse, List.length_reverse] at st
    refine HT_and (HA_and (HT_val (HE_cut (k := k) g1 g4 (by omega) (le_line ha) ?_ rfl rfl rfl (by decide))))
    refine HTr_str (by have := le_line ha; simp; omega) ?_
    rw [str_ne]
    by_cases q1 : a.take (a.length - k) ≠ []
    · rw [decide_eq_true q1]
      refine ite_t ?_
      have l1 : k < a.length := take_lt q1
      refine HA_and (HT_val (HE_cut (k := k) g2 g4 (by omega) (le_line hc) ?_ rfl rfl rfl (by decide)))
      refine HTr_str (by have := le_line hc; simp; omega) ?_
      rw [str_ne]
      by_cases q2 : c.take (c.length - k) ≠ []
      · rw [decide_eq_true q2]
        refine ite_t ?_
        have l2 : k < c.length := take_lt q2
        refine HA_and (HT_cmp (HE_cmp ?_))
        refine HE_subS (HE_name _ g1 (HE_bin (HE_name _ g4 (HE_int (HBin_sub ⟨a, -(k : Int) - 1, rfl, rfl, by omega, by omega, le_line ha, ?_⟩)))))
        refine HE_subS (HE_name _ g2 (HE_bin (HE_name _ g4 (HE_int (HBin_sub ⟨c, -(k : Int) - 1, rfl, rfl, by omega, by omega, le_line hc, ?_⟩)))))
        refine HCmp_seq ⟨_, rfl, ?_⟩
        rw [itm_neg l1, itm_neg l2]
        by_cases q3 : a.reverse.getD k 0 = c.reverse.getD k 0
        · rw [decide_eq_true (by rw [q3])]
          refine ite_t (HA_and_nil (ite_t ?_))
          have hlt := st.mp ⟨l1, l2, q3⟩
          refine HB_cons (HS_aug _ g4 (HE_int (HIn_sub (HB_nil ?_))))
          refine ⟨n - 1, by omega, ⟨by walk_at "lk", by walk_at "lk", by walk_at "lk"⟩, rfl, k + 1, ?_, hlt, by omega⟩
          rw [show (-((k + 1 : Nat) : Int)) = -(k : Int) - 1 by omega]
          walk_at "lk"
        · rw [decide_eq_false (by simpa using q3)]
          refine ite_f (ite_f (HB_nil ⟨⟨g1, g2, g3⟩, ?_, rfl⟩))
          have : k = lcp a.reverse c.reverse := by
            rcases Nat.lt_or_ge k (lcp a.reverse c.reverse) with h | h
            · exact absurd (st.mpr h).2.2 q3
            · omega
          rw [← this]; exact g4
      · rw [decide_eq_false q2]
        refine ite_f (ite_f (HB_nil ⟨⟨g1, g2, g3⟩, ?_, rfl⟩))
        have h2 : c.length ≤ k := lt_take q2
        have : k = lcp a.reverse c.reverse := by omega
        rw [← this]; exact g4
    · rw [decide_eq_false q1]
      refine ite_f (ite_f (HB_nil ⟨⟨g1, g2, g3⟩, ?_, rfl⟩))
      have h2 : a.length ≤ k := lt_take q1
      have : k = lcp a.reverse c.reverse := by omega
      rw [← this]; exact g4
  · rintro m₁ σ₁ ⟨⟨g1, g2, g3⟩, g4, rfl⟩
    refine HB_cons (HS_assign (HE_cut (k := lcp a.reverse c.reverse) g1 g4 hlc1 (le_line ha) ?_ rfl rfl rfl (by decide)))
    refine HB_cons (HS_assign (HE_cut (k := lcp a.reverse c.reverse) (by walk_at "lk") (by walk_at "lk") hlc2 (le_line hc) ?_ rfl rfl rfl (by decide)))
    refine k _ ⟨?_, ?_, ?_⟩
    · walk_at "lk"
    · walk_at "lk"
    · walk_at "lk"

theorem w_strip {f cd} {a c : List Nat} {mx : Int} {Q : FL → Loc → Cells → Prop} (ha : a.length ≤ 40) (hc : c.length ≤ 40) (hm : LV m a c mx)
    (k : ∀ m', LV m' (strip a c).1 (strip a c).2 mx → HB w A b (envOf "_levenshtein_distance" sc17 L f cd) (bd17.drop 9) m' σ Q) : HB w A b (envOf "_levenshtein_distance" sc17 L f cd) (bd17.drop 1) m σ Q := by
  obtain ⟨h1, h2, h3⟩ := hm
  obtain ⟨hlc1, hlc2⟩ := lcp_le a c
  refine HB_cons (HS_assign (HE_int ?_))
  refine HB_cut (fun m' σ' => LV m' a c mx ∧ gv m' "pre" = some (.int (lcp a c)) ∧ σ' = σ) (HS_while (fun n m' σ' => LV m' a c mx ∧ σ' = σ ∧ ∃ k : Nat, gv m' "pre" = some (.int k) ∧ k ≤ lcp a c ∧ n + k = lcp a c) (lcp a c) ⟨⟨?_, ?_, ?_⟩, rfl, 0, ?_, Nat.zero_le _, rfl⟩ ?_) ?_
  · walk_at "lk"
  · walk_at "lk"
  · walk_at "lk"
  · walk_at "lk"
  · rintro n m' σ' ⟨⟨g1, g2, g3⟩, rfl, k, g4, hk, hn⟩
    have st := lcp_step a c k hk
    refine HT_and (HA_and (HT_val (HE_from (k := k) g1 g4 (by omega) (le_line ha) ?_ rfl rfl rfl (by decide) (by decide))))
    refine HTr_str (by have := le_line ha; simp; omega) ?_
    rw [str_ne]
    by_cases q1 : a.drop k ≠ []
    · rw [decide_eq_true q1]
      refine ite_t ?_
      have l1 : k < a.length := by
        have := List.drop_eq_nil_iff (l := a) (i := k)
        rcases Nat.lt_or_ge k a.length with h | h
        · exact h
        · exact absurd (this.mpr h) q1
      refine HA_and (HT_val (HE_from (k := k) g2 g4 (by omega) (le_line hc) ?_ rfl rfl rfl (by decide) (by decide)))
      refine HTr_str (by have := le_line hc; simp; omega) ?_
      rw [str_ne]
      by_cases q2 : c.drop k ≠ []
      · rw [decide_eq_true q2]
        refine ite_t ?_
        have l2 : k < c.length := by
          have := List.drop_eq_nil_iff (l := c) (i := k)
          rcases Nat.lt_or_ge k c.length with h | h
          · exact h
          · exact absurd (this.mpr h) q2
        refine HA_and (HT_cmp (HE_cmp ?_))
        refine HE_subS (HE_name _ g1 (HE_name _ g4 ⟨a, k, rfl, rfl, by omega, by omega, le_line ha, ?_⟩))
        refine HE_subS (HE_name _ g2 (HE_name _ g4 ⟨c, k, rfl, rfl, by omega, by omega, le_line hc, ?_⟩))
        refine HCmp_seq ⟨_, rfl, ?_⟩
        rw [itm_nat, itm_nat]
        by_cases q3 : a.getD k 0 = c.getD k 0
        · rw [decide_eq_true (by rw [q3])]
          refine ite_t (HA_and_nil (ite_t ?_))
          have hlt := st.mp ⟨l1, l2, q3⟩
          refine HB_cons (HS_aug _ g4 (HE_int (HIn_add (HB_nil ?_))))
          refine ⟨n - 1, by omega, ⟨by walk_at "lk", by walk_at "lk", by walk_at "lk"⟩, rfl, k + 1, by walk_at "lk", hlt, by omega⟩
        · rw [decide_eq_false (by simpa using q3)]
          refine ite_f (ite_f (HB_nil ⟨⟨g1, g2, g3⟩, ?_, rfl⟩))
          have : k = lcp a c := by
            rcases Nat.lt_or_ge k (lcp a c) with h | h
            · exact absurd (st.mpr h).2.2 q3
            · omega
          rw [← this]; exact g4
      · rw [decide_eq_false q2]
        refine ite_f (ite_f (HB_nil ⟨⟨g1, g2, g3⟩, ?_, rfl⟩))
        have h2 : c.length ≤ k := List.drop_eq_nil_iff.mp (Classical.not_not.mp q2)
        have : k = lcp a c := by omega
        rw [← this]; exact g4
    · rw [decide_eq_false q1]
      refine ite_f (ite_f (HB_nil ⟨⟨g1, g2, g3⟩, ?_, rfl⟩))
      have h2 : a.length ≤ k := List.drop_eq_nil_iff.mp (Classical.not_not.mp q1)
      have : k = lcp a c := by omega
      rw [← this]; exact g4
  · rintro m₁ σ₁ ⟨⟨g1, g2, g3⟩, g4, rfl⟩
    refine HB_cons (HS_assign (HE_from (k := lcp a c) g1 g4 hlc1 (le_line ha) ?_ rfl rfl rfl (by decide) (by decide)))
    refine HB_cons (HS_assign (HE_from (k := lcp a c) (by walk_at "lk") (by walk_at "lk") hlc2 (le_line hc) ?_ rfl rfl rfl (by decide) (by decide)))
    have ha1 : (a.drop (lcp a c)).length ≤ 40 := by simp; omega
    have hc1 : (c.drop (lcp a c)).length ≤ 40 := by simp; omega
    have es : strip a c = ((a.drop (lcp a c)).take ((a.drop (lcp a c)).length - lcp (a.drop (lcp a c)).reverse (c.drop (lcp a c)).reverse), (c.drop (lcp a c)).take ((c.drop (lcp a c)).length - lcp (a.drop (lcp a c)).reverse (c.drop (lcp a c)).reverse)) := rfl
    rw [es] at k
    have f1 : gv (put "b" (.str (c.drop (lcp a c))) (put "a" (.str (a.drop (lcp a c))) m₁)) "a" = some (.str (a.drop (lcp a c))) := by walk_at "lk"
    have f2 : gv (put "b" (.str (c.drop (lcp a c))) (put "a" (.str (a.drop (lcp a c))) m₁)) "b" = some (.str (c.drop (lcp a c))) := by walk_at "lk"
    have f3 : gv (put "b" (.str (c.drop (lcp a c))) (put "a" (.str (a.drop (lcp a c))) m₁)) "max_cost" = some (.int mx) := by walk_at "lk"
    refine w_post ha1 hc1 ⟨f1, f2, f3⟩ k

end
end Mine
end
section
open PySem PySem.W PyProof.Rows PySem.Calls PySem.Spec
namespace Mine
section
variable {w : World} {A : Around} {b : Shared} {env : Env} {L : Addr} {m : Loc} {σ : Cells} {mg mb : PySem.Str → Option Value}
local macro_rules | `(tactic| walk_at "lk") => `(tactic| ((repeat (first | with_reducible assumption | with_reducible exact lookup_put_eq | with_reducible refine (lookup_put_ne (by decide)).trans ?_)); first | done | exact lookup_put_eq | rfl))

theorem row_set {l : List Int} {i : Nat} {v : Int} : (l.set i v).map AV.int = (l.map AV.int).set i (.int v) := by rw [List.map_set]
theorem mem_getD {l : List Nat} {i : Nat} (h : i < l.length) : l.getD i 0 ∈ l := by
  rw [List.getD_eq_getElem?_getD, List.getElem?_eq_getElem h]; exact List.getElem_mem h
theorem w_tab {f cd} {a c : List Nat} {mx : Int} {Q : FL → Loc → Cells → Prop} (R : Rm 1 A) (G : GB w mg mb b.heap) (ha : lenOk a) (hc : lenOk c) (ha0 : a ≠ []) (hc0 : c ≠ []) (hm : LV m a c mx) (hσ : σ = [])
    (k : ∀ m' σ', Q (.ret (.int (tab a c mx))) m' σ') : HB w A b (envOf "_levenshtein_distance" sc17 L f cd) (bd17.drop 12) m σ Q := by
  subst hσ
  obtain ⟨h1, h2, h3⟩ := hm
  obtain ⟨t2, ht2⟩ := G.c2
  have hla := le_line ha.1
  have hlc := le_line hc.1
  refine HB_cons (HS_if (HT_cmp (HE_cmp (HE_bin (HE_bin ?_)))))
  refine HE_callB "len" G (by decide) (by rfl) (by rfl) (by rfl) (HL_cons (HE_name _ h2 (HL_nil (HC_lenS hlc ?_))))
  refine HE_callB "len" G (by decide) (by rfl) (by rfl) (by rfl) (HL_cons (HE_name _ h1 (HL_nil (HC_lenS hla ?_))))
  refine HBin_sub (HE_glob _ G ht2 (HBin_mul (.of_right (by decide)) (HE_name _ h3 (HCmp_gt ⟨_, rfl, ?_⟩))))
  unfold tab at k
  by_cases q : mx < (c.length - a.length : Int) * 2
  · rw [decide_eq_true q]
    rw [if_pos q] at k
    exact ite_t (HB_cons (HS_return (HE_bin (HE_name _ h3 (HE_int (HBin_add (k _ _)))))))
  rw [decide_eq_false q]
  rw [if_neg q] at k
  refine ite_f (HB_nil ?_)
  obtain ⟨r1, r2, r3⟩ := rg2 (n := a.length) (by have := ha.1; omega)
  refine HB_cons (HS_assign ?_)
  refine HE_callT "list" G (by decide) (by rfl) (by rfl) (by rfl) (HL_cons ?_)
  refine HE_callT "range" G (by decide) (by rfl) (by rfl) (by rfl) (HL_cons (HE_glob _ G ht2 ?_))
  refine HL_cons (HE_bin (HE_glob _ G ht2 (HE_bin ?_)))
  refine HE_callB "len" G (by decide) (by rfl) (by rfl) (by rfl) (HL_cons (HE_name _ h1 (HL_nil (HC_lenS hla ?_))))
  refine HE_int (HBin_add (HBin_mul (.of_left (by decide)) (HL_cons (HE_glob _ G ht2 (HL_nil (HC_range3 (by decide) r3 fun r => ?_))))))
  refine HL_nil (HC_listRange R.h (.inl (.head _)) r1 r2 (by have := ha.1; omega) fun l => ?_)
  refine HB_cons (HS_assign (HE_int ?_))
  have e0 : ((List.range a.length).map fun (i : Nat) => AV.int (2 + i * 2)) = (out a c 0).1.map AV.int := by simp [out, row0]
  rw [e0]
  refine HB_cons (HS_for c.length (fun i => .int (0 + i * 1)) (fun i => .riter (0 + (i : Nat) * 1) ((c.length : Nat) - (i : Nat)) 1)
    (fun j m σ => LV m a c mx ∧ gv m "row" = some (.ref l) ∧ gv m "result" = some (.int (out a c j).2) ∧ σ = [(l, lst ((out a c j).1.map .int))] ∧ ∀ j' < j, ¬ mx < mn a c j') (itr_range R.h) ?_ ?_ ?_)
  · refine HE_callT "range" G (by decide) (by rfl) (by rfl) (by rfl) ?_
    refine HL_cons (HE_callB "len" G (by decide) (by rfl) (by rfl) (by rfl) (HL_cons (HE_name (.str c) (by walk_at "lk") (HL_nil (HC_lenS hlc ?_)))))
    refine HL_nil (HC_range1 fun r' => ?_)
    obtain ⟨s1, s2⟩ := rg1 (n := c.length) (by have := hc.1; omega)
    refine ⟨starts_range (.inl (.head _)) s1 s2, [(l, _)], ?_, ⟨by walk_at "lk", by walk_at "lk", by walk_at "lk"⟩, by walk_at "lk", by walk_at "lk", rfl, fun j' h => by omega⟩
    exact .cons _ (.cons₂ _ (List.nil_sublist _))
  · rintro I j m σ ⟨⟨g1, g2, g3⟩, g4, g5, rfl, g6⟩ hj v hv
    refine H_assign ?_
    rw [hv]
    refine HB_cons (HS_assign (HE_subS (HE_name (.str c) (by walk_at "lk") (HE_name _ (by walk_at "lk") ⟨c, 0 + (j : Int) * 1, rfl, rfl, by omega, by omega, hlc, ?_⟩))))
    rw [show (0 : Int) + j * 1 = j by omega, itm_nat]
    refine HB_cons (HS_assign2 (HE_bin (HE_name _ (by walk_at "lk") (HE_glob _ G ht2 (HBin_mul (.of_right (by decide)) ?_)))))
    refine HB_cons (HS_assign (HE_int ?_))
    refine HB_cons (HS_for a.length (fun i => .int (0 + i * 1)) (fun i => .riter (0 + (i : Nat) * 1) ((a.length : Nat) - (i : Nat)) 1)
      (fun i m σ => LV m a c mx ∧ gv m "row" = some (.ref l) ∧ gv m "bchar" = some (.str [c.getD j 0]) ∧ gv m "bindex" = some (.int j) ∧ gv m "distance" = some (.int (inn (c.getD j 0) a (out a c j).1 j i).1) ∧
        gv m "result" = some (.int (inn (c.getD j 0) a (out a c j).1 j i).2.1) ∧ gv m "minimum" = some (.int (inn (c.getD j 0) a (out a c j).1 j i).2.2.1) ∧
        σ = [(I, .riter (0 + ((j + 1 : Nat) : Int) * 1) ((c.length : Nat) - ((j + 1 : Nat) : Int)) 1), (l, lst ((inn (c.getD j 0) a (out a c j).1 j i).2.2.2.map .int))]) (itr_range R.h) ?_ ?_ ?_)
    · refine HE_callT "range" G (by decide) (by rfl) (by rfl) (by rfl) ?_
      refine HL_cons (HE_callB "len" G (by decide) (by rfl) (by rfl) (by rfl) (HL_cons (HE_name (.str a) (by walk_at "lk") (HL_nil (HC_lenS hla ?_)))))
      refine HL_nil (HC_range1 fun r' => ?_)
      obtain ⟨s1, s2⟩ := rg1 (n := a.length) (by have := ha.1; omega)
      refine ⟨starts_range (.inl (.head _)) s1 s2, _, List.sublist_cons_self _ _, ⟨by walk_at "lk", by walk_at "lk", by walk_at "lk"⟩, by walk_at "lk", by walk_at "lk", by walk_at "lk", by walk_at "lk", by walk_at "lk", by walk_at "lk", rfl⟩
    · rintro I' i m σ ⟨⟨g1, g2, g3⟩, g4, g7, g8, g9, g10, g11, rfl⟩ hi v hv
      refine H_assign ?_
      rw [hv]
      have hoc : OkC (c.getD j 0) := hc.2 _ (mem_getD hj)
      have hoa : OkC (a.getD i 0) := ha.2 _ (mem_getD hi)
      have hlen : (inn (c.getD j 0) a (out a c j).1 j i).2.2.2.length = a.length := by rw [inn_len, out_len]
      refine HB_cons (HS_assign (HE_bin (HE_name _ (by walk_at "lk") ?_)))
      refine HE_callF 16 G (by rfl) (by rfl) fun fs hfs => ?_
      refine HL_cons (HE_name _ (by walk_at "lk") (HL_cons (HE_subS (HE_name (.str a) (by walk_at "lk") (HE_name _ (by walk_at "lk") ⟨a, 0 + (i : Int) * 1, rfl, rfl, by omega, by omega, hla, ?_⟩)))))
      rw [show (0 : Int) + i * 1 = i by omega, itm_nat]
      refine HL_nil (HC_fn R G (fn_sub w hoc hoa) hfs (fun _ _ => trivial) ?_)
      rintro v σ' ⟨rfl, rfl⟩
      refine HBin_add ?_
      have eS : inn (c.getD j 0) a (out a c j).1 j (i + 1) = nx (c.getD j 0) (a.getD i 0) i (inn (c.getD j 0) a (out a c j).1 j i) := rfl
      simp only [nx] at eS
      generalize inn (c.getD j 0) a (out a c j).1 j i = S at *
      generalize hS' : inn (c.getD j 0) a (out a c j).1 j (i + 1) = S' at eS ⊢
      have hgd : (S.2.2.2.map AV.int)[i]? = some (.int (S.2.2.2.getD i 0)) := by
        rw [List.getElem?_map, List.getD_eq_getElem?_getD, List.getElem?_eq_getElem (by omega)]; rfl
      refine HB_cons (HS_assign (HE_subI (HE_name (.ref l) (by walk_at "lk") (HE_name _ (by walk_at "lk") ⟨l, S.2.2.2.map .int, i, _, rfl, rfl, .inr (.inl (by simp)), hgd, by have := ha.1; omega, ?_⟩))))
      refine HB_cons (HS_assign (HE_bin ?_))
      refine HE_callB "min" G (by decide) (by rfl) (by rfl) (by rfl) (HL_cons (HE_name _ (by walk_at "lk") (HL_cons (HE_name _ (by walk_at "lk") (HL_nil (HC_min R.h ?_))))))
      refine HE_glob _ G ht2 (HBin_add ?_)
      refine HB_cons (HS_assign ?_)
      refine HE_callB "min" G (by decide) (by rfl) (by rfl) (by rfl) (HL_cons (HE_name _ (by walk_at "lk") (HL_cons (HE_name _ (by walk_at "lk") (HL_nil (HC_min R.h ?_))))))
      refine HB_cons (HS_setitem (HE_name _ (by walk_at "lk") (HE_name (.ref l) (by walk_at "lk") (HE_name _ (by walk_at "lk") ⟨l, S.2.2.2.map .int, i, [_, _], [], rfl, rfl, rfl, by simpa [hlen] using hi, by have := ha.1; omega, ?_⟩))))
      refine HB_cons (HS_if (HT_cmp (HE_cmp (HE_name _ (by walk_at "lk") (HE_name _ (by walk_at "lk") (HCmp_lt ⟨_, rfl, ?_⟩))))))
      rw [← row_set]
      by_cases qm : (if S.1 + subC (c.getD j 0) (a.getD i 0) < (if S.2.2.2.getD i 0 < S.2.1 then S.2.2.2.getD i 0 else S.2.1) + 2 then S.1 + subC (c.getD j 0) (a.getD i 0) else (if S.2.2.2.getD i 0 < S.2.1 then S.2.2.2.getD i 0 else S.2.1) + 2) < S.2.2.1
      · rw [decide_eq_true qm]
        rw [if_pos qm] at eS
        subst eS
        refine ite_t (HB_cons (HS_assign (HE_name _ (by walk_at "lk") (HB_nil (HB_nil ⟨_, .refl _, ⟨by walk_at "lk", by walk_at "lk", by walk_at "lk"⟩, by walk_at "lk", by walk_at "lk", by walk_at "lk", by walk_at "lk", by walk_at "lk", by walk_at "lk", rfl⟩)))))
      · rw [decide_eq_false qm]
        rw [if_neg qm] at eS
        subst eS
        refine ite_f (HB_nil (HB_nil ⟨_, .refl _, ⟨by walk_at "lk", by walk_at "lk", by walk_at "lk"⟩, by walk_at "lk", by walk_at "lk", by walk_at "lk", by walk_at "lk", by walk_at "lk", by walk_at "lk", rfl⟩))
    · rintro m σ ⟨⟨g1, g2, g3⟩, g4, g7, g8, g9, g10, g11, rfl⟩
      refine HB_nil ?_
      refine HB_cons (HS_if (HT_cmp (HE_cmp (HE_name _ (by walk_at "lk") (HE_name _ (by walk_at "lk") (HCmp_gt ⟨_, rfl, ?_⟩))))))
      by_cases qm : mx < mn a c j
      · rw [decide_eq_true (show mx < (inn (c.getD j 0) a (out a c j).1 j a.length).2.2.1 from qm)]
        refine ite_t (HB_cons (HS_return (HE_bin (HE_name _ (by walk_at "lk") (HE_int (HBin_add ⟨_, .refl _, ?_⟩))))))
        have : ((List.range c.length).any fun j => decide (mx < mn a c j)) = true := by
          rw [List.any_eq_true]; exact ⟨j, by simpa using hj, by simpa using qm⟩
        rw [if_pos this] at k
        exact k _ _
      · rw [decide_eq_false (show ¬ mx < (inn (c.getD j 0) a (out a c j).1 j a.length).2.2.1 from qm)]
        refine ite_f (HB_nil (HB_nil ⟨_, .refl _, ⟨g1, g2, g3⟩, g4, g10, rfl, fun j' hj' => ?_⟩))
        rcases Nat.lt_or_ge j' j with h | h
        · exact g6 j' h
        · obtain rfl : j' = j := by omega
          exact qm
  · rintro m σ ⟨⟨g1, g2, g3⟩, g4, g5, rfl, g6⟩
    have : ¬ ((List.range c.length).any fun j => decide (mx < mn a c j)) = true := by
      rw [List.any_eq_true]
      rintro ⟨j, hj, h⟩
      exact g6 j (by simpa using hj) (by simpa using h)
    rw [if_neg this] at k
    exact HB_nil (HB_cons (HS_return (HE_name _ g5 (k _ _))))
end
end Mine
end
section
open PySem PySem.W PyProof.Rows PySem.Calls PySem.Spec
namespace Mine
section
variable {w : World} {A : Around} {b : Shared} {env : Env} {L : Addr} {m : Loc} {σ : Cells} {mg mb : PySem.Str → Option Value}
local macro_rules | `(tactic| walk_at "lk") => `(tactic| ((repeat (first | with_reducible assumption | with_reducible exact lookup_put_eq | with_reducible refine (lookup_put_ne (by decide)).trans ?_)); first | done | exact lookup_put_eq | rfl))

theorem strip_sub (a c : List Nat) : ((strip a c).1.Sublist a) ∧ ((strip a c).2.Sublist c) :=
  ⟨(List.take_sublist _ _).trans (List.drop_sublist _ _), (List.take_sublist _ _).trans (List.drop_sublist _ _)⟩
theorem lenOk.sub {a c : List Nat} (h : lenOk a) (s : c.Sublist a) : lenOk c := ⟨Nat.le_trans s.length_le h.1, fun x hx => h.2 x (s.subset hx)⟩
theorem not_nil {x : List Nat} : (!!x.isEmpty) = decide (x = []) := by cases x <;> simp

theorem HT_same {e : Expr} {Q : Bool → Loc → Cells → Prop} (c : Bool) (h : HT w A b env e m σ (fun c' m₁ σ₁ => c' = c ∧ m₁ = m ∧ σ₁ = σ)) (k : Q c m σ) : HT w A b env e m σ Q :=
  h.mono fun c' m₁ σ₁ ⟨e1, e2, e3⟩ => by subst e1 e2 e3; exact k
theorem w_lev {f cd} {a c : List Nat} {mx : Int} {Q : FL → Loc → Cells → Prop} (R : Rm 1 A) (G : GB w mg mb b.heap) (ha : lenOk a) (hc : lenOk c) (hm : LV m a c mx)
    (fin : ∀ m' σ', Q (.ret (.int (lev a c mx))) m' σ') : HB w A b (envOf "_levenshtein_distance" sc17 L f cd) bd17 m [] Q := by
  obtain ⟨f1, f2, f3⟩ := id hm
  refine HB_cons (HS_if (HT_cmp (HE_cmp (HE_name _ f1 (HE_name _ f2 (HCmp_seq ⟨_, rfl, ?_⟩))))))
  unfold lev at fin
  by_cases q : a = c
  · rw [decide_eq_true q]
    rw [if_pos q] at fin
    exact ite_t (HB_cons (HS_return (HE_int (fin _ _))))
  rw [decide_eq_false q]
  rw [if_neg q] at fin
  refine ite_f (HB_nil ?_)
  refine w_strip ha.1 hc.1 ⟨f1, f2, f3⟩ fun m hm => ?_
  have hs := strip_sub a c
  have h1 := ha.sub hs.1
  have h2 := hc.sub hs.2
  dsimp only at fin
  generalize (strip a c).1 = a' at *
  generalize (strip a c).2 = c' at *
  have hl1 := le_line h1.1
  have hl2 := le_line h2.1
  obtain ⟨g1, g2, g3⟩ := id hm
  obtain ⟨t2, ht2⟩ := G.c2
  obtain ⟨t40, ht40⟩ := G.c40
  refine HB_cons (HS_if (HT_same (decide (a' = [] ∨ c' = [])) ?_ ?_))
  · refine HT_or (HA_or (HT_not (HT_val (HE_name _ g1 (HTr_str hl1 ?_)))))
    rw [not_nil]
    by_cases q1 : a' = []
    · rw [decide_eq_true q1]
      exact ite_t ⟨by simp [q1], rfl, rfl⟩
    · rw [decide_eq_false q1]
      refine ite_f (HA_or (HT_not (HT_val (HE_name _ g2 (HTr_str hl2 ?_)))))
      rw [not_nil]
      by_cases q2 : c' = []
      · rw [decide_eq_true q2]
        exact ite_t ⟨by simp [q2], rfl, rfl⟩
      · rw [decide_eq_false q2]
        exact ite_f (HA_or_nil ⟨by simp [q1, q2], rfl, rfl⟩)
  by_cases q1 : a' = [] ∨ c' = []
  · rw [decide_eq_true q1]
    rw [if_pos q1] at fin
    refine ite_t (HB_cons (HS_return (HE_bin (HE_glob _ G ht2 (HE_bin ?_)))))
    refine HE_callB "len" G (by decide) (by rfl) (by rfl) (by rfl) (HL_cons (HE_name _ g1 (HL_nil (HC_lenS hl1 ?_))))
    refine HE_callB "len" G (by decide) (by rfl) (by rfl) (by rfl) (HL_cons (HE_name _ g2 (HL_nil (HC_lenS hl2 ?_))))
    exact HBin_add (HBin_mul (.of_left (by decide)) (fin _ _))
  rw [decide_eq_false q1]
  rw [if_neg q1] at fin
  refine ite_f (HB_nil ?_)
  have n1 : a' ≠ [] := fun e => q1 (.inl e)
  have n2 : c' ≠ [] := fun e => q1 (.inr e)
  refine HB_cons (HS_if (HT_same false ?_ ?_))
  · refine HT_or (HA_or (HT_cmp (HE_cmp ?_)))
    refine HE_callB "len" G (by decide) (by rfl) (by rfl) (by rfl) (HL_cons (HE_name _ g1 (HL_nil (HC_lenS hl1 ?_))))
    refine HE_glob _ G ht40 (HCmp_gt ⟨_, rfl, ?_⟩)
    rw [decide_eq_false (by have := h1.1; omega)]
    refine ite_f (HA_or (HT_cmp (HE_cmp ?_)))
    refine HE_callB "len" G (by decide) (by rfl) (by rfl) (by rfl) (HL_cons (HE_name _ g2 (HL_nil (HC_lenS hl2 ?_))))
    refine HE_glob _ G ht40 (HCmp_gt ⟨_, rfl, ?_⟩)
    rw [decide_eq_false (by have := h2.1; omega)]
    exact ite_f (HA_or_nil ⟨rfl, rfl, rfl⟩)
  refine ite_f (HB_nil ?_)
  refine HB_cons (HS_if (HT_cmp (HE_cmp ?_)))
  refine HE_callB "len" G (by decide) (by rfl) (by rfl) (by rfl) (HL_cons (HE_name _ g2 (HL_nil (HC_lenS hl2 ?_))))
  refine HE_callB "len" G (by decide) (by rfl) (by rfl) (by rfl) (HL_cons (HE_name _ g1 (HL_nil (HC_lenS hl1 ?_))))
  refine HCmp_lt ⟨_, rfl, ?_⟩
  by_cases q2 : c'.length < a'.length
  · rw [decide_eq_true (by omega)]
    rw [if_pos q2] at fin
    refine ite_t (HB_cons (HS_swap R.h g1 g2 (HB_nil ?_)))
    exact w_tab R G h2 h1 n2 n1 ⟨by walk_at "lk", by walk_at "lk", by walk_at "lk"⟩ rfl fin
  · rw [decide_eq_false (by omega)]
    rw [if_neg q2] at fin
    refine ite_f (HB_nil ?_)
    exact w_tab R G h1 h2 n1 n2 ⟨g1, g2, g3⟩ rfl fin

theorem fn_lev (w : World) {mg mb : PySem.Str → Option Value} {a c : List Nat} {mx : Int} (ha : lenOk a) (hc : lenOk c) :
    Fn w mg mb "_levenshtein_distance" 2 [.str a, .str c, .int mx] (fun _ => True) (fun v σ => v = .int (lev a c mx) ∧ σ = []) := by
  refine Fn_of_body 17 (a := ((fnRec 17).get some17).2.1) (bd := bd17) (sc := sc17) (by rfl) ?_ ?_
  · intro pm cd doc as ha
    obtain ⟨v, u, x, rfl, e1, e2, e3⟩ := map_three ha
    rfl
  · intro A s L f cd R G _
    exact w_lev R G ha hc ⟨by rfl, by rfl, by rfl⟩ fun m' σ' => ⟨_, rfl, [], List.nil_sublist _, rfl, rfl⟩
end
end Mine
end
section
open PySem PySem.W PyProof.Rows PySem.Calls PySem.Spec
namespace Mine
section
variable {w : World} {A : Around} {b : Shared} {env : Env} {L : Addr} {m : Loc} {σ : Cells} {Q : AV → Loc → Cells → Prop} {mg mb : PySem.Str → Option Value}
local macro_rules | `(tactic| walk_at "lk") => `(tactic| ((repeat (first | with_reducible assumption | with_reducible exact lookup_put_eq | with_reducible refine (lookup_put_ne (by decide)).trans ?_)); first | done | exact lookup_put_eq | rfl))

theorem next_special {s : Shared} {E : Value → Shared → Prop} {it l : Addr} {i : Nat} {items : Array Value} {x : Value} {Q : Option Value → Shared → Prop} (hit : s.heap.IsListIter it l i) (hl : s.heap.IsList l items) (hx : items[i]? = some x)
    (hQ : ∀ h', h'.IsListIter it l (i + 1) → Heap.SameBut it s.heap h' → Q (some x) { s with heap := h' }) : wpAny (model PW w) A (callSpecial? (.ref it) (Str.ofString "__next__")) Q E s := by
  obtain ⟨o, ho, hc, hd⟩ := id hit
  obtain ⟨ol, hol, _, nl, hdl⟩ := hl
  refine wpAny_callSpecial?_slot (name := Str.ofString "__next__") hit.typeIs slot_listiter_next
    (wpAny_call_entry slot_listiter_next hit.typeIs entry_listiter_next ?_ (args_listiter_next _))
  show wpAny _ _ (field (.ref it) 0 >>= _) _ _ s
  refine wpAny_bind (wpAny_field ho hd (x := .ref l) rfl ?_)
  show wpAny _ _ (if (Value.ref l == Value.none) = true then _ else _) _ _ s
  rw [if_neg (show ¬ ((Value.ref l == Value.none) = true) from Bool.false_ne_true)]
  show wpAny _ _ (field (.ref it) 1 >>= _) _ _ s
  refine wpAny_bind (wpAny_field ho hd (x := .int i 0) rfl ?_)
  show wpAny _ _ (seqItems? (.ref l) >>= _) _ _ s
  refine wpAny_bind (wpAny_seqItems hol hdl ?_)
  simp only [Int.toNat_natCast, hx]
  refine wpAny_bind (wpAny_setField ho hd (by simp) (wpAny_pure ⟨x, rfl, hQ _ ?_ (Heap.SameBut.update ..)⟩))
  exact ⟨_, Heap.get?_update_self _ ho (Obj.isFreed_of_fields (Obj.data_mapFields hd _)), (Obj.cls_mapFields ..).trans hc, by
    rw [Obj.data_mapFields hd]; simp [rawInt]⟩
theorem HC_next {It l : Addr} {i : Nat} {vs : List AV} {x : AV} (pre post : Cells) (hσ : σ = pre ++ (It, .liter l i) :: post) (hl : HasL b σ l vs) (hx : vs[i]? = some x)
    (h : Q x m (pre ++ (It, .liter l (i + 1)) :: post)) : HC w A b L (.builtin "next") [.ref It] m σ Q := fun as ha s I => by
  obtain ⟨v, rfl, e⟩ := map_one ha
  obtain rfl := er_ref e
  obtain ⟨xs, hL, hq⟩ := hl.sat I
  subst hσ
  have hit : s.heap.IsListIter It l i := I.cells (It, .liter l i) (by simp)
  obtain ⟨y, hy, rfl⟩ : ∃ y, xs[i]? = some y ∧ er y = x := by
    rw [← hq] at hx
    simpa [List.getElem?_map] using hx
  refine PySem.Calls.call_function_entry (by decide +kernel) (by decide +kernel) kdk_entry_next (kdk_args_next _) ?_
  unfold Builtin.«next»
  refine wpAny_bind (m := someArgs "next" 1 2 _) (wpAny_of_eq (a := [Value.ref It]) (by first | rfl | kernel_rfl!) ?_)
  dsimp only
  refine wpAny_bind (wpAny_specialOf (name := Str.ofString "__next__") hit.typeIs slot_listiter_next.lookup ?_)
  refine wpAny_ite_split (fun hab => absurd hab (by decide)) (fun _ => ?_)
  refine wpAny_bind (next_special hit hL hy fun h' hit' hsb => ?_)
  have kk : ∀ d o, d ≠ It → s.heap.get? d = some o → h'.get? d = some o := fun d o hd e => hsb.extBut d o hd e
  exact wpAny_pure ⟨_, rfl, m, _, Inv.turn (tk := s.toks) (c' := .liter l (i + 1)) I kk hit', Ext.turn (tk := s.toks) kk, h⟩
theorem HC_iterL {l : Addr} {vs : List AV} (hl : HasL b σ l vs) (h : ∀ I, Q (.ref I) m ((I, .liter l 0) :: σ)) : HC w A b L (.builtin "iter") [.ref l] m σ Q := fun as ha s I => by
  obtain ⟨v, rfl, e⟩ := map_one ha
  obtain rfl := er_ref e
  obtain ⟨xs, hL, hq⟩ := hl.sat I
  refine PySem.Calls.call_function_entry (by decide +kernel) (by decide +kernel) kdk_entry_iter (kdk_args_iter _) ?_
  unfold Builtin.«iter»
  refine wpAny_bind (m := someArgs "iter" 1 2 _) (wpAny_of_eq (a := [Value.ref l]) (by first | rfl | kernel_rfl!) ?_)
  show wpAny _ _ (pyIter (.ref l) >>= _) _ _ _
  refine wpAny_bind (wpAny_pyIter_list hL ?_)
  refine wpAny_pure ⟨_, rfl, ?_⟩
  exact PG.new (c := .liter l 0) I ⟨_, s.toks, rfl, fun _ _ e => Heap.get?_push_of_some _ e⟩ (new_of s) ⟨_, Heap.get?_push_size _ rfl, rfl, rfl⟩ (h _)

/-- the number that digits make -/
def num : List Nat → Nat → Nat
  | [], v => v
  | d :: r, v => num r (v * 64 + d % 64)
theorem and64 : ∀ d : Fin 128, Builtin.bitAnd ((d : Nat) : Int) 64 = if 64 ≤ (d : Nat) then 64 else 0 := by decide +kernel
theorem or_dig {v u : Nat} (hu : u < 64) : Builtin.bitOr ((v : Int) * 64) (u : Int) = ((v * 64 + u : Nat) : Int) := by
  rw [bitOr_and, bitAnd_pp (by omega) (by omega)]
  have e : ((v : Int) * 64).toNat &&& ((u : Int)).toNat = 0 := by
    rw [show ((v : Int) * 64).toNat = v * 64 by omega, show ((u : Int)).toNat = u by omega]
    have h1 : u = 63 &&& u := by
      rw [Nat.and_comm, show (63 : Nat) = 2 ^ 6 - 1 from rfl, Nat.and_two_pow_sub_one_eq_mod]; omega
    rw [h1, ← Nat.and_assoc, show (63 : Nat) = 2 ^ 6 - 1 from rfl, Nat.and_two_pow_sub_one_eq_mod, show v * 64 % 2 ^ 6 = 0 by omega]
    simp
  rw [e]; push_cast; omega
theorem num_snoc {d : Nat} : ∀ {l : List Nat} {v : Nat}, num (l ++ [d]) v = num l v * 64 + d % 64
  | [], v => rfl
  | x :: r, v => num_snoc (l := r)
theorem num_lt : ∀ (l : List Nat) (v : Nat), num l v < (v + 1) * 64 ^ l.length
  | [], v => by simp [num]
  | d :: r, v => by
    have h := num_lt r (v * 64 + d % 64)
    have h2 : (v * 64 + d % 64 + 1) * 64 ^ r.length ≤ ((v + 1) * 64) * 64 ^ r.length := Nat.mul_le_mul_right _ (by have := Nat.mod_lt d (show 64 > 0 by decide); omega)
    have h3 : ((v + 1) * 64) * 64 ^ r.length = (v + 1) * 64 ^ (d :: r).length := by
      rw [List.length_cons, Nat.pow_succ, Nat.mul_assoc, Nat.mul_comm 64]
    show num r (v * 64 + d % 64) < _
    omega
theorem take_get {l : List Nat} {k : Nat} (h : k < l.length) : l.take (k + 1) = l.take k ++ [l.getD k 0] := by
  rw [List.take_succ, List.getD_eq_getElem?_getD, List.getElem?_eq_getElem h]; rfl
end
section
variable {w : World} {A : Around} {b : Shared} {env : Env} {L : Addr} {m : Loc} {σ : Cells} {Q : AV → Loc → Cells → Prop} {mg mb : PySem.Str → Option Value}
local macro_rules | `(tactic| walk_at "lk") => `(tactic| ((repeat (first | with_reducible assumption | with_reducible exact lookup_put_eq | with_reducible refine (lookup_put_ne (by decide)).trans ?_)); first | done | exact lookup_put_eq | rfl))
theorem some3 : (fnRec 3).isSome = true := by rfl
abbrev bd3 : List Stmt := ((fnRec 3).get some3).2.2.1
abbrev sc3 : Scope := ((fnRec 3).get some3).2.2.2
/-- digits: all but the last 64 or more -/
def Digs (ds : List Nat) : Prop := ds ≠ [] ∧ (∀ j, j + 1 < ds.length → 64 ≤ ds.getD j 0) ∧ ds.getD (ds.length - 1) 0 < 64 ∧ ∀ j, ds.getD j 0 < 128
theorem HC_varint {f It l : Addr} {i : Nat} {vs : List AV} {ds : List Nat} (R : Rm 1 A) (G : GB w mg mb b.heap) (hf : mg "_parse_varint" = some (.ref f)) (pre post : Cells) (hσ : σ = pre ++ (It, .liter l i) :: post) (hl : ∀ k, HasL b (pre ++ (It, .liter l k) :: post) l vs)
    (hd : Digs ds) (h8 : ds.length ≤ 8) (hv : ∀ j, j < ds.length → vs[i + j]? = some (.int (ds.getD j 0))) (h : Q (.int (num ds 0)) m (pre ++ (It, .liter l (i + ds.length)) :: post)) : HC w A b L (.ref f) [.ref It] m σ Q := by
  subst hσ
  obtain ⟨d1, d2, d3, d4⟩ := hd
  have hlen : 0 < ds.length := List.length_pos_iff.mpr d1
  refine HC_inline 3 (a := ((fnRec 3).get some3).2.1) (bd := bd3) (sc := sc3) R G hf (by rfl) ?_ ?_
  · intro pm cd doc as ha
    obtain ⟨v, rfl, e1⟩ := map_one ha
    rfl
  · intro A' L' cd R'
    have a63 : ∀ j, Builtin.bitAnd ((ds.getD j 0 : Nat) : Int) 63 = ((ds.getD j 0 % 64 : Nat) : Int) := fun j => by rw [bitAnd_m6]; simp
    have a64 : ∀ j, Builtin.bitAnd ((ds.getD j 0 : Nat) : Int) 64 = if 64 ≤ ds.getD j 0 then 64 else 0 := fun j => and64 ⟨_, d4 j⟩
    refine HB_cons (HS_assign ?_)
    refine HE_callB "next" G (by decide) (by rfl) (by rfl) (by rfl) (HL_cons (HE_name (.ref It) (by rfl) (HL_nil (HC_next pre post rfl (hl _) (hv 0 hlen) ?_))))
    refine HB_cons (HS_assign (HE_bin (HE_name _ (by walk_at "lk") (HE_int (HBin_and ?_)))))
    rw [a63]
    refine HB_cons (HS_while (fun n m σ => ∃ k : Nat, n + k + 1 = ds.length ∧ gv m "iterator" = some (.ref It) ∧ gv m "b" = some (.int (ds.getD k 0)) ∧ gv m "val" = some (.int (num (ds.take (k + 1)) 0)) ∧ σ = pre ++ (It, .liter l (i + (k + 1))) :: post) (ds.length - 1) ⟨0, by omega, by walk_at "lk", by walk_at "lk", ?_, rfl⟩ ?_)
    · rw [take_get hlen, num_snoc]
      simp only [List.take_zero, num]
      rw [show 0 * 64 + ds.getD 0 0 % 64 = ds.getD 0 0 % 64 by omega]
      walk_at "lk"
    · rintro n m σ ⟨k, hk, g1, g2, g3, rfl⟩
      refine HT_val (HE_bin (HE_name _ g2 (HE_int (HBin_and (HTr_int ?_)))))
      rw [a64]
      by_cases q : k + 1 < ds.length
      · rw [if_pos (d2 k q), decide_eq_true (by decide)]
        refine ite_t ?_
        refine HB_cons (HS_aug _ g3 (HE_int (HIn_shl (by decide) (by decide) ?_ ?_)))
        · have b1 := num_lt (ds.take (k + 1)) 0
          have b2 : (ds.take (k + 1)).length ≤ 8 := by simp; omega
          have b3 : 64 ^ (ds.take (k + 1)).length ≤ 64 ^ 8 := Nat.pow_le_pow_right (by decide) b2
          rw [Int.natAbs_natCast]
          have b4 : (64 : Nat) ^ 8 < 2 ^ 64 := by decide
          omega
        refine HB_cons (HS_assign ?_)
        refine HE_callB "next" G (by decide) (by rfl) (by rfl) (by rfl) (HL_cons (HE_name (.ref It) (by walk_at "lk") (HL_nil (HC_next pre post rfl (hl _) (hv (k + 1) q) ?_))))
        refine HB_cons (HS_aug _ (by walk_at "lk") (HE_bin (HE_name _ (by walk_at "lk") (HE_int (HBin_and (HIn_or (HB_nil ?_)))))))
        refine ⟨n - 1, by omega, k + 1, by omega, by walk_at "lk", by walk_at "lk", ?_, rfl⟩
        rw [a63, show ((2 : Int) ^ (6 : Int).toNat) = 64 by decide, or_dig (Nat.mod_lt _ (by decide)), ← num_snoc, ← take_get q]
        walk_at "lk"
      · have ek : k = ds.length - 1 := by omega
        have e64 : ¬ 64 ≤ ds.getD k 0 := by rw [ek]; omega
        rw [if_neg e64, decide_eq_false (by decide)]
        refine ite_f (HB_nil (HB_cons (HS_return (HE_name _ g3 ⟨_, rfl, _, .refl _, ?_⟩))))
        have e : k + 1 = ds.length := by omega
        rw [e, List.take_length]
        exact h
end
end Mine
end
section
open PySem PySem.W PyProof.Rows PySem.Calls PySem.Spec
namespace Mine
section
variable {w : World} {A : Around} {b : Shared} {env : Env} {L : Addr} {m : Loc} {σ : Cells} {Q : AV → Loc → Cells → Prop} {mg mb : PySem.Str → Option Value}
local macro_rules | `(tactic| walk_at "lk") => `(tactic| ((repeat (first | with_reducible assumption | with_reducible exact lookup_put_eq | with_reducible refine (lookup_put_ne (by decide)).trans ?_)); first | done | exact lookup_put_eq | rfl))

theorem HBin_catL {l k : Addr} {vs ws : List AV} (hl : HasL b σ l vs) (hk : HasL b σ k ws) (hz : vs.length + ws.length ≤ sizeLine) (h : ∀ a, Q (.ref a) m ((a, .list (vs ++ ws)) :: σ)) : HBin w A b L .Add (.ref l) (.ref k) m σ Q := fun v u e1 e2 s I => by
  obtain rfl := er_ref e1
  obtain rfl := er_ref e2
  obtain ⟨xs, p1, q1⟩ := hl.sat I
  obtain ⟨ys, p2, q2⟩ := hk.sat I
  obtain ⟨⟨cls, dd, data, sl⟩, ho, hc, n, hd⟩ := id p1
  obtain ⟨⟨cls2, dd2, data2, sl2⟩, ho2, hc2, n2, hd2⟩ := id p2
  simp only at hc hd hc2 hd2
  subst hc hd hc2 hd2
  have hsz : xs.size + ys.size ≤ sizeLine := by
    have e1 : xs.size = vs.length := by rw [← q1]; simp
    have e2 : ys.size = ws.length := by rw [← q2]; simp
    omega
  refine concat_meets ⟨_, ho, rfl⟩ ⟨_, ho2, rfl⟩ noFill_list_add seq_list_add PySem.F.slot_list_add PySem.F.entry_list_add (PySem.F.args_list_add_2 _ _) (list_addW l k xs ys n n2 dd dd2 sl sl2 hsz) ⟨ho, ho2, ?_⟩
  exact PG.new (c := .list (vs ++ ws)) I ⟨_, s.toks, rfl, fun _ _ e => Heap.get?_push_of_some _ e⟩ (new_of s) ⟨_, ⟨0, Heap.get?_push_size _ rfl⟩, by simp [q1, q2]⟩ (h _)
theorem HL_int_ {i : Int} {k : Nat} {p : Pos} : HE w A b env (.Constant (.int i) k p) m σ (fun v m₁ σ₁ => v = .int i ∧ m₁ = m ∧ σ₁ = σ) := HE_int ⟨rfl, rfl, rfl⟩
theorem dig_str : ∀ d : Fin 10, (Str.ofString (toString ((d : Nat) : Int))).cps.toList = [48 + (d : Nat)] := by decide +kernel
theorem HC_strI {d : Nat} (hd : d < 10) (h : Q (.str [48 + d]) m σ) : HC w A b L (.type "str") [.int d] m σ Q := fun as ha s I => by
  obtain ⟨v, rfl, e⟩ := map_one ha
  obtain ⟨t, rfl⟩ := er_int e
  refine P.str_of_int ?_ (PG.grow I .tok ?_)
  · rw [Int.natAbs_natCast]
    have : d.log2 ≤ d := Nat.log2_le_self d
    omega
  · have := dig_str ⟨d, hd⟩
    simp only [er]
    rw [this]; exact h

def intsOf : List Expr → Option (List Int)
  | [] => some []
  | .Constant (.int i) _ _ :: r => (intsOf r).map (i :: ·)
  | _ => none
theorem HL_ints {p : Pos} {elts : List Expr} : ∀ {is : List Int} {Q : List AV → Loc → Cells → Prop}, intsOf elts = some is → Q (is.map .int) m σ → HL w A b env.locals (backTo p (starEach elts env)) m σ Q := by
  induction elts with
  | nil => intro is Q h q; cases h; exact HL_nil q
  | cons e r ih =>
    intro is Q h q
    unfold intsOf at h
    split at h
    · contradiction
    · rename_i e1 i k pp r' hc
      obtain ⟨rfl, rfl⟩ := List.cons.inj hc
      cases hr : intsOf r with
      | none => rw [hr] at h; cases h
      | some is' =>
        rw [hr] at h; cases h
        exact HL_cons (t := eval (.Constant (.int i) k pp) env) (H.mono HL_int_ fun v m₁ σ₁ x => by obtain ⟨rfl, rfl, rfl⟩ := x; exact ih hr q)
    · cases h
theorem HE_ints {elts : List Expr} {is : List Int} {pos : Pos} (hi : intsOf elts = some is) (hz : is.length ≤ sizeLine) (h : ∀ a, Q (.ref a) m ((a, .list (is.map .int)) :: σ)) : HE w A b env (.List elts pos) m σ Q :=
  HE_list rfl (HL_ints hi ⟨by simpa using hz, h⟩)
theorem fmod27 (n : Int) : 0 ≤ n.fmod 27 ∧ n.fmod 27 < 27 := by
  rw [Int.fmod_eq_emod_of_nonneg _ (by decide)]; omega
theorem b1_get {i : Nat} (h : i < 27) : (b1.map fun (c : Nat) => AV.int (c : Int))[i]? = some (.int ((b1.getD i 0 : Nat) : Int)) ∧ b1.getD i 0 ∈ b1 := by
  have hl : b1.length = 27 := rfl
  refine ⟨?_, mem_getD (by omega)⟩
  rw [List.getElem?_map, List.getD_eq_getElem?_getD, List.getElem?_eq_getElem (by omega)]; rfl
theorem b1_chr : ∀ c ∈ b1, c ≤ 1114111 := by decide
theorem some19 : (fnRec 19).isSome = true := by rfl
theorem fn_unseen (w : World) {mg mb : PySem.Str → Option Value} {n : Int} : Fn w mg mb "_law_unseen" 1 [.int n] (fun _ => True) (fun v σ => σ = [] ∧ ∃ u ∈ b1, v = .str [u]) := by
  refine Fn_of_body 19 (by rfl) ?_ ?_
  · intro pm cd doc as ha
    obtain ⟨v, rfl, e1⟩ := map_one ha
    rfl
  · intro A s L f cd R G _
    refine HB_cons ?_
    refine HS_assign ?_
    refine HE_bin ?_
    with_reducible refine HE_ints (is := [173, 847, 6150, 6155, 6156, 6157, 8203, 8204, 8205, 8288, 65279]) ?_ ?_ fun l1 => ?_
    · rfl
    · decide
    refine HE_callT "list" G (by decide) (by rfl) (by rfl) (by rfl) (HL_cons ?_)
    refine HE_callT "range" G (by decide) (by rfl) (by rfl) (by rfl) ?_
    refine HL_cons (HE_int (k := 0) (pos := default) (HL_cons (HE_int (k := 0) (pos := default) (HL_nil (HC_range2 fun r => ?_)))))
    refine HL_nil (HC_listRange (n := 16) R.h (.inl (.head _)) (by rfl) (by rfl) (by decide) fun l2 => ?_)
    refine HBin_catL (.inl (.inl (.tail _ (.tail _ (.head _))))) (.inr (.inl (.head _))) ?_ fun l3 => ?_
    · rw [sizeLine_eq]; decide
    obtain ⟨h0, h1⟩ := fmod27 n
    obtain ⟨i, hi⟩ := Int.eq_ofNat_of_zero_le h0
    obtain ⟨g1, g2⟩ := b1_get (i := i) (by omega)
    refine HB_cons (HS_return ?_)
    refine HE_callB "chr" G (by decide) (by rfl) (by rfl) (by rfl) (HL_cons ?_)
    refine HE_subI (HE_name _ (by walk_at "lk") (HE_bin (HE_name (.int n) (by rfl) (HE_int (HBin_mod (by decide) ?_)))))
    refine ⟨l3, _, i, .int ((b1.getD i 0 : Nat) : Int), rfl, ?_, .inl (.inl (.head _)), ?_, by omega, ?_⟩
    · rw [hi]
    · rw [← g1]; rfl
    refine HL_nil (HC_chr (by omega) (by have := b1_chr _ g2; omega) ⟨_, rfl, [], List.nil_sublist _, rfl, _, g2, ?_⟩)
    simp
end
end Mine
end
section
open PySem PySem.W PyProof.Rows PySem.Calls PySem.Spec
namespace Mine
/-- a letter: first, second, small -/
def okT (t : Nat × Nat × Nat) : Prop := 97 ≤ t.2.2 ∧ t.2.2 ≤ 122 ∧ (t.1 = t.2.2 ∨ t.1 + 32 = t.2.2) ∧ (t.2.1 = t.2.2 ∨ t.2.1 + 32 = t.2.2)
structure Pc where
  ts : List (Nat × Nat × Nat)
  un : List Nat
  fig : Nat
  rm : List Nat
abbrev Pc.first (p : Pc) : List Nat := p.ts.map (·.1)
abbrev Pc.second (p : Pc) : List Nat := p.ts.map (·.2.1)
abbrev Pc.small (p : Pc) : List Nat := p.ts.map (·.2.2)
structure Pc.Ok (p : Pc) : Prop where
  len : p.ts.length ≤ 4
  ts : ∀ t ∈ p.ts, okT t
  un : p.un = [] ∨ ∃ u ∈ b1, p.un = [u]
  fig : 48 ≤ p.fig ∧ p.fig ≤ 57
  rm : p.rm = [] ∨ p.rm = [34, 92, 34, 34] ∨ p.rm = [34, p.fig, 34]
section
variable {w : World} {A : Around} {b : Shared} {env : Env} {L : Addr} {m : Loc} {σ : Cells} {Q : AV → Loc → Cells → Prop} {mg mb : PySem.Str → Option Value}
local macro_rules | `(tactic| walk_at "lk") => `(tactic| ((repeat (first | with_reducible assumption | with_reducible exact lookup_put_eq | with_reducible refine (lookup_put_ne (by decide)).trans ?_)); first | done | exact lookup_put_eq | rfl))

theorem fm {r k : Nat} {K : Int} (h : K = k) : (r : Int).fmod K = ((r % k : Nat) : Int) := by
  subst h; rw [Int.fmod_eq_emod_of_nonneg _ (by omega)]; simp
theorem fd {r k : Nat} {K : Int} (h : K = k) : (r : Int).fdiv K = ((r / k : Nat) : Int) := by
  subst h; rw [Int.fdiv_eq_ediv_of_nonneg _ (by omega)]; simp
theorem HBin_modN {r : Nat} {K : Int} (k : Nat) (hK : K = k) (hk : k ≠ 0) (h : Q (.int ((r % k : Nat) : Int)) m σ) : HBin w A b L .Mod (.int (r : Int)) (.int K) m σ Q :=
  HBin_mod (by subst hK; omega) (by rw [fm hK]; exact h)
theorem HBin_divN {r : Nat} {K : Int} (k : Nat) (hK : K = k) (hk : k ≠ 0) (hs : k < 1073741824) (h : Q (.int ((r / k : Nat) : Int)) m σ) : HBin w A b L .FloorDiv (.int (r : Int)) (.int K) m σ Q :=
  HBin_div (by subst hK; omega) (PyProof.noPylong_small (by subst hK; omega)) (by rw [fd hK]; exact h)
theorem HIn_divN {r : Nat} {K : Int} (k : Nat) (hK : K = k) (hk : k ≠ 0) (hs : k < 1073741824) (h : Q (.int ((r / k : Nat) : Int)) m σ) : HIn w A b L .FloorDiv (.int (r : Int)) (.int K) m σ Q :=
  HIn_div (by subst hK; omega) (PyProof.noPylong_small (by subst hK; omega)) (by rw [fd hK]; exact h)
theorem emp : (Str.ofString "").cps.toList = [] := by decide +kernel
theorem quo : (Str.ofString "\"").cps.toList = [34] := by decide +kernel
theorem bsq : (Str.ofString "\\\"").cps.toList = [92, 34] := by decide +kernel
theorem some20 : (fnRec 20).isSome = true := by rfl
abbrev bd20 : List Stmt := ((fnRec 20).get some20).2.2.1
abbrev sc20 : Scope := ((fnRec 20).get some20).2.2.2
theorem pow14 : ((10 : Int) ^ ((14 : Int).toNat)) = 100000000000000 := by decide
theorem fmod14 (n : Int) : ∃ r : Nat, n.fmod 100000000000000 = (r : Int) := by
  rw [Int.fmod_eq_emod_of_nonneg _ (by decide)]
  exact ⟨(n % 100000000000000).toNat, by omega⟩
theorem np {x : Int} {k : Int} (h : k.natAbs < 1073741824 := by decide) : Builtin.divisionGoesByPylong x k = false := PyProof.noPylong_small h

theorem w_piece {f cd} {n : Int} {Q : FL → Loc → Cells → Prop} (R : Rm 1 A) (G : GB w mg mb b.heap) (hm : gv m "number" = some (.int n))
    (fin : ∀ p : Pc, p.Ok → ∀ i o m' σ', Q (.ret (.ref o)) m' ((o, .list [.ref i, .str p.un, .str [p.fig], .str p.rm]) :: (i, .list [.str p.first, .str p.second, .str p.small]) :: σ')) :
    HB w A b (envOf "_law_piece" sc20 L f cd) bd20 m [] Q := by
  refine HB_cons (HS_assign (HE_bin (HE_bin (HE_name _ hm (HE_int (HBin_mul (.of_right (by decide)) (HE_bin (HE_int (HE_int (HBin_pow (by decide) (by decide) (by decide) ?_))))))))))
  rw [pow14]
  refine HBin_mod (by decide) ?_
  obtain ⟨v, hv⟩ := fmod14 (n * 73687874321237)
  rw [hv]
  refine HB_cons (HS_assign (HE_bin (HE_name (.int v) (by walk_at "lk") (HE_int (HBin_modN 5 rfl (by decide) ?_)))))
  refine HB_cons (HS_aug (.int v) (by walk_at "lk") (HE_int (HIn_divN 5 rfl (by decide) (by decide) ?_)))
  refine HB_cons (HS_assign (HE_str ?_))
  refine HB_cons (HS_assign (HE_str ?_))
  refine HB_cons (HS_assign (HE_str ?_))
  rw [emp]
  refine HB_cut (fun m σ => σ = [] ∧ ∃ r : Nat, ∃ ts : List (Nat × Nat × Nat), ts.length = v % 5 ∧ (∀ t ∈ ts, okT t) ∧ gv m "rest" = some (.int r) ∧ gv m "first" = some (.str (ts.map (·.1))) ∧ gv m "second" = some (.str (ts.map (·.2.1))) ∧ gv m "small" = some (.str (ts.map (·.2.2)))) (HS_for (v % 5) (fun i => .int (0 + i * 1)) (fun i => .riter (0 + (i : Nat) * 1) ((v % 5 : Nat) - (i : Nat)) 1)
    (fun i m σ => σ = [] ∧ ∃ r : Nat, ∃ ts : List (Nat × Nat × Nat), ts.length = i ∧ (∀ t ∈ ts, okT t) ∧ gv m "rest" = some (.int r) ∧ gv m "first" = some (.str (ts.map (·.1))) ∧ gv m "second" = some (.str (ts.map (·.2.1))) ∧ gv m "small" = some (.str (ts.map (·.2.2)))) (itr_range R.h) ?_ ?_ ?_) ?_
  · refine HE_callT "range" G (by decide) (by rfl) (by rfl) (by rfl) ?_
    refine HL_cons (HE_name (.int (v % 5 : Nat)) (by walk_at "lk") (HL_nil (HC_range1 fun r' => ?_)))
    obtain ⟨s1, s2⟩ := rg1 (n := v % 5) (by omega)
    refine ⟨starts_range (.inl (.head _)) s1 s2, _, List.sublist_cons_self _ _, rfl, v / 5, [], rfl, fun t h => (nomatch h), by walk_at "lk", by walk_at "lk", by walk_at "lk", by walk_at "lk"⟩
  · rintro I i m σ ⟨rfl, r, ts, hl, hok, g1, g2, g3, g4⟩ hi u hu
    refine H_assign ?_
    refine HB_cons (HS_assign (HE_bin (HE_int (HE_bin (HE_name (.int r) (by walk_at "lk") (HE_int (HBin_modN 26 rfl (by decide) (HBin_add ?_))))))))
    refine HB_cons (HS_assign (HE_bin (HE_bin (HE_name (.int r) (by walk_at "lk") (HE_int (HBin_divN 26 rfl (by decide) (by decide) (HE_int (HBin_modN 4 rfl (by decide) ?_))))))))
    have hl26 : r % 26 < 26 := Nat.mod_lt _ (by decide)
    have hs4 : r / 26 % 4 < 4 := Nat.mod_lt _ (by decide)
    generalize hA : r % 26 = x at *
    generalize hB : r / 26 % 4 = y at *
    have hz : ts.length ≤ 5 := by omega
    refine HB_cons (HS_aug (.str (ts.map (·.1))) (by walk_at "lk") ?_)
    refine HE_callB "chr" G (by decide) (by rfl) (by rfl) (by rfl) (HL_cons ?_)
    refine HE_bin (HE_name (.int (97 + (x : Int))) (by walk_at "lk") (HE_bin (HE_int (HE_bin (HE_name (.int y) (by walk_at "lk") (HE_int (HBin_modN 2 rfl (by decide) (HBin_mul (.of_left (by decide)) (HBin_sub ?_)))))))))
    refine HL_nil (HC_chr (by omega) (by omega) (HIn_cat (by simp [sizeLine_eq]; omega) ?_))
    refine HB_cons (HS_aug (.str (ts.map (·.2.1))) (by walk_at "lk") ?_)
    refine HE_callB "chr" G (by decide) (by rfl) (by rfl) (by rfl) (HL_cons ?_)
    refine HE_bin (HE_name (.int (97 + (x : Int))) (by walk_at "lk") (HE_bin (HE_int (HE_bin (HE_name (.int y) (by walk_at "lk") (HE_int (HBin_divN 2 rfl (by decide) (by decide) (HBin_mul (.of_left (by decide)) (HBin_sub ?_)))))))))
    refine HL_nil (HC_chr (by omega) (by omega) (HIn_cat (by simp [sizeLine_eq]; omega) ?_))
    refine HB_cons (HS_aug (.str (ts.map (·.2.2))) (by walk_at "lk") ?_)
    refine HE_callB "chr" G (by decide) (by rfl) (by rfl) (by rfl) (HL_cons (HE_name (.int (97 + (x : Int))) (by walk_at "lk") ?_))
    refine HL_nil (HC_chr (by omega) (by omega) (HIn_cat (by simp [sizeLine_eq]; omega) ?_))
    refine HB_cons (HS_aug (.int r) (by walk_at "lk") (HE_int (HIn_divN 104 rfl (by decide) (by decide) ?_)))
    refine HB_nil ⟨[], .refl _, rfl, r / 104, ts ++ [((97 + (x : Int) - 32 * ((y % 2 : Nat) : Int)).toNat, (97 + (x : Int) - 32 * ((y / 2 : Nat) : Int)).toNat, (97 + (x : Int)).toNat)], by simp [hl], ?_, by walk_at "lk", ?_, ?_, ?_⟩
    · intro t ht
      rcases List.mem_append.mp ht with h | h
      · exact hok t h
      · obtain rfl := List.mem_singleton.mp h
        refine ⟨?_, ?_, ?_, ?_⟩ <;> dsimp only <;> omega
    · rw [List.map_append]; walk_at "lk"
    · rw [List.map_append]; walk_at "lk"
    · rw [List.map_append]; walk_at "lk"
  · rintro m σ ⟨rfl, r, ts, hl, hok, g1, g2, g3, g4⟩
    exact HB_nil ⟨rfl, r, ts, hl, hok, g1, g2, g3, g4⟩
  rintro m σ ⟨rfl, r, ts, hl, hok, g1, g2, g3, g4⟩
  refine HB_cons (HS_assign ?_)
  refine HE_callT "str" G (by decide) (by rfl) (by rfl) (by rfl) (HL_cons (HE_bin (HE_name (.int r) g1 (HE_int (HBin_modN 10 rfl (by decide) (HL_nil (HC_strI (Nat.mod_lt _ (by decide)) ?_)))))))
  refine HB_cut (fun m' σ => σ = [] ∧ ∃ un, (un = [] ∨ ∃ u ∈ b1, un = [u]) ∧ gv m' "rest" = some (.int r) ∧ gv m' "first" = some (.str (ts.map (·.1))) ∧ gv m' "second" = some (.str (ts.map (·.2.1))) ∧ gv m' "small" = some (.str (ts.map (·.2.2))) ∧ gv m' "figure" = some (.str [48 + r % 10]) ∧ gv m' "unseen" = some (.str un)) (HS_assign (HE_ife (HT_cmp (HE_cmp (HE_bin (HE_bin (HE_name (.int r) (by walk_at "lk") (HE_int (HBin_divN 10 rfl (by decide) (by decide) (HE_int (HBin_modN 2 rfl (by decide) (HE_int (HCmp_eq ⟨_, rfl, ?_⟩))))))))))))) ?_
  · by_cases q : r / 10 % 2 = 1
    · rw [decide_eq_true (by omega)]
      refine ite_t ?_
      refine HE_callF 19 G (by rfl) (by rfl) fun fs hfs => ?_
      refine HL_cons (HE_bin (HE_name (.int r) (by walk_at "lk") (HE_int (HBin_divN 40 rfl (by decide) (by decide) ?_))))
      refine HL_nil (HC_fn R G (fn_unseen w) hfs (fun _ _ => trivial) ?_)
      rintro v σ' ⟨rfl, u, hu, rfl⟩
      exact ⟨rfl, [u], .inr ⟨u, hu, rfl⟩, by walk_at "lk", by walk_at "lk", by walk_at "lk", by walk_at "lk", by walk_at "lk", by walk_at "lk"⟩
    · rw [decide_eq_false (by omega)]
      refine ite_f (HE_str ?_)
      rw [emp]
      exact ⟨rfl, [], .inl rfl, by walk_at "lk", by walk_at "lk", by walk_at "lk", by walk_at "lk", by walk_at "lk", by walk_at "lk"⟩
  rintro m σ ⟨rfl, un, hun, g1, g2, g3, g4, g5, g6⟩
  refine HB_cons (HS_assign (HE_str ?_))
  rw [emp]
  refine HB_cut (fun m' σ => σ = [] ∧ ∃ rm, (rm = [] ∨ rm = [34, 92, 34, 34] ∨ rm = [34, 48 + r % 10, 34]) ∧ gv m' "first" = some (.str (ts.map (·.1))) ∧ gv m' "second" = some (.str (ts.map (·.2.1))) ∧ gv m' "small" = some (.str (ts.map (·.2.2))) ∧ gv m' "figure" = some (.str [48 + r % 10]) ∧ gv m' "unseen" = some (.str un) ∧ gv m' "remark" = some (.str rm)) (HS_if (HT_cmp (HE_cmp (HE_bin (HE_bin (HE_name (.int r) (by walk_at "lk") (HE_int (HBin_divN 20 rfl (by decide) (by decide) (HE_int (HBin_modN 2 rfl (by decide) (HE_int (HCmp_eq ⟨_, rfl, ?_⟩)))))))))))) ?_
  · by_cases q : r / 20 % 2 = 1
    · rw [decide_eq_true (by omega)]
      refine ite_t (HB_cons (HS_assign (HE_bin (HE_bin (HE_str (HE_ife (HT_cmp (HE_cmp (HE_bin (HE_bin (HE_name (.int r) (by walk_at "lk") (HE_int (HBin_divN 1080 rfl (by decide) (by decide) (HE_int (HBin_modN 2 rfl (by decide) (HE_int (HCmp_eq ⟨_, rfl, ?_⟩)))))))))))))))))
      rw [quo]
      by_cases q2 : r / 1080 % 2 = 1
      · rw [decide_eq_true (by omega)]
        refine ite_t (HE_str ?_)
        rw [bsq]
        refine HBin_cat (by decide) (HE_str ?_)
        rw [quo]
        refine HBin_cat (by decide) (HB_nil ⟨rfl, _, .inr (.inl rfl), by walk_at "lk", by walk_at "lk", by walk_at "lk", by walk_at "lk", by walk_at "lk", by walk_at "lk"⟩)
      · rw [decide_eq_false (by omega)]
        refine ite_f (HE_name (.str [48 + r % 10]) (by walk_at "lk") ?_)
        refine HBin_cat (by simp [sizeLine_eq]) (HE_str ?_)
        rw [quo]
        refine HBin_cat (by simp [sizeLine_eq]) (HB_nil ⟨rfl, _, .inr (.inr rfl), by walk_at "lk", by walk_at "lk", by walk_at "lk", by walk_at "lk", by walk_at "lk", by walk_at "lk"⟩)
    · rw [decide_eq_false (by omega)]
      exact ite_f (HB_nil ⟨rfl, [], .inl rfl, by walk_at "lk", by walk_at "lk", by walk_at "lk", by walk_at "lk", by walk_at "lk", by walk_at "lk"⟩)
  rintro m σ ⟨rfl, rm, hrm, g2, g3, g4, g5, g6, g7⟩
  refine HB_cons (HS_return (HE_list (by rfl) ?_))
  refine HL_cons (HE_list (by rfl) ?_)
  refine HL_cons (HE_name _ g2 (HL_cons (HE_name _ g3 (HL_cons (HE_name _ g4 (HL_nil ⟨by simp [sizeLine_eq], fun i => ?_⟩))))))
  refine HL_cons (HE_name _ g6 (HL_cons (HE_name _ g5 (HL_cons (HE_name _ g7 (HL_nil ⟨by simp [sizeLine_eq], fun o => ?_⟩))))))
  exact fin ⟨ts, un, 48 + r % 10, rm⟩ ⟨by show ts.length ≤ 4; omega, hok, hun, ⟨by show 48 ≤ 48 + r % 10; omega, by show 48 + r % 10 ≤ 57; omega⟩, hrm⟩ i o m []

theorem fn_piece (w : World) {mg mb : PySem.Str → Option Value} {n : Int} : Fn w mg mb "_law_piece" 2 [.int n] (fun _ => True) (fun v σ => ∃ p : Pc, p.Ok ∧ ∃ i o, v = .ref o ∧ σ = [(o, .list [.ref i, .str p.un, .str [p.fig], .str p.rm]), (i, .list [.str p.first, .str p.second, .str p.small])]) := by
  refine Fn_of_body 20 (a := ((fnRec 20).get some20).2.1) (bd := bd20) (sc := sc20) (by rfl) ?_ ?_
  · intro pm cd doc as ha
    obtain ⟨v, rfl, e1⟩ := map_one ha
    rfl
  · intro A s L f cd R G _
    exact w_piece R G (by rfl) fun p hp i o m' σ' => ⟨_, rfl, _, .cons₂ _ (.cons₂ _ (List.nil_sublist _)), p, hp, i, o, rfl, rfl⟩
end
end Mine
end
section
open PySem PySem.W PyProof.Rows PySem.Calls PySem.Spec
namespace Mine
section
variable {w : World} {A : Around} {b : Shared} {env : Env} {L C : Addr} {m : Loc} {σ : Cells} {s s₁ s' : Shared}

/-- a frame at C, over the same cells -/
theorem Inv.enter {mm : PySem.Str → Option Value} (I : Inv b L m σ s) (hC : s.heap.get? C = none) (g : Grown s s') (hn : s'.heap.Ns C mm) : Inv b C [] σ s' := by
  have I' := I.grow g
  have hd := I.dead hC
  refine ⟨⟨mm, hn, fun y v e => by cases e⟩, I'.cells, List.nodup_cons.mpr ⟨fun q => hd (.tail _ q), (List.nodup_cons.mp I.nd).2⟩, fun a ha => ?_, I'.keep, I'.gens, I'.drawn, I'.os⟩
  cases ha with
  | head =>
    cases q : b.heap.get? C with
    | none => rfl
    | some o => rw [I.keep _ _ q] at hC; cases hC
  | tail _ ha => exact I.new _ (.tail _ ha)
/-- and back to L -/
theorem Inv.leave {m' : Loc} {σ₁ σ' : Cells} (I : Inv b L m σ s) (hC : s.heap.get? C = none) (g : Grown s s₁) (hσ : ∀ a ∈ σ₁.map (·.1), a ∈ σ.map (·.1) ∨ s.heap.get? a = none) (I' : Inv b C m' σ' s') (X : Ext C σ₁ σ' s₁ s') :
    Inv b L m σ' s' ∧ Ext L σ σ' s s' := by
  obtain ⟨mm, hn, hm⟩ := I.ns
  have hLσ := (List.nodup_cons.mp I.nd).1
  have hLs : ∃ o, s.heap.get? L = some o := by obtain ⟨o, es, ep, ho, r⟩ := hn; exact ⟨o, ho⟩
  have hk : ∀ a o, a ∉ σ.map (·.1) → s.heap.get? a = some o → s'.heap.get? a = some o := fun a o hn e => X.kept a o (fun hm => by
    cases hm with
    | head => rw [hC] at e; cases e
    | tail _ hm =>
      rcases hσ a hm with h | h
      · exact hn h
      · rw [h] at e; cases e) (g.kept a o e)
  have back : ∀ a, s₁.heap.get? a = none → s.heap.get? a = none := fun a h => by
    cases q : s.heap.get? a with
    | none => rfl
    | some o => rw [g.kept a o q] at h; cases h
  have hfr : ∀ a ∈ σ'.map (·.1), a ∈ σ.map (·.1) ∨ s.heap.get? a = none := fun a ha => by
    rcases X.fresh a ha with h | h
    · cases h with
      | head => exact .inr hC
      | tail _ h => exact hσ a h
    · exact .inr (back a h)
  have hLn : L ∉ σ'.map (·.1) := fun hL => by
    rcases hfr L hL with h | h
    · exact hLσ h
    · obtain ⟨o, ho⟩ := hLs
      rw [ho] at h; cases h
  have eg : s₁.gens = s.gens ∧ s₁.drawn = s.drawn ∧ s₁.os = s.os := by obtain ⟨h, t, rfl, k⟩ := g; exact ⟨rfl, rfl, rfl⟩
  refine ⟨⟨⟨mm, hn.at' fun o e => hk _ o hLσ e, hm⟩, I'.cells, List.nodup_cons.mpr ⟨hLn, (List.nodup_cons.mp I'.nd).2⟩, fun a ha => ?_, I'.keep, I'.gens, I'.drawn, I'.os⟩,
    ⟨fun a o hn e => hk a o (fun q => hn (.tail _ q)) e, fun a ha => (hfr a ha).imp (.tail _) id, X.gens.trans eg.1, X.drawn.trans eg.2.1, X.os.trans eg.2.2⟩⟩
  cases ha with
  | head => exact I.new _ (.head _)
  | tail _ ha => exact I'.new _ (.tail _ ha)
/-- something else is changed -/
theorem Inv.outside {h' : Heap} {tk : Tok} (I : Inv b L m σ s) (hC : C ∉ L :: σ.map (·.1)) (hb : b.heap.get? C = none) (kk : ∀ d o, d ≠ C → s.heap.get? d = some o → h'.get? d = some o) : Inv b L m σ { s with heap := h', toks := tk } := by
  obtain ⟨⟨mm, hn, hm⟩, cs, nd, nw, kp, g1, g2, g3⟩ := I
  refine ⟨⟨mm, hn.at' fun o e => kk _ o (fun q => hC (q ▸ .head _)) e, hm⟩, fun p hp => (cs p hp).at fun o e => kk _ o (fun q => hC (q ▸ .tail _ (List.mem_map_of_mem hp))) e, nd, nw, fun a o e => kk a o (fun q => ?_) (kp a o e), g1, g2, g3⟩
  rw [q, hb] at e; cases e

/-! iterators -/
def Selfs (w : World) (A : Around) (b : Shared) (L : Addr) (c : Cell) : Prop :=
  ∀ I m σ s (Q : Value → Shared → Prop) (E : Value → Shared → Prop), Inv b L m ((I, c) :: σ) s → Q (.ref I) s → wpAny (model PW w) A (pyIter (.ref I)) Q E s
def sit (x : List Nat) (i : Nat) : Cell := .pr fun o => ∃ ty t, (ty = "str_ascii_iterator" ∨ ty = "str_iterator") ∧ o.cls = .type ty ∧ o.data = .fields #[.str (mk x) t, .int i 0]
theorem itr_walk {n : Nat} {xs : Nat → AV} {c : Nat → Cell} {J : Nat → Loc → Cells → Prop}
    (Wk : ∀ (s : Shared) (I : Addr) i m σ, J i m σ → Inv b L m ((I, c i) :: σ) s → ∃ fp P St, Walks PW w A I fp [I] n P St ∧ St i s.heap ∧ (∀ j v, P j v → er v = xs j) ∧ (∀ h', St (i + 1) h' → (c (i + 1)).Sat h' I))
    (own : ∀ (s : Shared) (I : Addr) i m σ v, Inv b L m ((I, c i) :: σ) s → ∀ tg, letOwnedTupleGo tg (.ref I) v = pure () ∨ ∀ (Q : Unit → Shared → Prop) E, Q () s → wpAny (model PW w) A (letOwnedTupleGo tg (.ref I) v) Q E s) : Itr w A b L n xs c J where
  next := fun It i m σ s hJ hi I => by
    obtain ⟨fp, P, St, W, hst, hP, hS⟩ := Wk s It i m σ hJ I
    refine W.item i s _ _ hi hst fun v h' tk hv hst' hk => ?_
    have kk : ∀ d o, d ≠ It → s.heap.get? d = some o → h'.get? d = some o := fun d o hd e => hk d o (by simpa using hd) e
    have I' : Inv b L m ((It, c (i + 1)) :: σ) { s with heap := h', toks := tk } := Inv.turn (pre := []) I kk (hS h' hst')
    exact ⟨_, rfl, hP _ _ hv, I', Ext.turn (pre := []) kk, own _ It (i + 1) m σ v I'⟩
  stop := fun It m σ s hJ I => by
    obtain ⟨fp, P, St, W, hst, hP, hS⟩ := Wk s It n m σ hJ I
    refine W.done s _ _ hst fun h' tk hk => ?_
    have kk : ∀ d o, d ≠ It → s.heap.get? d = some o → h'.get? d = some o := fun d o hd e => hk d o (by simpa using hd) e
    have z := I.pop (tk := tk) kk
    exact ⟨rfl, z.1, z.2⟩
theorem letOwned_str {tg : Expr} {I : Value} {x : PySem.Str} {t : Tok} : letOwnedTupleGo tg I (.str x t) = pure () := by
  cases tg <;> first | rfl | (cases I <;> rfl)
theorem sit_sat {h : Heap} {a : Addr} {x : List Nat} {i : Nat} : (sit x i).Sat h a ↔ ∃ ty t, (ty = "str_ascii_iterator" ∨ ty = "str_iterator") ∧ h.IsStrIter a ty (mk x) t i := by
  constructor
  · rintro ⟨o, ho, ty, t, hty, hc, hd⟩; exact ⟨ty, t, hty, o, ho, hc, hd⟩
  · rintro ⟨ty, t, hty, o, ho, hc, hd⟩; exact ⟨o, ho, ty, t, hty, hc, hd⟩
theorem sign_er {x : List Nat} {j : Nat} {v : Value} (h : SignAt (mk x) j v) : er v = .str [x.getD j 0] := by
  obtain ⟨c, u, hc, rfl⟩ := h
  have : x[j]? = some c := by simpa [mk] using hc
  simp [er, List.getD_eq_getElem?_getD, this]
theorem itr_str {x : List Nat} {J : Nat → Loc → Cells → Prop} (hh : A.handled = none) : Itr w A b L x.length (fun i => .str [x.getD i 0]) (sit x) J where
  next := fun It i m σ s hJ hi I => by
    obtain ⟨ty, t, hty, hs⟩ := sit_sat.mp (I.cells _ (.head _))
    have hsz : (mk x).cps.size = x.length := by simp [mk]
    have key : ∀ (Q : Option Value → Shared → Prop), (∀ v h' tk, SignAt (mk x) i v → h'.IsStrIter It ty (mk x) t (i + 1) → (∀ b o, b ∉ [It] → s.heap.get? b = some o → h'.get? b = some o) → Q (some v) { s with heap := h', toks := tk }) → wpAny (model PW w) A (pyNext (.ref It)) Q NoE s := by
      intro Q hQ
      rcases hty with rfl | rfl
      · exact (Walks.strAscii (prog := PW) (w := w) hh It (mk x) t).item i s Q NoE (by rw [hsz]; exact hi) hs hQ
      · exact (Walks.strWide (prog := PW) (w := w) hh It (mk x) t).item i s Q NoE (by rw [hsz]; exact hi) hs hQ
    refine key _ fun v h' tk hv hst' hk => ?_
    have kk : ∀ d o, d ≠ It → s.heap.get? d = some o → h'.get? d = some o := fun d o hd e => hk d o (by simpa using hd) e
    refine ⟨v, rfl, sign_er hv, Inv.turn (pre := []) I kk (sit_sat.mpr ⟨ty, t, hty, hst'⟩), Ext.turn (pre := []) kk, fun tg => .inl ?_⟩
    obtain ⟨c, u, hc, rfl⟩ := hv
    exact letOwned_str
  stop := fun It m σ s hJ I => by
    obtain ⟨ty, t, hty, hs⟩ := sit_sat.mp (I.cells _ (.head _))
    have hsz : (mk x).cps.size = x.length := by simp [mk]
    have key : ∀ (Q : Option Value → Shared → Prop), (∀ h' tk, (∀ b o, b ∉ [It] → s.heap.get? b = some o → h'.get? b = some o) → Q none { s with heap := h', toks := tk }) → wpAny (model PW w) A (pyNext (.ref It)) Q NoE s := by
      intro Q hQ
      rcases hty with rfl | rfl
      · exact (Walks.strAscii (prog := PW) (w := w) hh It (mk x) t).done s Q NoE (by rw [hsz]; exact hs) hQ
      · exact (Walks.strWide (prog := PW) (w := w) hh It (mk x) t).done s Q NoE (by rw [hsz]; exact hs) hQ
    refine key _ fun h' tk hk => ?_
    have kk : ∀ d o, d ≠ It → s.heap.get? d = some o → h'.get? d = some o := fun d o hd e => hk d o (by simpa using hd) e
    have z := I.pop (tk := tk) kk
    exact ⟨rfl, z.1, z.2⟩
theorem self_str {x : List Nat} : Selfs w A b L (sit x 0) := fun It m σ s Q E I h => by
  obtain ⟨ty, t, hty, hs⟩ := sit_sat.mp (I.cells _ (.head _))
  rcases hty with rfl | rfl
  · exact wpAny_pyIter_striter_ascii hs h
  · exact wpAny_pyIter_striter_wide hs h
theorem starts_str {x : List Nat} : Starts w A b L (sit x 0) (.str x) m σ := fun u hu s I => by
  obtain ⟨t, rfl⟩ := er_str hu
  cases ha : (mk x).cps.all (· < 128)
  · exact wpAny_pyIter_wide ha ⟨_, rfl, new_of s, .push, sit_sat.mpr ⟨_, t, .inr rfl, _, Heap.get?_push_size _ rfl, rfl, rfl⟩⟩
  · exact wpAny_pyIter_ascii ha ⟨_, rfl, new_of s, .push, sit_sat.mpr ⟨_, t, .inl rfl, _, Heap.get?_push_size _ rfl, rfl, rfl⟩⟩

theorem itr_list {l : Addr} {vs : List AV} {J : Nat → Loc → Cells → Prop} (hh : A.handled = none) (hl : ∀ i m σ, J i m σ → HasL b σ l vs) : Itr w A b L vs.length (fun i => vs.getD i .none) (fun i => .liter l i) J where
  next := fun It i m σ s hJ hi I => by
    have hL := hl i m σ hJ
    obtain ⟨xs, p, q⟩ := (show HasL b ((It, Cell.liter l i) :: σ) l vs from hL.imp (fun h => h.imp (.tail _) id) (fun h => h.imp (.tail _) id)).sat I
    have hs : xs.size = vs.length := by rw [← q]; simp
    have hit : s.heap.IsListIter It l i := I.cells (It, .liter l i) (.head _)
    obtain ⟨v, hv⟩ : ∃ v, xs[i]? = some v := ⟨_, Array.getElem?_eq_getElem (by omega)⟩
    refine wpAny_pyNext_list_item hit p hv fun h' hit' hsb => ?_
    have kk : ∀ d o, d ≠ It → s.heap.get? d = some o → h'.get? d = some o := fun d o hd e => hsb.extBut d o hd e
    have I' : Inv b L m ((It, .liter l (i + 1)) :: σ) { s with heap := h', toks := s.toks } := Inv.turn (pre := []) I kk hit'
    refine ⟨_, rfl, ?_, I', Ext.turn (tk := s.toks) (pre := []) kk, fun tg => ?_⟩
    · rw [← q, List.getD_eq_getElem?_getD, List.getElem?_map, Array.getElem?_toList, hv]; rfl
    · have gen : ∀ v, (∀ T, v ≠ .ref T) → letOwnedTupleGo tg (.ref It) v = pure () := fun v hv => by
        cases tg <;> first | rfl | (cases v <;> first | rfl | exact absurd rfl (hv _))
      cases v with
      | ref T =>
        cases tg with
        | Tuple es x1 p1 => exact .inr fun Q E hQ => wpAny_letOwnedTupleGo_listiter hit' hQ
        | List es p1 => exact .inr fun Q E hQ => (show wpAny (model PW w) A (letOwnedTupleGo (.Tuple es 0 p1) (.ref It) (.ref T)) Q E _ from wpAny_letOwnedTupleGo_listiter hit' hQ)
        | _ => exact .inl rfl
      | _ => exact .inl (gen _ (fun T h => by cases h))
  stop := fun It m σ s hJ I => by
    have hL := hl _ m σ hJ
    obtain ⟨xs, p, q⟩ := (show HasL b ((It, Cell.liter l vs.length) :: σ) l vs from hL.imp (fun h => h.imp (.tail _) id) (fun h => h.imp (.tail _) id)).sat I
    have hs : xs.size = vs.length := by rw [← q]; simp
    have hit : s.heap.IsListIter It l vs.length := I.cells (It, .liter l vs.length) (.head _)
    refine wpAny_pyNext_list_end hh hit p (by simp [hs]) fun h' hx => ?_
    have z := I.pop (h' := h') (tk := s.toks) fun d o hd e => hx d o hd e
    exact ⟨rfl, z.1, z.2⟩
theorem self_list {l : Addr} : Selfs w A b L (.liter l 0) := fun It m σ s Q E I h => wpAny_pyIter_listiter (I.cells (It, .liter l 0) (.head _)) h
theorem starts_list {l : Addr} {vs : List AV} (hl : HasL b σ l vs) : Starts w A b L (.liter l 0) (.ref l) m σ := fun u hu s I => by
  obtain rfl := er_ref hu
  obtain ⟨xs, p, q⟩ := hl.sat I
  exact wpAny_pyIter_list p ⟨_, rfl, new_of s, .push, _, Heap.get?_push_size _ rfl, rfl, rfl⟩
theorem self_range {a k : Int} {n : Nat} (hh : A.handled = none) : Selfs w A b L (.riter (a + (0 : Nat) * k) (n - (0 : Nat)) k) := fun It m σ s Q E I h =>
  (Walks.range (prog := PW) (w := w) (A := A) hh It a k n).self 0 s Q E (I.cells (It, .riter _ _ _) (.head _)) h
end
end Mine
end
section
open PySem PySem.W PyProof.Rows PySem.Calls PySem.Spec
namespace Mine
section
variable {w : World} {A : Around} {b : Shared} {env : Env} {m : Loc} {σ : Cells} {Q : AV → Loc → Cells → Prop} {mg mb : PySem.Str → Option Value}

/-- some of the cells, in any order -/
def Sb (a c : Cells) : Prop := ∃ d, d.Perm c ∧ a.Sublist d
theorem Sb.refl (a : Cells) : Sb a a := ⟨a, .refl _, .refl _⟩
theorem Sb.of_sub {a c : Cells} (h : a.Sublist c) : Sb a c := ⟨c, .refl _, h⟩
theorem Sb.subset {a c : Cells} (h : Sb a c) : ∀ p ∈ a, p ∈ c := let ⟨d, p, q⟩ := h; fun x hx => p.mem_iff.mp (q.subset hx)
theorem Inv.perm {L : Addr} {σ' : Cells} {s : Shared} (I : Inv b L m σ s) (hp : σ'.Perm σ) : Inv b L m σ' s := by
  obtain ⟨ns, cs, nd, nw, kp, g1, g2, g3⟩ := I
  exact ⟨ns, fun p h => cs p (hp.mem_iff.mp h), ((hp.map (·.1)).cons L).nodup_iff.mpr nd, fun a ha => nw a (((hp.map (·.1)).cons L).mem_iff.mp ha), kp, g1, g2, g3⟩
theorem Inv.dropS {L : Addr} {σ' : Cells} {s : Shared} (I : Inv b L m σ s) (h : Sb σ' σ) : Inv b L m σ' s := let ⟨d, p, q⟩ := h; (I.perm p).drop q
theorem Ext.dropS {L : Addr} {σ σ' σ'' : Cells} {s s' : Shared} (x : Ext L σ σ' s s') (h : Sb σ'' σ') : Ext L σ σ'' s s' :=
  ⟨x.kept, fun a ha => x.fresh a (by
    obtain ⟨p, hp, rfl⟩ := List.mem_map.mp ha
    exact List.mem_map_of_mem (h.subset p hp)), x.gens, x.drawn, x.os⟩

abbrev tests (ifs : List Expr) (env : Env) : Sem Bool := forIn ifs true fun c r => if r = true then do let ok ← isTrue c env (eval c env); pure (ForInStep.yield ok) else pure (ForInStep.yield r)
theorem H_tests_nil {Q : Bool → Loc → Cells → Prop} (h : Q true m σ) : H w A b env.locals id (tests [] env) m σ Q := fun s I => wpAny_tests_nil (PG.grow I .refl h)
theorem H_tests_one {e : Expr} {Q : Bool → Loc → Cells → Prop} (h : HT w A b env e m σ Q) : H w A b env.locals id (tests [e] env) m σ Q := fun s I => wpAny_tests_one (h s I)

structure CompOk (w : World) (A : Around) (b : Shared) (env : Env) (target elt : Expr) (ifs : List Expr) (scope : Scope) (cl : List (PySem.Str × Addr)) (n : Nat) (xs : Nat → AV) (c : Nat → Cell) (J : Nat → List AV → Cells → Prop) : Prop where
  W : ∀ C, Itr w A b C n xs c (fun i _ σ => ∃ D acc σ', σ = (D, .list acc) :: σ' ∧ J i acc σ')
  self : ∀ C, Selfs w A b C (c 0)
  size : ∀ i acc σ, J i acc σ → acc.length ≤ sizeLine
  turn : ∀ C I D i acc m σ, J i acc σ → i < n → ∀ v, er v = xs i → H w A b (compEnvC scope cl C env).locals id (assign target (compEnvC scope cl C env) v) m ((I, c (i + 1)) :: (D, .list acc) :: σ) (fun _ m₁ σ₁ =>
    H w A b (compEnvC scope cl C env).locals id (tests ifs (compEnvC scope cl C env)) m₁ σ₁ (fun ok m₂ σ₂ => if ok = true then
      HE w A b (compEnvC scope cl C env) elt m₂ σ₂ (fun y m₃ σ₃ => ∃ σ'' : Cells, Sb ((I, c (i + 1)) :: (D, .list acc) :: σ'') σ₃ ∧ J (i + 1) (acc ++ [y]) σ'')
      else ∃ σ'' : Cells, Sb ((I, c (i + 1)) :: (D, .list acc) :: σ'') σ₂ ∧ J (i + 1) acc σ''))

theorem comp_loop {target elt iter : Expr} {ifs : List Expr} {scope : Scope} {cl : List (PySem.Str × Addr)} {pos : Pos} {n : Nat} {xs : Nat → AV} {c : Nat → Cell} {J : Nat → List AV → Cells → Prop}
    (K : CompOk w A b env target elt ifs scope cl n xs c J) {It D C : Addr} {R : Result → Shared → Prop} {s : Shared} {m₀ : Loc} {σ₀ : Cells} (hJ : J 0 [] σ₀) (I₀ : Inv b C m₀ ((It, c 0) :: (D, .list []) :: σ₀) s)
    (k : ∀ m' acc σ' s', J n acc σ' → Inv b C m' ((D, .list acc) :: σ') s' → Ext C ((It, c 0) :: (D, .list []) :: σ₀) ((D, .list acc) :: σ') s s' → R (.ok .next) s') :
    codeAny (model PW w) A (.compLoop (.ListComp elt [⟨target, iter, ifs, 0⟩] scope pos) 0 (.ref It) (.ref D) (compEnvC scope cl C env)) R s := by
  have noE : ∀ {α : Type} {t : Sem α} {R : α → Shared → Prop} {E : Value → Shared → Prop} {s : Shared}, wpAny (model PW w) A t R NoE s → wpAny (model PW w) A t R E s := fun x => wpAny_mono x (fun _ _ y => y) fun _ _ y => y.elim
  refine codeAny_loop rfl (fun k s' => ∃ i m' acc σ', k = n + 1 - i ∧ i ≤ n ∧ J i acc σ' ∧ Inv b C m' ((It, c i) :: (D, .list acc) :: σ') s' ∧ Ext C ((It, c 0) :: (D, .list []) :: σ₀) ((It, c i) :: (D, .list acc) :: σ') s s') ?_ (n + 1)
    ⟨0, m₀, [], σ₀, rfl, Nat.zero_le _, hJ, I₀, .refl⟩
  rintro q s' ⟨i, m', acc, σ', rfl, hi, hJ', I', X'⟩
  show wpAny _ A ((compTurn (.ListComp elt [⟨target, iter, ifs, 0⟩] scope pos) 0 (.ref It) (.ref D) (compEnvC scope cl C env)).onRaise (fun x => do noteFrame x (compEnvC scope cl C env); theTreesLotGoes x)) _ _ s'
  refine wpAny_noted ?_
  rw [compTurn_list]
  refine wpAny_bind (wpAny_standAt (wpAny_bind ?_))
  by_cases hlt : i < n
  · refine noE (wpAny_mono ((K.W C).next It i m' _ s' ⟨D, acc, σ', rfl, hJ'⟩ hlt I') (fun r s₃ h₃ => ?_) fun _ _ x => x)
    obtain ⟨u, rfl, hu, I₃, X₃, hown⟩ := h₃
    dsimp only
    refine wpAny_bind ?_
    have rest : ∀ E, wpAny (model PW w) A (assign target (compEnvC scope cl C env) u >>= fun _ => (tests ifs (compEnvC scope cl C env)) >>= fun ok =>
        (if ok = true then (do
          (do let _ ← call (.builtin "list.append") [.ref D, ← eval elt (compEnvC scope cl C env)])
          again (.compLoop (.ListComp elt [⟨target, iter, ifs, 0⟩] scope pos) 0 (.ref It) (.ref D) (compEnvC scope cl C env)))
        else again (.compLoop (.ListComp elt [⟨target, iter, ifs, 0⟩] scope pos) 0 (.ref It) (.ref D) (compEnvC scope cl C env))))
        (fun fin s₁' => match fin with
          | .done f => R (.ok f) s₁'
          | .again c' => c' = .compLoop (.ListComp elt [⟨target, iter, ifs, 0⟩] scope pos) 0 (.ref It) (.ref D) (compEnvC scope cl C env) ∧ ∃ m, m < n + 1 - i ∧ (∃ i m' acc σ', m = n + 1 - i ∧ i ≤ n ∧ J i acc σ' ∧ Inv b C m' ((It, c i) :: (D, .list acc) :: σ') s₁' ∧ Ext C ((It, c 0) :: (D, .list []) :: σ₀) ((It, c i) :: (D, .list acc) :: σ') s s₁')) E s₃ := by
      intro E
      refine noE (wpAny_bind (H.seq I₃ (K.turn C It D i acc m' σ' hJ' hlt u hu) fun _ m₄ σ₄ s₄ h₄ I₄ X₄ => wpAny_bind (H.seq I₄ h₄ fun ok m₅ σ₅ s₅ h₅ I₅ X₅ => ?_)))
      cases ok with
      | false =>
        obtain ⟨σ'', hs, hJ''⟩ := (show ∃ σ'' : Cells, Sb ((It, c (i + 1)) :: (D, .list acc) :: σ'') σ₅ ∧ J (i + 1) acc σ'' from h₅)
        exact (wpAny_pure ⟨rfl, n + 1 - (i + 1), by omega, i + 1, m₅, acc, σ'', rfl, hlt, hJ'', I₅.dropS hs, (((X'.trans X₃).trans X₄).trans X₅).dropS hs⟩)
      | true =>
        refine wpAny_bind (wpAny_bind (H.seq I₅ (show HE w A b (compEnvC scope cl C env) elt m₅ σ₅ _ from h₅) fun y m₆ σ₆ s₆ h₆ I₆ X₆ => ?_))
        obtain ⟨σ'', hs, hJ''⟩ := h₆
        have I₇ := I₆.dropS hs
        refine wpAny_bind (H.seq I₇ (HC_append (L := C) (m := m₆) (vs := acc) (x := er y) [_] _ rfl (K.size _ _ _ hJ') (Q := fun v m σ => m = m₆ ∧ σ = (It, c (i + 1)) :: (D, .list (acc ++ [er y])) :: σ'') ⟨rfl, rfl⟩ [.ref D, y] rfl) fun v m₈ σ₈ s₈ h₈ I₈ X₈ => ?_)
        obtain ⟨rfl, rfl⟩ := h₈
        exact wpAny_pure (wpAny_pure ⟨rfl, n + 1 - (i + 1), by omega, i + 1, m₈, _, σ'', rfl, hlt, hJ'', I₈, ((((X'.trans X₃).trans X₄).trans X₅).trans (X₆.dropS hs)).trans X₈⟩)
    rcases hown target with h | h
    · rw [h]; exact wpAny_pure (rest _)
    · exact h _ _ (rest _)
  · obtain rfl : i = n := by omega
    refine noE (wpAny_mono ((K.W C).stop It m' _ s' ⟨D, acc, σ', rfl, hJ'⟩ I') (fun r s₃ h₃ => ?_) fun _ _ x => x)
    obtain ⟨rfl, I₃, X₃⟩ := h₃
    exact wpAny_pure (k m' acc σ' s₃ hJ' I₃ (X'.trans X₃))

theorem comp_block {target elt iter : Expr} {ifs : List Expr} {scope : Scope} {cl : List (PySem.Str × Addr)} {pos : Pos} {n : Nat} {xs : Nat → AV} {c : Nat → Cell} {J : Nat → List AV → Cells → Prop}
    (K : CompOk w A b env target elt ifs scope cl n xs c J) {xv : Value} {m₁ : Loc} {σ₁ : Cells} {s₁ : Shared} {RR : Value → Addr → Result → Shared → Prop}
    (hcell : ∀ y ∈ scope.names, y.2 ≠ .cell) (hkind : scope.kind = .function) (I₁ : Inv b env.locals m₁ σ₁ s₁) {v : AV} (hv : er xv = v) (hst : Starts w A b env.locals (c 0) v m₁ σ₁) {σ₂ : Cells} (hsb : σ₂.Sublist σ₁) (hJ : J 0 [] σ₂)
    (k : ∀ D C acc σ' s' m', J n acc σ' → s'.heap.Ns C m' → C ∉ env.locals :: ((D, Cell.list acc) :: σ').map (·.1) → b.heap.get? C = none → s₁.heap.get? C = none → Inv b env.locals m₁ ((D, .list acc) :: σ') s' → Ext env.locals σ₁ ((D, .list acc) :: σ') s₁ s' → RR (.ref D) C (.ok .next) s') :
    wpAny (model PW w) A (pyIter xv) (fun it s₂ => wpAny (model PW w) A (newList []) (fun acc s₃ => wpAny (model PW w) A (newFunctionEnv scope env.globals cl [] env.qual none .none (some env)) (fun cenv s₄ =>
      codeAny (model PW w) A (.compStart (.ListComp elt [⟨target, iter, ifs, 0⟩] scope pos) 0 it acc { cenv with scope := relabel scope env }) (RR acc cenv.locals) s₄) NoE s₃) NoE s₂) NoE s₁ := by
  refine wpAny_mono (hst xv hv s₁ I₁) (fun it s₂ h₂ => ?_) fun _ _ x => x
  obtain ⟨It, rfl, hnew, g, hc⟩ := h₂
  have I₂ := (I₁.drop hsb).alloc (c := c 0) g hnew hc
  refine wpAny_newObj_type (wpAny_newFunctionEnv hcell (by intro y hy; simp at hy) (fun h₁ hns hsb₁ => ?_) hkind)
  dsimp only at hns hsb₁ ⊢
  have hD : s₂.heap.get? s₂.heap.objs.size = none := new_of s₂
  have I₃ := I₂.alloc (c := .list []) (s' := { s₂ with heap := s₂.heap.push { cls := .type "list", dict := none, data := .seq ([] : List Value).toArray } }) .push hD ⟨#[], ⟨0, Heap.get?_push_size _ rfl⟩, rfl⟩
  generalize hs3 : ({ s₂ with heap := s₂.heap.push { cls := .type "list", dict := none, data := .seq ([] : List Value).toArray } } : Shared) = s₃ at I₃
  have e3 : s₃.heap = s₂.heap.push { cls := .type "list", dict := none, data := .seq ([] : List Value).toArray } := by rw [← hs3]
  rw [← e3] at hns hsb₁ ⊢
  have hC : s₃.heap.get? s₃.heap.objs.size = none := new_of s₃
  generalize hs4 : ({ s₂ with heap := h₁, toks := s₂.toks + ([] : List (PySem.Str × Value)).length } : Shared) = s₄
  have g4 : Grown s₃ s₄ := by
    refine ⟨h₁, s₄.toks, ?_, fun a o e => hsb₁.extBut a o (Nat.ne_of_lt (Heap.lt_size e)) (Heap.get?_push_of_some _ e)⟩
    rw [← hs4, ← hs3]
  have e4 : s₄.heap = h₁ := by rw [← hs4]
  -- the order of the cells: the iterator ahead
  have I₃' : Inv b env.locals m₁ ((It, c 0) :: (s₂.heap.objs.size, .list []) :: σ₂) s₃ := by
    obtain ⟨ns, cs, nd, nw, kp, g1, g2, g3⟩ := I₃
    have hp : ((s₂.heap.objs.size, Cell.list []) :: (It, c 0) :: σ₂).Perm ((It, c 0) :: (s₂.heap.objs.size, .list []) :: σ₂) := .swap _ _ _
    exact ⟨ns, fun p hp' => cs p (hp.mem_iff.mpr hp'), ((hp.map (·.1)).cons _).nodup_iff.mp nd, fun a ha => nw a (((hp.map (·.1)).cons _).mem_iff.mpr ha), kp, g1, g2, g3⟩
  have I₄ : Inv b s₃.heap.objs.size [] ((It, c 0) :: (s₂.heap.objs.size, .list []) :: σ₂) s₄ := I₃'.enter hC g4 (e4 ▸ hns)
  have up : ∀ a, s₃.heap.get? a = none → s₁.heap.get? a = none := fun a h => by
    cases q : s₁.heap.get? a with
    | none => rfl
    | some o =>
      rw [e3, Heap.get?_push_of_some _ (g.kept a o q)] at h; cases h
  have hC1 := up _ hC
  have loop : codeAny (model PW w) A (.compLoop (.ListComp elt [⟨target, iter, ifs, 0⟩] scope pos) 0 (.ref It) (.ref s₂.heap.objs.size) (compEnvC scope cl s₃.heap.objs.size env)) (RR (.ref s₂.heap.objs.size) s₃.heap.objs.size) s₄ := by
    refine comp_loop K hJ I₄ fun m' acc σ' s' hJ' I' X' => ?_
    have g14 : Grown s₁ s₄ := (g.trans (hs3 ▸ Grown.push)).trans g4
    have z := Inv.leave (I₁.drop hsb) hC1 g14 (σ₁ := (It, c 0) :: (s₂.heap.objs.size, .list []) :: σ₂) (fun a ha => by
      rw [List.map_cons, List.map_cons] at ha
      cases ha with
      | head => exact .inr hnew
      | tail _ ha =>
        cases ha with
        | head =>
          refine .inr ?_
          cases q : s₁.heap.get? s₂.heap.objs.size with
          | none => rfl
          | some o => rw [g.kept _ o q] at hD; cases hD
        | tail _ ha => exact .inl ha) I' X'
    obtain ⟨mm, hn, _⟩ := I'.ns
    have ndC := List.nodup_cons.mp I'.nd
    have hbC := I'.new _ (.head _)
    refine k _ _ acc σ' s' mm hJ' hn (fun hm => ?_) hbC hC1 z.1 ⟨fun a o hn e => z.2.kept a o (fun q => hn ?_) e, fun a ha => (z.2.fresh a ha).imp (fun q => ?_) id, z.2.gens, z.2.drawn, z.2.os⟩
    · rcases List.mem_cons.mp hm with h | h
      · obtain ⟨mm, ⟨o, es, ep, ho, r⟩, _⟩ := I₁.ns
        rw [← h, hC1] at ho; cases ho
      · exact ndC.1 h
    · exact (((hsb.map (·.1)).cons_cons env.locals).subset q)
    · exact (((hsb.map (·.1)).cons_cons env.locals).subset q)
  have hself := K.self s₃.heap.objs.size It [] _ s₄ (fun it' s' => codeAny (model PW w) A (.compLoop (.ListComp elt [⟨target, iter, ifs, 0⟩] scope pos) 0 it' (.ref s₂.heap.objs.size) (compEnvC scope cl s₃.heap.objs.size env)) (RR (.ref s₂.heap.objs.size) s₃.heap.objs.size) s') (notedBy (model PW w) A (compEnvC scope cl s₃.heap.objs.size env) fun x s' => RR (.ref s₂.heap.objs.size) s₃.heap.objs.size (.error x) s') I₄ loop
  exact codeAny_compStart_list loop hself

theorem HE_comp {target elt iter : Expr} {ifs : List Expr} {scope : Scope} {cl : List (PySem.Str × Addr)} {pos : Pos} (n : Nat) (xs : Nat → AV) (c : Nat → Cell) (J : Nat → List AV → Cells → Prop)
    (hclos : closureFor scope env = pure cl) (hcell : ∀ y ∈ scope.names, y.2 ≠ .cell) (hkind : scope.kind = .function) (hnames : ∀ y ∈ scope.names, y.2 = .local → scope.names.lookup y.1 = some .local)
    (h : HE w A b env iter m σ (fun v m₁ σ₁ => Starts w A b env.locals (c 0) v m₁ σ₁ ∧ ∃ σ₂, σ₂.Sublist σ₁ ∧ J 0 [] σ₂ ∧ ∀ D acc σ', J n acc σ' → Q (.ref D) m₁ ((D, .list acc) :: σ')))
    (K : CompOk w A b env target elt ifs scope cl n xs c J)
    (hs : ∀ x, foldedSetIterable iter env x = pure x := by intro _; rfl) :
    HE w A b env (.ListComp elt [⟨target, iter, ifs, 0⟩] scope pos) m σ Q := fun s I => by
  rw [eval_ListComp]
  refine wpAny_comprehension_free (use := none) rfl hs hclos hkind hnames (H.seq I h fun xv m₁ σ₁ s₁ h₁ I₁ X₁ => ?_)
  obtain ⟨hst, σ₂, hsb, hJ, hq⟩ := h₁
  refine comp_block K (RR := fun acc C => compPost (model PW w) A NoE none _ acc C) hcell hkind I₁ rfl hst hsb hJ ?_
  intro D C acc σ' s' m' hJ' hn hC hb hC1 I' X'
  refine ⟨m', hn, fun h' hsb' => ?_⟩
  have kk : ∀ d o, d ≠ C → s'.heap.get? d = some o → h'.get? d = some o := fun d o hd e => hsb'.extBut d o hd e
  exact PG.after X₁ ⟨m₁, _, I'.outside (tk := s'.toks) hC hb kk, ⟨fun a o hn e => kk a o (fun q => by rw [q, hC1] at e; cases e) (X'.kept a o hn e), X'.fresh, X'.gens, X'.drawn, X'.os⟩, hq _ _ _ hJ'⟩

theorem HS_assign_comp {x : PySem.Str} {py : Pos} {target elt iter : Expr} {ifs : List Expr} {scope : Scope} {cl : List (PySem.Str × Addr)} {pos spos : Pos} {Q : FL → Loc → Cells → Prop} (n : Nat) (xs : Nat → AV) (c : Nat → Cell) (J : Nat → List AV → Cells → Prop)
    (hclos : closureFor scope env = pure cl) (hcell : ∀ y ∈ scope.names, y.2 ≠ .cell) (hkind : scope.kind = .function) (hnames : ∀ y ∈ scope.names, y.2 = .local → scope.names.lookup y.1 = some .local)
    (h : HE w A b env iter m σ (fun v m₁ σ₁ => Starts w A b env.locals (c 0) v m₁ σ₁ ∧ ∃ σ₂, σ₂.Sublist σ₁ ∧ J 0 [] σ₂ ∧ ∀ D acc σ', J n acc σ' → Q .next (put x (.ref D) m₁) ((D, .list acc) :: σ')))
    (K : CompOk w A b env target elt ifs scope cl n xs c J)
    (hsw : swapsWith (.ListComp elt [⟨target, iter, ifs, 0⟩] scope pos) (some (.Name x py)) spos.line env = pure true)
    (hl : env.kindOf x = some .local := by rfl) (hp : (env.scope.kind == .class || (env.scope.kind == .module && env.locals != env.globals)) = false := by rfl)
    (hs : ∀ x, foldedSetIterable iter env x = pure x := by intro _; rfl) :
    HS w A b env (.Assign [.Name x py] (.ListComp elt [⟨target, iter, ifs, 0⟩] scope pos) spos) m σ Q := fun s I => by
  rw [exec_Assign_Name_used _ _ _ _ hsw]
  refine wpAny_bind (wpAny_standAt (wpAny_bind ?_))
  show wpAny _ A (do let _ ← comprehension (.ListComp elt [⟨target, iter, ifs, 0⟩] scope pos) scope env _ (newList []) false (eval iter env) (some (assign (.Name x py) env))) _ _ s
  refine wpAny_bind (wpAny_mono (wpAny_comprehension_free (use := some (assign (.Name x py) env)) (Q := fun _ s' => PG b env.locals σ s erF Q .next s') rfl hs hclos hkind hnames (H.seq I h fun xv m₁ σ₁ s₁ h₁ I₁ X₁ => ?_)) (fun _ s' hq => wpAny_pure (wpAny_pure hq)) fun _ _ e => e)
  obtain ⟨hst, σ₂, hsb, hJ, hq⟩ := h₁
  refine comp_block K (RR := fun acc C => compPost (model PW w) A NoE (some (assign (.Name x py) env)) (fun _ s' => PG b env.locals σ s erF Q .next s') acc C) hcell hkind I₁ rfl hst hsb hJ ?_
  intro D C acc σ' s' m' hJ' hn hC hb hC1 I' X'
  obtain ⟨mm, hnL, hmL⟩ := I'.ns
  have hLC : env.locals ≠ C := fun q => hC (q ▸ .head _)
  show wpAny _ A (assign (.Name x py) env (.ref D)) _ _ _
  refine wpAny_assign_Name (wpAny_storeName_local hl hnL (fun h₂ hn₂ hs₂ => ?_) hp)
  refine ⟨m', hn.sameBut hs₂ (Ne.symm hLC), fun h₃ hs₃ => ?_⟩
  have z := I'.store (tk := s'.toks + 1) (v := .ref D) (x := x) hmL hn₂ hs₂
  have kk : ∀ d o, d ≠ C → h₂.get? d = some o → h₃.get? d = some o := fun d o hd e => hs₃.extBut d o hd e
  have X'' := X'.trans z.2
  exact PG.after X₁ ⟨_, _, z.1.outside (h' := h₃) (tk := s'.toks + 1) hC hb kk, ⟨fun a o hn e => kk a o (fun q => by rw [q, hC1] at e; cases e) (X''.kept a o hn e), X''.fresh, X''.gens, X''.drawn, X''.os⟩, hq _ _ _ hJ'⟩
end
end Mine
end
section
open PySem PySem.W PyProof.Rows PySem.Calls PySem.Spec
namespace Mine
section
variable {w : World} {A : Around} {b : Shared} {env : Env} {L : Addr} {m : Loc} {σ : Cells} {Q : AV → Loc → Cells → Prop} {mg mb : PySem.Str → Option Value}
local macro_rules | `(tactic| walk_at "lk") => `(tactic| ((repeat (first | with_reducible assumption | with_reducible exact lookup_put_eq | with_reducible refine (lookup_put_ne (by decide)).trans ?_)); first | done | exact lookup_put_eq | rfl))

/-- a contract out of the body of a def with one cell, a parameter -/
theorem Fn_of_bodyC {x : PySem.Str} {d : Nat} {vs : List AV} {Pre : Shared → Prop} {QF : AV → Cells → Prop} (i : Nat) {a : Arguments} {bd : List Stmt} {sc : Scope} (hi : fnRec i = some (x, a, bd, sc)) (y : PySem.Str) (v : AV) (m : Loc)
    (hcs : ∀ L, cellsFrom (L + 1) sc.names [] = [(y, L + 1)])
    (hb : ∀ pm cd doc as, as.map er = vs → bindArgs (docDef x a bd sc pm cd doc) ⟨as, []⟩ = pure ((a.args.map (·.arg)).zip as))
    (hpar : ∀ p ∈ a.args.map (·.arg), sc.names.lookup p = some .local ∨ (sc.names.lookup p = some .cell ∧ p = y))
    (hm : ∀ L f cd as, as.map er = vs → ∀ z u, m.lookup z = some u → ∃ v', bindL (envOfC x sc L f cd).kindOf ((a.args.map (·.arg)).zip as) (fun _ => none) z = some v' ∧ er v' = u)
    (hc : ∀ L f cd as, as.map er = vs → ∃ v', bindC (envOfC x sc L f cd).kindOf ((a.args.map (·.arg)).zip as) (fun _ => none) y = some v' ∧ er v' = v)
    (h : ∀ A s L f cd, Rm d A → GB w mg mb s.heap → Pre s → HB w A s (envOfC x sc L f cd) bd m [(L + 1, .cellv v)] (fun fl m' σ' => ∃ v, fl = .ret v ∧ ∃ σ'', σ''.Sublist σ' ∧ QF v σ''))
    (hco : sc.isCoroutine = false := by rfl) (hgen : sc.isGenerator = false := by rfl) (hk : sc.kind = .function := by rfl) : Fn w mg mb x (d + 1) vs Pre QF := fun A s f as R G hp hf ha => by
  obtain ⟨f', o, pm, cd, doc, h1, h2, h3, h4⟩ := G.fn i _ _ _ _ hi
  obtain rfl : f' = f := by rw [h1] at hf; cases hf; rfl
  have b1 := hb pm cd doc as ha
  refine wpAny_call (call_cells_ret R.lim h2 h3 G.lim h4 b1 (fun z hz => ?_) (fun h₁ tk F X => ?_) hco hgen hk)
  · rcases hpar z.1 (zip_fst.subset (List.mem_map_of_mem hz)) with q | ⟨q, q2⟩
    · exact .inl q
    · refine .inr ⟨q, ?_⟩
      rw [hcs, q2]; simp [List.lookup]
  obtain ⟨v', hv', hev⟩ := hc s.heap.objs.size f' cd as ha
  have hcell := X.cell y (s.heap.objs.size + 1) (by rw [hcs]; simp [List.lookup])
  rw [hv'] at hcell
  have hnew : ∀ a, s.heap.objs.size ≤ a → s.heap.get? a = none := fun a h => by
    cases q : s.heap.get? a with
    | none => rfl
    | some o => exact absurd (Heap.lt_size q) (Nat.not_lt.mpr h)
  have I : Inv s s.heap.objs.size m [(s.heap.objs.size + 1, .cellv v)] { s with heap := h₁, toks := tk } :=
    ⟨⟨_, F.ns, fun z u e => hm _ f' cd as ha z u e⟩, fun p hp => by
      obtain rfl := List.mem_singleton.mp hp
      exact ⟨v', hcell, hev⟩, by simp, fun a ha => by
      have : a = s.heap.objs.size ∨ a = s.heap.objs.size + 1 := by simpa using ha
      rcases this with rfl | rfl
      · exact hnew _ (Nat.le_refl _)
      · exact hnew _ (Nat.le_succ _), F.keep, rfl, rfl, rfl⟩
  refine wpAny_mono (h _ s s.heap.objs.size f' cd (R.deeper _) G hp _ I) (fun fl s' hl => ?_) fun _ _ x => x
  obtain ⟨m', σ', I', X', v, hv, σ'', hs, q⟩ := hl
  have I'' := I'.drop hs
  cases fl with
  | ret u =>
    have hu : er u = v := by injection hv
    refine ⟨⟨s'.heap, s'.toks, ?_, I'.keep⟩, σ'', fun p hp => ⟨I''.cells p hp, I''.new _ (.tail _ (List.mem_map_of_mem hp))⟩, (List.nodup_cons.mp I''.nd).2, hu ▸ q⟩
    obtain ⟨hh, gg, dd, tt, oo⟩ := s'
    have e1 : gg = s.gens := I'.gens
    have e2 : dd = s.drawn := I'.drawn
    have e3 : oo = s.os := I'.os
    subst e1 e2 e3
    rfl
  | next => cases hv
  | brk => cases hv
  | cont => cases hv

theorem preSum_list {is : List Int} : ∀ k, k ≤ is.length → preSum (fun j => is.getD j 0) k = (is.take k).sum := by
  intro k
  induction k with
  | zero => intro _; rfl
  | succ k ih =>
    intro h
    rw [List.take_succ, List.sum_append, preSum, ih (by omega), List.getD_eq_getElem?_getD, List.getElem?_eq_getElem (by omega)]
    simp
theorem some21 : (fnRec 21).isSome = true := by rfl
abbrev bd21 : List Stmt := ((fnRec 21).get some21).2.2.1
abbrev sc21 : Scope := ((fnRec 21).get some21).2.2.2
def lawNum (t : List Nat) : Int := ((List.range t.length).map fun p => ((t.reverse.getD p 0 % 64 * 64 ^ p : Nat) : Int)).sum
theorem HC_sum {l : Addr} {is : List Int} (hh : A.handled = none) (hl : HasL b σ l (is.map .int)) (h : Q (.int is.sum) m σ) : HC w A b L (.builtin "sum") [.ref l] m σ Q := fun as ha s I => by
  obtain ⟨v, rfl, e⟩ := map_one ha
  obtain rfl := er_ref e
  obtain ⟨xs, p, q⟩ := hl.sat I
  have hs : xs.size = is.length := by have := congrArg List.length q; simpa using this
  have hne : l ≠ s.heap.objs.size := by obtain ⟨o, ho, _⟩ := p; exact Nat.ne_of_lt (Heap.lt_size ho)
  refine call_sum_walkG (wpAny_pyIter_list p ?_)
  refine ⟨_, _, _, _, _, _, fun j => is.getD j 0, rfl, Walks.list (A := A.in1) hh s.heap.objs.size l hne xs, ⟨⟨_, Heap.get?_push_size _ rfl, rfl, rfl⟩, ?_⟩, ?_, ?_, ?_⟩
  · obtain ⟨o, ho, r⟩ := p; exact ⟨o, Heap.get?_push_of_some _ ho, r⟩
  · intro c hc
    rw [Heap.size_push]
    rcases List.mem_cons.mp hc with rfl | hc
    · exact Nat.lt_succ_self _
    · obtain rfl := List.mem_singleton.mp hc
      obtain ⟨o, ho, _⟩ := p; exact Nat.lt_succ_of_lt (Heap.lt_size ho)
  · intro i v hv
    have : (xs.toList.map er)[i]? = some (er v) := by rw [List.getElem?_map, Array.getElem?_toList, hv]; rfl
    rw [q, List.getElem?_map] at this
    cases hx : is[i]? with
    | none => rw [hx] at this; cases this
    | some k =>
      rw [hx] at this
      have : er v = .int k := (Option.some.inj this).symm
      obtain ⟨t, rfl⟩ := er_int this
      exact ⟨t, by simp [List.getD_eq_getElem?_getD, hx]⟩
  · intro h' tk t' hk
    refine PG.grow I ⟨h', tk, rfl, fun a o e => hk a o (fun hm => ?_) (Heap.get?_push_of_some _ e)⟩ ?_
    · obtain rfl := List.mem_singleton.mp hm
      exact absurd (Heap.lt_size e) (Nat.lt_irrefl _)
    · show Q (.int _) m σ
      rw [hs, preSum_list _ (Nat.le_refl _), List.take_length]; exact h
theorem dig_bits : ∀ d : Fin 64, Builtin.Int.intBits ((d : Nat) : Int) ≤ 6 := by decide +kernel
theorem HUn_neg {i : Int} (h : Q (.int (-i)) m σ) : HUn w A b L .USub (.int i) m σ Q := fun v e s I => by
  obtain ⟨t, rfl⟩ := er_int e
  exact PyProof.Rows.neg_int (PG.grow I .tok h)
theorem fn_number (w : World) {mg mb : PySem.Str → Option Value} {t : List Nat} (ht : t.length ≤ 8) : Fn w mg mb "_law_number" 1 [.str t] (fun _ => True) (fun v σ => v = .int (lawNum t) ∧ σ = []) := by
  refine Fn_of_bodyC 21 (a := ((fnRec 21).get some21).2.1) (bd := bd21) (sc := sc21) (by rfl) "text" (.str t) [] (fun L => by rfl) ?_ ?_ ?_ ?_ ?_
  · intro pm cd doc as ha
    obtain ⟨v, rfl, e1⟩ := map_one ha
    rfl
  · decide
  · intro L f cd as ha z u e; cases e
  · intro L f cd as ha
    obtain ⟨v, rfl, e1⟩ := map_one ha
    exact ⟨v, by rfl, e1⟩
  · intro A s L f cd R G _
    have hz : t.length ≤ sizeLine := by rw [sizeLine_eq]; omega
    refine HB_cons (HS_return ?_)
    refine HE_callB "sum" G (by decide) (by rfl) (by rfl) (by rfl) (HL_cons ?_)
    refine HE_comp t.length (fun i => .int (0 + i * 1)) (fun i => .riter (0 + (i : Nat) * 1) ((t.length : Nat) - (i : Nat)) 1)
      (fun i acc σ => σ = [(L + 1, .cellv (.str t))] ∧ acc = ((List.range i).map fun p => ((t.reverse.getD p 0 % 64 * 64 ^ p : Nat) : Int)).map AV.int ∧ i ≤ t.length) (cl := [("text", L + 1)]) (by rfl) (by decide) (by rfl) (by decide) ?_ ?_
    · refine HE_callT "range" G (by decide) (by rfl) (by rfl) (by rfl) ?_
      refine HL_cons (HE_callB "len" G (by decide) (by rfl) (by rfl) (by rfl) (HL_cons ?_))
      refine HE_cell (L + 1) (.str t) (by rfl) (.head _) (HL_nil (HC_lenS hz ?_))
      refine HL_nil (HC_range1 fun r' => ?_)
      obtain ⟨s1, s2⟩ := rg1 (n := t.length) (by omega)
      refine ⟨starts_range (.inl (.head _)) s1 s2, _, List.sublist_cons_self _ _, ⟨rfl, rfl, Nat.zero_le _⟩, ?_⟩
      rintro D acc σ' ⟨rfl, rfl, _⟩
      refine HL_nil (HC_sum R.h (.inl (.inl (.head _))) ⟨_, rfl, [], List.nil_sublist _, rfl, rfl⟩)
    · refine ⟨fun C => itr_range R.h, fun C => self_range R.h, ?_, ?_⟩
      · rintro i acc σ ⟨rfl, rfl, hi⟩
        rw [sizeLine_eq]; simp; omega
      · rintro C I D i acc m σ ⟨rfl, rfl, _⟩ hi v hv
        refine H_assign (H_tests_nil (ite_t ?_))
        rw [hv]
        refine HE_bin (HE_bin ?_)
        refine HE_callB "ord" G (by decide) (by rfl) (by rfl) (by rfl) (HL_cons ?_)
        refine HE_subS (HE_cell (L + 1) (.str t) (by rfl) (.tail _ (.tail _ (.head _))) ?_)
        refine HE_bin (HE_un (HE_int (HUn_neg (HE_name (.int (0 + (i : Int) * 1)) (by walk_at "lk") (HBin_sub ⟨t, _, rfl, rfl, ?_, ?_, hz, ?_⟩)))))
        · omega
        · omega
        rw [show (-1 - (0 + (i : Int) * 1)) = -(i : Int) - 1 by omega, itm_neg hi]
        refine HL_nil (HC_ord (HE_int (HBin_modN 64 rfl (by decide) (HE_bin (HE_int (HE_name (.int (0 + (i : Int) * 1)) (by walk_at "lk") (HBin_pow ?_ ?_ ?_ (HBin_mul (.of_left ?_) ?_))))))))
        · omega
        · omega
        · decide
        · exact Nat.le_trans (dig_bits ⟨t.reverse.getD i 0 % 64, Nat.mod_lt _ (by decide)⟩) (by decide)
        refine ⟨_, .refl _, rfl, ?_, hi⟩
        rw [List.range_succ, List.map_append, List.map_append]
        simp
end
end Mine
end
section
open PySem PySem.W PyProof.Rows PySem.Calls PySem.Spec
namespace Mine
def wd (bit : Nat) : List Nat := [48, 120] ++ [[49, 50, 52, 56].getD (bit % 4) 0] ++ List.replicate (bit / 4) 48
def bitsI (one other : List Nat) (n : Nat) : List Nat := (List.range n).filter fun i => decide (one.reverse.getD i 0 ≠ other.reverse.getD i 0)
def bitsW (one other : List Nat) : List (List Nat) := (bitsI one other one.length).map fun i => wd (6 * (i + 1) + 5)
section
variable {w : World} {A : Around} {b : Shared} {env : Env} {L : Addr} {m : Loc} {σ : Cells} {Q : AV → Loc → Cells → Prop} {mg mb : PySem.Str → Option Value}
local macro_rules | `(tactic| walk_at "lk") => `(tactic| ((repeat (first | with_reducible assumption | with_reducible exact lookup_put_eq | with_reducible refine (lookup_put_ne (by decide)).trans ?_)); first | done | exact lookup_put_eq | rfl))

theorem rep0 : ∀ n : Fin 101, ((List.replicate (n : Nat) (#[48] : Array Nat)).foldl (· ++ ·) #[]).toList = List.replicate n 48 := by decide +kernel
theorem div63 : ∀ n : Fin 101, ¬ ((1 : Nat) : Int) > (2 ^ 63 - 1) / ((n : Nat) : Int) ∨ (n : Nat) = 0 := by decide +kernel
theorem HBin_rep0 {n : Nat} (h2 : 2 ≤ n) (h3 : n ≤ 100) (h : Q (.str (List.replicate n 48)) m σ) : HBin w A b L .Mult (.str [48]) (.int n) m σ Q := fun v u e1 e2 s I => by
  obtain ⟨t, rfl⟩ := er_str e1
  obtain ⟨t', rfl⟩ := er_int e2
  have hl : (mk [48]).length = 1 := rfl
  refine P.mul_str (x := mk [48]) ?_ ?_ ?_ ?_
  · rw [decide_eq_false (by omega), decide_eq_false (by omega)]; rfl
  · intro _ _ h; rw [hl] at h
    exact (div63 ⟨n, by omega⟩).elim (fun x => x h) (fun x => by have : n = 0 := x; omega)
  · intro _ _
    rw [hl]
    unfold Builtin.Str.tooLong
    exact decide_eq_false (by rw [sizeLine_eq]; omega)
  · rw [if_neg (by omega), if_neg (by rw [hl]; simp; omega)]
    have e := rep0 ⟨n, by omega⟩
    have e2 : (⟨(List.replicate ((n : Int)).toNat (mk [48]).cps).foldl (· ++ ·) #[]⟩ : PySem.Str) = mk (List.replicate n 48) := by
      apply str_ext
      rw [show ((n : Int)).toNat = n by omega]
      show ((List.replicate n (#[48] : Array Nat)).foldl (· ++ ·) #[]).toList = _
      rw [e]; simp [mk]
    rw [e2]
    refine ⟨?_, PG.grow I .tok ?_⟩
    · rw [str_len, sizeLine_eq]; simp [mk]; omega
    · simpa [er, mk] using h
theorem d1248 : (Str.ofString "1248").cps.toList = [49, 50, 52, 56] := by decide +kernel
theorem zx : (Str.ofString "0x").cps.toList = [48, 120] := by decide +kernel
theorem z0 : (Str.ofString "0").cps.toList = [48] := by decide +kernel
theorem rg3 {n : Nat} (h : n ≤ 100000) : Builtin.Range.small 1 ((n : Int) + 1) 1 = true ∧ Builtin.Range.rangeSize 1 ((n : Int) + 1) 1 = n := by
  refine ⟨PySem.small_one (by omega) (by omega) (by omega) (by omega), ?_⟩
  rw [PySem.rangeSize_one]; split <;> omega
theorem fn_bits (w : World) {mg mb : PySem.Str → Option Value} {one other : List Nat} (h1 : one.length ≤ 8) (h2 : other.length = one.length) : Fn w mg mb "_law_bits" 1 [.str one, .str other] (fun _ => True) (fun v σ => ∃ a, v = .ref a ∧ σ = [(a, .list ((bitsW one other).map .str))]) := by
  refine Fn_of_body 22 (by rfl) ?_ ?_
  · intro pm cd doc as ha
    obtain ⟨v, u, rfl, e1, e2⟩ := map_two ha
    rfl
  · intro A s L f cd R G _
    have hz1 : one.length ≤ sizeLine := by rw [sizeLine_eq]; omega
    have hz2 : other.length ≤ sizeLine := by rw [sizeLine_eq]; omega
    refine HB_cons (HS_assign (HE_list (by rfl) (HL_nil ⟨by simp, fun a => ?_⟩)))
    refine HB_cons (HS_for one.length (fun i => .int (1 + i * 1)) (fun i => .riter (1 + (i : Nat) * 1) ((one.length : Nat) - (i : Nat)) 1)
      (fun i m σ => gv m "one" = some (.str one) ∧ gv m "other" = some (.str other) ∧ gv m "words" = some (.ref a) ∧ σ = [(a, .list (((bitsI one other i).map fun i => wd (6 * (i + 1) + 5)).map .str))]) (itr_range R.h) ?_ ?_ ?_)
    · refine HE_callT "range" G (by decide) (by rfl) (by rfl) (by rfl) ?_
      refine HL_cons (HE_int (k := 0) (pos := default) (HL_cons (HE_bin ?_)))
      refine HE_callB "len" G (by decide) (by rfl) (by rfl) (by rfl) (HL_cons (HE_name (.str one) (by walk_at "lk") (HL_nil (HC_lenS hz1 ?_))))
      refine HE_int (HBin_add (HL_nil (HC_range2 fun r' => ?_)))
      obtain ⟨s1, s2⟩ := rg3 (n := one.length) (by omega)
      exact ⟨starts_range (.inl (.head _)) s1 s2, _, List.sublist_cons_self _ _, by walk_at "lk", by walk_at "lk", by walk_at "lk", rfl⟩
    · rintro I i m σ ⟨g1, g2, g3, rfl⟩ hi v hv
      refine H_assign ?_
      rw [hv, show (1 : Int) + i * 1 = (i + 1 : Nat) by omega]
      have hb : bitsI one other (i + 1) = bitsI one other i ++ if one.reverse.getD i 0 ≠ other.reverse.getD i 0 then [i] else [] := by
        unfold bitsI
        rw [List.range_succ, List.filter_append]
        have key : ∀ (p : Nat → Bool), [i].filter p = if p i = true then [i] else [] := fun p => by cases h : p i <;> simp [List.filter, h]
        rw [key]
        by_cases q : one.reverse.getD i 0 = other.reverse.getD i 0
        · rw [if_neg (by rw [decide_eq_false (by simpa using q)]; simp), if_neg (fun h => h q)]
        · rw [if_pos (by rw [decide_eq_true (by simpa using q)]), if_pos q]
      refine HB_cons (HS_if (HT_cmp (HE_cmp ?_)))
      refine HE_subS (HE_name (.str one) (by walk_at "lk") (HE_un (HE_name _ (by walk_at "lk") (HUn_neg ⟨one, _, rfl, rfl, ?_, ?_, hz1, ?_⟩))))
      · omega
      · omega
      refine HE_subS (HE_name (.str other) (by walk_at "lk") (HE_un (HE_name _ (by walk_at "lk") (HUn_neg ⟨other, _, rfl, rfl, ?_, ?_, hz2, ?_⟩))))
      · omega
      · omega
      rw [show (-((i + 1 : Nat) : Int)) = -(i : Int) - 1 by omega, itm_neg hi, itm_neg (h2 ▸ hi)]
      refine HCmp_sne ⟨_, rfl, ?_⟩
      by_cases q : one.reverse.getD i 0 = other.reverse.getD i 0
      · rw [decide_eq_false (by simpa using q)]
        refine ite_f (HB_nil (HB_nil ⟨_, .refl _, by walk_at "lk", by walk_at "lk", by walk_at "lk", ?_⟩))
        rw [hb, if_neg (fun h => h q), List.append_nil]
      · rw [decide_eq_true (by simpa using q)]
        refine ite_t (HB_cons (HS_assign (HE_bin (HE_bin (HE_int (HE_name _ (by walk_at "lk") (HBin_mul (.of_left (by decide)) (HE_int (HBin_add ?_)))))))))
        rw [show (6 : Int) * ((i + 1 : Nat) : Int) + 5 = ((6 * (i + 1) + 5 : Nat) : Int) by omega]
        refine HB_cons (HS_expr (HE_meth "list" "list.append" PySem.F.plainAttrs_list PySem.F.slot_list_append PySem.F.type_list_append (by rfl) (by rfl) (HE_name (.ref a) (by walk_at "lk") ⟨fun v s e I => ty_list (.inl (.tail _ (.head _))) I e, ?_⟩)))
        refine HL_cons (HE_bin (HE_bin (HE_str ?_)))
        rw [zx]
        refine HE_subS (HE_str (HE_bin (HE_name (.int ((6 * (i + 1) + 5 : Nat) : Int)) (by walk_at "lk") (HE_int (HBin_modN 4 rfl (by decide) ⟨[49, 50, 52, 56], _, ?_, rfl, ?_, ?_, by simp [sizeLine_eq], ?_⟩)))))
        · rw [d1248]
        · simp; omega
        · simp; omega
        refine HBin_cat (by simp [sizeLine_eq]) (HE_bin (HE_str ?_))
        rw [z0, itm_nat]
        refine HE_bin (HE_name (.int ((6 * (i + 1) + 5 : Nat) : Int)) (by walk_at "lk") (HE_int (HBin_divN 4 rfl (by decide) (by decide) (HBin_rep0 (by omega) (by omega) (HBin_cat (by simp [sizeLine_eq]; omega) ?_)))))
        refine HL_nil (HC_append [_] [] rfl ?_ ⟨by simp, HB_nil (HB_nil ⟨_, .refl _, by walk_at "lk", by walk_at "lk", by walk_at "lk", ?_⟩)⟩)
        · rw [sizeLine_eq]; simp [bitsI]
          exact Nat.le_trans (List.length_filter_le _ _) (by simp; omega)
        · rw [hb, if_pos q]; simp [wd]
    · rintro m σ ⟨g1, g2, g3, rfl⟩
      exact HB_nil (HB_cons (HS_return (HE_name _ g3 ⟨_, rfl, _, .refl _, a, rfl, rfl⟩)))
end
end Mine
end
section
open PySem PySem.W PyProof.Rows PySem.Calls PySem.Spec
set_option maxRecDepth 100000
namespace Mine
section
variable {w : World} {A : Around} {b : Shared} {env : Env} {L : Addr} {m : Loc} {σ : Cells} {Q : AV → Loc → Cells → Prop} {mg mb : PySem.Str → Option Value}

theorem Inv.add {s : Shared} {D : Addr} {c : Cell} (I : Inv b L m σ s) (hD : D ∉ L :: σ.map (·.1)) (hb : b.heap.get? D = none) (x : c.Sat s.heap D) : Inv b L m ((D, c) :: σ) s := by
  obtain ⟨ns, cs, nd, nw, kp, g1, g2, g3⟩ := I
  have nd' := List.nodup_cons.mp nd
  refine ⟨ns, fun p hp => ?_, ?_, fun a ha => ?_, kp, g1, g2, g3⟩
  · cases hp with
    | head => exact x
    | tail _ hp => exact cs p hp
  · refine List.nodup_cons.mpr ⟨fun q => ?_, List.nodup_cons.mpr ⟨fun q => hD (.tail _ q), nd'.2⟩⟩
    cases q with
    | head => exact hD (.head _)
    | tail _ q => exact nd'.1 q
  · cases ha with
    | head => exact nw _ (.head _)
    | tail _ ha =>
      cases ha with
      | head => exact hb
      | tail _ ha => exact nw _ (.tail _ ha)

theorem walks_end {A : Around} (hh : A.handled = none) {It l : Addr} {items : Array Value} (hne : l ≠ It) :
    Walks PW w A It [It, l] [It] 0 (fun _ _ => False) (fun _ h => h.IsListIter It l items.size ∧ h.IsList l items) where
  sub := fun b hb => by simp at hb; simp [hb]
  frame := fun _ _ _ st hk => ⟨st.1.at fun o e => hk It (by simp) o e, st.2.at fun o e => hk l (by simp) o e⟩
  item := fun i s Q E hi => absurd hi (Nat.not_lt_zero _)
  done := fun s Q E st hQ => wpAny_pyNext_list_end hh st.1 st.2 (by simp) fun h' he' => hQ h' s.toks fun b o hb e => he' b o (fun h => hb (by simp [h])) e
  self := fun _ _ _ _ st hQ => wpAny_pyIter_listiter st.1 hQ

theorem ext_end {s : Shared} {A : Around} {R : Result → Shared → Prop} {It l : Addr} {items : Array Value} (hh : A.handled = none) (hne : l ≠ It) (hit : s.heap.IsListIter It l items.size) (hl : s.heap.IsList l items) (S : Addr) (res : Value) (c₀ : Nat)
    (hS : s.heap.get? S = some { cls := .type "list", data := .seq #[] c₀ }) (hSf : S ∉ [It, l])
    (hR : ∀ h' tk acc' c', (∀ b o, b ≠ S → b ≠ It → s.heap.get? b = some o → h'.get? b = some o) → h'.get? S = some { cls := .type "list", dict := none, data := .seq acc' c', slots := #[] } → acc' = #[] → R (.ok (.ret res)) { s with heap := h', toks := tk }) :
    wpAny (model PW w) A.in1 (Builtin.List.listExtendWith (.ref S) (.ref It) res)
      (fun fin s' => match fin with | .done f => R (.ok f) s' | .again c' => c'.quiet = true ∧ codeAny (model PW w) A c' R s') (fun e s' => R (.error e) s') s := by
  have hSI : S ≠ It := fun e => hSf (e ▸ .head _)
  have hT := hit.typeIs
  have W := (walks_end (w := w) (A := A.in1) hh (items := items) hne).toS
  unfold Builtin.List.listExtendWith
  refine wpAny_bind (wpAny_typeOf hT ?_)
  have h1 : Builtin.List.listSameRef (.ref S) (.ref It) = false := by simp [Builtin.List.listSameRef, hSI]
  have h2 : (Value.type "list_iterator" == Value.type "list") = false := by decide
  have h3 : (Value.type "list_iterator" == Value.type "tuple") = false := by decide
  simp only [h1, h2, h3, Bool.or_false, Bool.false_eq_true, if_false]
  refine wpAny_bind (wpAny_pyIter_listiter hit ?_)
  refine wpAny_bind (wpAny_holding ?_)
  unfold Builtin.List.listLengthHint
  refine wpAny_bind (wpAny_specialOf hT F.nolen_li ?_)
  show wpAny _ A.in1 (specialOf (Value.ref It) (Str.ofString "__length_hint__") >>= _) _ _ _
  refine wpAny_bind (wpAny_specialOf hT F.hint_li ?_)
  (generalize hid : ("list_iterator.__length_hint__" : String) = id0; (fail_if_success (clear hid id0)); wp_delta; rw [show splitId id0 = some ("list_iterator", "__length_hint__") from by subst hid; decide +kernel]; subst hid)
  refine wpAny_bind (wpAny_isInstance (b := true) hT (by rw [isSubtype_type]; kernel_rfl) ?_)
  refine wpAny_pure ?_
  rw [if_neg (by decide)]
  refine wpAny_pure ⟨plainId_quiet F.plain_extend_loop _, codeAny_extend_loopS W (Nat.zero_le _) _ hSf _ 0 0 _ _ _ rfl (Nat.zero_le _) ⟨hit, hl⟩ hS (ItemsOf.nil _) fun s' acc' c' hm hS' hacc => ?_⟩
  rw [Moved.eq_with hm]
  refine hR s'.heap s'.toks acc' c' (fun b o hb hb2 e => hm.heap b o (fun hmem => ?_) e) hS' (Array.eq_empty_of_size_eq_zero hacc.1)
  rcases List.mem_cons.mp hmem with e' | hmem
  · exact hb e'
  · exact hb2 (List.mem_singleton.mp hmem)

theorem init_end {s : Shared} {A : Around} {R : Result → Shared → Prop} {It l : Addr} {items : Array Value} (hh : A.handled = none) (hne : l ≠ It) (hit : s.heap.IsListIter It l items.size) (hl : s.heap.IsList l items) (S : Addr)
    (hS : s.heap.get? S = some { cls := .type "list", data := .seq #[] }) (hSf : S ∉ [It, l])
    (hR : ∀ h' tk acc' c', (∀ b o, b ≠ S → b ≠ It → s.heap.get? b = some o → h'.get? b = some o) → h'.get? S = some { cls := .type "list", dict := none, data := .seq acc' c', slots := #[] } → acc' = #[] → R (.ok (.ret .none)) { s with heap := h', toks := tk }) :
    wpAny (model PW w) A.in1 (Builtin.«list.__init__» ⟨[.ref S, .ref It], []⟩)
      (fun fin s' => match fin with | .done f => R (.ok f) s' | .again c' => c'.quiet = true ∧ codeAny (model PW w) A c' R s') (fun e s' => R (.error e) s') s := by
  have hSI : S ≠ It := fun e => hSf (e ▸ .head _)
  have hSl : S ≠ l := fun e => hSf (e ▸ .tail _ (.head _))
  show wpAny _ _ (do let old ← Builtin.List.listItems (.ref S); Builtin.List.listUpdate (.ref S) (fun _ => #[]); letGo old.toList.reverse; Builtin.List.listExtendWith (.ref S) (.ref It) .none) _ _ s
  refine wpAny_bind ?_
  unfold Builtin.List.listItems
  refine wpAny_bind (wpAny_seqItems hS rfl (wpAny_pure ?_))
  show wpAny _ _ (updateSeq S (fun _ => #[]) >>= fun _ => letGo (#[] : Array Value).toList.reverse >>= fun _ => Builtin.List.listExtendWith (.ref S) (.ref It) .none) _ _ s
  refine wpAny_bind (wpAny_updateSeq hS rfl ?_)
  have hS₂ := Heap.get?_update_self (Obj.mapSeq (fun _ => (#[] : Array Value))) hS rfl
  have oth : ∀ b o, b ≠ S → s.heap.get? b = some o → (s.heap.update S (Obj.mapSeq (fun _ => (#[] : Array Value)))).get? b = some o :=
    fun b o hb e => (Heap.get?_update_other _ _ (Ne.symm hb)).trans e
  refine wpAny_bind (wpAny_letGo ?_)
  refine ext_end hh hne (hit.at fun o e => oth _ o (Ne.symm hSI) e) (hl.at fun o e => oth _ o (Ne.symm hSl) e) S .none _ hS₂ hSf fun h' tk acc' c' hk hS' hacc => ?_
  exact hR h' tk acc' c' (fun b o hb hb2 e => hk b o hb hb2 (oth b o hb e)) hS' hacc

theorem HC_listEnd {It l : Addr} {vs : List AV} (hh : A.handled = none) (pre post : Cells) (hσ : σ = pre ++ (It, .liter l vs.length) :: post) (hl : HasL b (pre ++ post) l vs) (h : ∀ D, Q (.ref D) m ((D, lst []) :: (pre ++ post))) :
    HC w A b L (.type "list") [.ref It] m σ Q := fun as ha s I => by
  obtain ⟨v, rfl, e⟩ := map_one ha
  obtain rfl := er_ref e
  subst hσ
  have hsub : (pre ++ post).Sublist (pre ++ (It, Cell.liter l vs.length) :: post) := List.Sublist.append_left (List.sublist_cons_self _ _) _
  have I' := I.drop hsub
  obtain ⟨xs, p, q⟩ := hl.sat I'
  have hs : xs.size = vs.length := by rw [← q]; simp
  have hit : s.heap.IsListIter It l xs.size := hs ▸ I.cells (It, .liter l vs.length) (by simp)
  have hIt : It ∉ L :: (pre ++ post).map (·.1) := by
    have nd := I.nd
    intro hm
    rw [List.map_append, List.map_cons] at nd
    have nd1 := List.nodup_cons.mp nd
    rcases List.mem_cons.mp hm with rfl | hm
    · exact nd1.1 (by simp)
    · rw [List.map_append] at hm
      have h3 := List.nodup_append.mp nd1.2
      rcases List.mem_append.mp hm with h | h
      · exact h3.2.2 _ h _ (.head _) rfl
      · exact (List.nodup_cons.mp h3.2.1).1 h
  have hItb : b.heap.get? It = none := I.new It (List.mem_cons_of_mem _ (by simp))
  have hlIt : l ≠ It := by
    rintro rfl
    obtain ⟨o, ho, hc, _⟩ := p
    obtain ⟨o', ho', hc', _⟩ := hit
    rw [ho] at ho'; cases ho'; rw [hc] at hc'; exact absurd hc' (by decide)
  have hItlt : It < s.heap.objs.size := by obtain ⟨o, ho, _⟩ := hit; exact Heap.lt_size ho
  have hllt : l < s.heap.objs.size := by obtain ⟨o, ho, _⟩ := p; exact Heap.lt_size ho
  refine callType_codes (Q₁ := fun obj s₁ => obj = .ref s.heap.objs.size ∧ s₁ = { s with heap := s.heap.push { cls := .type "list", data := .seq #[] } }) F.called_list (F.typeCall_list_1 _) F.entry_list_init
    (code_list_new _ ⟨rfl, rfl⟩) fun obj s₁ h₁ => ?_
  obtain ⟨rfl, rfl⟩ := h₁
  have hS : (s.heap.push { cls := .type "list", data := .seq #[] }).get? s.heap.objs.size = some { cls := .type "list", data := .seq #[] } := Heap.get?_push_size _ rfl
  refine ⟨⟨_, hS, rfl⟩, F.args_list_init_2 _ _, init_end (A := A.in1) hh hlIt (hit.at fun o e => Heap.get?_push_of_some _ e) (p.at fun o e => Heap.get?_push_of_some _ e) _ hS (fun hm => ?_) fun h' tk acc' c' hk hS' hacc => ?_⟩
  · rcases List.mem_cons.mp hm with e | hm
    · exact Nat.lt_irrefl _ (e ▸ hItlt)
    · exact Nat.lt_irrefl _ (List.mem_singleton.mp hm ▸ hllt)
  refine ⟨rfl, ?_⟩
  have kk : ∀ d o, d ≠ It → s.heap.get? d = some o → h'.get? d = some o := fun d o hd e => hk d o (Nat.ne_of_lt (Heap.lt_size e)) hd (Heap.get?_push_of_some _ e)
  have I₂ : Inv b L m (pre ++ post) { s with heap := h', toks := tk } := I'.outside hIt hItb kk
  have hnew := new_of s
  have I₃ := I₂.add (D := s.heap.objs.size) (c := lst []) (I'.dead hnew) (by
    cases q : b.heap.get? s.heap.objs.size with
    | none => rfl
    | some o => rw [I.keep _ _ q] at hnew; cases hnew) (lst_sat.mpr ⟨acc', ⟨_, hS', rfl, c', rfl⟩, by rw [hacc]; rfl⟩)
  refine ⟨m, _, I₃, ⟨fun a o hn e => kk a o (fun q => hn (by rw [q]; simp)) e, fun a ha => ?_, rfl, rfl, rfl⟩, h _⟩
  rw [List.map_cons] at ha
  cases ha with
  | head => exact .inr hnew
  | tail _ ha => exact .inl (.tail _ ((hsub.map (·.1)).subset ha))

/-! comparisons of lists -/
theorem ints_are : ∀ {xs : List Value} {is : List Int}, xs.map er = is.map .int → IntsAre xs is
  | [], [], _ => .nil
  | [], i :: is, h => by cases h
  | x :: xs, [], h => by cases h
  | x :: xs, i :: is, h => by
    rw [List.map_cons, List.map_cons] at h
    injection h with h1 h2
    obtain ⟨t, rfl⟩ := er_int h1
    exact .cons _ _ (ints_are h2)
theorem HCmp_neI {l k : Addr} {is js : List Int} (hu : A.units + 64 < cLine) (hl : HasL b σ l (is.map .int)) (hk : HasL b σ k (js.map .int)) (h : Q (.bool (decide (is ≠ js))) m σ) : HCmp w A b L .NotEq (.ref l) (.ref k) m σ Q := fun v u e1 e2 s I => by
  obtain rfl := er_ref e1
  obtain rfl := er_ref e2
  obtain ⟨xs, p1, q1⟩ := hl.sat I
  obtain ⟨ys, p2, q2⟩ := hk.sat I
  refine ke_ne_ints (xs := xs.toList) (ys := ys.toList) (by simpa using p1) (by simpa using p2) (ints_are q1) (ints_are q2) hu (PG.grow I .refl ?_)
  simpa [er] using h
theorem HCmp_eqI {l k : Addr} {is js : List Int} (hu : A.units + 64 < cLine) (hl : HasL b σ l (is.map .int)) (hk : HasL b σ k (js.map .int)) (h : Q (.bool (decide (is = js))) m σ) : HCmp w A b L .Eq (.ref l) (.ref k) m σ Q := fun v u e1 e2 s I => by
  obtain rfl := er_ref e1
  obtain rfl := er_ref e2
  obtain ⟨xs, p1, q1⟩ := hl.sat I
  obtain ⟨ys, p2, q2⟩ := hk.sat I
  refine ke_eq_ints (xs := xs.toList) (ys := ys.toList) (by simpa using p1) (by simpa using p2) (ints_are q1) (ints_are q2) hu (PG.grow I .refl ?_)
  simpa [er] using h
theorem HCmp_neNil {l k : Addr} {vs : List AV} (hu : A.units + 64 < cLine) (hl : HasL b σ l vs) (hk : HasL b σ k []) (h : Q (.bool (!vs.isEmpty)) m σ) : HCmp w A b L .NotEq (.ref l) (.ref k) m σ Q := fun v u e1 e2 s I => by
  cases vs with
  | nil => exact HCmp_neI (is := []) (js := []) hu hl hk (by simpa using h) v u e1 e2 s I
  | cons x vs =>
    obtain rfl := er_ref e1
    obtain rfl := er_ref e2
    obtain ⟨xs, p1, q1⟩ := hl.sat I
    obtain ⟨ys, p2, q2⟩ := hk.sat I
    have z1 : xs.size = vs.length + 1 := by have := congrArg List.length q1; simpa using this
    have z2 : ys.size = 0 := by have := congrArg List.length q2; simpa using this
    exact PySem.SeqAt.RcNeAt.lists_lengths p1 p2 (by rw [z1, z2]; simp) (by omega) _ _ _ _ (PG.grow I .refl h)
theorem HC_isbool {i : Int} (h : Q (.bool false) m σ) : HC w A b L (.builtin "isinstance") [.int i, .oth (.type "bool")] m σ Q := fun as ha s I => by
  obtain ⟨v, u, rfl, e1, e2⟩ := map_two ha
  obtain ⟨t, rfl⟩ := er_int e1
  obtain rfl := er_oth e2
  exact IsiPair.int_bool (PG.grow I .tok h)
end
end Mine
end
section
open PySem PySem.W PyProof.Rows PySem.Calls PySem.Spec
namespace Mine
structure PairOk (a c : List Nat) (n k : Int) : Prop where
  len : c.length = a.length
  le : a.length ≤ 4
  oka : lenOk a
  okc : lenOk c
  F : ∃ F ∈ Fs, Builtin.bitXor n k = (F : Int) ∧ prettyS F = (if bitsW a c = [] then [48, 120, 48] else jn [44, 32] (bitsW a c))
  way : lev a c (bitsW a c).length = (bitsW a c).length
section
variable {w : World} {A : Around} {b : Shared} {env : Env} {L : Addr} {m : Loc} {σ : Cells} {Q : AV → Loc → Cells → Prop} {mg mb : PySem.Str → Option Value}
local macro_rules | `(tactic| walk_at "lk") => `(tactic| ((repeat (first | with_reducible assumption | with_reducible exact lookup_put_eq | with_reducible refine (lookup_put_ne (by decide)).trans ?_)); first | done | exact lookup_put_eq | rfl))
theorem some23 : (fnRec 23).isSome = true := by rfl
abbrev bd23 : List Stmt := ((fnRec 23).get some23).2.2.1
abbrev sc23 : Scope := ((fnRec 23).get some23).2.2.2
abbrev forBody : Stmt → List Stmt
  | .For _ _ b _ _ => b
  | _ => []
theorem bits_le {a c : List Nat} : (bitsW a c).length ≤ a.length := by
  unfold bitsW bitsI
  rw [List.length_map]
  exact Nat.le_trans (List.length_filter_le _ _) (by simp)
theorem zx0 : (Str.ofString "0x0").cps.toList = [48, 120, 48] := by decide +kernel
theorem wd_le {i : Nat} (h : i < 4) : (wd (6 * (i + 1) + 5)).length ≤ 10 := by simp [wd]; omega
theorem bits_sum {a c : List Nat} (h : a.length ≤ 4) : ((bitsW a c).map List.length).sum ≤ 40 := by
  have h1 := bits_le (a := a) (c := c)
  have h2 : ∀ x ∈ bitsW a c, x.length ≤ 10 := fun x hx => by
    unfold bitsW at hx
    obtain ⟨i, hi, rfl⟩ := List.mem_map.mp hx
    unfold bitsI at hi
    have := List.mem_range.mp (List.mem_filter.mp hi).1
    exact wd_le (by omega)
  have h3 : ∀ l : List (List Nat), (∀ x ∈ l, x.length ≤ 10) → (l.map List.length).sum ≤ 10 * l.length := by
    intro l
    induction l with
    | nil => intro _; simp
    | cons x r ih =>
      intro h
      have := ih fun y hy => h y (.tail _ hy)
      have := h x (.head _)
      simp only [List.map_cons, List.sum_cons, List.length_cons]
      omega
  have := h3 _ h2
  omega

theorem w_pair {f cd} {A1 A2 : Addr} {sp : List (List Nat)} {ns : List Int} {x y : Nat} {a c : List Nat} {n k : Int} {Q : FL → Loc → Cells → Prop} (R : Rm 2 A) (G : GB w mg mb b.heap)
    (h1 : (Cell.list (sp.map .str)).Sat b.heap A1) (h2 : (Cell.list (ns.map .int)).Sat b.heap A2) (hx : sp[x]? = some a) (hy : sp[y]? = some c) (hnx : ns[x]? = some n) (hny : ns[y]? = some k) (hx2 : x < 100) (hy2 : y < 100)
    (P : PairOk a c n k) (g1 : gv m "spellings" = some (.ref A1)) (g2 : gv m "numbers" = some (.ref A2)) (g3 : gv m "i" = some (.int x)) (g4 : gv m "j" = some (.int y))
    (fin : ∀ m' (σ' : Cells), gv m' "spellings" = some (.ref A1) → gv m' "numbers" = some (.ref A2) → σ.Sublist σ' → Q .next m' σ') :
    HB w A b (envOfC "_law_word" sc23 L f cd) (forBody (bd23[1]'(by decide))) m σ Q := by
  have L1 : ∀ σ, HasL b σ A1 (sp.map .str) := fun σ => .inl (.inr h1)
  have L2 : ∀ σ, HasL b σ A2 (ns.map .int) := fun σ => .inl (.inr h2)
  have ex : (sp.map AV.str)[x]? = some (.str a) := by rw [List.getElem?_map, hx]; rfl
  have ey : (sp.map AV.str)[y]? = some (.str c) := by rw [List.getElem?_map, hy]; rfl
  have enx : (ns.map AV.int)[x]? = some (.int n) := by rw [List.getElem?_map, hnx]; rfl
  have eny : (ns.map AV.int)[y]? = some (.int k) := by rw [List.getElem?_map, hny]; rfl
  obtain ⟨F, hF, hxor, hpr⟩ := P.F
  have hbl := bits_le (a := a) (c := c)
  have hbs := bits_sum (c := c) P.le
  have hP4 := P.le
  have hu : A.units + 64 < cLine := by have := R.u; unfold cLine; omega
  refine HB_cons (HS_assign ?_)
  refine HE_callF 22 G (by rfl) (by rfl) fun fb hfb => ?_
  refine HL_cons (HE_subI (HE_name _ g1 (HE_name _ g3 ⟨A1, _, x, _, rfl, rfl, L1 _, ex, by omega, ?_⟩)))
  refine HL_cons (HE_subI (HE_name _ g1 (HE_name _ g4 ⟨A1, _, y, _, rfl, rfl, L1 _, ey, by omega, ?_⟩)))
  refine HL_nil (HC_fn (R.le (by decide)) G (fn_bits w (by omega) P.len) hfb (fun _ _ => trivial) ?_)
  rintro v σ' ⟨wl, rfl, rfl⟩
  refine HB_cons (HS_if (HT_cmp (HE_cmp ?_)))
  refine HE_callF 2 G (by rfl) (by rfl) fun fp hfp => ?_
  refine HL_cons (HE_bin (HE_subI (HE_name (.ref A2) (by walk_at "lk") (HE_name (.int x) (by walk_at "lk") ⟨A2, _, x, _, rfl, rfl, L2 _, enx, by omega, ?_⟩))))
  refine HE_subI (HE_name (.ref A2) (by walk_at "lk") (HE_name (.int y) (by walk_at "lk") ⟨A2, _, y, _, rfl, rfl, L2 _, eny, by omega, ?_⟩))
  refine HBin_xor ?_
  rw [hxor]
  refine HL_nil (HC_fn (R.le (by decide)) G (fn_flags w hF) hfp (fun _ _ => trivial) ?_)
  rintro v σ' ⟨rfl, rfl⟩
  rw [List.nil_append]
  refine HE_ife (HT_cmp (HE_cmp (HE_name (.ref wl) (by walk_at "lk") ?_)))
  refine HE_list (by rfl) (HL_nil ⟨by simp, fun el => ?_⟩)
  refine HCmp_neNil hu (.inl (.inl (.tail _ (.head _)))) (.inl (.inl (.head _))) ⟨_, rfl, ?_⟩
  have step : ∀ (σ₁ : Cells), ((wl, Cell.list ((bitsW a c).map .str)) :: σ).Sublist σ₁ → HB w A b (envOfC "_law_word" sc23 L f cd) ((forBody (bd23[1]'(by decide))).drop 2) (put "words" (.ref wl) m) σ₁ Q := by
    intro σ₁ hs
    have hw : HasL b σ₁ wl ((bitsW a c).map .str) := .inl (.inl (hs.subset (.head _)))
    refine HB_cons (HS_assign ?_)
    refine HE_callF 17 G (by rfl) (by rfl) fun fl hfl => ?_
    refine HL_cons (HE_subI (HE_name (.ref A1) (by walk_at "lk") (HE_name (.int x) (by walk_at "lk") ⟨A1, _, x, _, rfl, rfl, L1 _, ex, by omega, ?_⟩)))
    refine HL_cons (HE_subI (HE_name (.ref A1) (by walk_at "lk") (HE_name (.int y) (by walk_at "lk") ⟨A1, _, y, _, rfl, rfl, L1 _, ey, by omega, ?_⟩)))
    refine HL_cons (HE_callB "len" G (by decide) (by rfl) (by rfl) (by rfl) (HL_cons (HE_name (.ref wl) (by walk_at "lk") (HL_nil (HC_lenL (.inl (hs.subset (.head _))) (by rw [sizeLine_eq]; simp; omega) ?_)))))
    rw [List.length_map]
    refine HL_nil (HC_fn (R.le (by decide)) G (fn_lev w P.oka P.okc) hfl (fun _ _ => trivial) ?_)
    rintro v σ' ⟨rfl, rfl⟩
    rw [P.way, List.nil_append]
    refine HB_cons (HS_if (HT_same false ?_ ?_))
    · refine HT_or (HA_or (HT_val ?_))
      refine HE_callB "isinstance" G (by decide) (by rfl) (by rfl) (by rfl) (HL_cons (HE_name (.int ((bitsW a c).length : Nat)) (by walk_at "lk") ?_))
      refine HL_cons (HE_boot (.type "bool") G (by decide) (by rfl) ?_)
      refine HL_nil (HC_isbool (HTr_bool (ite_f ?_)))
      refine HA_or (HT_cmp (HE_cmp (HE_name (.int ((bitsW a c).length : Nat)) (by walk_at "lk") ?_)))
      refine HE_callB "len" G (by decide) (by rfl) (by rfl) (by rfl) (HL_cons (HE_name (.ref wl) (by walk_at "lk") (HL_nil (HC_lenL (.inl (hs.subset (.head _))) (by rw [sizeLine_eq]; simp; omega) ?_))))
      rw [List.length_map]
      refine HCmp_ne ⟨_, rfl, ?_⟩
      rw [decide_eq_false (by simp)]
      exact ite_f (HA_or_nil ⟨rfl, rfl, rfl⟩)
    · exact ite_f (HB_nil (HB_nil (fin _ _ (by walk_at "lk") (by walk_at "lk") ((List.sublist_cons_self _ _).trans hs))))
  by_cases q : bitsW a c = []
  · rw [q]
    refine ite_f (HE_str ?_)
    rw [zx0]
    rw [if_pos q] at hpr
    refine HCmp_sne ⟨_, rfl, ?_⟩
    rw [hpr, decide_eq_false (by simp)]
    refine ite_f (HB_nil ?_)
    rw [q] at step
    exact step _ (List.sublist_cons_self _ _)
  · have : (!((bitsW a c).map AV.str).isEmpty) = true := by cases h : bitsW a c <;> simp_all
    rw [this]
    refine ite_t ?_
    with_reducible refine HE_join ?_ (by with_unfolding_all rfl) (by with_unfolding_all rfl)
    refine HE_name (.ref wl) (by walk_at "lk") ⟨wl, bitsW a c, rfl, .inl (.tail _ (.head _)), ?_, ?_⟩
    · rw [sep_l]; simp only [List.length_cons, List.length_nil]; omega
    rw [sep_l]
    rw [if_neg q] at hpr
    refine HCmp_sne ⟨_, rfl, ?_⟩
    rw [hpr, decide_eq_false (by simp)]
    exact ite_f (HB_nil (step _ (List.sublist_cons_self _ _)))
end
end Mine
end
section
open PySem PySem.W PyProof.Rows PySem.Calls PySem.Spec
namespace Mine
section
variable {w : World} {A : Around} {b : Shared} {env : Env} {L : Addr} {m : Loc} {σ : Cells} {Q : AV → Loc → Cells → Prop} {mg mb : PySem.Str → Option Value}
local macro_rules | `(tactic| walk_at "lk") => `(tactic| ((repeat (first | with_reducible assumption | with_reducible exact lookup_put_eq | with_reducible refine (lookup_put_ne (by decide)).trans ?_)); first | done | exact lookup_put_eq | rfl))

theorem itr_listJ {l : Addr} {vs : List AV} {n : Nat} (hn : n = vs.length) {J : Nat → Loc → Cells → Prop} (hh : A.handled = none) (hl : ∀ i m σ, J i m σ → HasL b σ l vs) : Itr w A b L n (fun i => vs.getD i .none) (fun i => .liter l i) J := by
  subst hn; exact itr_list hh hl

/-- two names out of a pair -/
theorem H_assign2 {x y : PySem.Str} {p1 p2 k tp} {t : Addr} {u v : AV} {Q : Unit → Loc → Cells → Prop} (hh : A.handled = none) (ht : Has b σ t (.tup [u, v])) (h : Q () (put y v (put x u m)) σ)
    (hx : env.kindOf x = some .local) (hy : env.kindOf y = some .local) (hp : (env.scope.kind == .class || (env.scope.kind == .module && env.locals != env.globals)) = false)
    (he : assignEach [.Name x p1, .Name y p2] env = [(false, assign (.Name x p1) env), (false, assign (.Name y p2) env)] := by rfl) :
    H w A b env.locals id (assign (.Tuple [.Name x p1, .Name y p2] k tp) env (.ref t)) m σ Q := fun s I => by
  obtain ⟨xs, p, hq⟩ := ht.sat I
  have hsz : xs.size = 2 := by have := congrArg List.length hq; simpa using this
  refine wpAny_assign_Tuple hh p (by rw [he, hsz]; rfl) (by rw [he]; rfl) fun h' hx' => ?_
  have g : Grown s { s with heap := h' } := ⟨h', s.toks, rfl, fun c o e => hx' c o (Nat.ne_of_lt (Heap.lt_size e)) e⟩
  have I₂ : Inv b env.locals m σ { s with heap := h' } := I.grow g
  obtain ⟨z1, z2, hz, hz1, hz2⟩ := map_two hq
  rw [hz, he]
  show wpAny _ A (assignInOrder [assign (.Name x p1) env, assign (.Name y p2) env] [z1, z2]) _ _ _
  refine wpAny_assignInOrder_more (H.seq I₂ (H_assign (QU := fun _ m' σ' => m' = put x u m ∧ σ' = σ) ⟨by rw [hz1], rfl⟩ hx hp) fun _ m₂ σ₂ s₂ h₂ I₃ X₃ => ?_)
  obtain ⟨rfl, rfl⟩ := h₂
  refine wpAny_assignInOrder_more (H.seq I₃ (H_assign (QU := fun _ m' σ' => m' = put y v (put x u m) ∧ σ' = σ₂) ⟨by rw [hz2], rfl⟩ hy hp) fun _ m₃ σ₃ s₃ h₃ I₄ X₄ => ?_)
  obtain ⟨rfl, rfl⟩ := h₃
  exact wpAny_assignInOrder_none ⟨_, _, I₄, ((Ext.grow g).trans X₃).trans X₄, h⟩

theorem H.less {α β : Type} {f : α → β} {t : Sem α} {σ₂ : Cells} {Q : β → Loc → Cells → Prop} (hs : σ₂.Sublist σ) (h : H w A b L f t m σ₂ Q) : H w A b L f t m σ Q := fun s I =>
  wpAny_mono (h s (I.drop hs)) (fun a s' ⟨m', σ', I', X', q⟩ => ⟨m', σ', I', ⟨fun a o hn e => X'.kept a o (fun h => hn (((hs.map (·.1)).cons_cons L).subset h)) e, fun a ha => (X'.fresh a ha).imp (fun h => ((hs.map (·.1)).cons_cons L).subset h) id, X'.gens, X'.drawn, X'.os⟩, q⟩) fun _ _ x => x

abbrev forTg : Stmt → Expr
  | .For t _ _ _ _ => t
  | _ => .Constant .none 0 default
abbrev forIter : Stmt → Expr
  | .For _ i _ _ _ => i
  | _ => .Constant .none 0 default
set_option maxHeartbeats 2000000 in
theorem w_pairs {f cd} {A1 A2 : Addr} {a0 a1 a2 : List Nat} {n0 n1 n2 : Int} {fig : List Nat} {Q : FL → Loc → Cells → Prop} (R : Rm 2 A) (G : GB w mg mb b.heap)
    (h1 : (Cell.list ([a0, a1, a2].map .str)).Sat b.heap A1) (h2 : (Cell.list ([n0, n1, n2].map .int)).Sat b.heap A2) (P1 : PairOk a0 a1 n0 n1) (P2 : PairOk a0 a2 n0 n2) (P3 : PairOk a2 a1 n2 n1)
    (g1 : gv m "spellings" = some (.ref A1)) (g2 : gv m "numbers" = some (.ref A2))
    (fin : ∀ m' (σ' : Cells), Q (.ret (.bool true)) m' σ') :
    HB w A b (envOfC "_law_word" sc23 L f cd) (bd23.drop 1) m σ Q := by
  have turn : ∀ (W : Cells) (I : Addr) (c : Cell) (t : Addr) (x y : Nat) (a k : List Nat) (n o : Int) m', Has b W t (.tup [.int x, .int y]) → [a0, a1, a2][x]? = some a → [a0, a1, a2][y]? = some k → [n0, n1, n2][x]? = some n → [n0, n1, n2][y]? = some o → x < 100 → y < 100 →
      PairOk a k n o → gv m' "spellings" = some (.ref A1) → gv m' "numbers" = some (.ref A2) →
      H w A b (envOfC "_law_word" sc23 L f cd).locals id (assign (forTg (bd23[1]'(by decide))) (envOfC "_law_word" sc23 L f cd) (.ref t)) m' ((I, c) :: W) (fun _ m₁ σ₁ => HB w A b (envOfC "_law_word" sc23 L f cd) (forBody (bd23[1]'(by decide))) m₁ σ₁ (fun fl m₂ σ₂ => ∃ σ'' : Cells, ((I, c) :: σ'').Sublist σ₂ ∧
        fl = .next ∧ gv m₂ "spellings" = some (.ref A1) ∧ gv m₂ "numbers" = some (.ref A2) ∧ σ'' = W)) := by
    intro W I c t x y a k n o m' ht hx hy hnx hny hx2 hy2 P q1 q2
    refine H_assign2 R.h (ht.imp (.tail _) id) ?_ (by rfl) (by rfl) (by rfl)
    refine w_pair R G h1 h2 hx hy hnx hny hx2 hy2 P (by walk_at "lk") (by walk_at "lk") (by walk_at "lk") (by walk_at "lk") ?_
    intro m'' σ' r1 r2 hs
    exact ⟨W, hs, rfl, r1, r2, rfl⟩
  refine HB_cons (HS_forX ?_)
  refine HE_list (by rfl) ?_
  refine HL_cons (HE_tuple (k := 0) (by rfl) (HL_cons (HE_int (k := 0) (pos := default) (HL_cons (HE_int (k := 0) (pos := default) (HL_nil ⟨by decide, fun t0 => ?_⟩))))))
  refine HL_cons (HE_tuple (k := 0) (by rfl) (HL_cons (HE_int (k := 0) (pos := default) (HL_cons (HE_int (k := 0) (pos := default) (HL_nil ⟨by decide, fun t1 => ?_⟩))))))
  refine HL_cons (HE_tuple (k := 0) (by rfl) (HL_cons (HE_int (k := 0) (pos := default) (HL_cons (HE_int (k := 0) (pos := default) (HL_nil ⟨by decide, fun t2 => ?_⟩))))))
  refine HL_nil ⟨by simp [sizeLine_eq], fun l => ?_⟩
  have hl0 : ∀ W : Cells, HasL b ((l, Cell.list [AV.ref t0, .ref t1, .ref t2]) :: W) l [.ref t0, .ref t1, .ref t2] := fun W => .inl (.inl (.head _))
  refine ⟨3, fun i => [AV.ref t0, .ref t1, .ref t2].getD i .none, fun i => .liter l i,
    fun i m' σ' => gv m' "spellings" = some (.ref A1) ∧ gv m' "numbers" = some (.ref A2) ∧ σ' = (l, .list [.ref t0, .ref t1, .ref t2]) :: (t2, .tup [.int 2, .int 1]) :: (t1, .tup [.int 0, .int 2]) :: (t0, .tup [.int 0, .int 1]) :: σ, itr_listJ (by rfl) R.h ?_, ⟨starts_list (hl0 _), _, .refl _, g1, g2, rfl⟩, ?_, ?_⟩
  · rintro i m' σ' ⟨_, _, rfl⟩; exact hl0 _
  · rintro I i m' σ' ⟨q1, q2, rfl⟩ hi v hv
    have : i = 0 ∨ i = 1 ∨ i = 2 := by omega
    rcases this with rfl | rfl | rfl
    · obtain rfl := er_ref (show er v = .ref t0 from hv)
      refine (turn _ I (.liter l 1) t0 0 1 a0 a1 n0 n1 m' (.inl (by simp)) rfl rfl rfl rfl (by decide) (by decide) P1 q1 q2).mono fun _ m₁ σ₁ h => h.mono fun fl m₂ σ₂ ⟨σ'', hs, e, r1, r2, r3⟩ => ?_
      subst e; exact ⟨σ'', hs, r1, r2, r3⟩
    · obtain rfl := er_ref (show er v = .ref t1 from hv)
      refine (turn _ I (.liter l 2) t1 0 2 a0 a2 n0 n2 m' (.inl (by simp)) rfl rfl rfl rfl (by decide) (by decide) P2 q1 q2).mono fun _ m₁ σ₁ h => h.mono fun fl m₂ σ₂ ⟨σ'', hs, e, r1, r2, r3⟩ => ?_
      subst e; exact ⟨σ'', hs, r1, r2, r3⟩
    · obtain rfl := er_ref (show er v = .ref t2 from hv)
      refine (turn _ I (.liter l 3) t2 2 1 a2 a1 n2 n1 m' (.inl (by simp)) rfl rfl rfl rfl (by decide) (by decide) P3 q1 q2).mono fun _ m₁ σ₁ h => h.mono fun fl m₂ σ₂ ⟨σ'', hs, e, r1, r2, r3⟩ => ?_
      subst e; exact ⟨σ'', hs, r1, r2, r3⟩
  · rintro m' σ' ⟨q1, q2, rfl⟩
    exact HB_nil (HB_cons (HS_return (HE_bool (fin _ _))))

set_option maxHeartbeats 2000000 in
theorem w_word {f cd} {A1 A2 : Addr} {a0 a1 a2 : List Nat} {n0 n1 n2 : Int} {fig : List Nat} {Q : FL → Loc → Cells → Prop} (R : Rm 2 A) (G : GB w mg mb b.heap)
    (h1 : (Cell.list ([a0, a1, a2].map .str)).Sat b.heap A1) (h2 : (Cell.list ([n0, n1, n2].map .int)).Sat b.heap A2) (hfig : fig.length = 1)
    (e0 : n0 = lawNum (a0 ++ fig)) (e1 : n1 = lawNum (a1 ++ fig)) (e2 : n2 = lawNum (a2 ++ fig)) (P1 : PairOk a0 a1 n0 n1) (P2 : PairOk a0 a2 n0 n2) (P3 : PairOk a2 a1 n2 n1)
    (g1 : gv m "spellings" = some (.ref A1)) (g2 : gv m "numbers" = some (.ref A2))
    (fin : ∀ m' (σ' : Cells), Q (.ret (.bool true)) m' σ') :
    HB w A b (envOfC "_law_word" sc23 L f cd) bd23 m [(L + 1, .cellv (.str fig))] Q := by
  have L1 : ∀ σ, HasL b σ A1 ([a0, a1, a2].map .str) := fun σ => .inl (.inr h1)
  have L2 : ∀ σ, HasL b σ A2 ([n0, n1, n2].map .int) := fun σ => .inl (.inr h2)
  have hu : A.units + 64 < cLine := by have := R.u; unfold cLine; omega
  have l0 := P1.le
  have l1 : a1.length ≤ 4 := by rw [P1.len]; exact l0
  have l2 : a2.length ≤ 4 := by rw [P2.len]; exact l0
  refine HB_cut (fun m' σ' => m' = m) (HS_if (HT_cmp (HE_cmp (HE_name _ g2 ?_)))) ?_
  · refine HE_comp 3 (fun i => ([a0, a1, a2].map AV.str).getD i .none) (fun i => .liter A1 i) (fun i acc σ => σ = [(L + 1, .cellv (.str fig))] ∧ acc = ([n0, n1, n2].take i).map .int) (cl := [("figure", L + 1)]) (by rfl) (by decide) (by rfl) (by decide) ?_ ?_
    · refine HE_name _ g1 ⟨starts_list (L1 _), _, .refl _, ⟨rfl, rfl⟩, ?_⟩
      rintro D acc σ' ⟨rfl, rfl⟩
      refine HCmp_neI hu (L2 _) (.inl (.inl (.head _))) ⟨_, rfl, ?_⟩
      rw [decide_eq_false (by simp)]
      exact ite_f (HB_nil rfl)
    · refine ⟨fun C => itr_listJ (by rfl) R.h fun i m σ _ => L1 _, fun C => self_list, ?_, ?_⟩
      · rintro i acc σ ⟨rfl, rfl⟩
        rw [sizeLine_eq]; simp; omega
      · rintro C I D i acc m σ ⟨rfl, rfl⟩ hi v hv
        obtain ⟨a, n, ea, hn, hl, ht⟩ : ∃ a n, ([a0, a1, a2].map AV.str).getD i .none = .str a ∧ n = lawNum (a ++ fig) ∧ a.length ≤ 4 ∧ ([n0, n1, n2].take i).map AV.int ++ [.int n] = ([n0, n1, n2].take (i + 1)).map .int := by
          have : i = 0 ∨ i = 1 ∨ i = 2 := by omega
          rcases this with rfl | rfl | rfl
          · exact ⟨a0, n0, rfl, e0, l0, rfl⟩
          · exact ⟨a1, n1, rfl, e1, l1, rfl⟩
          · exact ⟨a2, n2, rfl, e2, l2, rfl⟩
        refine H_assign (H_tests_nil (ite_t ?_))
        rw [hv]
        rw [ea]
        refine HE_callF 21 G (by rfl) (by rfl) fun fn hfn => ?_
        refine HL_cons (HE_bin (HE_name _ (by walk_at "lk") (HE_cell (L + 1) (.str fig) (by rfl) (.tail _ (.tail _ (.head _))) (HBin_cat ?_ ?_))))
        · rw [sizeLine_eq]; omega
        refine HL_nil (HC_fn (R.le (by decide)) G (fn_number w (by simp; omega)) hfn (fun _ _ => trivial) ?_)
        rintro v σ' ⟨rfl, rfl⟩
        exact ⟨_, .refl _, rfl, by rw [← hn, ht]⟩
  · rintro m₁ σ₁ rfl
    exact w_pairs (fig := fig) R G h1 h2 P1 P2 P3 g1 g2 fin
end
end Mine
end
section
open PySem PySem.W PyProof.Rows PySem.Calls PySem.Spec
namespace Mine
section
variable {w : World} {A : Around} {b : Shared} {env : Env} {L : Addr} {m : Loc} {σ : Cells} {Q : AV → Loc → Cells → Prop} {mg mb : PySem.Str → Option Value}
theorem fn_word (w : World) {mg mb : PySem.Str → Option Value} {A1 A2 : Addr} {a0 a1 a2 : List Nat} {n0 n1 n2 : Int} {fig : List Nat} (hfig : fig.length = 1)
    (e0 : n0 = lawNum (a0 ++ fig)) (e1 : n1 = lawNum (a1 ++ fig)) (e2 : n2 = lawNum (a2 ++ fig)) (P1 : PairOk a0 a1 n0 n1) (P2 : PairOk a0 a2 n0 n2) (P3 : PairOk a2 a1 n2 n1) :
    Fn w mg mb "_law_word" 3 [.ref A1, .str fig, .ref A2] (fun s => (Cell.list ([a0, a1, a2].map .str)).Sat s.heap A1 ∧ (Cell.list ([n0, n1, n2].map .int)).Sat s.heap A2) (fun v σ => v = .bool true ∧ σ = []) := by
  refine Fn_of_bodyC 23 (a := ((fnRec 23).get some23).2.1) (bd := bd23) (sc := sc23) (by rfl) "figure" (.str fig) [("spellings", .ref A1), ("numbers", .ref A2)] (fun L => by rfl) ?_ ?_ ?_ ?_ ?_
  · intro pm cd doc as ha
    obtain ⟨v, u, x, rfl, e1, e2, e3⟩ := map_three ha
    rfl
  · decide
  · intro L f cd as ha z u e
    obtain ⟨v, y, x, rfl, e1, e2, e3⟩ := map_three ha
    by_cases hz : z = "spellings"
    · subst hz
      have : some (AV.ref A1) = some u := e
      cases this
      exact ⟨v, by rfl, e1⟩
    by_cases hz2 : z = "numbers"
    · subst hz2
      have : some (AV.ref A2) = some u := e
      cases this
      exact ⟨x, by rfl, e3⟩
    rw [List.lookup_cons, beq_eq_false_iff_ne.mpr hz, List.lookup_cons, beq_eq_false_iff_ne.mpr hz2] at e
    cases e
  · intro L f cd as ha
    obtain ⟨v, u, x, rfl, e1, e2, e3⟩ := map_three ha
    exact ⟨u, by rfl, e2⟩
  · intro A s L f cd R G ⟨h1, h2⟩
    exact w_word R G h1 h2 hfig e0 e1 e2 P1 P2 P3 (by rfl) (by rfl) fun m' σ' => ⟨_, rfl, [], List.nil_sublist _, rfl, rfl⟩
end
end Mine
end
section
open PySem PySem.W PyProof.Rows PySem.Calls PySem.Spec
namespace Mine
section
variable {w : World} {A : Around} {R : GenEnd} {Y : Protocol} {n : Nat} {s₀ s : Shared} {c : Code} {fs : List Frame} {env : Env} {α β : Type}

theorem seg_bindW {m : Sem α} {k : α → Sem β} {K : β → Sem Fin} {H : Value → Sem Fin} {gd lv} (h : wpAny (model PW w) (A.over c fs) m (fun a s' => Seg (model PW w) A R Y n s₀ c ((k a).wrap K H gd lv) fs s') NoE s) :
    Seg (model PW w) A R Y n s₀ c ((m >>= k).wrap K H gd lv) fs s := by
  rw [Sem.bind_eq_wrap', Sem.wrap_wrap]
  exact seg_wrap (wpAny_mono h (fun _ _ x => x) fun _ _ x => x.elim)
theorem seg_wrapN {m : Sem β} {K : β → Sem Fin} {H : Value → Sem Fin} {gd lv} (h : wpAny (model PW w) (A.over c fs) m (fun a s' => Seg (model PW w) A R Y n s₀ c (K a) fs s') NoE s) :
    Seg (model PW w) A R Y n s₀ c (m.wrap K H gd lv) fs s := seg_wrap (wpAny_mono h (fun _ _ x => x) fun _ _ x => x.elim)
theorem seg_If {test : Expr} {body orelse : List Stmt} {pos : Pos} {K : Flow → Sem Fin} {H : Value → Sem Fin} {gd lv}
    (h : wpAny (model PW w) (A.over c fs) (isTrue test env (eval test env)) (fun b s' => if b = true then Seg (model PW w) A R Y n s₀ c ((execs body env).wrap K H gd lv) fs s' else Seg (model PW w) A R Y n s₀ c ((execs orelse env).wrap K H gd lv) fs s') NoE s) :
    Seg (model PW w) A R Y n s₀ c ((exec (.If test body orelse pos) env).wrap K H gd lv) fs s := by
  rw [exec_If]
  refine seg_bindW (wpAny_standAt ?_)
  refine seg_bindW (wpAny_mono h (fun b s' hb => ?_) fun _ _ x => x)
  cases b with
  | true => exact hb
  | false => exact hb

abbrev outK (K : Flow → Sem Fin) (H : Value → Sem Fin) (gd : Bool → Bool) (lv : List Value → List Value) (env : Env) : Result → Sem Fin := fun r =>
  ((match r with | .ok f => (.pure f : Sem Flow) | .error e => .raise e).onRaise fun (x : Value) => do
        if (← field x 1) == Value.none then unsupported "frame.own-activation:exception-without-traceback"
        setFlight x env.frame).wrap K H gd lv
theorem seg_For {tg iter : Expr} {body orelse : List Stmt} {pos : Pos} {K : Flow → Sem Fin} {H : Value → Sem Fin} {gd lv} (hs : ∀ x, foldedSetIterable iter env x = pure x)
    (h : wpAny (model PW w) (A.over c fs) (eval iter env) (fun x s₁ => wpAny (model PW w) (A.over c fs) (pyIter x) (fun it s₂ => ∀ p,
      Seg (model PW w) A R Y n s₀ (.forLoop tg it body orelse env) ((model PW w).den (.forLoop tg it body orelse env)) (.ret (outK K H gd lv env) none (gd false) (lv []) c p [] :: fs) s₂) NoE s₁) NoE s) :
    Seg (model PW w) A R Y n s₀ c ((exec (.For tg iter body orelse pos) env).wrap K H gd lv) fs s := by
  rw [exec_For]
  refine seg_bindW (wpAny_standAt ?_)
  refine seg_bindW (wpAny_mono h (fun x s₁ h₁ => ?_) fun _ _ x => x)
  refine seg_bindW (wpAny_of_eq (hs x) ?_)
  refine seg_bindW (wpAny_standAt ?_)
  refine seg_bindW (wpAny_holding (wpAny_mono h₁ (fun it s₂ h₂ => ?_) fun _ _ x => x))
  exact seg_call h₂

abbrev turnK (tg : Expr) (it : Value) (body orelse : List Stmt) (env : Env) : Flow → Sem Fin := fun f => match f with
  | .next | .cont => .pure (.again (.forLoop tg it body orelse env))
  | .brk => .pure (.done .next)
  | .ret v => .pure (.done (.ret v))
theorem seg_forLoop {tg : Expr} {it : Value} {body orelse : List Stmt}
    (h : wpAny (model PW w) (A.over (.forLoop tg it body orelse env) fs) (pyNext it) (fun r s₁ => match r with
      | none => Seg (model PW w) A R Y n s₀ (.block orelse env) ((model PW w).den (.block orelse env)) fs s₁
      | some v => wpAny (model PW w) (A.over (.forLoop tg it body orelse env) fs) (letOwnedTupleGo tg it v) (fun _ s₂ => wpAny (model PW w) (A.over (.forLoop tg it body orelse env) fs) (assign tg env v) (fun _ s₃ =>
          ∀ H, Seg (model PW w) A R Y n s₀ (.forLoop tg it body orelse env) ((execs body env).wrap (turnK tg it body orelse env) H id id) fs s₃) NoE s₂) NoE s₁) NoE s) :
    Seg (model PW w) A R Y n s₀ (.forLoop tg it body orelse env) ((model PW w).den (.forLoop tg it body orelse env)) fs s := by
  show Seg _ A R Y n s₀ _ ((forTurn tg it body orelse env).onRaise (fun x => do noteFrame x env; theTreesLotGoes x)) fs s
  unfold forTurn
  rw [Sem.onRaise_eq_wrap]
  refine seg_bindW (wpAny_standAt ?_)
  refine seg_bindW (wpAny_onRaise (wpAny_mono h (fun r s₁ h₁ => ?_) fun _ _ x => x.elim))
  cases r with
  | none => exact seg_again rfl h₁
  | some v =>
    dsimp only
    refine seg_bindW (wpAny_mono h₁ (fun _ s₂ h₂ => ?_) fun _ _ x => x)
    refine seg_bindW (wpAny_mono h₂ (fun _ s₃ h₃ => ?_) fun _ _ x => x)
    rw [Sem.bind_eq_wrap', Sem.wrap_wrap]
    rw [Sem.wrap_congr (execs body env) _ _ (K' := turnK tg it body orelse env) (H' := _) (fun f => by cases f <;> rfl) (fun _ => rfl)]
    exact h₃ _
end
end Mine
end
section
open PySem PySem.W PyProof.Rows PySem.Calls PySem.Spec
namespace Mine
section
variable {w : World} {A : Around} {b : Shared} {env : Env} {L : Addr} {m : Loc} {σ σ' : Cells} {s : Shared}

/-- the cells are made anew, all else stays -/
theorem Inv.remake {h' : Heap} {tk : Tok} (I : Inv b L m σ s) (k : ∀ d o, d ∉ σ.map (·.1) → s.heap.get? d = some o → h'.get? d = some o) (hs : ∀ p ∈ σ', p.2.Sat h' p.1) (nd : (σ'.map (·.1)).Nodup)
    (hf : ∀ a ∈ σ'.map (·.1), a ∈ σ.map (·.1) ∨ s.heap.get? a = none) : Inv b L m σ' { s with heap := h', toks := tk } ∧ Ext L σ σ' s { s with heap := h', toks := tk } := by
  have hL := (List.nodup_cons.mp I.nd).1
  obtain ⟨mm, hn, hm⟩ := I.ns
  have hLs : s.heap.get? L ≠ none := by obtain ⟨o, es, ep, ho, r⟩ := hn; rw [ho]; exact fun e => by cases e
  refine ⟨⟨⟨mm, hn.at' fun o e => k _ o hL e, hm⟩, hs, List.nodup_cons.mpr ⟨fun q => ?_, nd⟩, fun a ha => ?_, fun a o e => k a o (fun q => ?_) (I.keep a o e), I.gens, I.drawn, I.os⟩,
    ⟨fun a o hn e => k a o (fun q => hn (.tail _ q)) e, fun a ha => (hf a ha).imp (.tail _) id, rfl, rfl, rfl⟩⟩
  · rcases hf L q with h | h
    · exact hL h
    · exact hLs h
  · cases ha with
    | head => exact I.new _ (.head _)
    | tail _ ha =>
      rcases hf a ha with h | h
      · exact I.new _ (.tail _ h)
      · cases q : b.heap.get? a with
        | none => rfl
        | some o => rw [I.keep a o q] at h; cases h
  · have := I.new a (.tail _ q)
    rw [this] at e; cases e

def ecell (it : Addr) (i : Nat) : Cell := .pr fun o => ∃ old, o = { cls := .type "enumerate", dict := none, data := .fields #[.none, .bool false, .ref it, rawInt i, .none, old], slots := #[] }
theorem ecell_sat {h : Heap} {a it : Addr} {i : Nat} : (ecell it i).Sat h a ↔ ∃ old, IsEnum h a it i old := by
  constructor
  · rintro ⟨o, ho, old, rfl⟩; exact ⟨old, ho⟩
  · rintro ⟨old, h⟩; exact ⟨_, h, old, rfl⟩

theorem en_item {x : List Nat} {e it : Addr} {i : Nat} {elts : List Expr} {k : Nat} {p : Pos} (hh : A.handled = none) (I : Inv b L m [(e, ecell it i), (it, sit x i)] s) (hi : i < x.length) :
    wpAny (model PW w) A (pyNext (.ref e)) (fun r s₁ => ∃ T, r = some (.ref T) ∧ wpAny (model PW w) A (letOwnedTupleGo (.Tuple elts k p) (.ref e) (.ref T)) (fun _ s₂ =>
      Inv b L m [(T, .tup [.int i, .str [x.getD i 0]]), (e, ecell it (i + 1)), (it, sit x (i + 1))] s₂ ∧ Ext L [(e, ecell it i), (it, sit x i)] [(T, .tup [.int i, .str [x.getD i 0]]), (e, ecell it (i + 1)), (it, sit x (i + 1))] s s₂) NoE s₁) NoE s := by
  obtain ⟨old, he⟩ := ecell_sat.mp (I.cells (e, ecell it i) (.head _))
  obtain ⟨ty, t, hty, hs⟩ := sit_sat.mp (I.cells (it, sit x i) (.tail _ (.head _)))
  have hsz : (mk x).cps.size = x.length := by simp [mk]
  have nd : e ≠ it := by
    have := (List.nodup_cons.mp (List.nodup_cons.mp I.nd).2).1
    exact fun q => this (by rw [q]; simp)
  have key : ∀ (Q : Option Value → Shared → Prop), (∀ v h' tk, (∃ c u, (mk x).cps[i]? = some c ∧ v = .str ⟨#[c]⟩ u) → IsEnumOut h' e it ((i : Int) + 1) v s.heap.objs.size → h'.IsStrIter it ty (mk x) t (i + 1) →
      h'.get? s.heap.objs.size = some { cls := .type "tuple", data := .seq #[.int i tk, v] } → (∀ b o, b ≠ e → b ≠ it → s.heap.get? b = some o → h'.get? b = some o) → Q (some (.ref s.heap.objs.size)) { s with heap := h', toks := tk + 1 }) →
      wpAny (model PW w) A (pyNext (.ref e)) Q NoE s := by
    intro Q hQ
    rcases hty with rfl | rfl
    · exact wpAny_pyNext_enum_itemD (Draws.strAscii (prog := PW) (w := w) (A := A.in1) hh it (mk x) t) he hs (by rw [hsz]; exact hi) nd (by simpa using nd) fun v h' tk h1 h2 h3 h4 _ h5 => hQ v h' tk h1 h2 h3 h4 h5
    · exact wpAny_pyNext_enum_itemD (Draws.strWide (prog := PW) (w := w) (A := A.in1) hh it (mk x) t) he hs (by rw [hsz]; exact hi) nd (by simpa using nd) fun v h' tk h1 h2 h3 h4 _ h5 => hQ v h' tk h1 h2 h3 h4 h5
  refine key _ fun v h' tk hv heo hit ht hk => ⟨_, rfl, ?_⟩
  refine wpAny_letOwnedTupleGo_enum heo fun h₂ he₂ hs₂ => ?_
  replace hs₂ : Heap.SameBut e h' h₂ := hs₂
  have hnew := new_of s
  have hne : e ≠ s.heap.objs.size := Nat.ne_of_lt (Heap.lt_size he)
  have hni : it ≠ s.heap.objs.size := by obtain ⟨o, ho, _⟩ := hs; exact Nat.ne_of_lt (Heap.lt_size ho)
  refine I.remake (h' := h₂) (tk := tk + 1) (fun d o hd e' => ?_) (fun q hq => ?_) ?_ (fun a ha => ?_)
  · have h1 : d ≠ e := fun q => hd (by rw [q]; simp)
    have h2 : d ≠ it := fun q => hd (by rw [q]; simp)
    exact hs₂.extBut d o h1 (hk d o h1 h2 e')
  · rcases List.mem_cons.mp hq with rfl | hq
    · obtain ⟨c, u, hc, rfl⟩ := hv
      refine ⟨#[.int i tk, .str ⟨#[c]⟩ u], ⟨_, hs₂.extBut _ _ (Ne.symm hne) ht, rfl, _, rfl⟩, ?_⟩
      have : x[i]? = some c := by simpa [mk] using hc
      simp [er, List.getD_eq_getElem?_getD, this]
    · rcases List.mem_cons.mp hq with rfl | hq
      · exact ecell_sat.mpr ⟨v, by have := he₂; simpa using this⟩
      · obtain rfl := List.mem_singleton.mp hq
        exact sit_sat.mpr ⟨ty, t, hty, hit.extBut hs₂.extBut (Ne.symm nd)⟩
  · simp only [List.map_cons, List.map_nil]
    exact List.nodup_cons.mpr ⟨by simp [Ne.symm hne, Ne.symm hni], List.nodup_cons.mpr ⟨by simpa using nd, by simp⟩⟩
  · simp only [List.map_cons, List.map_nil, List.mem_cons, List.mem_nil_iff, or_false] at ha ⊢
    rcases ha with rfl | rfl | rfl
    · exact .inr hnew
    · exact .inl (.inl rfl)
    · exact .inl (.inr rfl)
theorem en_end {x : List Nat} {e it : Addr} (hh : A.handled = none) (I : Inv b L m [(e, ecell it x.length), (it, sit x x.length)] s) :
    wpAny (model PW w) A (pyNext (.ref e)) (fun r s₁ => r = none ∧ Inv b L m [] s₁ ∧ Ext L [(e, ecell it x.length), (it, sit x x.length)] [] s s₁) NoE s := by
  obtain ⟨old, he⟩ := ecell_sat.mp (I.cells (e, ecell it x.length) (.head _))
  obtain ⟨ty, t, hty, hs⟩ := sit_sat.mp (I.cells (it, sit x x.length) (.tail _ (.head _)))
  have hsz : (mk x).cps.size = x.length := by simp [mk]
  have key : ∀ (Q : Option Value → Shared → Prop), (∀ h', Heap.ExtBut it s.heap h' → Q none { s with heap := h' }) → wpAny (model PW w) A (pyNext (.ref e)) Q NoE s := by
    intro Q hQ
    rcases hty with rfl | rfl
    · exact wpAny_pyNext_enum_endD (Draws.strAscii (prog := PW) (w := w) (A := A.in1) hh it (mk x) t) he (by rw [hsz]; exact hs) hQ
    · exact wpAny_pyNext_enum_endD (Draws.strWide (prog := PW) (w := w) (A := A.in1) hh it (mk x) t) he (by rw [hsz]; exact hs) hQ
  refine key _ fun h' hx => ⟨rfl, ?_⟩
  exact I.remake (h' := h') (tk := s.toks) (σ' := []) (fun d o hd e' => hx d o (fun q => hd (by rw [q]; simp)) e') (fun q hq => nomatch hq) List.nodup_nil (fun a ha => nomatch ha)
end
end Mine
end
section
open PySem PySem.W PyProof.Rows PySem.Calls PySem.Spec
namespace Mine

def esc : List Nat → Nat → Bool → List (Nat × List Nat)
  | [], _, _ => []
  | c :: r, i, e => if e = true then (i, [92, c]) :: esc r (i + 1) false else if c = 92 then esc r (i + 1) true else (i, [c]) :: esc r (i + 1) false
def fe : List Nat → Bool → Bool
  | [], e => e
  | c :: r, e => if e = true then fe r false else fe r (decide (c = 92))

theorem some5 : (fnRec 5).isSome = true := by rfl
abbrev bd5 : List Stmt := ((fnRec 5).get some5).2.2.1
abbrev sc5 : Scope := ((fnRec 5).get some5).2.2.2
def bb (b s : Shared) : Shared := { b with gens := s.gens, drawn := s.drawn, os := s.os }
def KG (Lg N : Addr) (s₀ s : Shared) : Prop := s.gens = s₀.gens ∧ s.drawn = s₀.drawn ∧ s.os = s₀.os ∧ ∀ a o, a ≠ Lg → a ≠ N → a ≠ N + 1 → s₀.heap.get? a = some o → s.heap.get? a = some o
theorem KG.refl {Lg N : Addr} {s : Shared} : KG Lg N s s := ⟨rfl, rfl, rfl, fun _ _ _ _ _ e => e⟩
theorem KG.trans {Lg N : Addr} {s s₁ s₂ : Shared} (x : KG Lg N s s₁) (y : KG Lg N s₁ s₂) : KG Lg N s s₂ :=
  ⟨y.1.trans x.1, y.2.1.trans x.2.1, y.2.2.1.trans x.2.2.1, fun a o h1 h2 h3 e => y.2.2.2 a o h1 h2 h3 (x.2.2.2 a o h1 h2 h3 e)⟩
def gcells (N : Addr) (x : List Nat) (i : Nat) : Cells := [(N + 1, ecell N i), (N, sit x i)]
theorem KG.of_ext {Lg N : Addr} {x : List Nat} {i : Nat} {σ' : Cells} {s s' : Shared} (X : Ext Lg (gcells N x i) σ' s s') : KG Lg N s s' :=
  ⟨X.gens, X.drawn, X.os, fun a o h1 h2 h3 e => X.kept a o (by simp [gcells, h1, h2, h3]) e⟩
theorem bb_eq {b s s' : Shared} (h1 : s'.gens = s.gens) (h2 : s'.drawn = s.drawn) (h3 : s'.os = s.os) : bb b s' = bb b s := by unfold bb; rw [h1, h2, h3]

/-- what is asked at a yield -/
def GY (b : Shared) (Lg N : Addr) (x : List Nat) : Protocol := fun n s₀ v s' kap =>
  ∃ T i m y, v = .ref T ∧ Inv (bb b s₀) Lg m ((T, .tup [.int (y.1 : Nat), .str y.2]) :: gcells N x i) s' ∧ KG Lg N s₀ s' ∧ s₀.heap.get? T = none ∧
    (∃ pre, esc x 0 false = pre ++ y :: esc (x.drop i) i false) ∧ (esc (x.drop i) i false).length = n ∧ ∀ s'', Inv (bb b s'') Lg m (gcells N x i) s'' → kap (.send .none) s''
def GR (Lg N : Addr) : GenEnd := fun n s₀ r s₁ => r = .ok (.ret .none) ∧ (n = 0 ∧ KG Lg N s₀ s₁)

section
variable {w : World} {A : Around} {b : Shared} {Lg N f : Addr} {cd : Value} {x : List Nat}
abbrev genv (Lg f : Addr) (cd : Value) : Env := envOf "_iter_escaped_chars" sc5 Lg f cd
abbrev gK0 : Flow → Sem Fin := fun f => .pure (.done (.ret (match f with | .ret v => v | _ => .none)))
abbrev gH0 (env : Env) : Value → Sem Fin := fun e => (leaving env e).wrap (fun _ => .raise e) .raise id id
abbrev gK2 (env : Env) : Flow → Sem Fin := fun f => match f with | .next => (execs (bd5.drop 3) env).wrap gK0 (gH0 env) id id | f => gK0 f
abbrev gF (env : Env) (p : Pos) : Frame := .ret (outK (gK2 env) (gH0 env) id id env) none (id false) (id []) (.func bd5 env) p []
local macro_rules | `(tactic| walk_at "lk") => `(tactic| ((repeat (first | with_reducible assumption | with_reducible exact lookup_put_eq | with_reducible refine (lookup_put_ne (by decide)).trans ?_)); first | done | exact lookup_put_eq | rfl))
theorem bsl : (Str.ofString "\\").cps.toList = [92] := by decide +kernel

theorem gen_end {p : Pos} {s₀ s : Shared} {m : Loc} (hA : A.handled = none) (hm : gv m "escape" = some (.bool false)) (I : Inv (bb b s₀) Lg m [] s) (K : KG Lg N s₀ s) :
    Seg (model PW w) A (GR Lg N) (GY b Lg N x) 0 s₀ (.block [] (genv Lg f cd)) ((model PW w).den (.block [] (genv Lg f cd))) [gF (genv Lg f cd) p] s := by
  show Seg _ A _ _ 0 s₀ _ ((execs [] (genv Lg f cd)).onRaise (fun x => do noteFrame x (genv Lg f cd); theTreesLotGoes x) >>= fun fl => Pure.pure (Fin.done fl)) _ s
  refine seg_bind (wpAny_onRaise (wpAny_execs_nil ?_))
  refine seg_leaf (.ok .next) ?_
  show Seg _ A _ _ 0 s₀ _ ((execs (bd5.drop 3) (genv Lg f cd)).wrap gK0 (gH0 (genv Lg f cd)) id id) [] s
  refine seg_execs_cons (seg_If (H.seq I (HT_val (env := genv Lg f cd) (HE_name _ hm (HTr_bool (Q := fun c m' σ' => c = false ∧ m' = m ∧ σ' = []) ⟨rfl, rfl, rfl⟩))) fun c m₁ σ₁ s₁ q I₁ X₁ => ?_))
  obtain ⟨hc, rfl, rfl⟩ := q
  have hc' : c = false := hc
  subst hc'
  refine ite_f (seg_execs_nil ?_)
  show Seg _ A _ _ 0 s₀ _ ((execs [] (genv Lg f cd)).wrap gK0 (gH0 (genv Lg f cd)) id id) [] s₁
  refine seg_execs_nil ?_
  refine seg_end (.ok (.ret .none)) ⟨rfl, rfl, K.trans ?_⟩
  exact ⟨X₁.gens, X₁.drawn, X₁.os, fun a o h1 h2 h3 e => X₁.kept a o (by simpa using h1) e⟩
end
end Mine
end
section
open PySem PySem.W PyProof.Rows PySem.Calls PySem.Spec
namespace Mine
section
variable {w : World} {A : Around} {b : Shared} {Lg N f : Addr} {cd : Value} {x : List Nat}
local macro_rules | `(tactic| walk_at "lk") => `(tactic| ((repeat (first | with_reducible assumption | with_reducible exact lookup_put_eq | with_reducible refine (lookup_put_ne (by decide)).trans ?_)); first | done | exact lookup_put_eq | rfl))
abbrev gTg : Expr := forTg (bd5[2]'(by decide))
abbrev gBody : List Stmt := forBody (bd5[2]'(by decide))
abbrev gCode (N Lg f : Addr) (cd : Value) : Code := .forLoop gTg (.ref (N + 1)) gBody [] (genv Lg f cd)
abbrev GSeg (w : World) (A : Around) (b : Shared) (Lg N : Addr) (x : List Nat) (n : Nat) (s₀ : Shared) (c : Code) (t : Sem Fin) (fs : List Frame) (s : Shared) : Prop := Seg (model PW w) A (GR Lg N) (GY b Lg N x) n s₀ c t fs s

theorem fresh_back {s₀ s : Shared} {T : Addr} {m : Loc} {σ : Cells} {c : Cell} {b' : Shared} {i : Nat} (K : KG Lg N s₀ s) (I : Inv b' Lg m ((T, c) :: gcells N x i) s') (h : s.heap.get? T = none) : s₀.heap.get? T = none := by
  have nd := I.nd
  simp only [List.map_cons, gcells, List.map_nil, List.nodup_cons, List.mem_cons, not_or] at nd
  cases q : s₀.heap.get? T with
  | none => rfl
  | some o => rw [K.2.2.2 T o (fun e => nd.1.1 e.symm) (fun e => nd.2.1.2.1 e) (fun e => nd.2.1.1 e) q] at h; cases h

theorem en_item' {bx : Shared} {L e it : Addr} {m : Loc} {s : Shared} {i : Nat} {A : Around} {tg : Expr} (ht : ∃ es k p, tg = .Tuple es k p) (hh : A.handled = none) (I : Inv bx L m [(e, ecell it i), (it, sit x i)] s) (hi : i < x.length) :
    wpAny (model PW w) A (pyNext (.ref e)) (fun r s₁ => ∃ T, r = some (.ref T) ∧ wpAny (model PW w) A (letOwnedTupleGo tg (.ref e) (.ref T)) (fun _ s₂ =>
      Inv bx L m [(T, .tup [.int i, .str [x.getD i 0]]), (e, ecell it (i + 1)), (it, sit x (i + 1))] s₂ ∧ Ext L [(e, ecell it i), (it, sit x i)] [(T, .tup [.int i, .str [x.getD i 0]]), (e, ecell it (i + 1)), (it, sit x (i + 1))] s s₂) NoE s₁) NoE s := by
  obtain ⟨es, k, p, rfl⟩ := ht
  exact en_item hh I hi
/-- a yield of (pos, text) -/
theorem gen_yield {p : Pos} {i : Nat} {y : List Nat} {s₀ s : Shared} {m : Loc} {n : Nat} {e : Expr} {ypos pos : Pos} {K : Flow → Sem Fin} {HX : Value → Sem Fin} (hA : A.handled = none)
    (he : ∀ A' b' (σ : Cells), HE w A' b' (genv Lg f cd) e m σ (fun v m' σ' => ∃ T, v = .ref T ∧ m' = m ∧ σ' = (T, .tup [.int (i : Nat), .str y]) :: σ))
    (I : Inv (bb b s₀) Lg m (gcells N x (i + 1)) s) (KK : KG Lg N s₀ s) (hy : ∃ pre, esc x 0 false = pre ++ (i, y) :: esc (x.drop (i + 1)) (i + 1) false) (hn : (esc (x.drop (i + 1)) (i + 1) false).length = n)
    (k : ∀ s'', Inv (bb b s'') Lg m (gcells N x (i + 1)) s'' → GSeg w A b Lg N x n s'' (gCode N Lg f cd) (K .next) [gF (genv Lg f cd) p] s'') :
    GSeg w A b Lg N x (n + 1) s₀ (gCode N Lg f cd) ((exec (.Expr (.Yield (some e) ypos) pos) (genv Lg f cd)).wrap K HX id id) [gF (genv Lg f cd) p] s := by
  refine seg_Expr_Yield rfl rfl rfl (wpAny_mono (H.seq I (he _ _ _) fun v m₁ σ₁ s₁ q I₁ X₁ => ?_) (fun _ _ x => x) fun _ _ x => x.elim) rfl rfl
  obtain ⟨T, hv, rfl, rfl⟩ := q
  obtain rfl := er_ref hv
  intro kap hkap
  have hT : s.heap.get? T = none := by
    rcases X₁.fresh T (.head _) with h | h
    · exact absurd h (fun h => (by
        have nd := I₁.nd
        have hL : Lg ≠ T := fun e => (List.nodup_cons.mp nd).1 (e ▸ .head _)
        rcases List.mem_cons.mp h with h | h
        · exact hL h.symm
        · exact (List.nodup_cons.mp (List.nodup_cons.mp nd).2).1 h))
    · exact h
  refine ⟨T, i + 1, m₁, (i, y), rfl, I₁, KK.trans (KG.of_ext X₁), ?_, hy, hn, fun s'' I'' => hkap _ _ (k s'' I'')⟩
  have nd := I₁.nd
  simp only [List.map_cons, gcells, List.map_nil, List.nodup_cons, List.mem_cons, not_or] at nd
  cases q : s₀.heap.get? T with
  | none => rfl
  | some o => rw [KK.2.2.2 T o (fun e => nd.1.1 e.symm) (fun e => nd.2.1.2.1 e) (fun e => nd.2.1.1 e) q] at hT; cases hT

set_option maxHeartbeats 2000000 in
theorem gen_loop {p : Pos} (hA : A.handled = none) : ∀ (k i : Nat) (e : Bool) (m : Loc) (s₀ s : Shared), i + k = x.length → gv m "escape" = some (.bool e) → Inv (bb b s₀) Lg m (gcells N x i) s → KG Lg N s₀ s →
    (∃ pre, esc x 0 false = pre ++ esc (x.drop i) i e) → fe (x.drop i) e = false →
    GSeg w A b Lg N x (esc (x.drop i) i e).length s₀ (gCode N Lg f cd) ((model PW w).den (gCode N Lg f cd)) [gF (genv Lg f cd) p] s := by
  have hA' : (A.over (gCode N Lg f cd) [gF (genv Lg f cd) p]).handled = none := hA
  intro k
  induction k with
  | zero =>
    intro i e m s₀ s hi hm I K hpre hfe
    obtain rfl : i = x.length := by omega
    rw [List.drop_length] at hfe hpre ⊢
    have he : e = false := hfe
    subst he
    refine seg_forLoop (wpAny_mono (en_end hA' I) (fun r s₁ h => ?_) fun _ _ x => x)
    obtain ⟨rfl, I₁, X₁⟩ := h
    exact gen_end hA hm I₁ (K.trans (KG.of_ext X₁))
  | succ k ih =>
    intro i e m s₀ s hi hm I K hpre hfe
    have hlt : i < x.length := by omega
    have hd : x.drop i = x.getD i 0 :: x.drop (i + 1) := by
      rw [List.drop_eq_getElem_cons hlt, List.getD_eq_getElem?_getD, List.getElem?_eq_getElem hlt]; rfl
    rw [hd] at hpre hfe ⊢
    generalize hc : x.getD i 0 = c at *
    refine seg_forLoop (wpAny_mono (en_item' (tg := gTg) ⟨_, _, _, rfl⟩ hA' I hlt) (fun r s₁ h => ?_) fun _ _ x => x)
    obtain ⟨T, rfl, h⟩ := h
    refine wpAny_mono h (fun _ s₂ h₂ => ?_) fun _ _ x => x
    obtain ⟨I₂, X₂⟩ := h₂
    have hq : H w (A.over (gCode N Lg f cd) [gF (genv Lg f cd) p]) (bb b s₀) (genv Lg f cd).locals id (assign gTg (genv Lg f cd) (.ref T)) m ((T, .tup [.int i, .str [x.getD i 0]]) :: gcells N x (i + 1))
        (fun _ m' σ' => m' = put "ch" (.str [c]) (put "pos" (.int i) m) ∧ σ' = (T, .tup [.int i, .str [x.getD i 0]]) :: gcells N x (i + 1)) :=
      H_assign2 hA' (.inl (.head _)) ⟨by rw [hc], rfl⟩ (by rfl) (by rfl) (by rfl)
    refine H.seq I₂ hq fun _ m₃ σ₃ s₃ q I₃ X₃ => ?_
    obtain ⟨rfl, rfl⟩ := q
    intro HH
    have I₄ := I₃.drop (σ' := gcells N x (i + 1)) (List.sublist_cons_self _ _)
    have X₄ : Ext Lg (gcells N x i) (gcells N x (i + 1)) s s₃ := (X₂.trans X₃).drop (List.sublist_cons_self _ _)
    have K₄ := K.trans (KG.of_ext X₄)
    have same : ∀ (s₃ : Shared), Inv (bb b s₀) Lg (put "ch" (.str [c]) (put "pos" (.int i) m)) (gcells N x (i + 1)) s₃ → KG Lg N s₀ s₃ → ∀ (c' : Bool) (e : Expr), HT w (A.over (gCode N Lg f cd) [gF (genv Lg f cd) p]) (bb b s₀) (genv Lg f cd) e (put "ch" (.str [c]) (put "pos" (.int i) m)) (gcells N x (i + 1)) (fun d m' σ' => d = c' ∧ m' = put "ch" (.str [c]) (put "pos" (.int i) m) ∧ σ' = gcells N x (i + 1)) →
        wpAny (model PW w) (A.over (gCode N Lg f cd) [gF (genv Lg f cd) p]) (isTrue e (genv Lg f cd) (eval e (genv Lg f cd))) (fun d s₅ => d = c' ∧ Inv (bb b s₀) Lg (put "ch" (.str [c]) (put "pos" (.int i) m)) (gcells N x (i + 1)) s₅ ∧ KG Lg N s₀ s₅) NoE s₃ := by
      intro s₃ I₄ K₄ c' ex hx
      refine H.seq I₄ hx fun d m₅ σ₅ s₅ q I₅ X₅ => ?_
      obtain ⟨hd', rfl, rfl⟩ := q
      exact ⟨hd', I₅, K₄.trans (KG.of_ext X₅)⟩
    refine seg_execs_cons (seg_If (wpAny_mono (same _ I₄ K₄ e _ (HT_val (HE_name (.bool e) (by walk_at "lk") (HTr_bool ⟨rfl, rfl, rfl⟩)))) (fun d s₅ h => ?_) fun _ _ x => x))
    obtain ⟨rfl, I₅, K₅⟩ := h
    cases d with
    | true =>
      refine ite_t ?_
      have hpre' : ∃ pre, esc x 0 false = pre ++ (i, [92, c]) :: esc (x.drop (i + 1)) (i + 1) false := by simpa [esc] using hpre
      have hlen : (esc (c :: x.drop (i + 1)) i true).length = (esc (x.drop (i + 1)) (i + 1) false).length + 1 := by simp [esc]
      rw [hlen]
      refine seg_execs_cons (gen_yield (i := i) (y := [92, c]) hA (fun A' b' σ => ?_) I₅ K₅ hpre' rfl fun s₆ I₆ => ?_)
      · refine HE_tuple (by rfl) (HL_cons (HE_name (.int i) (by walk_at "lk") (HL_cons (HE_bin (HE_str ?_)))))
        rw [bsl]
        exact HE_name (.str [c]) (by walk_at "lk") (HBin_cat (by simp [sizeLine_eq]) (HL_nil ⟨by simp [sizeLine_eq], fun T => ⟨T, rfl, rfl, rfl⟩⟩))
      · refine seg_execs_cons (seg_wrapN (H.seq I₆ (HS_assign (env := genv Lg f cd) (Q := fun fl m' σ' => fl = .next ∧ m' = put "escape" (.bool false) (put "ch" (.str [c]) (put "pos" (.int i) m)) ∧ σ' = gcells N x (i + 1)) (HE_bool ⟨rfl, rfl, rfl⟩)) fun fl m₇ σ₇ s₇ q I₇ X₇ => ?_))
        obtain ⟨hfl, rfl, rfl⟩ := q
        cases fl <;> first | cases hfl | skip
        refine seg_execs_nil (seg_execs_nil (seg_again rfl ?_))
        refine ih (i + 1) false _ s₆ s₇ (by omega) (by walk_at "lk") I₇ (KG.of_ext X₇) ?_ ?_
        · obtain ⟨pre, e⟩ := hpre'
          exact ⟨pre ++ [(i, [92, c])], by rw [e]; simp⟩
        · simpa [fe] using hfe
    | false =>
      refine ite_f ?_
      refine seg_execs_cons (seg_If (wpAny_mono (same _ I₅ K₅ (decide (c = 92)) _ (HT_cmp (HE_cmp (HE_name (.str [c]) (by walk_at "lk") (HE_str ?_))))) (fun d s₆ h => ?_) fun _ _ x => x))
      · rw [bsl]
        refine HCmp_seq ⟨_, rfl, ?_, rfl, rfl⟩
        simp
      obtain ⟨hd', I₆, K₆⟩ := h
      by_cases h92 : c = 92
      · rw [decide_eq_true h92] at hd'
        subst hd'
        refine ite_t ?_
        have e1 : esc (c :: x.drop (i + 1)) i false = esc (x.drop (i + 1)) (i + 1) true := by simp [esc, h92]
        rw [e1]
        refine seg_execs_cons (seg_wrapN (H.seq I₆ (HS_assign (env := genv Lg f cd) (Q := fun fl m' σ' => fl = .next ∧ m' = put "escape" (.bool true) (put "ch" (.str [c]) (put "pos" (.int i) m)) ∧ σ' = gcells N x (i + 1)) (HE_bool ⟨rfl, rfl, rfl⟩)) fun fl m₇ σ₇ s₇ q I₇ X₇ => ?_))
        obtain ⟨hfl, rfl, rfl⟩ := q
        cases fl <;> first | cases hfl | skip
        refine seg_execs_nil (seg_execs_nil (seg_execs_nil (seg_again rfl ?_)))
        refine ih (i + 1) true _ s₀ s₇ (by omega) (by walk_at "lk") I₇ (K₆.trans (KG.of_ext X₇)) ?_ ?_
        · rw [e1] at hpre; exact hpre
        · simpa [fe, h92] using hfe
      · rw [decide_eq_false h92] at hd'
        subst hd'
        refine ite_f ?_
        have e1 : esc (c :: x.drop (i + 1)) i false = (i, [c]) :: esc (x.drop (i + 1)) (i + 1) false := by simp [esc, h92]
        rw [e1] at hpre ⊢
        refine seg_execs_cons (gen_yield (i := i) (y := [c]) hA (fun A' b' σ => ?_) I₆ K₆ hpre rfl fun s₇ I₇ => ?_)
        · refine HE_tuple (by rfl) (HL_cons (HE_name (.int i) (by walk_at "lk") (HL_cons (HE_name (.str [c]) (by walk_at "lk") (HL_nil ⟨by simp [sizeLine_eq], fun T => ⟨T, rfl, rfl, rfl⟩⟩)))))
        · refine seg_execs_nil (seg_execs_nil (seg_execs_nil (seg_again rfl ?_)))
          refine ih (i + 1) false _ s₇ s₇ (by omega) (by walk_at "lk") I₇ .refl ?_ ?_
          · obtain ⟨pre, e⟩ := hpre
            exact ⟨pre ++ [(i, [c])], by rw [e]; simp⟩
          · simpa [fe, h92] using hfe
end
end Mine
end
section
open PySem PySem.W PyProof.Rows PySem.Calls PySem.Spec
namespace Mine
section
variable {w : World} {A : Around} {b : Shared} {Lg N f : Addr} {cd : Value} {x : List Nat} {mg mb : PySem.Str → Option Value}
local macro_rules | `(tactic| walk_at "lk") => `(tactic| ((repeat (first | with_reducible assumption | with_reducible exact lookup_put_eq | with_reducible refine (lookup_put_ne (by decide)).trans ?_)); first | done | exact lookup_put_eq | rfl))

theorem asg_size {b' : Shared} {env : Env} {m : Loc} {σ : Cells} {s : Shared} {y : PySem.Str} {p' pos : Pos} {value : Expr} {v : AV} (I : Inv b' env.locals m σ s)
    (hv : wpAny (model PW w) A (eval value env) (fun u s₁ => er u = v ∧ ∃ tk, s₁ = { s with toks := tk }) NoE s)
    (hl : env.kindOf y = some .local) (hp : (env.scope.kind == .class || (env.scope.kind == .module && env.locals != env.globals)) = false)
    (hs : swapsWith value (some (.Name y p')) pos.line env = pure false) :
    wpAny (model PW w) A (exec (.Assign [.Name y p'] value pos) env) (fun fl s' => fl = .next ∧ Inv b' env.locals (put y v m) σ s' ∧ Ext env.locals σ σ s s' ∧ s'.heap.objs.size = s.heap.objs.size) NoE s := by
  refine wpAny_Assign_Name (wpAny_mono hv (fun u s₁ h => ?_) fun _ _ x => x) hs
  obtain ⟨rfl, tk, rfl⟩ := h
  have I₁ : Inv b' env.locals m σ { s with toks := tk } := I.grow .tok
  obtain ⟨mm, hn, hm⟩ := I₁.ns
  refine wpAny_storeName_local hl hn (fun h' hn' hs => ?_) hp
  have z := I₁.store (tk := tk + 1) hm hn' hs
  exact ⟨rfl, z.1, (Ext.grow (s' := { s with toks := tk }) .tok).trans z.2, hs.1⟩

theorem gen_start {s : Shared} {m : Loc} (hA : A.handled = none) (G : GB w mg mb b.heap) (hN : s.heap.objs.size = N) (hm : gv m "addr" = some (.str x)) (I : Inv (bb b s) Lg m [] s) (hfe : fe x false = false) :
    GSeg w A b Lg N x (esc x 0 false).length s (.func bd5 (genv Lg f cd)) ((model PW w).den (.func bd5 (genv Lg f cd))) [] s := by
  refine seg_func ?_
  refine seg_execs_cons (seg_wrapN (wpAny_mono (asg_size (env := genv Lg f cd) (v := .int 0) I (wpAny_Constant_int ⟨rfl, _, rfl⟩) (by rfl) (by rfl) (by rfl)) (fun fl s₁ h => ?_) fun _ _ x => x))
  obtain ⟨rfl, I₁, X₁, z₁⟩ := h
  refine seg_execs_cons (seg_wrapN (wpAny_mono (asg_size (env := genv Lg f cd) (v := .bool false) I₁ (Constant_bool ⟨rfl, _, rfl⟩) (by rfl) (by rfl) (by rfl)) (fun fl s₂ h => ?_) fun _ _ x => x))
  obtain ⟨rfl, I₂, X₂, z₂⟩ := h
  have hsz : s₂.heap.objs.size = N := by rw [z₂, z₁, hN]
  obtain ⟨mm, hn, hml⟩ := I₂.ns
  obtain ⟨va, hva, hea⟩ := hml "addr" (.str x) (by walk_at "lk")
  obtain ⟨t, rfl⟩ := er_str hea
  have Gk : GB w mg mb s₂.heap := G.keeps I₂.keep
  refine seg_execs_cons (seg_For (by intro _; rfl) ?_)
  refine Call_Name (env := genv Lg f cd) (by rfl) (Calls.Name_function_global (env := genv Lg f cd) (by rfl) (by rfl) (Calls.loadGlobal_builtin (env := genv Lg f cd) Gk.g (Gk.free _ (by decide)) Gk.bl ((Gk.boot _ (by decide)).trans (by rfl))
    (PyProof.Rows.callWith_type (by rfl) (Calls.evalArgs_plain (Calls.spliced_cons (wpAny_Name (wpAny_loadName_local (by rfl) (by rfl) hn hva (Calls.spliced_nil (PySem.call_enumerate_str fun h' h1 h2 h3 h4 => ?_))) (by decide))))) ) (by decide))
  rw [hsz] at h1 h2 ⊢
  refine wpAny_pyIter_enum h1 fun p => ?_
  have new1 : s₂.heap.get? N = none := hsz ▸ new_of s₂
  have new2 : s₂.heap.get? (N + 1) = none := by
    cases q : s₂.heap.get? (N + 1) with
    | none => rfl
    | some o => have := Heap.lt_size q; rw [hsz] at this; exact absurd this (Nat.not_lt.mpr (Nat.le_succ _))
  have z := I₂.remake (σ' := gcells N x 0) (h' := h') (tk := s₂.toks) (fun d o _ e => h4 d o e) (fun q hq => ?_) (by simp [gcells]) (fun a ha => ?_)
  · obtain ⟨I₃, X₃⟩ := z
    have X := (X₁.trans X₂).trans X₃
    have K : KG Lg N s { s₂ with heap := h', toks := s₂.toks } := ⟨X.gens, X.drawn, X.os, fun a o q1 q2 q3 e => X.kept a o (fun hm => q1 (List.mem_singleton.mp hm)) e⟩
    exact gen_loop hA x.length 0 false _ s _ (by omega) (by walk_at "lk") I₃ K ⟨[], by simp⟩ (by simpa using hfe)
  · rcases List.mem_cons.mp hq with rfl | hq
    · exact ecell_sat.mpr ⟨_, h1⟩
    · obtain rfl := List.mem_singleton.mp hq
      refine sit_sat.mpr ⟨_, t, ?_, h2⟩
      unfold PySem.strIterType
      split <;> simp
  · simp only [gcells, List.map_cons, List.map_nil, List.mem_cons, List.mem_nil_iff, or_false] at ha
    rcases ha with rfl | rfl
    · exact .inr new2
    · exact .inr new1
end
end Mine
end
section
open PySem PySem.W PyProof.Rows PySem.Calls PySem.Spec
namespace Mine

abbrev Sst := Nat × Option Nat × List (List Nat)
def stp (x : List Nat) (st : Sst) (y : Nat × List Nat) : Sst :=
  if y.2 = [34] then match st.2.1 with
    | none => (st.1, some y.1, st.2.2)
    | some o => (y.1 + 1, none, if st.1 ≠ o then st.2.2 ++ [sl x (some (st.1 : Nat)) (some (o : Nat))] else st.2.2)
  else st
def ov : Option Nat → AV
  | none => .none
  | some p => .int p
theorem some6 : (fnRec 6).isSome = true := by rfl
abbrev bd6 : List Stmt := ((fnRec 6).get some6).2.2.1
abbrev sc6 : Scope := ((fnRec 6).get some6).2.2.2
def SV (x : List Nat) (res : Addr) (st : Sst) (m : Loc) : Prop := gv m "addr" = some (.str x) ∧ gv m "start" = some (.int (st.1 : Nat)) ∧ gv m "open_pos" = some (ov st.2.1) ∧ gv m "result" = some (.ref res)
section
variable {w : World} {A : Around} {b : Shared} {L N f res : Addr} {cd : Value} {x : List Nat} {m : Loc} {mg mb : PySem.Str → Option Value}
local macro_rules | `(tactic| walk_at "lk") => `(tactic| ((repeat (first | with_reducible assumption | with_reducible exact lookup_put_eq | with_reducible refine (lookup_put_ne (by decide)).trans ?_)); first | done | exact lookup_put_eq | rfl))
abbrev senv (L f : Addr) (cd : Value) : Env := envOf "_strip_quoted_realnames" sc6 L f cd
abbrev forElse : Stmt → List Stmt
  | .If _ b _ _ => (match b with | [.If _ _ e _] => e | _ => [])
  | _ => []
theorem w_turn {st : Sst} {p : Nat} {t : List Nat} {pre post : Cells} (hx : x.length ≤ 40) (hr : st.2.2.length ≤ 1000) (h : SV x res st m) (h5 : gv m "pos" = some (.int p)) (h6 : gv m "ch" = some (.str t)) :
    HB w A b (senv L f cd) (forBody (bd6[4]'(by decide))) m (pre ++ (res, .list (st.2.2.map .str)) :: post) (fun fl m' σ' => fl = .next ∧ σ' = pre ++ (res, .list ((stp x st (p, t)).2.2.map .str)) :: post ∧ SV x res (stp x st (p, t)) m') := by
  obtain ⟨h1, h2, h3, h4⟩ := h
  obtain ⟨s0, o, rs⟩ := st
  dsimp only at *
  have hq : (Str.ofString "\"").cps.toList = [34] := quo
  refine HB_cons (HS_if (HT_cmp (HE_cmp (HE_name _ h6 (HE_str ?_)))))
  rw [hq]
  refine HCmp_seq ⟨_, rfl, ?_⟩
  by_cases q : t = [34]
  · rw [decide_eq_true q]
    refine ite_t (HB_cons (HS_if (HT_cmp (HE_cmp (HE_name _ h3 (HE_none ?_))))))
    cases o with
    | none =>
      refine HCmp_is ⟨true, rfl, ite_t ?_⟩
      have e : stp x (s0, none, rs) (p, t) = (s0, some p, rs) := by simp [stp, q]
      rw [e]
      exact HB_cons (HS_assign (HE_name _ h5 (HB_nil (HB_nil (HB_nil ⟨rfl, rfl, by walk_at "lk", by walk_at "lk", by walk_at "lk", by walk_at "lk"⟩)))))
    | some o =>
      refine HCmp_is ⟨false, rfl, ite_f ?_⟩
      have e : stp x (s0, some o, rs) (p, t) = (p + 1, none, if s0 ≠ o then rs ++ [sl x (some (s0 : Nat)) (some (o : Nat))] else rs) := by simp [stp, q]
      rw [e]
      have tail : ∀ rs' : List (List Nat), HB w A b (senv L f cd) ((forElse ((forBody (bd6[4]'(by decide)))[0]'(by decide))).drop 1) m (pre ++ (res, .list (rs'.map .str)) :: post) (fun fl m' σ' => fl = .next ∧ σ' = pre ++ (res, .list (rs'.map .str)) :: post ∧ SV x res (p + 1, none, rs') m') := by
        intro rs'
        refine HB_cons (HS_assign (HE_bin (HE_name (.int (p : Nat)) h5 (HE_int (HBin_add ?_)))))
        refine HB_cons (HS_assign (HE_none (HB_nil ⟨rfl, rfl, by walk_at "lk", ?_, by walk_at "lk", by walk_at "lk"⟩)))
        rw [show (((p + 1, none, rs') : Sst).1 : Nat) = p + 1 from rfl, show (((p + 1 : Nat) : Nat) : Int) = (p : Int) + 1 by omega]
        walk_at "lk"
      refine HB_cons (HS_if (HT_cmp (HE_cmp (HE_name (.int (s0 : Nat)) h2 (HE_name (.int (o : Nat)) h3 (HCmp_ne ⟨_, rfl, ?_⟩))))))
      by_cases q2 : s0 = o
      · rw [decide_eq_false (show ¬ ((s0 : Int) ≠ (o : Int)) from fun h => h (by omega))]
        rw [if_neg (show ¬ s0 ≠ o from fun h => h q2)]
        refine ite_f (HB_nil ((tail rs).mono fun fl m' σ' h => ?_))
        obtain ⟨rfl, r1, r2⟩ := h
        exact HB_nil (HB_nil ⟨rfl, r1, r2⟩)
      · rw [decide_eq_true (show (s0 : Int) ≠ (o : Int) from fun h => q2 (by omega))]
        rw [if_pos (show s0 ≠ o from q2)]
        refine ite_t (HB_cons (HS_expr (HE_meth "list" "list.append" PySem.F.plainAttrs_list PySem.F.slot_list_append PySem.F.type_list_append (by rfl) (by rfl) (HE_name (.ref res) h4 ⟨fun v s e I => ty_list (vs := rs.map .str) (.inl (by simp)) I e, ?_⟩))))
        refine HL_cons (HE_slS (HE_name _ h1 (HP_some (HE_name (.int (s0 : Nat)) h2 (HP_some (HE_name (.int (o : Nat)) h3 ⟨x, some (s0 : Nat), some (o : Nat), rfl, rfl, rfl, le_line hx, ?_⟩))))))
        refine HL_nil (HC_append pre post rfl ?_ ⟨by simp, HB_nil ?_⟩)
        · rw [sizeLine_eq]; simp; omega
        rw [show (rs.map AV.str ++ [AV.str (sl x (some (s0 : Nat)) (some (o : Nat)))]) = (rs ++ [sl x (some (s0 : Nat)) (some (o : Nat))]).map AV.str by simp]
        refine (tail _).mono fun fl m' σ' h => ?_
        obtain ⟨rfl, r1, r2⟩ := h
        exact HB_nil (HB_nil ⟨rfl, r1, r2⟩)
  · rw [decide_eq_false q]
    have e : stp x (s0, o, rs) (p, t) = (s0, o, rs) := by simp [stp, q]
    rw [e]
    exact ite_f (HB_nil (HB_nil ⟨rfl, rfl, h1, h2, h3, h4⟩))
end
end Mine
end
section
open PySem PySem.W PyProof.Rows PySem.Calls PySem.Spec
namespace Mine
section
variable {w : World} {A : Around} {b : Shared} {L N f res : Addr} {cd : Value} {x : List Nat} {m : Loc} {mg mb : PySem.Str → Option Value}
local macro_rules | `(tactic| walk_at "lk") => `(tactic| ((repeat (first | with_reducible assumption | with_reducible exact lookup_put_eq | with_reducible refine (lookup_put_ne (by decide)).trans ?_)); first | done | exact lookup_put_eq | rfl))

/-- the gens forgotten -/
abbrev ng (b s : Shared) : Shared := { s with gens := b.gens }
theorem Inv.toBB {σ : Cells} {s : Shared} (I : Inv b L m σ s) : Inv (bb b s) L m σ s := ⟨I.ns, I.cells, I.nd, I.new, I.keep, rfl, rfl, rfl⟩
theorem Inv.ofHeap {b' b'' : Shared} {σ : Cells} {s s' : Shared} (I : Inv b' L m σ s) (hh : s'.heap = s.heap) (hb : b''.heap = b'.heap) (hg : s'.gens = b''.gens) (hd : s'.drawn = b''.drawn) (ho : s'.os = b''.os) : Inv b'' L m σ s' :=
  ⟨by rw [hh]; exact I.ns, by rw [hh]; exact I.cells, I.nd, by rw [hb]; exact I.new, by rw [hh, hb]; exact I.keep, hg, hd, ho⟩

/-- the generator has run: the consumer's stays -/
theorem Inv.gone {Lg : Addr} {b' : Shared} {σ : Cells} {s s' : Shared} (I : Inv b' L m σ s) (K : ∀ a o, a ≠ Lg → a ≠ N → a ≠ N + 1 → s.heap.get? a = some o → s'.heap.get? a = some o) (hd : ∀ a ∈ L :: σ.map (·.1), a ≠ Lg ∧ a ≠ N ∧ a ≠ N + 1)
    (hb : b'.heap.get? Lg = none ∧ b'.heap.get? N = none ∧ b'.heap.get? (N + 1) = none) {b'' : Shared} (hbh : b''.heap = b'.heap) (hg : s'.gens = b''.gens) (hdr : s'.drawn = b''.drawn) (ho : s'.os = b''.os) : Inv b'' L m σ s' := by
  obtain ⟨⟨mm, hn, hm⟩, cs, nd, nw, kp, g1, g2, g3⟩ := I
  refine ⟨⟨mm, hn.at' fun o e => ?_, hm⟩, fun p hp => (cs p hp).at fun o e => ?_, nd, by rw [hbh]; exact nw, fun a o e => ?_, hg, hdr, ho⟩
  · have := hd L (.head _); exact K _ o this.1 this.2.1 this.2.2 e
  · have := hd p.1 (.tail _ (List.mem_map_of_mem hp)); exact K _ o this.1 this.2.1 this.2.2 e
  · rw [hbh] at e
    refine K a o (fun q => ?_) (fun q => ?_) (fun q => ?_) (kp a o e)
    · rw [q, hb.1] at e; cases e
    · rw [q, hb.2.1] at e; cases e
    · rw [q, hb.2.2] at e; cases e
/-- a tree has run over L: the other frame's stays -/
theorem Inv.aside {Lg : Addr} {b' : Shared} {mg' : Loc} {σg σ σ' : Cells} {s s' : Shared} (I : Inv b' Lg mg' σg s) (X : Ext L σ σ' s s') (I' : Inv b' L m σ' s') (hd : ∀ a ∈ L :: σ.map (·.1), a ∉ Lg :: σg.map (·.1)) :
    Inv b' Lg mg' σg s' ∧ ∀ a ∈ L :: σ'.map (·.1), a ∉ Lg :: σg.map (·.1) := by
  have hk : ∀ a ∈ Lg :: σg.map (·.1), ∀ o, s.heap.get? a = some o → s'.heap.get? a = some o := fun a ha o e => X.kept a o (fun q => hd a q ha) e
  have alive : ∀ a ∈ Lg :: σg.map (·.1), s.heap.get? a ≠ none := fun a ha => by
    cases ha with
    | head => obtain ⟨mm, ⟨o, es, ep, ho, r⟩, _⟩ := I.ns; rw [ho]; exact fun e => by cases e
    | tail _ ha =>
      obtain ⟨p, hp, rfl⟩ := List.mem_map.mp ha
      obtain ⟨o, ho⟩ := (I.cells p hp).alive
      rw [ho]; exact fun e => by cases e
  obtain ⟨⟨mm, hn, hm⟩, cs, nd, nw, kp, g1, g2, g3⟩ := I
  refine ⟨⟨⟨mm, hn.at' fun o e => hk _ (.head _) o e, hm⟩, fun p hp => (cs p hp).at fun o e => hk _ (.tail _ (List.mem_map_of_mem hp)) o e, nd, nw, I'.keep, I'.gens, I'.drawn, I'.os⟩, fun a ha hm => ?_⟩
  cases ha with
  | head => exact hd L (.head _) hm
  | tail _ ha =>
    rcases X.fresh a ha with h | h
    · exact hd a h hm
    · exact alive a hm h

abbrev stAt (x : List Nat) (j : Nat) : Sst := ((esc x 0 false).take j).foldl (stp x) (0, none, [])
theorem stAt_succ {x : List Nat} {j : Nat} {pre : List (Nat × List Nat)} {y : Nat × List Nat} {r : List (Nat × List Nat)} (h : esc x 0 false = pre ++ y :: r) (hj : pre.length = j) : stAt x (j + 1) = stp x (stAt x j) y := by
  subst hj
  unfold stAt
  rw [h]
  have e1 : (pre ++ y :: r).take (pre.length + 1) = pre ++ [y] := by
    rw [show pre ++ y :: r = (pre ++ [y]) ++ r by simp, show pre.length + 1 = (pre ++ [y]).length by simp, List.take_left]
  have e2 : (pre ++ y :: r).take pre.length = pre := by simp
  rw [e1, e2, List.foldl_append]; rfl
theorem stAt_len {x : List Nat} : ∀ j, (stAt x j).2.2.length ≤ j := by
  have key : ∀ (l : List (Nat × List Nat)) (st : Sst), (l.foldl (stp x) st).2.2.length ≤ st.2.2.length + l.length := by
    intro l
    induction l with
    | nil => intro st; simp
    | cons y r ih =>
      intro st
      have h := ih (stp x st y)
      have h2 : (stp x st y).2.2.length ≤ st.2.2.length + 1 := by
        unfold stp
        split
        · split
          · simp
          · dsimp only; split <;> simp
        · simp
      simp only [List.foldl_cons, List.length_cons]
      omega
  intro j
  have := key ((esc x 0 false).take j) (0, none, [])
  simp only [List.length_nil, List.length_take] at this
  unfold stAt
  omega
theorem esc_len : ∀ (l : List Nat) (i : Nat) (e : Bool), (esc l i e).length ≤ l.length
  | [], _, _ => by simp [esc]
  | c :: r, i, e => by
    have h1 := esc_len r (i + 1) false
    have h2 := esc_len r (i + 1) true
    unfold esc
    split
    · simp; omega
    · split <;> simp <;> omega

theorem push_set {α : Type} {a : Array α} {x y : α} : (a.push x).setIfInBounds a.size y = a.push y := by
  apply Array.ext (by simp)
  intro i h1 h2
  rw [Array.getElem_setIfInBounds (by simpa using h1), Array.getElem_push, Array.getElem_push]
  by_cases q : a.size = i
  · subst q; simp
  · rw [if_neg q]
    have : i < a.size := by
      have : i < a.size + 1 := by simpa using h2
      omega
    simp [this]
/-- the loop over the generator -/
theorem strip_loop {Lg G : Addr} {g : Nat} {env : Env} (henv : env = senv L f cd) (hA : A.handled = none) (hdep : A.depth < recursionLimit) (hx : x.length ≤ 40) {R : Result → Shared → Prop} {σr : Cells} {s : Shared}
    (hlim : b.heap.NoLimit) (hbn : b.heap.get? Lg = none ∧ b.heap.get? N = none ∧ b.heap.get? (N + 1) = none) {gs : GenState} {C : Cell} (hgen : C = .pr fun o => ∃ nm qn, o.cls = .type "generator" ∧ o.data = .fields #[.int g 0, nm, qn] ∧ o.slots = #[])
    (hg : g = b.gens.size) (I : Inv (bb b s) L m ((G, C) :: (res, .list []) :: σr) s) (hd : ∀ a ∈ L :: ((G, C) :: (res, Cell.list []) :: σr).map (·.1), a ≠ Lg ∧ a ≠ N ∧ a ≠ N + 1) (hs : s.gens = b.gens.push gs) (hdo : s.drawn = b.drawn ∧ s.os = b.os) (hv : SV x res (0, none, []) m)
    (hgo : ∀ s'', s''.heap = s.heap → s''.drawn = s.drawn → s''.os = s.os → gs.Goes (model PW w) A.in1 (GR Lg N) (GY b Lg N x) (esc x 0 false).length (.send .none) s'')
    (hLg : Lg ≠ N ∧ Lg ≠ N + 1)
    (k : ∀ s' m' , SV x res (stAt x (esc x 0 false).length) m' → s'.gens = b.gens.push .finished → Inv (bb b s') L m' ((G, C) :: (res, .list ((stAt x (esc x 0 false).length).2.2.map .str)) :: σr) s' → s'.drawn = b.drawn ∧ s'.os = b.os →
      (∀ a o, a ≠ Lg → a ≠ N → a ≠ N + 1 → a ∉ L :: ((G, C) :: (res, Cell.list []) :: σr).map (·.1) → s.heap.get? a = some o → s'.heap.get? a = some o) → R (.ok .next) s') :
    codeAny (model PW w) A (.forLoop (forTg (bd6[4]'(by decide))) (.ref G) (forBody (bd6[4]'(by decide))) [] env) R s := by
  subst henv
  have noE : ∀ {α : Type} {t : Sem α} {R : α → Shared → Prop} {E : Value → Shared → Prop} {s : Shared}, wpAny (model PW w) A t R NoE s → wpAny (model PW w) A t R E s := fun x => wpAny_mono x (fun _ _ y => y) fun _ _ y => y.elim
  refine codeAny_forLoop_any (fun k s' => ∃ j gs m', k = (esc x 0 false).length + 1 - j ∧ j ≤ (esc x 0 false).length ∧ SV x res (stAt x j) m' ∧ s'.gens = b.gens.push gs ∧ (s'.drawn = b.drawn ∧ s'.os = b.os) ∧
    Inv (bb b s') L m' ((G, C) :: (res, .list ((stAt x j).2.2.map .str)) :: σr) s' ∧ (∀ a o, a ≠ Lg → a ≠ N → a ≠ N + 1 → a ∉ L :: ((G, C) :: (res, Cell.list []) :: σr).map (·.1) → s.heap.get? a = some o → s'.heap.get? a = some o) ∧
    ∀ s'', s''.heap = s'.heap → s''.drawn = s'.drawn → s''.os = s'.os → gs.Goes (model PW w) A.in1 (GR Lg N) (GY b Lg N x) ((esc x 0 false).length - j) (.send .none) s'') ?_ ((esc x 0 false).length + 1)
    ⟨0, gs, m, rfl, Nat.zero_le _, hv, hs, hdo, I, fun _ _ _ _ _ _ e => e, hgo⟩
  rintro q s' ⟨j, gs', m', rfl, hj, hv', hs', hdo', I', K', hgo'⟩
  have hz : ∀ gx, (b.gens.push gx)[g]? = some gx := fun gx => by rw [hg, Array.getElem?_push_size]
  have hgs : s'.gens[g]? = some gs' := by rw [hs']; exact hz gs'
  have hgenI : ∀ s' : Shared, C.Sat s'.heap G → s'.heap.IsGen G g := by
    intro s' h; subst hgen; obtain ⟨o, ho, nm, qn, h1, h2, h3⟩ := h; exact ⟨o, nm, qn, ho, h1, h2, h3⟩
  have hda : ∀ j, ∀ a ∈ L :: ((G, C) :: (res, Cell.list ((stAt x j).2.2.map AV.str)) :: σr).map (·.1), a ≠ Lg ∧ a ≠ N ∧ a ≠ N + 1 := fun j a ha => hd a (by simpa using ha)
  have setG : ∀ (s₁ : Shared) gx gy, s₁.gens = b.gens.push gx → (s₁.setGen g gy).gens = b.gens.push gy := by
    intro s₁ gx gy h
    show s₁.gens.setIfInBounds g gy = _
    rw [h, hg]
    exact push_set
  refine wpAny_pyNext_gen (n := (esc x 0 false).length - j) (P := fun n s₀ s₁ => n = 0 ∧ KG Lg N s₀ s₁) (Y := GY b Lg N x) hA (hlim.keeps I'.keep) hdep (hgenI _ (I'.cells (G, C) (.head _))) hgs (hgo' _ rfl rfl rfl) ?_ ?_
  · intro v s₁ gn hY
    obtain ⟨T, i, mG, y, rfl, IG, K1, hT, ⟨pre, hpre⟩, hlen, hkap⟩ := hY
    have IG1 : Inv (bb b s₁) Lg mG (gcells N x i) s₁ := (IG.drop (List.sublist_cons_self _ _)).ofHeap rfl rfl rfl rfl rfl
    have htot : (esc x 0 false).length = pre.length + (1 + (esc (x.drop i) i false).length) := by rw [hpre]; simp; omega
    rcases hnj : (esc x 0 false).length - j with _ | mm
    · rw [hnj] at hkap
      exact (hkap s₁ IG1).elim
    have hpl : pre.length = j := by omega
    have hT' : s'.heap.get? T = none := hT
    have g2 : (s₁.setGen g gn).gens = b.gens.push gn := by
      refine setG s₁ .running gn ?_
      rw [K1.1]; exact setG s' gs' .running hs'
    have Ic : Inv (bb b (s₁.setGen g gn)) L m' ((G, C) :: (res, .list ((stAt x j).2.2.map .str)) :: σr) (s₁.setGen g gn) :=
      Inv.gone (Lg := Lg) (N := N) (s' := s₁.setGen g gn) (b'' := bb b (s₁.setGen g gn)) I' (fun a o q1 q2 q3 e => K1.2.2.2 a o q1 q2 q3 e) (hda j) hbn rfl rfl rfl rfl
    have IG2 : Inv (bb b (s₁.setGen g gn)) Lg mG (gcells N x i) (s₁.setGen g gn) := IG1.ofHeap rfl rfl rfl rfl rfl
    have hTd := I'.dead hT'
    have hTb : b.heap.get? T = none := by
      cases q : b.heap.get? T with
      | none => rfl
      | some o => rw [I'.keep T o q] at hT'; cases hT'
    have Ic2 := Ic.add (c := .tup [.int (y.1 : Nat), .str y.2]) hTd hTb (IG.cells (T, .tup [.int (y.1 : Nat), .str y.2]) (.head _))
    have hTG : T ∉ Lg :: (gcells N x i).map (·.1) := by
      have nd := IG.nd
      intro hm
      rcases List.mem_cons.mp hm with h | h
      · exact (List.nodup_cons.mp nd).1 (h ▸ .head _)
      · exact (List.nodup_cons.mp (List.nodup_cons.mp nd).2).1 h
    have hdis : ∀ a ∈ L :: ((T, Cell.tup [.int (y.1 : Nat), .str y.2]) :: (G, C) :: (res, .list ((stAt x j).2.2.map .str)) :: σr).map (·.1), a ∉ Lg :: (gcells N x i).map (·.1) := by
      intro a ha hm
      have hm' : a = Lg ∨ a = N + 1 ∨ a = N := by simpa [gcells] using hm
      rcases List.mem_cons.mp ha with h | h
      · have := hda j L (.head _); subst h
        rcases hm' with h | h | h
        · exact this.1 h
        · exact this.2.2 h
        · exact this.2.1 h
      · rcases List.mem_cons.mp h with h | h
        · have h' : a = T := h
          rw [h'] at hm
          exact hTG hm
        · have := hda j a (.tail _ h)
          rcases hm' with h | h | h
          · exact this.1 h
          · exact this.2.2 h
          · exact this.2.1 h
    have hload : ∀ (Q : Unit → Shared → Prop) E, Q () (s₁.setGen g gn) → wpAny (model PW w) A (letOwnedTupleGo (forTg (bd6[4]'(by decide))) (.ref G) (.ref T)) Q E (s₁.setGen g gn) := by
      intro Q E hQ
      obtain ⟨o, nm, qn, ho, hc, hdt, hsl⟩ := hgenI _ (Ic.cells (G, C) (.head _))
      show wpAny _ A (letOwnedTupleGo (.Tuple _ _ _) (.ref G) (.ref T)) Q E _
      unfold letOwnedTupleGo
      refine wpAny_bind (wpAny_load ho ?_)
      rw [hc, hdt]
      show wpAny _ A (if (["enumerate", "zip", "dict_itemiterator", "dict_reverseitemiterator", "odict_iterator", "itertools.zip_longest", "itertools.pairwise"].contains "generator" &&
          (#[.int g 0, nm, qn] : Array Value)[0]? == some (rawInt T)) = true then _ else _) Q E _
      rw [if_neg (by
        intro h
        rw [show (["enumerate", "zip", "dict_itemiterator", "dict_reverseitemiterator", "odict_iterator", "itertools.zip_longest", "itertools.pairwise"].contains "generator") = false from by decide, Bool.false_and] at h
        cases h)]
      exact wpAny_pure hQ
    refine hload _ _ (noE (H.seq Ic2 (H_assign2 (env := senv L f cd) (Q := fun _ m₃ σ₃ => m₃ = put "ch" (.str y.2) (put "pos" (.int (y.1 : Nat)) m') ∧ σ₃ = (T, .tup [.int (y.1 : Nat), .str y.2]) :: (G, C) :: (res, .list ((stAt x j).2.2.map .str)) :: σr) hA (.inl (.head _)) ⟨rfl, rfl⟩ (by rfl) (by rfl) (by rfl)) fun _ m₃ σ₃ s₃ q I₃ X₃ => ?_))
    obtain ⟨rfl, rfl⟩ := q
    have hle := stAt_len (x := x) j
    have hel := esc_len x 0 false
    refine noE (H.seq I₃ (w_turn (pre := [_, _]) (post := σr) hx (by omega) ⟨by have := hv'.1; walk_at "lk", by have := hv'.2.1; walk_at "lk", by have := hv'.2.2.1; walk_at "lk", by have := hv'.2.2.2; walk_at "lk"⟩ (by walk_at "lk") (by walk_at "lk")) fun fl m₄ σ₄ s₄ q I₄ X₄ => ?_)
    obtain ⟨hfl, rfl, hv4⟩ := q
    cases fl <;> first | cases hfl | skip
    have X := X₃.trans X₄
    have hst : stAt x (j + 1) = stp x (stAt x j) y := stAt_succ hpre hpl
    have g4 : s₄.gens = b.gens.push gn := X.gens.trans g2
    have d4 : s₄.drawn = b.drawn := X.drawn.trans (K1.2.1.trans hdo'.1)
    have o4 : s₄.os = b.os := X.os.trans (K1.2.2.1.trans hdo'.2)
    refine ⟨(esc x 0 false).length + 1 - (j + 1), by omega, j + 1, gn, m₄, rfl, by omega, hst ▸ hv4, g4, ⟨d4, o4⟩, ?_, ?_, ?_⟩
    · rw [hst]
      exact (I₄.drop (List.sublist_cons_self _ _)).ofHeap rfl rfl rfl rfl rfl
    · intro a o q1 q2 q3 q4 e
      have e' := K' a o q1 q2 q3 q4 e
      have e'' := K1.2.2.2 a o q1 q2 q3 e'
      refine X.kept a o (fun hm => ?_) e''
      rcases List.mem_cons.mp hm with h | h
      · exact q4 (h ▸ .head _)
      · rcases List.mem_cons.mp h with h | h
        · rw [h, hT'] at e'; cases e'
        · exact q4 (.tail _ h)
    · intro s'' hh hd2 ho2
      have z1 := IG2.aside X₃ I₃ hdis
      have z2 := z1.1.aside X₄ I₄ z1.2
      have := hkap s'' (z2.1.ofHeap hh rfl rfl rfl rfl)
      rw [hnj] at this
      rw [show (esc x 0 false).length - (j + 1) = mm by omega]
      exact this
  · rintro s₁ ⟨hn0, hK⟩ h' hk'
    obtain rfl : j = (esc x 0 false).length := by omega
    have g2 : (s₁.setGen g .finished).gens = b.gens.push .finished := by
      refine setG s₁ .running .finished ?_
      rw [hK.1]; exact setG s' gs' .running hs'
    refine wpAny_execs_nil (k _ m' hv' g2 ?_ ⟨hK.2.1.trans hdo'.1, hK.2.2.1.trans hdo'.2⟩ fun a o q1 q2 q3 q4 e => hk' a o (hK.2.2.2 a o q1 q2 q3 (K' a o q1 q2 q3 q4 e)))
    exact Inv.gone (Lg := Lg) (N := N) (s' := { s₁.setGen g .finished with heap := h' }) (b'' := bb b { s₁.setGen g .finished with heap := h' }) I' (fun a o q1 q2 q3 e => hk' a o (hK.2.2.2 a o q1 q2 q3 e)) (hda _) hbn rfl rfl rfl rfl
end
end Mine
end
section
open PySem PySem.W PyProof.Rows PySem.Calls PySem.Spec
namespace Mine
section
variable {w : World} {A : Around} {b : Shared} {L N f res : Addr} {cd : Value} {x : List Nat} {m : Loc} {mg mb : PySem.Str → Option Value}
local macro_rules | `(tactic| walk_at "lk") => `(tactic| ((repeat (first | with_reducible assumption | with_reducible exact lookup_put_eq | with_reducible refine (lookup_put_ne (by decide)).trans ?_)); first | done | exact lookup_put_eq | rfl))

theorem strip_for {σr : Cells} {s : Shared} (R : Rm 1 A) (Gg : GB w mg mb b.heap) (I : Inv b L m ((res, .list []) :: σr) s) (hv : SV x res (0, none, []) m) (hx : x.length ≤ 40) (hfe : fe x false = false) :
    wpAny (model PW w) A (exec (bd6[4]'(by decide)) (senv L f cd)) (fun fl s' => fl = .next ∧ ∃ m', SV x res (stAt x (esc x 0 false).length) m' ∧ s'.gens = b.gens.push .finished ∧ (s'.drawn = b.drawn ∧ s'.os = b.os) ∧
      Inv (bb b s') L m' ((res, .list ((stAt x (esc x 0 false).length).2.2.map .str)) :: σr) s' ∧ (∀ a o, a ∉ L :: ((res, Cell.list []) :: σr).map (·.1) → s.heap.get? a = some o → s'.heap.get? a = some o)) NoE s := by
  obtain ⟨fg, o, pm, cdg, doc, h1, h2, h3, h4⟩ := (Gg.keeps I.keep).fn 5 "_iter_escaped_chars" ((fnRec 5).get some5).2.1 bd5 sc5 (by rfl)
  obtain ⟨mm, hn, hml⟩ := I.ns
  obtain ⟨va, hva, hea⟩ := hml "addr" (.str x) hv.1
  obtain ⟨t, rfl⟩ := er_str hea
  refine wpAny_For (Call_Name (env := senv L f cd) (by rfl) (Calls.Name_function_global (env := senv L f cd) (by rfl) (by rfl) (Calls.loadGlobal_global (env := senv L f cd) (Gg.g.keeps I.keep) h1
    (Calls.callWith_function (o := o) (Calls.evalArgs_plain (Calls.spliced_cons (wpAny_Name (wpAny_loadName_local (by rfl) (by rfl) hn hva (Calls.spliced_nil ⟨⟨h2, h3⟩, ?_⟩)) (by decide)))))) (by decide))) (by intro _; rfl)
  have hS := new_of s
  refine wpAny_call (codeAny_call_generator (fd := docDef "_iter_escaped_chars" ((fnRec 5).get some5).2.1 bd5 sc5 pm cdg doc) (body := bd5) R.lim h2 h3 rfl rfl rfl h4 (wpAny_of_eq (a := [(Str.ofString "addr", Value.str ⟨x.toArray⟩ t)]) (by rfl) ?_))
  refine wpAny_newFunctionEnv (scope := sc5) (by decide) (by intro y hy; obtain rfl := List.mem_singleton.mp hy; rfl) (fun h' hns hsb => ?_) (by rfl)
  have keep1 : ∀ a ob, s.heap.get? a = some ob → h'.get? a = some ob := fun a ob e => hsb.extBut a ob (Nat.ne_of_lt (Heap.lt_size e)) (Heap.get?_push_of_some _ e)
  have hsz : h'.objs.size = s.heap.objs.size + 1 := hsb.1.trans (Heap.size_push ..)
  refine ⟨(Gg.keeps I.keep).lim.keeps keep1, ?_⟩
  dsimp only
  generalize hSz : s.heap.objs.size = S at *
  have hG : h'.get? (S + 1) = none := by
    cases q : h'.get? (S + 1) with
    | none => rfl
    | some ob => have := Heap.lt_size q; rw [hsz] at this; exact absurd this (Nat.lt_irrefl _)
  rw [hsz]
  have hGs : s.heap.get? (S + 1) = none := by
    cases q : s.heap.get? (S + 1) with
    | none => rfl
    | some ob => rw [keep1 _ _ q] at hG; cases hG
  have alive : ∀ a ∈ L :: ((res, Cell.list []) :: σr).map (·.1), a < S := fun a ha => by
    rw [← hSz]
    cases ha with
    | head => obtain ⟨ob, es, ep, ho, r⟩ := hn; exact Heap.lt_size ho
    | tail _ ha =>
      obtain ⟨p, hp, rfl⟩ := List.mem_map.mp ha
      obtain ⟨ob, ho⟩ := (I.cells p hp).alive
      exact Heap.lt_size ho
  have hbn : ∀ a, S ≤ a → b.heap.get? a = none := fun a ha => by
    cases q : b.heap.get? a with
    | none => rfl
    | some ob =>
      have := Heap.lt_size (I.keep _ _ q)
      rw [hSz] at this
      exact absurd this (Nat.not_lt.mpr ha)
  have hgsz : s.gens.size = b.gens.size := by rw [I.gens]
  generalize hob : ({ cls := Value.type "generator", data := .fields #[.int s.gens.size 0, .str _ _, .str _ _] } : Obj) = ob
  have hget : (h'.push ob).get? (S + 1) = some ob := by
    have := Heap.get?_push_size h' (o := ob) (by rw [← hob]; rfl)
    rw [hsz] at this; exact this
  have keep2 : ∀ a o', s.heap.get? a = some o' → (h'.push ob).get? a = some o' := fun a o' e => Heap.get?_push_of_some _ (keep1 a o' e)
  have hgen : (Cell.pr fun o => ∃ nm qn, o.cls = .type "generator" ∧ o.data = .fields #[.int s.gens.size 0, nm, qn] ∧ o.slots = #[]).Sat (h'.push ob) (S + 1) := ⟨ob, hget, by rw [← hob]; exact ⟨_, _, rfl, rfl, rfl⟩⟩
  have Ia := I.alloc (a := S + 1) (c := .pr fun o => ∃ nm qn, o.cls = .type "generator" ∧ o.data = .fields #[.int s.gens.size 0, nm, qn] ∧ o.slots = #[])
    (s' := { s with heap := h'.push ob, toks := s.toks }) ⟨_, _, rfl, keep2⟩ hGs hgen
  refine wpAny_pyIter_gen (g := s.gens.size) (by obtain ⟨o, ho, nm, qn, q1, q2, q3⟩ := hgen; exact ⟨o, nm, qn, ho, q1, q2, q3⟩) ?_
  refine strip_loop (Lg := S) (N := S + 2) (G := S + 1) (g := s.gens.size) (gs := .fresh (.func bd5 (genv S fg cdg))) rfl R.h R.lim hx Gg.lim ⟨hbn _ (Nat.le_refl _), hbn _ (by show S ≤ S + 2; exact Nat.le_add_right _ _), hbn _ (by show S ≤ S + 2 + 1; exact Nat.le_add_right S 3)⟩ rfl hgsz
    (Ia.ofHeap rfl rfl rfl rfl rfl) (fun a ha => ?_) (by rw [I.gens]; rfl) ⟨I.drawn, I.os⟩ hv (fun s'' e1 e2 e3 => ⟨rfl, ?_⟩) ⟨?_, ?_⟩ ?_
  · have h3 : a < S ∨ a = S + 1 := by
      rcases List.mem_cons.mp ha with h | h
      · exact .inl (alive a (h ▸ .head _))
      · rcases List.mem_cons.mp h with h | h
        · exact .inr h
        · exact .inl (alive a (.tail _ h))
    rcases h3 with h | h
    · exact ⟨Nat.ne_of_lt h, Nat.ne_of_lt (Nat.lt_of_lt_of_le h (Nat.le_add_right _ _)), Nat.ne_of_lt (Nat.lt_of_lt_of_le h (Nat.le_add_right S 3))⟩
    · subst h
      exact ⟨Nat.succ_ne_self S, Nat.ne_of_lt (Nat.lt_succ_self (S + 1)), Nat.ne_of_lt (Nat.lt_succ_of_lt (Nat.lt_succ_self (S + 1)))⟩
  · have e1' : s''.heap = h'.push ob := e1
    refine gen_start (A := A.in1) (m := [("addr", .str x)]) R.h Gg (by rw [e1', Heap.size_push, hsz]) (by rfl) ?_ hfe
    refine ⟨⟨_, by rw [e1']; exact hns.at' fun o e => Heap.get?_push_of_some _ e, fun y v e => ?_⟩, fun p hp => (nomatch hp), by simp, fun a ha => ?_, fun a o e => by rw [e1']; exact keep2 a o (I.keep a o e), rfl, rfl, rfl⟩
    · by_cases hy : y = "addr"
      · subst hy
        have : some (AV.str x) = some v := e
        cases this
        exact ⟨.str ⟨x.toArray⟩ t, by rfl, by simp [er]⟩
      · rw [List.lookup_cons, beq_eq_false_iff_ne.mpr hy] at e; cases e
    · have : a = S := by simpa using ha
      subst this
      exact hbn _ (Nat.le_refl _)
  · exact Nat.ne_of_lt (Nat.lt_of_lt_of_le (Nat.lt_succ_self S) (Nat.le_add_right (S + 1) 1))
  · exact Nat.ne_of_lt (Nat.lt_of_lt_of_le (Nat.lt_succ_self S) (Nat.le_add_right (S + 1) 2))
  · intro s' m' q1 q2 q3 q4 q5
    refine ⟨rfl, m', q1, q2, q4, q3.drop (List.sublist_cons_self _ _), fun a o' hna e => ?_⟩
    have hlt : a < S := by rw [← hSz]; exact Heap.lt_size e
    refine q5 a o' (Nat.ne_of_lt hlt) (Nat.ne_of_lt (Nat.lt_of_lt_of_le hlt (Nat.le_add_right _ _))) (Nat.ne_of_lt (Nat.lt_of_lt_of_le hlt (Nat.le_add_right S 3))) (fun hm => ?_) (keep2 a o' e)
    rcases List.mem_cons.mp hm with h | h
    · exact hna (h ▸ .head _)
    · rcases List.mem_cons.mp h with h | h
      · exact Nat.ne_of_lt (Nat.lt_succ_of_lt hlt) h
      · exact hna (.tail _ h)
end
end Mine
end
section
open PySem PySem.W PyProof.Rows PySem.Calls PySem.Spec
namespace Mine
def qin (x : List Nat) : Bool := !(Builtin.Str.occurrences (mk x) (mk [34]) 0 (mk x).length 1).isEmpty
def shorn (x : List Nat) : List Nat :=
  if qin x = true then
    let st := stAt x (esc x 0 false).length
    jn [] (st.2.2 ++ if st.1 < x.length then [sl x (some (st.1 : Nat)) none] else [])
  else x
section
variable {w : World} {A : Around} {b : Shared} {L N f res : Addr} {cd : Value} {x : List Nat} {m : Loc} {mg mb : PySem.Str → Option Value}
local macro_rules | `(tactic| walk_at "lk") => `(tactic| ((repeat (first | with_reducible assumption | with_reducible exact lookup_put_eq | with_reducible refine (lookup_put_ne (by decide)).trans ?_)); first | done | exact lookup_put_eq | rfl))
theorem HCmp_notinQ {σ : Cells} {Q : AV → Loc → Cells → Prop} (h : Q (.bool (!(qin x))) m σ) : HCmp w A b L .NotIn (.str [34]) (.str x) m σ Q := fun v u e1 e2 s I => by
  obtain ⟨t, rfl⟩ := er_str e1
  obtain ⟨t', rfl⟩ := er_str e2
  exact P.notIn_str (PG.grow I .refl h)
theorem sl_le {l : List Nat} {a c : Option Int} : (sl l a c).length ≤ l.length := by
  unfold sl
  have := Txt.slice_le (mk l) a c
  rw [str_len, str_len] at this
  simpa [mk] using this
theorem st_all {x : List Nat} : ∀ j, ∀ r ∈ (stAt x j).2.2, r.length ≤ x.length := by
  have key : ∀ (l : List (Nat × List Nat)) (st : Sst), (∀ r ∈ st.2.2, r.length ≤ x.length) → ∀ r ∈ (l.foldl (stp x) st).2.2, r.length ≤ x.length := by
    intro l
    induction l with
    | nil => intro st h; exact h
    | cons y r ih =>
      intro st h
      refine ih (stp x st y) ?_
      unfold stp
      split
      · split
        · exact h
        · dsimp only
          split
          · intro q hq
            rcases List.mem_append.mp hq with hq | hq
            · exact h q hq
            · obtain rfl := List.mem_singleton.mp hq
              exact sl_le
          · exact h
      · exact h
  intro j
  exact key _ _ (fun r hr => nomatch hr)
theorem sum_le {k : Nat} : ∀ {l : List (List Nat)}, (∀ r ∈ l, r.length ≤ k) → (l.map List.length).sum ≤ k * l.length
  | [], _ => by simp
  | r :: l, h => by
    have h1 := sum_le (l := l) fun q hq => h q (.tail _ hq)
    have h2 := h r (.head _)
    simp only [List.map_cons, List.sum_cons, List.length_cons, Nat.mul_add, Nat.mul_one]
    omega

set_option maxRecDepth 20000 in
theorem strip_tail {σr : Cells} {Q : FL → Loc → Cells → Prop} {st : Sst} (R : Rm 0 A) (G : GB w mg mb b.heap) (hx : x.length ≤ 40) (hl : st.2.2.length ≤ 40) (hall : ∀ r ∈ st.2.2, r.length ≤ x.length) (hv : SV x res st m)
    (k : ∀ m' v σ', v = .str (jn [] (st.2.2 ++ if st.1 < x.length then [sl x (some (st.1 : Nat)) none] else [])) → (σr : Cells).Sublist σ' → Q (.ret v) m' σ') :
    HB w A b (senv L f cd) (bd6.drop 5) m ((res, .list (st.2.2.map .str)) :: σr) Q := by
  obtain ⟨h1, h2, h3, h4⟩ := hv
  have emp' := emp
  have tail : ∀ rs : List (List Nat), rs.length ≤ 41 → (∀ r ∈ rs, r.length ≤ 40) → (∀ m' σ', (σr : Cells).Sublist σ' → Q (.ret (.str (jn [] rs))) m' σ') → HB w A b (senv L f cd) (bd6.drop 6) m ((res, .list (rs.map .str)) :: σr) Q := by
    intro rs h41 h40 kk
    refine HB_cons (HS_return ?_)
    with_reducible refine HE_join ?_ (by with_unfolding_all rfl) (by with_unfolding_all rfl)
    refine HE_name _ h4 ⟨res, rs, rfl, .inl (.head _), ?_, ?_⟩
    · rw [emp]
      have := sum_le h40
      simp only [List.length_nil]
      omega
    · rw [emp]
      exact kk _ _ (List.sublist_cons_self _ _)
  refine HB_cons (HS_if (HT_cmp (HE_cmp (HE_name (.int (st.1 : Nat)) h2 ?_))))
  refine HE_callB "len" G (by decide) (by rfl) (by rfl) (by rfl) (HL_cons (HE_name _ h1 (HL_nil (HC_lenS (le_line hx) (HCmp_lt ⟨_, rfl, ?_⟩)))))
  by_cases q : st.1 < x.length
  · rw [decide_eq_true (show ((st.1 : Nat) : Int) < (x.length : Nat) by omega)]
    rw [if_pos q] at k
    refine ite_t (HB_cons (HS_expr (HE_meth "list" "list.append" PySem.F.plainAttrs_list PySem.F.slot_list_append PySem.F.type_list_append (by rfl) (by rfl) (HE_name (.ref res) h4 ⟨fun v s e I => ty_list (vs := st.2.2.map .str) (.inl (.head _)) I e, ?_⟩))))
    refine HL_cons (HE_slS (HE_name _ h1 (HP_some (HE_name (.int (st.1 : Nat)) h2 (HP_none ⟨x, some (st.1 : Nat), none, rfl, rfl, rfl, le_line hx, ?_⟩)))))
    refine HL_nil (HC_append [] σr rfl ?_ ⟨by simp, HB_nil ?_⟩)
    · rw [sizeLine_eq]; simp; omega
    rw [show (st.2.2.map AV.str ++ [AV.str (sl x (some (st.1 : Nat)) none)]) = (st.2.2 ++ [sl x (some (st.1 : Nat)) none]).map AV.str by simp]
    refine tail _ (by simp; omega) (fun r hr => ?_) fun m' σ' hs => k m' _ σ' rfl hs
    rcases List.mem_append.mp hr with h | h
    · exact Nat.le_trans (hall r h) hx
    · obtain rfl := List.mem_singleton.mp h
      exact Nat.le_trans sl_le hx
  · rw [decide_eq_false (show ¬ ((st.1 : Nat) : Int) < (x.length : Nat) by omega)]
    rw [if_neg q, List.append_nil] at k
    exact ite_f (HB_nil (tail _ (by omega) (fun r hr => Nat.le_trans (hall r hr) hx) fun m' σ' hs => k m' _ σ' rfl hs))
end
end Mine
end
section
open PySem PySem.W PyProof.Rows PySem.Calls PySem.Spec
namespace Mine
section
variable {w : World} {A : Around} {b : Shared} {L N f res : Addr} {cd : Value} {x : List Nat} {m : Loc} {mg mb : PySem.Str → Option Value}
local macro_rules | `(tactic| walk_at "lk") => `(tactic| ((repeat (first | with_reducible assumption | with_reducible exact lookup_put_eq | with_reducible refine (lookup_put_ne (by decide)).trans ?_)); first | done | exact lookup_put_eq | rfl))

theorem erF_next {fl : Flow} (h : erF fl = .next) : fl = .next := by cases fl <;> first | rfl | cases h
theorem erF_ret {fl : Flow} {v : AV} (h : erF fl = .ret v) : ∃ u, fl = .ret u ∧ er u = v := by
  cases fl with
  | ret u => exact ⟨u, rfl, by injection h⟩
  | next => cases h
  | brk => cases h
  | cont => cases h

/-- what strip's body leaves -/
def SEnd (b : Shared) (L : Addr) (σ : Cells) (x : List Nat) (s : Shared) (fl : Flow) (s' : Shared) : Prop :=
  ∃ u m' σ', fl = .ret u ∧ er u = .str (shorn x) ∧ (σ : Cells).Sublist σ' ∧ Inv (bb b s') L m' σ' s' ∧ (s'.gens = b.gens ∨ s'.gens = b.gens.push .finished) ∧ s'.drawn = b.drawn ∧ s'.os = b.os ∧
    (∀ a o, a ∉ L :: σ.map (·.1) → s.heap.get? a = some o → s'.heap.get? a = some o)

set_option maxRecDepth 20000 in
theorem strip_body {σ : Cells} {s : Shared} (R : Rm 1 A) (G : GB w mg mb b.heap) (I : Inv b L m σ s) (hm : gv m "addr" = some (.str x)) (hx : x.length ≤ 40) (hfe : fe x false = false) :
    wpAny (model PW w) A (execs bd6 (senv L f cd)) (SEnd b L σ x s) NoE s := by
  have st0 : HS w A b (senv L f cd) (bd6[0]'(by decide)) m σ (fun fl m₁ σ₁ => (qin x = false ∧ fl = .ret (.str x) ∧ m₁ = m ∧ σ₁ = σ) ∨ (qin x = true ∧ fl = .next ∧ m₁ = m ∧ σ₁ = σ)) := by
    refine HS_if (HT_cmp (HE_cmp (HE_str (HE_name _ hm ?_))))
    rw [quo]
    refine HCmp_notinQ ⟨_, rfl, ?_⟩
    cases hq : qin x with
    | false => exact ite_t (HB_cons (HS_return (HE_name _ hm (.inl ⟨rfl, rfl, rfl, rfl⟩))))
    | true => exact ite_f (HB_nil (.inr ⟨rfl, rfl, rfl, rfl⟩))
  refine wpAny_execs_cons (H.seq I st0 fun fl m₁ σ₁ s₁ q I₁ X₁ => ?_)
  rcases q with ⟨hq, hfl, rfl, rfl⟩ | ⟨hq, hfl, rfl, rfl⟩
  · obtain ⟨u, rfl, hu⟩ := erF_ret hfl
    exact ⟨u, m₁, σ₁, rfl, by rw [hu, shorn, if_neg (by rw [hq]; decide)], .refl _, I₁.toBB, .inl (X₁.gens.trans I.gens), X₁.drawn.trans I.drawn, X₁.os.trans I.os, X₁.kept⟩
  obtain rfl := erF_next hfl
  dsimp only
  refine wpAny_execs_cons (H.seq I₁ (HS_assign (env := senv L f cd) (Q := fun fl m' σ' => fl = .next ∧ m' = put "start" (.int 0) m₁ ∧ σ' = σ₁) (HE_int ⟨rfl, rfl, rfl⟩)) fun fl ma σa sa q Ia Xa => ?_)
  obtain ⟨hfl, rfl, rfl⟩ := q
  obtain rfl := erF_next hfl
  dsimp only
  refine wpAny_execs_cons (H.seq Ia (HS_assign (env := senv L f cd) (Q := fun fl m' σ' => fl = .next ∧ m' = put "open_pos" .none (put "start" (.int 0) m₁) ∧ σ' = σa) (HE_none ⟨rfl, rfl, rfl⟩)) fun fl mb' σb sb q Ib Xb => ?_)
  obtain ⟨hfl, rfl, rfl⟩ := q
  obtain rfl := erF_next hfl
  dsimp only
  refine wpAny_execs_cons (H.seq Ib (HS_assign (env := senv L f cd) (Q := fun fl m₂ σ₂ => fl = .next ∧ ∃ res, σ₂ = (res, .list []) :: σb ∧ SV x res (0, none, []) m₂) (HE_list (by rfl) (HL_nil ⟨by simp, fun res => ⟨rfl, res, rfl, by walk_at "lk", by walk_at "lk", by walk_at "lk", by walk_at "lk"⟩⟩))) fun fl m₂ σ₂ s₂ q I₂ Xc => ?_)
  obtain ⟨hfl, res, rfl, hv⟩ := q
  obtain rfl := erF_next hfl
  dsimp only
  have X₂ := (Xa.trans Xb).trans Xc
  refine wpAny_execs_cons (wpAny_mono (strip_for R G I₂ hv hx hfe) (fun fl s₃ h => ?_) fun _ _ x => x)
  obtain ⟨rfl, m₃, hv3, g3, d3, I₃, K3⟩ := h
  dsimp only
  have hl := stAt_len (x := x) (esc x 0 false).length
  have hl2 := esc_len x 0 false
  have tl := strip_tail (A := A) (b := bb b s₃) (L := L) (f := f) (cd := cd) (σr := σb) (Q := fun fl m' σ' => fl = .ret (.str (shorn x)) ∧ (σb : Cells).Sublist σ') (R.le (by decide)) G hx (by omega) (st_all _) hv3 (fun m' v σ' hv hs => ⟨by rw [hv, shorn, if_pos hq], hs⟩)
  refine H.seq I₃ tl fun fl m₄ σ₄ s₄ q I₄ X₄ => ?_
  obtain ⟨hfl, hs⟩ := q
  obtain ⟨u, rfl, hu⟩ := erF_ret hfl
  refine ⟨u, m₄, σ₄, rfl, hu, hs, I₄.ofHeap rfl rfl rfl rfl rfl, .inr (X₄.gens.trans g3), X₄.drawn.trans d3.1, X₄.os.trans d3.2, fun a o hn e => ?_⟩
  have e1 := X₁.kept a o hn e
  have e2 := X₂.kept a o hn e1
  have hres : a ≠ res := by
    rintro rfl
    rcases X₂.fresh a (by simp) with h | h
    · exact hn h
    · rw [h] at e1; cases e1
  have hn' : a ∉ L :: ((res, Cell.list []) :: σb).map (·.1) := fun hm => by
    rcases List.mem_cons.mp hm with h | h
    · exact hn (h ▸ .head _)
    · rcases List.mem_cons.mp h with h | h
      · exact hres h
      · exact hn (.tail _ h)
  exact X₄.kept a o (fun hm => hn' (by simpa using hm)) (K3 a o hn' e2)
end
end Mine
end
section
open PySem PySem.W PyProof.Rows PySem.Calls PySem.Spec
namespace Mine
section
variable {w : World} {A : Around} {b : Shared} {L N f res : Addr} {cd : Value} {x : List Nat} {m : Loc} {mg mb : PySem.Str → Option Value}

theorem Inv.loc {b' : Shared} {L : Addr} {m m' : Loc} {σ : Cells} {s : Shared} {mm : PySem.Str → Option Value} (I : Inv b' L m σ s) (hn : s.heap.Ns L mm) (hm : ∀ y u, m'.lookup y = some u → ∃ v', mm y = some v' ∧ er v' = u) : Inv b' L m' σ s :=
  ⟨⟨mm, hn, hm⟩, I.cells, I.nd, I.new, I.keep, I.gens, I.drawn, I.os⟩
theorem run_strip {σ : Cells} {s : Shared} {v : Value} (R : Rm 2 A) (G : GB w mg mb b.heap) (hf : mg "_strip_quoted_realnames" = some (.ref f)) (I : Inv b L m σ s) (hv : er v = .str x) (hx : x.length ≤ 40) (hfe : fe x false = false) :
    wpAny (model PW w) A (call (.ref f) [v]) (fun r s' => er r = .str (shorn x) ∧ Inv (bb b s') L m σ s' ∧ (s'.gens = b.gens ∨ s'.gens = b.gens.push .finished) ∧ s'.drawn = b.drawn ∧ s'.os = b.os) NoE s := by
  obtain ⟨f', o, pm, cd, doc, h1, h2, h3, h4⟩ := (G.keeps I.keep).fn 6 "_strip_quoted_realnames" ((fnRec 6).get some6).2.1 bd6 sc6 (by rfl)
  obtain rfl : f' = f := by rw [h1] at hf; cases hf; rfl
  refine wpAny_call (call_plain_ret (body := bd6) (scope := sc6) (binds := [(Str.ofString "addr", v)]) R.lim h2 h3 (G.keeps I.keep).lim h4 (by rfl) (by intro y hy; obtain rfl := List.mem_singleton.mp hy; rfl) (fun h₁ F => ?_) (by rfl) (by rfl) (by rfl) (by decide))
  have hnew := new_of s
  have hdead := I.dead hnew
  obtain ⟨mm, hn, hml⟩ := I.ns
  have I' : Inv b s.heap.objs.size [("addr", .str x)] σ { s with heap := h₁, toks := s.toks + [(Str.ofString "addr", v)].length } := by
    refine I.enter hnew ⟨h₁, _, rfl, F.keep⟩ F.ns |>.loc F.ns ?_
    intro y u e
    by_cases hy : y = "addr"
    · subst hy
      have : some (AV.str x) = some u := e
      cases this
      exact ⟨v, by rfl, hv⟩
    · rw [List.lookup_cons, beq_eq_false_iff_ne.mpr hy] at e; cases e
  refine wpAny_mono (strip_body (L := s.heap.objs.size) (f := f') (cd := cd) (R.deeper _) G I' (by rfl) hx hfe) (fun fl s' h => ?_) fun _ _ x => x
  obtain ⟨u, m', σ', rfl, hu, hs, I₂, hg, hd, ho, K⟩ := h
  have K' : ∀ a o, a ∉ σ.map (·.1) → s.heap.get? a = some o → s'.heap.get? a = some o := fun a o hn e => K a o (fun hm => by
    rcases List.mem_cons.mp hm with h | h
    · rw [h, hnew] at e; cases e
    · exact hn h) (F.keep a o e)
  have hLσ := (List.nodup_cons.mp I.nd).1
  have I₃ := I₂.drop hs
  exact ⟨hu, ⟨⟨mm, hn.at' fun o e => K' L o hLσ e, hml⟩, I₃.cells, I.nd, I.new, I₃.keep, rfl, rfl, rfl⟩, hg, hd, ho⟩
end
end Mine
end
section
open PySem PySem.W PyProof.Rows PySem.Calls PySem.Spec
namespace Mine
section
variable {w : World} {A : Around} {b : Shared} {env : Env} {m : Loc} {σ : Cells} {Q : AV → Loc → Cells → Prop}
theorem part_of {v : Value} {o : Option Int} (h : er v = oi o) : IsPart v o := by
  cases o with
  | none => obtain rfl := er_none h; exact .none
  | some i => obtain ⟨t, rfl⟩ := er_int h; exact .int _ _
theorem Subscript_Slice_any {value : Expr} {lower upper : Option Expr} {p pos : Pos} {T id : String} {Q : Value → Shared → Prop} {E : Value → Shared → Prop} {s : Shared}
    (hl : typeLookup (.type T) "__getitem__" = pure (some (.builtin id)))
    (h : wpAny (model PW w) A (eval value env) (fun o s₁ => wpAny (model PW w) A (eval (.Slice lower upper none p) env) (fun i s₂ => s₂.TypeIs o T ∧ wpAny (model PW w) A (getItem o i) Q E s₂) E s₁) E s) :
    wpAny (model PW w) A (eval (.Subscript value (.Slice lower upper none p) pos) env) Q E s := by
  rw [eval_Subscript]
  refine wpAny_bind (wpAny_mono h (fun o s₁ h₁ => wpAny_bind (wpAny_holding (wpAny_mono h₁ (fun i s₂ h₂ => wpAny_bind (wpAny_standAt ?_)) fun _ _ x => x)))
    fun _ _ x => x)
  have fin : wpAny (model PW w) A (operate [i, o] (getItem o i)) (fun r s₃ => wpAny (model PW w) A (letTemporaryGo value o r >>= fun _ => pure r) Q E s₃) E s₂ :=
    wpAny_operating (wpAny_mono h₂.2 (fun r s₃ h₃ => wpAny_bind (wpAny_letTemporaryGo (wpAny_pure h₃))) fun _ _ x => x)
  first
    | (refine wpAny_bind ?_
       rw [getitemInPython_of_ne h₂.1.not_modules]
       refine wpAny_bind (wpAny_specialOf h₂.1 hl ?_)
       first
         | exact wpAny_pure (wpAny_bind fin)
         | exact wpAny_bind (wpAny_pure (wpAny_bind fin))
         | exact wpAny_bind fin)
    | (refine wpAny_bind (wpAny_specialOf h₂.1 hl ?_)
       first
         | exact wpAny_bind (wpAny_pure (wpAny_bind fin))
         | exact wpAny_bind fin)
/-- a slice of a list; what is picked is said of the values -/
theorem HE_slL {value : Expr} {lower upper : Option Expr} {p pos : Pos} (h : HE w A b env value m σ (fun x m₁ σ₁ => HP w A b env lower m₁ σ₁ (fun l m₂ σ₂ => HP w A b env upper m₂ σ₂ (fun u m₃ σ₃ =>
      ∃ a vs lo hi, ∃ pick : List AV, x = .ref a ∧ l = oi lo ∧ u = oi hi ∧ HasL b σ₃ a vs ∧ vs.length ≤ sizeLine ∧ (∀ xs : Array Value, xs.toList.map er = vs → (slicePick xs lo hi none).toList.map er = pick) ∧ ∀ r, Q (.ref r) m₃ ((r, .list pick) :: σ₃))))) :
    HE w A b env (.Subscript value (.Slice lower upper none p) pos) m σ Q := fun s I => by
  refine Subscript_Slice_any (T := "list") slot_list_getitem.lookup (H.seq I h fun v m₁ σ₁ s₁ h₁ I₁ X₁ => wpAny_Slice (H.seq I₁ h₁ fun vl m₂ σ₂ s₂ h₂ I₂ X₂ => H.seq I₂ h₂ fun vu m₃ σ₃ s₃ h₃ I₃ X₃ => ?_))
  obtain ⟨a, vs, lo, hi, pick, e1, e2, e3, hl, hz, hp, q⟩ := h₃
  obtain rfl := er_ref e1
  obtain ⟨xs, hL, hq⟩ := hl.sat I₃
  have hs : xs.size = vs.length := by rw [← hq]; simp
  rw [evalPart_none]
  refine wpAny_pure ?_
  have hL' : (s₃.heap.push { cls := .type "slice", data := .fields #[vl, vu, .none] }).IsList a xs := hL.push _
  refine ⟨hL'.typeIs (s := { s₃ with heap := s₃.heap.push { cls := .type "slice", data := .fields #[vl, vu, .none] } }), ?_⟩
  refine wpAny_getItem_list_slice hL' (Heap.IsSliceOf.new ..) (part_of e2) (part_of e3) .none (by simp) ?_ (by rw [hs]; exact hz)
  have k2 : ∀ c o, s₃.heap.get? c = some o → ((s₃.heap.push { cls := .type "slice", data := .fields #[vl, vu, .none] }).push { cls := .type "list", data := .seq (slicePick xs lo hi none) }).get? c = some o := fun c o e => Heap.get?_push_of_some _ (Heap.get?_push_of_some _ e)
  have hnew : s₃.heap.get? (s₃.heap.push { cls := .type "slice", data := .fields #[vl, vu, .none] }).objs.size = none := by
    cases q : s₃.heap.get? (s₃.heap.push { cls := .type "slice", data := .fields #[vl, vu, .none] }).objs.size with
    | none => rfl
    | some o => exact absurd (Heap.lt_size (Heap.get?_push_of_some { cls := .type "slice", data := .fields #[vl, vu, .none] } q)) (Nat.lt_irrefl _)
  exact ((PG.new (f := er) (v := Value.ref _) (c := .list pick) I₃ ⟨_, s₃.toks, rfl, k2⟩ hnew ⟨_, ⟨0, Heap.get?_push_size _ rfl⟩, hp xs hq⟩ (q _)).after X₃).after (X₁.trans X₂)
end
section
variable {w : World} {A : Around} {b : Shared} {L f : Addr} {cd : Value} {m : Loc} {σ : Cells} {mg mb : PySem.Str → Option Value}
local macro_rules | `(tactic| walk_at "lk") => `(tactic| ((repeat (first | with_reducible assumption | with_reducible exact lookup_put_eq | with_reducible refine (lookup_put_ne (by decide)).trans ?_)); first | done | exact lookup_put_eq | rfl))
theorem some24 : (fnRec 24).isSome = true := by rfl
abbrev bd24 : List Stmt := ((fnRec 24).get some24).2.2.1
abbrev sc24 : Scope := ((fnRec 24).get some24).2.2.2
abbrev lenv (L f : Addr) (cd : Value) : Env := envOf "law" sc24 L f cd
theorem pick_upto {vs : List AV} {k : Nat} : ∀ xs : Array Value, xs.toList.map er = vs → (slicePick xs none (some (k : Int)) none).toList.map er = vs.take k := fun xs h => by
  rw [slicePick_upto']; simp [← h, List.map_take]
theorem pick_from {vs : List AV} {k : Nat} : ∀ xs : Array Value, xs.toList.map er = vs → (slicePick xs (some (k : Int)) none none).toList.map er = vs.drop k := fun xs h => by
  rw [slicePick_from']; simp [← h, List.map_drop]
/-- numbers: two ints -/
theorem law0 {S : Addr} {is : List Int} (R : Rm 1 A) (G : GB w mg mb b.heap) (hS : HasL b σ S (is.map .int)) (hl : is.length ≤ 63) (hm : gv m "script" = some (.ref S)) :
    HS w A b (lenv L f cd) (bd24[0]'(by decide)) m σ (fun fl m' σ' => fl = .next ∧ ∃ N n1 n2, m' = put "numbers" (.ref N) m ∧ HasL b σ' N [.int n1, .int n2] ∧ (σ : Cells).Sublist σ') := by
  have hz : (is.map AV.int).length ≤ sizeLine := by rw [sizeLine_eq]; simp; omega
  have up : ∀ c : Addr × Cell, ∀ σ₁ : Cells, HasL b σ₁ S (is.map .int) → HasL b (c :: σ₁) S (is.map .int) := fun c σ₁ h => h.imp (fun h => h.imp (.tail _) id) (fun h => h.imp (.tail _) id)
  refine HS_assign (HE_bin ?_)
  refine HE_slL (HE_name _ hm (HP_none (HP_some (HE_int ⟨S, is.map .int, none, some ((2 : Nat) : Int), (is.map .int).take 2, rfl, rfl, rfl, hS, hz, pick_upto, fun r1 => ?_⟩))))
  refine HE_slL (HE_ints (is := [4, 9]) (by rfl) (by decide) fun r2 => ?_)
  refine HP_some ?_
  refine HE_callB "len" G (by decide) (by rfl) (by rfl) (by rfl) (HL_cons (HE_name _ hm (HL_nil ?_)))
  have hlen : ∀ {Q : AV → Loc → Cells → Prop} {σ₁ : Cells}, HasL b σ₁ S (is.map .int) → Q (.int (is.map AV.int).length) m σ₁ → HC w A b (lenv L f cd).locals (.builtin "len") [.ref S] m σ₁ Q := by
    intro Q σ₁ h q as ha s I
    obtain ⟨v, rfl, e⟩ := map_one ha
    obtain rfl := er_ref e
    obtain ⟨xs, p, hq⟩ := h.sat I
    have hs : xs.size = (is.map AV.int).length := by rw [← hq]; simp
    refine Calls.call_len_list p (by rw [hs]; rw [sizeLine_eq] at hz; omega) (PG.grow I .tok ?_)
    show Q (.int (xs.size : Int)) m σ₁
    rw [hs]; exact q
  refine hlen (up _ _ (up _ _ hS)) (HP_none ⟨r2, _, some ((is.map AV.int).length : Nat), none, ([4, 9].map AV.int).drop (is.map AV.int).length, rfl, rfl, rfl, .inl (.inl (.head _)), by decide, pick_from, fun r3 => ?_⟩)
  refine HBin_catL (vs := (is.map .int).take 2) (ws := ([4, 9].map AV.int).drop (is.map AV.int).length) (.inl (.inl (by simp))) (.inl (.inl (.head _))) ?_ fun N => ?_
  · rw [sizeLine_eq]; simp; omega
  have key : ∃ n1 n2, (is.map AV.int).take 2 ++ ([4, 9].map AV.int).drop (is.map AV.int).length = [.int n1, .int n2] := by
    match is with
    | [] => exact ⟨4, 9, rfl⟩
    | [a] => exact ⟨a, 9, rfl⟩
    | a :: c :: r => exact ⟨a, c, by simp⟩
  obtain ⟨n1, n2, e⟩ := key
  rw [e]
  exact ⟨rfl, N, n1, n2, rfl, .inl (.inl (.head _)), (List.sublist_cons_self _ _).trans ((List.sublist_cons_self _ _).trans ((List.sublist_cons_self _ _).trans (List.sublist_cons_self _ _)))⟩
end
end Mine
end
section
open PySem PySem.W PyProof.Rows PySem.Calls PySem.Spec
namespace Mine
def PcAt (σ : Cells) (p : Pc × Addr × Addr) : Prop :=
  (p.2.1, Cell.list [.ref p.2.2, .str p.1.un, .str [p.1.fig], .str p.1.rm]) ∈ σ ∧ (p.2.2, Cell.list [.str p.1.first, .str p.1.second, .str p.1.small]) ∈ σ
theorem PcAt.sub {σ σ' : Cells} {p : Pc × Addr × Addr} (h : PcAt σ p) (s : σ.Sublist σ') : PcAt σ' p := ⟨s.subset h.1, s.subset h.2⟩
theorem HasL.sub {b : Shared} {σ σ' : Cells} {a : Addr} {vs : List AV} (h : HasL b σ a vs) (s : σ.Sublist σ') : HasL b σ' a vs :=
  h.imp (fun h => h.imp (fun q => s.subset q) id) (fun h => h.imp (fun q => s.subset q) id)
section
variable {w : World} {A : Around} {b : Shared} {L f : Addr} {cd : Value} {m : Loc} {σ : Cells} {mg mb : PySem.Str → Option Value}
local macro_rules | `(tactic| walk_at "lk") => `(tactic| ((repeat (first | with_reducible assumption | with_reducible exact lookup_put_eq | with_reducible refine (lookup_put_ne (by decide)).trans ?_)); first | done | exact lookup_put_eq | rfl))

theorem law1 {N : Addr} {n1 n2 : Int} (R : Rm 3 A) (G : GB w mg mb b.heap) (hN : HasL b σ N [.int n1, .int n2]) (hm : gv m "numbers" = some (.ref N)) :
    HS w A b (lenv L f cd) (bd24[1]'(by decide)) m σ (fun fl m' σ' => fl = .next ∧ ∃ P, ∃ ps : List (Pc × Addr × Addr), m' = put "pieces" (.ref P) m ∧ ps.length = 2 ∧ (∀ p ∈ ps, p.1.Ok) ∧ HasL b σ' P (ps.map fun p => .ref p.2.1) ∧ (∀ p ∈ ps, PcAt σ' p) ∧ (σ : Cells).Sublist σ') := by
  refine HS_assign_comp 2 (fun i => [AV.int n1, .int n2].getD i .none) (fun i => .liter N i)
    (fun i acc σ' => ∃ ps : List (Pc × Addr × Addr), (ps.length = i ∧ i ≤ 2) ∧ (∀ p ∈ ps, p.1.Ok) ∧ acc = ps.map (fun p => .ref p.2.1) ∧ (σ : Cells).Sublist σ' ∧ ∀ p ∈ ps, PcAt σ' p) (cl := []) (by rfl) (by decide) (by rfl) (by decide) ?_ ?_ (by rfl)
  · refine HE_name _ hm ⟨starts_list hN, σ, .refl _, ⟨[], ⟨rfl, by decide⟩, fun p h => (nomatch h), rfl, .refl _, fun p h => (nomatch h)⟩, ?_⟩
    rintro D acc σ' ⟨ps, h1, h2, rfl, h4, h5⟩
    exact ⟨rfl, D, ps, rfl, h1.1, h2, .inl (.inl (.head _)), fun p hp => (h5 p hp).sub (List.sublist_cons_self _ _), h4.trans (List.sublist_cons_self _ _)⟩
  · refine ⟨fun C => itr_listJ (by rfl) R.h ?_, fun C => self_list, ?_, ?_⟩
    · rintro i m' σ' ⟨D, acc, σ'', rfl, ps, h1, h2, rfl, h4, h5⟩
      exact hN.sub (h4.trans (List.sublist_cons_self _ _))
    · rintro i acc σ' ⟨ps, h1, h2, rfl, h4, h5⟩
      rw [List.length_map, sizeLine_eq]; omega
    · rintro C I D i acc m' σ' ⟨ps, h1, h2, rfl, h4, h5⟩ hi v hv
      obtain ⟨n, hn⟩ : ∃ n, [AV.int n1, .int n2].getD i .none = .int n := by
        have : i = 0 ∨ i = 1 := by omega
        rcases this with rfl | rfl
        · exact ⟨n1, rfl⟩
        · exact ⟨n2, rfl⟩
      refine H_assign (H_tests_nil (ite_t ?_))
      rw [hv, hn]
      refine HE_callF 20 G (by rfl) (by rfl) fun fp hfp => ?_
      refine HL_cons (HE_name (.int n) (by walk_at "lk") (HL_nil (HC_fn (R.le (by decide)) G (fn_piece w) hfp (fun _ _ => trivial) ?_)))
      rintro v' σp ⟨p, hp, pi, po, rfl, rfl⟩
      refine ⟨(po, .list [.ref pi, .str p.un, .str [p.fig], .str p.rm]) :: (pi, .list [.str p.first, .str p.second, .str p.small]) :: σ', ?_, ps ++ [(p, po, pi)], ⟨by simp [h1.1], by omega⟩, ?_, by simp, ?_, ?_⟩
      · exact ⟨_, (List.perm_append_comm (l₁ := [(I, _), (D, _)]) (l₂ := [(po, _), (pi, _)])).append_right σ', .refl _⟩
      · intro q hq
        rcases List.mem_append.mp hq with h | h
        · exact h2 q h
        · obtain rfl := List.mem_singleton.mp h; exact hp
      · exact h4.trans ((List.sublist_cons_self _ _).trans (List.sublist_cons_self _ _))
      · intro q hq
        rcases List.mem_append.mp hq with h | h
        · exact (h5 q h).sub ((List.sublist_cons_self _ _).trans (List.sublist_cons_self _ _))
        · obtain rfl := List.mem_singleton.mp h
          exact ⟨.head _, .tail _ (.head _)⟩
end
end Mine
end
section
open PySem PySem.W PyProof.Rows PySem.Calls PySem.Spec
namespace Mine
section
variable {w : World} {A : Around} {E : Value → Shared → Prop} {s : Shared}
theorem draw_list {it t : Addr} {items : Array Value} (hne : t ≠ it) : ∀ (n i : Nat) (s : Shared) (Q : List Value → Shared → Prop), s.heap.IsListIter it t i → s.heap.IsList t items → i + n ≤ items.size →
    (∀ h', h'.IsListIter it t (i + n) → Heap.SameBut it s.heap h' → Q ((items.toList.drop i).take n) { s with heap := h' }) → wpAny (model PW w) A (draw (.ref it) n) Q E s
  | 0, i, s, Q, hit, _, _, hQ => by
    show wpAny _ _ (pure []) Q E s
    exact wpAny_pure (by simpa using hQ s.heap hit (Heap.SameBut.refl ..))
  | n + 1, i, s, Q, hit, ht, hle, hQ => by
    have hlt : i < items.size := by omega
    show wpAny _ _ (pyNext (.ref it) >>= _) Q E s
    refine wpAny_bind (wpAny_pyNext_list_item hit ht (x := items[i]) (by simp [hlt]) fun h₁ hit₁ hs₁ => ?_)
    refine wpAny_bind (wpAny_holding (draw_list hne n (i + 1) _ _ hit₁ (ht.extBut hs₁.extBut hne) (by omega) fun h₂ hit₂ hs₂ => wpAny_pure ?_))
    have hd : items.toList.drop i = items[i] :: items.toList.drop (i + 1) := by simp [List.drop_eq_getElem_cons, hlt]
    have := hQ h₂ (by rw [show i + (n + 1) = i + 1 + n by omega]; exact hit₂) (hs₁.trans hs₂)
    rw [hd, List.take_succ_cons] at this
    exact this
theorem unpackItems_list {t : Addr} {items : Array Value} {Q : List Value → Shared → Prop} (hh : A.handled = none) (ht : s.heap.IsList t items)
    (hQ : ∀ h', Heap.ExtBut s.heap.objs.size s.heap h' → Q items.toList { s with heap := h' }) : wpAny (model PW w) A (unpackItems (.ref t) items.size none) Q E s := by
  have hlt : t ≠ s.heap.objs.size := by obtain ⟨o, ho, _⟩ := ht; exact Nat.ne_of_lt (Heap.lt_size ho)
  unfold unpackItems
  refine wpAny_bind ?_
  · unfold notIterableAtAll
    refine wpAny_bind (wpAny_specialOf ht.typeIs slot_list_iter.lookup ?_)
    refine wpAny_pure ?_
    simp only [Bool.false_eq_true, if_false]
    refine wpAny_bind (wpAny_holding (wpAny_pyIter_list ht ?_))
    refine wpAny_bind (wpAny_holding (draw_list hlt items.size 0 _ _ ⟨_, Heap.get?_push_size _ rfl, rfl, rfl⟩ (by obtain ⟨o, ho, r⟩ := ht; exact ⟨o, Heap.get?_push_of_some _ ho, r⟩) (by omega) fun h₁ hit₁ hs₁ => ?_))
    have hall : List.take items.size (List.drop 0 items.toList) = items.toList := by
      rw [List.drop_zero]; exact List.take_of_length_le (by simp)
    rw [hall]
    rw [if_neg (by simp)]
    have ht₁ : h₁.IsList t items := by
      obtain ⟨o, ho, r⟩ := ht
      exact ⟨o, hs₁.extBut _ _ hlt (Heap.get?_push_of_some _ ho), r⟩
    refine wpAny_bind (wpAny_holding (wpAny_pyNext_list_end hh hit₁ ht₁ (by simp) fun h₂ he₂ => ?_))
    simp only [Option.isSome_none, Bool.false_eq_true, if_false]
    refine wpAny_pure (hQ h₂ fun b o hb e => he₂ b o hb (hs₁.extBut b o hb (Heap.get?_push_of_some _ e)))
theorem unpack_list {t : Addr} {items : Array Value} {targets : List (Bool × (Value → Sem Unit))} {Q : Unit → Shared → Prop} (hh : A.handled = none) (ht : s.heap.IsList t items)
    (hn : targets.length = items.size) (hstar : targets.findIdx? (·.1) = none)
    (h : ∀ h', Heap.ExtBut s.heap.objs.size s.heap h' → wpAny (model PW w) A (assignInOrder (targets.map (·.2)) items.toList) Q E { s with heap := h' }) :
    wpAny (model PW w) A (unpack (.ref t) targets) Q E s := by
  unfold unpack
  rw [hn, hstar]
  exact wpAny_bind (wpAny_holding (unpackItems_list hh ht h))
end
section
variable {w : World} {A : Around} {b : Shared} {env : Env} {m : Loc} {σ : Cells}
theorem map_four {as : List Value} {x y z u : AV} (h : as.map er = [x, y, z, u]) : ∃ v1 v2 v3 v4, as = [v1, v2, v3, v4] ∧ er v1 = x ∧ er v2 = y ∧ er v3 = z ∧ er v4 = u := by
  obtain ⟨v, as, rfl, e1, h⟩ := List.map_eq_cons_iff.mp h
  obtain ⟨u, as, rfl, e2, h⟩ := List.map_eq_cons_iff.mp h
  obtain ⟨r, as, rfl, e3, h⟩ := List.map_eq_cons_iff.mp h
  obtain ⟨q, as, rfl, e4, h⟩ := List.map_eq_cons_iff.mp h
  obtain rfl := List.map_eq_nil_iff.mp h
  exact ⟨v, u, r, q, rfl, e1, e2, e3, e4⟩
/-- four names out of a list -/
theorem H_assign4 {x y z u : PySem.Str} {p1 p2 p3 p4 k tp} {t : Addr} {v1 v2 v3 v4 : AV} {Q : Unit → Loc → Cells → Prop} (hh : A.handled = none) (ht : HasL b σ t [v1, v2, v3, v4]) (h : Q () (put u v4 (put z v3 (put y v2 (put x v1 m)))) σ)
    (hx : env.kindOf x = some .local) (hy : env.kindOf y = some .local) (hz : env.kindOf z = some .local) (hu : env.kindOf u = some .local) (hp : (env.scope.kind == .class || (env.scope.kind == .module && env.locals != env.globals)) = false)
    (he : assignEach [.Name x p1, .Name y p2, .Name z p3, .Name u p4] env = [(false, assign (.Name x p1) env), (false, assign (.Name y p2) env), (false, assign (.Name z p3) env), (false, assign (.Name u p4) env)] := by rfl) :
    H w A b env.locals id (assign (.Tuple [.Name x p1, .Name y p2, .Name z p3, .Name u p4] k tp) env (.ref t)) m σ Q := fun s I => by
  obtain ⟨xs, p, hq⟩ := ht.sat I
  have hsz : xs.size = 4 := by have := congrArg List.length hq; simpa using this
  rw [arm_assign_Tuple]
  refine wpAny_bind (wpAny_standAt (unpack_list hh p (by rw [he, hsz]; rfl) (by rw [he]; rfl) fun h' hx' => ?_))
  have g : Grown s { s with heap := h' } := ⟨h', s.toks, rfl, fun c o e => hx' c o (Nat.ne_of_lt (Heap.lt_size e)) e⟩
  have I₂ : Inv b env.locals m σ { s with heap := h' } := I.grow g
  obtain ⟨z1, z2, z3, z4, hz', hz1, hz2, hz3, hz4⟩ := map_four hq
  rw [hz', he]
  show wpAny _ A (assignInOrder [assign (.Name x p1) env, assign (.Name y p2) env, assign (.Name z p3) env, assign (.Name u p4) env] [z1, z2, z3, z4]) _ _ _
  refine wpAny_assignInOrder_more (H.seq I₂ (H_assign (QU := fun _ m' σ' => m' = put x v1 m ∧ σ' = σ) ⟨by rw [hz1], rfl⟩ hx hp) fun _ ma σa sa ha Ia Xa => ?_)
  obtain ⟨rfl, rfl⟩ := ha
  refine wpAny_assignInOrder_more (H.seq Ia (H_assign (QU := fun _ m' σ' => m' = put y v2 (put x v1 m) ∧ σ' = σa) ⟨by rw [hz2], rfl⟩ hy hp) fun _ mb σb sb hb Ib Xb => ?_)
  obtain ⟨rfl, rfl⟩ := hb
  refine wpAny_assignInOrder_more (H.seq Ib (H_assign (QU := fun _ m' σ' => m' = put z v3 (put y v2 (put x v1 m)) ∧ σ' = σb) ⟨by rw [hz3], rfl⟩ hz hp) fun _ mc σc sc hc Ic Xc => ?_)
  obtain ⟨rfl, rfl⟩ := hc
  refine wpAny_assignInOrder_more (H.seq Ic (H_assign (QU := fun _ m' σ' => m' = put u v4 (put z v3 (put y v2 (put x v1 m))) ∧ σ' = σc) ⟨by rw [hz4], rfl⟩ hu hp) fun _ md σd sd hd Id Xd => ?_)
  obtain ⟨rfl, rfl⟩ := hd
  exact wpAny_assignInOrder_none ⟨_, _, Id, ((((Ext.grow g).trans Xa).trans Xb).trans Xc).trans Xd, h⟩
end
end Mine
end
section
open PySem PySem.W PyProof.Rows PySem.Calls PySem.Spec
namespace Mine
section
variable {w : World} {A : Around} {b : Shared} {env : Env} {m : Loc} {σ : Cells} {Q : AV → Loc → Cells → Prop} {mg mb : PySem.Str → Option Value}
local macro_rules | `(tactic| walk_at "lk") => `(tactic| ((repeat (first | with_reducible assumption | with_reducible exact lookup_put_eq | with_reducible refine (lookup_put_ne (by decide)).trans ?_)); first | done | exact lookup_put_eq | rfl))

/-- a comprehension over the pieces -/
theorem HE_compP {elt : Expr} {scope : Scope} {k : Nat} {p1 p2 p3 p4 tp pp pos : Pos} (g : Pc → List Nat) {P : Addr} {ps : List (Pc × Addr × Addr)} (hh : A.handled = none) (hP : HasL b σ P (ps.map fun p => .ref p.2.1)) (hps : ∀ p ∈ ps, PcAt σ p) (hn : ps.length ≤ 100)
    (hm : m.lookup ("pieces" : PySem.Str) = some (.ref P))
    (helt : ∀ C m' (p : Pc × Addr × Addr) σ', PcAt σ' p → gv m' "spellings" = some (.ref p.2.2) → gv m' "unseen" = some (.str p.1.un) → gv m' "figure" = some (.str [p.1.fig]) → gv m' "remark" = some (.str p.1.rm) → p ∈ ps →
      HE w A b (compEnvC scope [] C env) elt m' σ' (fun y m'' σ'' => y = .str (g p.1) ∧ σ'' = σ'))
    (hq : ∀ D, Q (.ref D) m ((D, .list (ps.map fun p => .str (g p.1))) :: σ))
    (hclos : closureFor scope env = pure []) (hcell : ∀ y ∈ scope.names, y.2 ≠ .cell) (hkind : scope.kind = .function) (hnames : ∀ y ∈ scope.names, y.2 = .local → scope.names.lookup y.1 = some .local)
    (hs : ∀ C, (compEnvC scope [] C env).kindOf "spellings" = some .local ∧ (compEnvC scope [] C env).kindOf "unseen" = some .local ∧ (compEnvC scope [] C env).kindOf "figure" = some .local ∧ (compEnvC scope [] C env).kindOf "remark" = some .local)
    (hsc : ∀ C, ((compEnvC scope [] C env).scope.kind == .class || ((compEnvC scope [] C env).scope.kind == .module && (compEnvC scope [] C env).locals != (compEnvC scope [] C env).globals)) = false)
    (hf : env.scope.kind = .function) (hl : env.kindOf "pieces" = some .local) :
    HE w A b env (.ListComp elt [⟨.Tuple [.Name "spellings" p1, .Name "unseen" p2, .Name "figure" p3, .Name "remark" p4] k tp, .Name "pieces" pp, [], 0⟩] scope pos) m σ Q := by
  refine HE_comp ps.length (fun i => (ps.map fun p => AV.ref p.2.1).getD i .none) (fun i => .liter P i) (fun i acc σ' => σ' = σ ∧ acc = (ps.take i).map (fun p => .str (g p.1)) ∧ i ≤ ps.length) hclos hcell hkind hnames ?_ ?_
  · refine HE_name _ hm ⟨starts_list hP, σ, .refl _, ⟨rfl, rfl, Nat.zero_le _⟩, ?_⟩ hf hl (by decide)
    rintro D acc σ' ⟨rfl, rfl, _⟩
    rw [List.take_length]; exact hq D
  · refine ⟨fun C => itr_listJ (by simp) hh ?_, fun C => self_list, ?_, ?_⟩
    · rintro i m' σ' ⟨D, acc, σ'', rfl, rfl, _, _⟩
      exact hP.sub (List.sublist_cons_self _ _)
    · rintro i acc σ' ⟨rfl, rfl, hi⟩
      rw [sizeLine_eq]; simp; omega
    · rintro C I D i acc m' σ' ⟨rfl, rfl, _⟩ hi v hv
      have hp : ps[i]? = some ps[i] := List.getElem?_eq_getElem hi
      have hmem : ps[i] ∈ ps := List.getElem_mem hi
      generalize ps[i] = p at hp hmem
      have hr : (ps.map fun p => AV.ref p.2.1).getD i .none = .ref p.2.1 := by rw [List.getD_eq_getElem?_getD, List.getElem?_map, hp]; rfl
      rw [hr] at hv
      obtain rfl := er_ref hv
      obtain ⟨k1, k2, k3, k4⟩ := hs C
      have hat := hps p hmem
      have up : ∀ x : Addr × Cell, x ∈ σ' → x ∈ (I, Cell.liter P (i + 1)) :: (D, .list ((ps.take i).map fun p => .str (g p.1))) :: σ' := fun x hx => .tail _ (.tail _ hx)
      refine H_assign4 hh (.inl (.inl (up _ hat.1))) (H_tests_nil (ite_t ?_)) k1 k2 k3 k4 (hsc C)
      refine (helt C _ p _ ⟨up _ hat.1, up _ hat.2⟩ (by walk_at "lk") (by walk_at "lk") (by walk_at "lk") (by walk_at "lk") hmem).mono ?_
      rintro y m'' σ'' ⟨rfl, rfl⟩
      refine ⟨σ', .refl _, rfl, ?_, hi⟩
      rw [List.take_succ, hp, List.map_append]; rfl
end
section
variable {w : World} {A : Around} {b : Shared} {L f : Addr} {cd : Value} {m : Loc} {σ : Cells} {mg mb : PySem.Str → Option Value}
local macro_rules | `(tactic| walk_at "lk") => `(tactic| ((repeat (first | with_reducible assumption | with_reducible exact lookup_put_eq | with_reducible refine (lookup_put_ne (by decide)).trans ?_)); first | done | exact lookup_put_eq | rfl))
def gBuilt (p : Pc) : List Nat := p.first ++ p.un ++ [p.fig] ++ p.rm
def gShorn (p : Pc) : List Nat := p.first ++ p.un ++ [p.fig]
def gBare (p : Pc) : List Nat := p.first ++ [p.fig]
def gFold (p : Pc) : List Nat := p.small ++ [p.fig]
theorem gBuilt_len {p : Pc} (h : p.Ok) : (gBuilt p).length ≤ 10 := by
  have h1 := h.len
  have h2 : p.un.length ≤ 1 := by rcases h.un with e | ⟨u, _, e⟩ <;> rw [e] <;> simp
  have h3 : p.rm.length ≤ 4 := by rcases h.rm with e | e | e <;> rw [e] <;> simp
  simp [gBuilt]; omega
end
end Mine
end
section
open PySem PySem.W PyProof.Rows PySem.Calls PySem.Spec
namespace Mine
section
variable {w : World} {A : Around} {b : Shared} {L f : Addr} {cd : Value} {m : Loc} {σ : Cells} {mg mb : PySem.Str → Option Value}
local macro_rules | `(tactic| walk_at "lk") => `(tactic| ((repeat (first | with_reducible assumption | with_reducible exact lookup_put_eq | with_reducible refine (lookup_put_ne (by decide)).trans ?_)); first | done | exact lookup_put_eq | rfl))
def cat (g : Pc → List Nat) (ps : List (Pc × Addr × Addr)) : List Nat := jn [] (ps.map fun p => g p.1)
/-- what the law holds from the second statement on -/
structure LP (b : Shared) (σ : Cells) (m : Loc) (P : Addr) (ps : List (Pc × Addr × Addr)) : Prop where
  len : ps.length = 2
  ok : ∀ p ∈ ps, p.1.Ok
  hP : HasL b σ P (ps.map fun p => .ref p.2.1)
  at' : ∀ p ∈ ps, PcAt σ p
  v : gv m "pieces" = some (.ref P)
theorem LP.sub {σ' : Cells} {m' : Loc} {P : Addr} {ps : List (Pc × Addr × Addr)} (h : LP b σ m P ps) (s : σ.Sublist σ') (hv : gv m' "pieces" = some (.ref P)) : LP b σ' m' P ps :=
  ⟨h.len, h.ok, h.hP.sub s, fun p hp => (h.at' p hp).sub s, hv⟩

theorem join_le {g : Pc → List Nat} {ps : List (Pc × Addr × Addr)} (hn : ps.length = 2) (h : ∀ p ∈ ps, (g p.1).length ≤ 10) : ((ps.map fun p => g p.1).map List.length).sum + (ps.map fun p => g p.1).length * 0 ≤ 16777216 := by
  have := sum_le (k := 10) (l := ps.map fun p => g p.1) (fun r hr => by
    obtain ⟨p, hp, rfl⟩ := List.mem_map.mp hr
    exact h p hp)
  rw [List.length_map] at this
  omega
set_option maxRecDepth 20000 in
theorem law2 {P : Addr} {ps : List (Pc × Addr × Addr)} (R : Rm 3 A) (G : GB w mg mb b.heap) (H0 : LP b σ m P ps) :
    HS w A b (lenv L f cd) (bd24[2]'(by decide)) m σ (fun fl m' σ' => fl = .next ∧ m' = put "built" (.str (cat gBuilt ps)) m ∧ (σ : Cells).Sublist σ') := by
  refine HS_assign ?_
  with_reducible refine HE_join ?_ (by with_unfolding_all rfl) (by with_unfolding_all rfl)
  refine HE_compP gBuilt R.h H0.hP H0.at' (by rw [H0.len]; decide) H0.v ?_ ?_ (by rfl) (by decide) (by rfl) (by decide) (fun C => ⟨by rfl, by rfl, by rfl, by rfl⟩) (fun C => by rfl) (by rfl) (by rfl)
  · intro C m' p σ' hat k1 k2 k3 k4 hp
    have ok := H0.ok p hp
    have h1 := ok.len
    have h2 : p.1.un.length ≤ 1 := by rcases ok.un with e | ⟨u, _, e⟩ <;> rw [e] <;> simp
    have h3 : p.1.rm.length ≤ 4 := by rcases ok.rm with e | e | e <;> rw [e] <;> simp
    refine HE_bin (HE_bin (HE_bin (HE_subI (HE_name (.ref p.2.2) k1 (HE_int ⟨p.2.2, _, 0, .str p.1.first, rfl, rfl, .inl (.inl hat.2), rfl, by decide, ?_⟩)))))
    refine HE_name _ k2 (HBin_cat ?_ (HE_name _ k3 (HBin_cat ?_ (HE_name _ k4 (HBin_cat ?_ ⟨rfl, rfl⟩)))))
    · rw [sizeLine_eq]; simp; omega
    · rw [sizeLine_eq]; simp; omega
    · rw [sizeLine_eq]; simp; omega
  · intro D
    refine ⟨D, ps.map fun p => gBuilt p.1, rfl, .inl ?_, ?_, ?_⟩
    · rw [List.map_map]; exact .head _
    · rw [emp]; exact join_le H0.len fun p hp => gBuilt_len (H0.ok p hp)
    · rw [emp]; exact ⟨rfl, rfl, List.sublist_cons_self _ _⟩
end
end Mine
end
section
open PySem PySem.W PyProof.Rows PySem.Calls PySem.Spec
namespace Mine
section
variable {w : World} {A : Around} {b : Shared} {L f : Addr} {cd : Value} {m : Loc} {σ : Cells} {mg mb : PySem.Str → Option Value}
local macro_rules | `(tactic| walk_at "lk") => `(tactic| ((repeat (first | with_reducible assumption | with_reducible exact lookup_put_eq | with_reducible refine (lookup_put_ne (by decide)).trans ?_)); first | done | exact lookup_put_eq | rfl))
theorem gShorn_len {p : Pc} (h : p.Ok) : (gShorn p).length ≤ 10 := by
  have h1 := h.len
  have h2 : p.un.length ≤ 1 := by rcases h.un with e | ⟨u, _, e⟩ <;> rw [e] <;> simp
  simp [gShorn]; omega
theorem gBare_len {p : Pc} (h : p.Ok) : (gBare p).length ≤ 10 := by
  have h1 := h.len
  simp [gBare]; omega
theorem gFold_len {p : Pc} (h : p.Ok) : (gFold p).length ≤ 10 := by
  have h1 := h.len
  simp [gFold]; omega
set_option maxRecDepth 20000 in
theorem law4 {P : Addr} {ps : List (Pc × Addr × Addr)} (R : Rm 3 A) (G : GB w mg mb b.heap) (H0 : LP b σ m P ps) (hv : gv m "shorn" = some (.str (cat gShorn ps))) :
    HS w A b (lenv L f cd) (bd24[4]'(by decide)) m σ (fun fl m' σ' => fl = .next ∧ m' = m ∧ (σ : Cells).Sublist σ') := by
  refine HS_if (HT_cmp (HE_cmp (HE_name _ hv ?_)))
  with_reducible refine HE_join ?_ (by with_unfolding_all rfl) (by with_unfolding_all rfl)
  refine HE_compP gShorn R.h H0.hP H0.at' (by rw [H0.len]; decide) H0.v ?_ ?_ (by rfl) (by decide) (by rfl) (by decide) (fun C => ⟨by rfl, by rfl, by rfl, by rfl⟩) (fun C => by rfl) (by rfl) (by rfl)
  · intro C m' p σ' hat k1 k2 k3 k4 hp
    have ok := H0.ok p hp
    have h1 := ok.len
    have h2 : p.1.un.length ≤ 1 := by rcases ok.un with e | ⟨u, _, e⟩ <;> rw [e] <;> simp
    refine HE_bin (HE_bin (HE_subI (HE_name (.ref p.2.2) k1 (HE_int ⟨p.2.2, _, 0, .str p.1.first, rfl, rfl, .inl (.inl hat.2), rfl, by decide, ?_⟩))))
    refine HE_name _ k2 (HBin_cat ?_ (HE_name _ k3 (HBin_cat ?_ ⟨rfl, rfl⟩)))
    · rw [sizeLine_eq]; simp; omega
    · rw [sizeLine_eq]; simp; omega
  · intro D
    refine ⟨D, ps.map fun p => gShorn p.1, rfl, .inl ?_, ?_, ?_⟩
    · rw [List.map_map]; exact .head _
    · rw [emp]; exact join_le H0.len fun p hp => gShorn_len (H0.ok p hp)
    · rw [emp]
      refine HCmp_sne ⟨_, rfl, ?_⟩
      rw [show jn [] (ps.map fun p => gShorn p.1) = cat gShorn ps from rfl, decide_eq_false (by simp)]
      exact ite_f (HB_nil ⟨rfl, rfl, List.sublist_cons_self _ _⟩)
set_option maxRecDepth 20000 in
theorem law6 {P : Addr} {ps : List (Pc × Addr × Addr)} (R : Rm 3 A) (G : GB w mg mb b.heap) (H0 : LP b σ m P ps) (hv : gv m "bare" = some (.str (cat gBare ps))) :
    HS w A b (lenv L f cd) (bd24[6]'(by decide)) m σ (fun fl m' σ' => fl = .next ∧ m' = m ∧ (σ : Cells).Sublist σ') := by
  refine HS_if (HT_cmp (HE_cmp (HE_name _ hv ?_)))
  with_reducible refine HE_join ?_ (by with_unfolding_all rfl) (by with_unfolding_all rfl)
  refine HE_compP gBare R.h H0.hP H0.at' (by rw [H0.len]; decide) H0.v ?_ ?_ (by rfl) (by decide) (by rfl) (by decide) (fun C => ⟨by rfl, by rfl, by rfl, by rfl⟩) (fun C => by rfl) (by rfl) (by rfl)
  · intro C m' p σ' hat k1 k2 k3 k4 hp
    have ok := H0.ok p hp
    have h1 := ok.len
    refine HE_bin (HE_subI (HE_name (.ref p.2.2) k1 (HE_int ⟨p.2.2, _, 0, .str p.1.first, rfl, rfl, .inl (.inl hat.2), rfl, by decide, ?_⟩)))
    refine HE_name _ k3 (HBin_cat ?_ ⟨rfl, rfl⟩)
    rw [sizeLine_eq]; simp; omega
  · intro D
    refine ⟨D, ps.map fun p => gBare p.1, rfl, .inl ?_, ?_, ?_⟩
    · rw [List.map_map]; exact .head _
    · rw [emp]; exact join_le H0.len fun p hp => gBare_len (H0.ok p hp)
    · rw [emp]
      refine HCmp_sne ⟨_, rfl, ?_⟩
      rw [show jn [] (ps.map fun p => gBare p.1) = cat gBare ps from rfl, decide_eq_false (by simp)]
      exact ite_f (HB_nil ⟨rfl, rfl, List.sublist_cons_self _ _⟩)
set_option maxRecDepth 20000 in
theorem law8 {P : Addr} {ps : List (Pc × Addr × Addr)} (R : Rm 3 A) (G : GB w mg mb b.heap) (H0 : LP b σ m P ps) (hv : gv m "folded" = some (.str (cat gFold ps))) :
    HS w A b (lenv L f cd) (bd24[8]'(by decide)) m σ (fun fl m' σ' => fl = .next ∧ m' = m ∧ (σ : Cells).Sublist σ') := by
  refine HS_if (HT_cmp (HE_cmp (HE_name _ hv ?_)))
  with_reducible refine HE_join ?_ (by with_unfolding_all rfl) (by with_unfolding_all rfl)
  refine HE_compP gFold R.h H0.hP H0.at' (by rw [H0.len]; decide) H0.v ?_ ?_ (by rfl) (by decide) (by rfl) (by decide) (fun C => ⟨by rfl, by rfl, by rfl, by rfl⟩) (fun C => by rfl) (by rfl) (by rfl)
  · intro C m' p σ' hat k1 k2 k3 k4 hp
    have ok := H0.ok p hp
    have h1 := ok.len
    refine HE_bin (HE_subI (HE_name (.ref p.2.2) k1 (HE_int ⟨p.2.2, _, 2, .str p.1.small, rfl, rfl, .inl (.inl hat.2), rfl, by decide, ?_⟩)))
    refine HE_name _ k3 (HBin_cat ?_ ⟨rfl, rfl⟩)
    rw [sizeLine_eq]; simp; omega
  · intro D
    refine ⟨D, ps.map fun p => gFold p.1, rfl, .inl ?_, ?_, ?_⟩
    · rw [List.map_map]; exact .head _
    · rw [emp]; exact join_le H0.len fun p hp => gFold_len (H0.ok p hp)
    · rw [emp]
      refine HCmp_sne ⟨_, rfl, ?_⟩
      rw [show jn [] (ps.map fun p => gFold p.1) = cat gFold ps from rfl, decide_eq_false (by simp)]
      exact ite_f (HB_nil ⟨rfl, rfl, List.sublist_cons_self _ _⟩)
end
end Mine
end
section
open PySem PySem.W PyProof.Rows PySem.Calls PySem.Spec
namespace Mine
theorem jn_nil : ∀ {l : List (List Nat)}, jn [] l = l.flatten
  | [] => rfl
  | [x] => by simp [jn]
  | x :: y :: r => by
    show x ++ [] ++ jn [] (y :: r) = _
    rw [jn_nil (l := y :: r)]; simp
theorem jn_single {l : List Nat} : jn [] (l.map fun c => [c]) = l := by
  rw [jn_nil]
  induction l with
  | nil => rfl
  | cons c r ih => simpa using ih
section
variable {w : World} {A : Around} {b : Shared} {L f : Addr} {cd : Value} {m : Loc} {σ : Cells} {mg mb : PySem.Str → Option Value}
local macro_rules | `(tactic| walk_at "lk") => `(tactic| ((repeat (first | with_reducible assumption | with_reducible exact lookup_put_eq | with_reducible refine (lookup_put_ne (by decide)).trans ?_)); first | done | exact lookup_put_eq | rfl))
theorem single_sum {l : List Nat} : ((l.map fun c => [c]).map List.length).sum = l.length := by
  induction l with
  | nil => rfl
  | cons c r ih => simp at ih ⊢; omega
def unb (x : List Nat) : List Nat := x.filter fun c => decide (c ∉ b1)
set_option maxRecDepth 20000 in
theorem law5 {x : List Nat} (R : Rm 3 A) (G : GB w mg mb b.heap) (hx : x.length ≤ 40) (hv : gv m "shorn" = some (.str x)) :
    HS w A b (lenv L f cd) (bd24[5]'(by decide)) m σ (fun fl m' σ' => fl = .next ∧ m' = put "bare" (.str (unb x)) m ∧ (σ : Cells).Sublist σ') := by
  refine HS_assign ?_
  with_reducible refine HE_join ?_ (by with_unfolding_all rfl) (by with_unfolding_all rfl)
  refine HE_comp x.length (fun i => .str [x.getD i 0]) (sit x) (fun i acc σ' => σ' = σ ∧ acc = (unb (x.take i)).map (fun c => .str [c]) ∧ i ≤ x.length) (cl := []) (by rfl) (by decide) (by rfl) (by decide) ?_ ?_
  · refine HE_name _ hv ⟨starts_str, σ, .refl _, ⟨rfl, rfl, Nat.zero_le _⟩, ?_⟩
    rintro D acc σ' ⟨rfl, rfl, _⟩
    rw [List.take_length]
    have hlen : (unb x).length ≤ 40 := Nat.le_trans (List.length_filter_le _ _) hx
    refine ⟨D, (unb x).map fun c => [c], rfl, .inl ?_, ?_, ?_⟩
    · rw [List.map_map]; exact .head _
    · rw [emp, single_sum]; simp only [List.length_map, List.length_nil]; omega
    · rw [emp, jn_single]; exact ⟨rfl, rfl, List.sublist_cons_self _ _⟩
  · refine ⟨fun C => itr_str R.h, fun C => self_str, ?_, ?_⟩
    · rintro i acc σ' ⟨rfl, rfl, hi⟩
      rw [sizeLine_eq, List.length_map]
      have : (unb (x.take i)).length ≤ (x.take i).length := List.length_filter_le _ _
      simp at this ⊢; omega
    · rintro C I D i acc m' σ' ⟨rfl, rfl, _⟩ hi v hv'
      refine H_assign (H_tests_one (HT_not (HT_val ?_)))
      rw [hv']
      have hstep : unb (x.take (i + 1)) = unb (x.take i) ++ if x.getD i 0 ∈ b1 then [] else [x.getD i 0] := by
        rw [take_get hi]
        unfold unb
        rw [List.filter_append]
        congr 1
        by_cases q : x.getD i 0 ∈ b1
        · rw [if_pos q]; simp only [List.filter, decide_eq_false (show ¬ x.getD i 0 ∉ b1 from fun h => h q)]
        · rw [if_neg q]; simp only [List.filter, decide_eq_true q]
      refine HE_callF 9 G (by rfl) (by rfl) fun fn hfn => ?_
      refine HL_cons (HE_name (.str [x.getD i 0]) (by walk_at "lk") (HL_nil (HC_fn (R.le (by decide)) G (fn_inb1 w) hfn (fun _ _ => trivial) ?_)))
      rintro v' σp ⟨rfl, rfl⟩
      refine HTr_bool ?_
      by_cases q : x.getD i 0 ∈ b1
      · rw [decide_eq_true q]
        refine ite_f ⟨σ', .refl _, rfl, ?_, hi⟩
        rw [hstep, if_pos q, List.append_nil]
      · rw [decide_eq_false q]
        refine ite_t (HE_name (.str [x.getD i 0]) (by walk_at "lk") ⟨σ', .refl _, rfl, ?_, hi⟩)
        rw [hstep, if_neg q, List.map_append]; rfl
set_option maxRecDepth 20000 in
theorem law7 {x : List Nat} (R : Rm 3 A) (G : GB w mg mb b.heap) (hx : x.length ≤ 40) (hok : ∀ c ∈ x, c < 128) (hv : gv m "bare" = some (.str x)) :
    HS w A b (lenv L f cd) (bd24[7]'(by decide)) m σ (fun fl m' σ' => fl = .next ∧ m' = put "folded" (.str (x.map low)) m ∧ (σ : Cells).Sublist σ') := by
  refine HS_assign ?_
  with_reducible refine HE_join ?_ (by with_unfolding_all rfl) (by with_unfolding_all rfl)
  refine HE_comp x.length (fun i => .str [x.getD i 0]) (sit x) (fun i acc σ' => σ' = σ ∧ acc = ((x.take i).map low).map (fun c => .str [c]) ∧ i ≤ x.length) (cl := []) (by rfl) (by decide) (by rfl) (by decide) ?_ ?_
  · refine HE_name _ hv ⟨starts_str, σ, .refl _, ⟨rfl, rfl, Nat.zero_le _⟩, ?_⟩
    rintro D acc σ' ⟨rfl, rfl, _⟩
    rw [List.take_length]
    refine ⟨D, (x.map low).map fun c => [c], rfl, .inl ?_, ?_, ?_⟩
    · rw [List.map_map (g := AV.str)]; exact .head _
    · rw [emp, single_sum]; simp only [List.length_map, List.length_nil]; omega
    · rw [emp, jn_single]; exact ⟨rfl, rfl, List.sublist_cons_self _ _⟩
  · refine ⟨fun C => itr_str R.h, fun C => self_str, ?_, ?_⟩
    · rintro i acc σ' ⟨rfl, rfl, hi⟩
      rw [sizeLine_eq]; simp; omega
    · rintro C I D i acc m' σ' ⟨rfl, rfl, _⟩ hi v hv'
      refine H_assign (H_tests_nil (ite_t ?_))
      rw [hv']
      refine HE_callF 11 G (by rfl) (by rfl) fun fn hfn => ?_
      refine HL_cons (HE_name (.str [x.getD i 0]) (by walk_at "lk") (HL_nil (HC_fn (R.le (by decide)) G (fn_b3 w (hok _ (mem_getD hi))) hfn (fun _ _ => trivial) ?_)))
      rintro v' σp ⟨rfl, rfl⟩
      refine ⟨σ', .refl _, rfl, ?_, hi⟩
      rw [take_get hi, List.map_append, List.map_append]; rfl
end
end Mine
end
section
open PySem PySem.W PyProof.Rows PySem.Calls PySem.Spec
namespace Mine
section
variable {w : World} {A : Around} {b : Shared} {env : Env} {m : Loc} {σ : Cells} {Q : AV → Loc → Cells → Prop} {mg mb : PySem.Str → Option Value}
local macro_rules | `(tactic| walk_at "lk") => `(tactic| ((repeat (first | with_reducible assumption | with_reducible exact lookup_put_eq | with_reducible refine (lookup_put_ne (by decide)).trans ?_)); first | done | exact lookup_put_eq | rfl))
abbrev codes (x : List Nat) : List AV := x.map fun (c : Nat) => .int c
/-- [ord(sign) for sign in ..] -/
theorem HE_ords {iter : Expr} {scope : Scope} {x : List Nat} {σ₀ : Cells} {p1 p2 p3 p4 pos : Pos} (hh : A.handled = none) (G : GB w mg mb b.heap) (hx : x.length ≤ 40) (hiter : HE w A b env iter m σ (fun v m₁ σ₁ => v = .str x ∧ m₁ = m ∧ σ₁ = σ))
    (hq : ∀ D, Q (.ref D) m ((D, .list (codes x)) :: σ))
    (hclos : closureFor scope env = pure []) (hcell : ∀ y ∈ scope.names, y.2 ≠ .cell) (hkind : scope.kind = .function) (hnames : ∀ y ∈ scope.names, y.2 = .local → scope.names.lookup y.1 = some .local)
    (h1 : ∀ C, (compEnvC scope [] C env).kindOf "sign" = some .local) (h2 : ∀ C, (compEnvC scope [] C env).kindOf "ord" = some .globalImplicit)
    (hsc : ∀ C, ((compEnvC scope [] C env).scope.kind == .class || ((compEnvC scope [] C env).scope.kind == .module && (compEnvC scope [] C env).locals != (compEnvC scope [] C env).globals)) = false)
    (hg : env.globals = mainGlobals) (hb : env.builtins = builtinsNs) (hs : ∀ x, foldedSetIterable iter env x = pure x) :
    HE w A b env (.ListComp (.Call (.Name "ord" p1) [.Name "sign" p2] [] p3) [⟨.Name "sign" p4, iter, [], 0⟩] scope pos) m σ Q := by
  refine HE_comp x.length (fun i => .str [x.getD i 0]) (sit x) (fun i acc σ' => σ' = σ ∧ acc = codes (x.take i) ∧ i ≤ x.length) hclos hcell hkind hnames (hiter.mono ?_) ?_ hs
  · rintro v m₁ σ₁ ⟨rfl, rfl, rfl⟩
    refine ⟨starts_str, σ₁, .refl _, ⟨rfl, rfl, Nat.zero_le _⟩, ?_⟩
    rintro D acc σ' ⟨rfl, rfl, _⟩
    rw [List.take_length]; exact hq D
  · refine ⟨fun C => itr_str hh, fun C => self_str, ?_, ?_⟩
    · rintro i acc σ' ⟨rfl, rfl, hi⟩
      rw [sizeLine_eq]; simp; omega
    · rintro C I D i acc m' σ' ⟨rfl, rfl, _⟩ hi v hv'
      refine H_assign (H_tests_nil (ite_t ?_)) (h1 C) (hsc C)
      rw [hv']
      refine HE_callB "ord" G (by decide) (by rfl) (by rfl) (by rfl) ?_ (by decide) hkind (h2 C) hg hb (by decide)
      refine HL_cons (HE_name (.str [x.getD i 0]) (by walk_at "lk") (HL_nil (HC_ord ⟨σ', .refl _, rfl, ?_, hi⟩)) hkind (h1 C) (by decide))
      rw [take_get hi]; simp
end
section
variable {w : World} {A : Around} {b : Shared} {L f : Addr} {cd : Value} {m : Loc} {σ : Cells} {mg mb : PySem.Str → Option Value}
local macro_rules | `(tactic| walk_at "lk") => `(tactic| ((repeat (first | with_reducible assumption | with_reducible exact lookup_put_eq | with_reducible refine (lookup_put_ne (by decide)).trans ?_)); first | done | exact lookup_put_eq | rfl))
theorem law9 {x : List Nat} (R : Rm 3 A) (G : GB w mg mb b.heap) (hx : x.length ≤ 40) (hv : gv m "bare" = some (.str x)) :
    HS w A b (lenv L f cd) (bd24[9]'(by decide)) m σ (fun fl m' σ' => fl = .next ∧ ∃ It D, m' = put "tape" (.ref It) m ∧ σ' = (It, .liter D 0) :: (D, .list (codes x)) :: σ) := by
  refine HS_assign ?_
  refine HE_callB "iter" G (by decide) (by rfl) (by rfl) (by rfl) (HL_cons ?_)
  refine HE_ords (σ₀ := σ) R.h G hx (HE_name _ hv ⟨rfl, rfl, rfl⟩) (fun D => HL_nil (HC_iterL (.inl (.inl (.head _))) fun It => ⟨rfl, It, D, rfl, rfl⟩)) (by rfl) (by decide) (by rfl) (by decide) (fun C => by rfl) (fun C => by rfl) (fun C => by rfl) (by rfl) (by rfl) (by intro _; rfl)
theorem law10 {x : List Nat} (R : Rm 3 A) (G : GB w mg mb b.heap) (hx : x.length ≤ 40) (hv : gv m "folded" = some (.str x)) :
    HS w A b (lenv L f cd) (bd24[10]'(by decide)) m σ (fun fl m' σ' => fl = .next ∧ ∃ It D, m' = put "folded_tape" (.ref It) m ∧ σ' = (It, .liter D 0) :: (D, .list (codes x)) :: σ) := by
  refine HS_assign ?_
  refine HE_callB "iter" G (by decide) (by rfl) (by rfl) (by rfl) (HL_cons ?_)
  refine HE_ords (σ₀ := σ) R.h G hx (HE_name _ hv ⟨rfl, rfl, rfl⟩) (fun D => HL_nil (HC_iterL (.inl (.inl (.head _))) fun It => ⟨rfl, It, D, rfl, rfl⟩)) (by rfl) (by decide) (by rfl) (by decide) (fun C => by rfl) (fun C => by rfl) (fun C => by rfl) (by rfl) (by rfl) (by intro _; rfl)
end
end Mine
end
section
open PySem PySem.W PyProof.Rows PySem.Calls PySem.Spec
namespace Mine
section
variable {w : World} {A : Around} {b : Shared} {L f : Addr} {cd : Value} {m : Loc} {σ : Cells} {mg mb : PySem.Str → Option Value}
local macro_rules | `(tactic| walk_at "lk") => `(tactic| ((repeat (first | with_reducible assumption | with_reducible exact lookup_put_eq | with_reducible refine (lookup_put_ne (by decide)).trans ?_)); first | done | exact lookup_put_eq | rfl))
theorem law_end {x y : List Nat} {d : Int} {Q : FL → Loc → Cells → Prop} (R : Rm 3 A) (G : GB w mg mb b.heap) (hx : lenOk x) (hy : lenOk y) (h1 : gv m "built" = some (.str x)) (h2 : gv m "folded" = some (.str y)) (h3 : gv m "due" = some (.int d))
    (e1 : lev x y d = d) (e2 : lev y x (d - 1) = d) (fin : ∀ m' σ', Q (.ret (.bool true)) m' σ') :
    HB w A b (lenv L f cd) (bd24.drop 14) m σ Q := by
  have hu : A.units + 64 < cLine := by have := R.u; unfold cLine; omega
  refine HB_cons (HS_assign ?_)
  refine HE_callF 17 G (by rfl) (by rfl) fun fl hfl => ?_
  refine HL_cons (HE_name _ h1 (HL_cons (HE_name _ h2 (HL_cons (HE_name _ h3 (HL_nil (HC_fn (R.le (by decide)) G (fn_lev w hx hy) hfl (fun _ _ => trivial) ?_)))))))
  rintro v σ' ⟨rfl, rfl⟩
  rw [e1, List.nil_append]
  refine HB_cons (HS_assign ?_)
  refine HE_callF 17 G (by rfl) (by rfl) fun fl hfl => ?_
  refine HL_cons (HE_name (.str y) (by walk_at "lk") (HL_cons (HE_name (.str x) (by walk_at "lk") (HL_cons (HE_bin (HE_name (.int d) (by walk_at "lk") (HE_int (HBin_sub (HL_nil (HC_fn (R.le (by decide)) G (fn_lev w hy hx) hfl (fun _ _ => trivial) ?_))))))))))
  rintro v σ' ⟨rfl, rfl⟩
  rw [e2, List.nil_append]
  refine HB_cons (HS_return (HE_and (HE_not ?_)))
  refine HE_callB "isinstance" G (by decide) (by rfl) (by rfl) (by rfl) (HL_cons (HE_name (.int d) (by walk_at "lk") ?_))
  refine HL_cons (HE_boot (.type "bool") G (by decide) (by rfl) ?_)
  refine HL_nil (HC_isbool (HTr_bool (HTr_bool (ite_t ?_))))
  refine HE_and (HE_not ?_)
  refine HE_callB "isinstance" G (by decide) (by rfl) (by rfl) (by rfl) (HL_cons (HE_name (.int d) (by walk_at "lk") ?_))
  refine HL_cons (HE_boot (.type "bool") G (by decide) (by rfl) ?_)
  refine HL_nil (HC_isbool (HTr_bool (HTr_bool (ite_t (HE_one ?_)))))
  refine HE_cmp (HE_list (by rfl) (HL_cons (HE_name (.int d) (by walk_at "lk") (HL_cons (HE_name (.int d) (by walk_at "lk") (HL_nil ⟨by simp [sizeLine_eq], fun l1 => ?_⟩))))))
  refine HE_list (by rfl) (HL_cons (HE_name (.int d) (by walk_at "lk") (HL_cons (HE_name (.int d) (by walk_at "lk") (HL_nil ⟨by simp [sizeLine_eq], fun l2 => ?_⟩)))))
  refine HCmp_eqI (is := [d, d]) (js := [d, d]) hu (.inl (.inl (.tail _ (.head _)))) (.inl (.inl (.head _))) ?_
  rw [decide_eq_true rfl]
  exact fin _ _
end
end Mine
end
section
open PySem PySem.W PyProof.Rows PySem.Calls PySem.Spec
namespace Mine
section
variable {w : World} {A : Around} {b : Shared} {L f : Addr} {cd : Value} {m : Loc} {σ : Cells} {mg mb : PySem.Str → Option Value}
local macro_rules | `(tactic| walk_at "lk") => `(tactic| ((repeat (first | with_reducible assumption | with_reducible exact lookup_put_eq | with_reducible refine (lookup_put_ne (by decide)).trans ?_)); first | done | exact lookup_put_eq | rfl))
theorem law13 {I1 I2 D1 D2 : Addr} {x y : List Nat} {σ : Cells} (R : Rm 3 A) (G : GB w mg mb b.heap) (h1 : gv m "tape" = some (.ref I1)) (h2 : gv m "folded_tape" = some (.ref I2)) :
    HS w A b (lenv L f cd) (bd24[13]'(by decide)) m ((I2, .liter D2 (codes y).length) :: (D2, .list (codes y)) :: (I1, .liter D1 (codes x).length) :: (D1, .list (codes x)) :: σ) (fun fl m' σ' => fl = .next ∧ m' = m ∧ (σ : Cells).Sublist σ') := by
  have hu : A.units + 64 < cLine := by have := R.u; unfold cLine; omega
  refine HS_if (HT_or (HA_or (HT_cmp (HE_cmp ?_))))
  refine HE_callT "list" G (by decide) (by rfl) (by rfl) (by rfl) (HL_cons (HE_name _ h1 ?_))
  refine HL_nil (HC_listEnd R.h [_, _] ((D1, .list (codes x)) :: σ) rfl (.inl (.inl (by simp))) fun r1 => ?_)
  refine HE_list (by rfl) (HL_nil ⟨by simp, fun r2 => ?_⟩)
  refine HCmp_neI (is := []) (js := []) hu (.inr (.inl (.tail _ (.head _)))) (.inl (.inl (.head _))) ⟨_, rfl, ?_⟩
  rw [decide_eq_false (by simp)]
  refine ite_f (HA_or (HT_cmp (HE_cmp ?_)))
  refine HE_callT "list" G (by decide) (by rfl) (by rfl) (by rfl) (HL_cons (HE_name _ h2 ?_))
  refine HL_nil (HC_listEnd R.h [_, _] ((D2, .list (codes y)) :: (D1, .list (codes x)) :: σ) rfl (.inl (.inl (by simp))) fun r3 => ?_)
  refine HE_list (by rfl) (HL_nil ⟨by simp, fun r4 => ?_⟩)
  refine HCmp_neI (is := []) (js := []) hu (.inr (.inl (.tail _ (.head _)))) (.inl (.inl (.head _))) ⟨_, rfl, ?_⟩
  rw [decide_eq_false (by simp)]
  refine ite_f (HA_or_nil (ite_f (HB_nil ⟨rfl, rfl, ?_⟩)))
  exact .cons _ (.cons _ (.cons _ (.cons _ (.cons _ (.cons _ (.refl _))))))
end
end Mine
end
section
open PySem PySem.W PyProof.Rows PySem.Calls PySem.Spec
namespace Mine
/-- what a piece's word must give -/
structure WordOk (p : Pc) : Prop where
  d1 : Digs (gBare p)
  d2 : Digs (p.second ++ [p.fig])
  d3 : Digs (gFold p)
  e1 : (num (gBare p) 0 : Int) = lawNum (gBare p)
  e2 : (num (p.second ++ [p.fig]) 0 : Int) = lawNum (p.second ++ [p.fig])
  e3 : (num (gFold p) 0 : Int) = lawNum (gFold p)
  P1 : PairOk p.first p.second (num (gBare p) 0) (num (p.second ++ [p.fig]) 0)
  P2 : PairOk p.first p.small (num (gBare p) 0) (num (gFold p) 0)
  P3 : PairOk p.small p.second (num (gFold p) 0) (num (p.second ++ [p.fig]) 0)
def dueOf (p : Pc) : Nat := (bitsW p.first p.small).length + 2 * p.un.length + 2 * p.rm.length
section
variable {w : World} {A : Around} {b : Shared} {L f : Addr} {cd : Value} {m : Loc} {σ : Cells} {mg mb : PySem.Str → Option Value}
local macro_rules | `(tactic| walk_at "lk") => `(tactic| ((repeat (first | with_reducible assumption | with_reducible exact lookup_put_eq | with_reducible refine (lookup_put_ne (by decide)).trans ?_)); first | done | exact lookup_put_eq | rfl))
set_option maxHeartbeats 2000000 in
theorem law12_turn {I1 I2 D1 D2 : Addr} {i1 i2 : Nat} {x y : List Nat} {pre σ : Cells} {p : Pc × Addr × Addr} {d : Int} (R : Rm 3 A) (G : GB w mg mb b.heap) (ok : p.1.Ok) (W : WordOk p.1) (hat : PcAt σ p)
    (h1 : gv m "tape" = some (.ref I1)) (h2 : gv m "folded_tape" = some (.ref I2)) (h3 : gv m "due" = some (.int d)) (k1 : gv m "spellings" = some (.ref p.2.2)) (k2 : gv m "unseen" = some (.str p.1.un)) (k3 : gv m "figure" = some (.str [p.1.fig])) (k4 : gv m "remark" = some (.str p.1.rm))
    (hx : ∀ j, j < (gBare p.1).length → (codes x)[i1 + j]? = some (.int ((gBare p.1).getD j 0))) (hy : ∀ j, j < (gFold p.1).length → (codes y)[i2 + j]? = some (.int ((gFold p.1).getD j 0))) :
    HB w A b (lenv L f cd) (forBody (bd24[12]'(by decide))) m (pre ++ (I2, .liter D2 i2) :: (D2, .list (codes y)) :: (I1, .liter D1 i1) :: (D1, .list (codes x)) :: σ)
      (fun fl m' σ' => fl = .next ∧ gv m' "due" = some (.int (d + dueOf p.1)) ∧ (∀ z : PySem.Str, z ≠ "read" → z ≠ "second" → z ≠ "due" → gv m' z = gv m z) ∧
        (pre ++ (I2, Cell.liter D2 (i2 + (gFold p.1).length)) :: (D2, .list (codes y)) :: (I1, .liter D1 (i1 + (gBare p.1).length)) :: (D1, .list (codes x)) :: σ).Sublist σ') := by
  have l1 := ok.len
  have lb := gBare_len ok
  have lf := gFold_len ok
  have hb8 : (gBare p.1).length ≤ 8 := by simp [gBare]; omega
  have hs8 : (p.1.second ++ [p.1.fig]).length ≤ 8 := by simp; omega
  have hf8 : (gFold p.1).length ≤ 8 := by simp [gFold]; omega
  refine HB_cons (HS_assign ?_)
  refine HE_callF 3 G (by rfl) (by rfl) fun fv hfv => ?_
  refine HL_cons (HE_name _ h1 (HL_nil (HC_varint (i := i1) (l := D1) (vs := codes x) (R.le (by decide)) G hfv (pre ++ [(I2, .liter D2 i2), (D2, .list (codes y))]) ((D1, .list (codes x)) :: σ) (by simp) (fun k => .inl (.inl (by simp))) W.d1 hb8 hx ?_)))
  refine HB_cons (HS_assign ?_)
  refine HE_callF 3 G (by rfl) (by rfl) fun fv2 hfv2 => ?_
  refine HL_cons (HE_callB "iter" G (by decide) (by rfl) (by rfl) (by rfl) (HL_cons ?_))
  have hin1 : ∀ c ∈ σ, c ∈ (pre ++ [(I2, Cell.liter D2 i2), (D2, .list (codes y))]) ++ (I1, Cell.liter D1 (i1 + (gBare p.1).length)) :: (D1, .list (codes x)) :: σ := fun c hc => by simp [hc]
  refine HE_ords (σ₀ := σ) R.h G (x := p.1.second ++ [p.1.fig]) (by omega) ?_ (fun D3 => HL_nil (HC_iterL (.inl (.inl (.head _))) fun I3 => ?_)) (by rfl) (by decide) (by rfl) (by decide) (fun C => by rfl) (fun C => by rfl) (fun C => by rfl) (by rfl) (by rfl) (by intro _; rfl)
  · refine HE_bin (HE_subI (HE_name (.ref p.2.2) (by walk_at "lk") (HE_int ⟨p.2.2, _, 1, .str p.1.second, rfl, rfl, .inl (.inl (hin1 _ hat.2)), rfl, by decide, ?_⟩)))
    refine HE_name (.str [p.1.fig]) (by walk_at "lk") (HBin_cat ?_ ⟨rfl, rfl, rfl⟩)
    rw [sizeLine_eq]; simp; omega
  have hcd : ∀ j, j < (p.1.second ++ [p.1.fig]).length → (codes (p.1.second ++ [p.1.fig]))[0 + j]? = some (.int ((p.1.second ++ [p.1.fig]).getD j 0)) := fun j hj => by
    rw [Nat.zero_add, List.getElem?_map, List.getD_eq_getElem?_getD, List.getElem?_eq_getElem hj]; rfl
  refine HL_nil (HC_varint (i := 0) (l := D3) (vs := codes (p.1.second ++ [p.1.fig])) (R.le (by decide)) G hfv2 [] _ rfl (fun k => .inl (.inl (by simp))) W.d2 hs8 hcd ?_)
  refine HB_cons (HS_if (HT_not (HT_val ?_)))
  refine HE_callF 23 G (by rfl) (by rfl) fun fw hfw => ?_
  refine HL_cons (HE_name (.ref p.2.2) (by walk_at "lk") (HL_cons (HE_name (.str [p.1.fig]) (by walk_at "lk") (HL_cons (HE_list (by rfl) ?_)))))
  refine HL_cons (HE_name (.int (num (gBare p.1) 0)) (by walk_at "lk") (HL_cons (HE_name (.int (num (p.1.second ++ [p.1.fig]) 0)) (by walk_at "lk") ?_)))
  refine HL_cons (HE_callF 3 G (by rfl) (by rfl) fun fv3 hfv3 => ?_)
  refine HL_cons (HE_name (.ref I2) (by walk_at "lk") ?_)
  refine HL_nil (HC_varint (i := i2) (l := D2) (vs := codes y) (R.le (by decide)) G hfv3 ((I3, .liter D3 (0 + (p.1.second ++ [p.1.fig]).length)) :: (D3, .list (codes (p.1.second ++ [p.1.fig]))) :: pre) ((D2, .list (codes y)) :: (I1, .liter D1 (i1 + (gBare p.1).length)) :: (D1, .list (codes x)) :: σ) (by simp) (fun k => .inl (.inl (by simp))) W.d3 hf8 hy ?_)
  refine HL_nil ⟨by simp [sizeLine_eq], fun l3 => ?_⟩
  refine HL_nil (HC_fn R G (fn_word w (A1 := p.2.2) (A2 := l3) (a0 := p.1.first) (a1 := p.1.second) (a2 := p.1.small) (n0 := num (gBare p.1) 0) (n1 := num (p.1.second ++ [p.1.fig]) 0) (n2 := num (gFold p.1) 0) (fig := [p.1.fig]) rfl W.e1 W.e2 W.e3 W.P1 W.P2 W.P3) hfw (fun s I => ⟨I.cells (p.2.2, _) ?_, I.cells (l3, _) (.head _)⟩) ?_)
  · have := hat.2
    simp [this]
  rintro v σ' ⟨rfl, rfl⟩
  refine HTr_bool (ite_f (HB_nil ?_))
  generalize hσx : (([] : Cells) ++ ((l3, Cell.list _) :: _)) = σx
  have hsub : (pre ++ (I2, Cell.liter D2 (i2 + (gFold p.1).length)) :: (D2, .list (codes y)) :: (I1, .liter D1 (i1 + (gBare p.1).length)) :: (D1, .list (codes x)) :: σ).Sublist σx := by
    rw [← hσx]
    exact .cons _ (.cons _ (.cons _ (.refl _)))
  have hinn : (p.2.2, Cell.list [.str p.1.first, .str p.1.second, .str p.1.small]) ∈ σx := hsub.subset (by have := hat.2; simp [this])
  refine HB_cons (HS_aug (.int d) (by walk_at "lk") (HE_bin (HE_bin ?_)))
  refine HE_callB "len" G (by decide) (by rfl) (by rfl) (by rfl) (HL_cons ?_)
  refine HE_callF 22 G (by rfl) (by rfl) fun fbt hfbt => ?_
  refine HL_cons (HE_subI (HE_name (.ref p.2.2) (by walk_at "lk") (HE_int ⟨p.2.2, _, 0, .str p.1.first, rfl, rfl, .inl (.inl hinn), rfl, by decide, ?_⟩)))
  refine HL_cons (HE_subI (HE_name (.ref p.2.2) (by walk_at "lk") (HE_int ⟨p.2.2, _, 2, .str p.1.small, rfl, rfl, .inl (.inl hinn), rfl, by decide, ?_⟩)))
  refine HL_nil (HC_fn (R.le (by decide)) G (fn_bits w (by simp; omega) (by simp)) hfbt (fun _ _ => trivial) ?_)
  rintro v σ' ⟨bl, rfl, rfl⟩
  have hbl := bits_le (a := p.1.first) (c := p.1.small)
  have hfl : p.1.first.length ≤ 4 := by simp; omega
  refine HL_nil (HC_lenL (.inl (.head _)) (by rw [sizeLine_eq]; simp only [List.length_map]; omega) ?_)
  have hun : p.1.un.length ≤ 1 := by rcases ok.un with e | ⟨u, _, e⟩ <;> rw [e] <;> simp
  have hrm : p.1.rm.length ≤ 4 := by rcases ok.rm with e | e | e <;> rw [e] <;> simp
  refine HE_bin (HE_int ?_)
  refine HE_callB "len" G (by decide) (by rfl) (by rfl) (by rfl) (HL_cons (HE_name (.str p.1.un) (by walk_at "lk") (HL_nil (HC_lenS (by rw [sizeLine_eq]; omega) (HBin_mul (.of_left (by decide)) (HBin_add ?_))))))
  refine HE_bin (HE_int ?_)
  refine HE_callB "len" G (by decide) (by rfl) (by rfl) (by rfl) (HL_cons (HE_name (.str p.1.rm) (by walk_at "lk") (HL_nil (HC_lenS (by rw [sizeLine_eq]; omega) (HBin_mul (.of_left (by decide)) (HBin_add (HIn_add (HB_nil ?_))))))))
  refine ⟨rfl, ?_, fun z z1 z2 z3 => ?_, hsub.trans (List.sublist_cons_self _ _)⟩
  · rw [show d + (dueOf p.1 : Nat) = d + (((List.map AV.str (bitsW p.1.first p.1.small)).length : Nat) + 2 * (p.1.un.length : Nat) + 2 * (p.1.rm.length : Nat)) by simp [dueOf]]
    walk_at "lk"
  · show List.lookup z (put _ _ _) = _
    rw [lookup_put_ne z3, lookup_put_ne z2, lookup_put_ne z1]
end
end Mine
end
section
open PySem PySem.W PyProof.Rows PySem.Calls PySem.Spec
namespace Mine
section
variable {w : World} {A : Around} {b : Shared} {L f : Addr} {cd : Value} {m : Loc} {σ : Cells} {mg mb : PySem.Str → Option Value}
local macro_rules | `(tactic| walk_at "lk") => `(tactic| ((repeat (first | with_reducible assumption | with_reducible exact lookup_put_eq | with_reducible refine (lookup_put_ne (by decide)).trans ?_)); first | done | exact lookup_put_eq | rfl))
/-- g of the first j pieces, one behind the other -/
def catN (g : Pc → List Nat) (ps : List (Pc × Addr × Addr)) (j : Nat) : List Nat := ((ps.take j).map fun p => g p.1).flatten
theorem cat_at {g : Pc → List Nat} {ps : List (Pc × Addr × Addr)} {j k : Nat} {p : Pc × Addr × Addr} (hp : ps[j]? = some p) (hk : k < (g p.1).length) : (codes (cat g ps))[(catN g ps j).length + k]? = some (.int ((g p.1).getD k 0)) := by
  have hj : j < ps.length := by
    rcases Nat.lt_or_ge j ps.length with h | h
    · exact h
    · rw [List.getElem?_eq_none h] at hp; cases hp
  have e : cat g ps = catN g ps j ++ g p.1 ++ ((ps.drop (j + 1)).map fun p => g p.1).flatten := by
    unfold cat catN
    rw [jn_nil]
    have : ps = ps.take j ++ p :: ps.drop (j + 1) := by
      have h2 := List.getElem?_eq_getElem hj
      rw [h2] at hp
      have := List.take_append_drop j ps
      rw [List.drop_eq_getElem_cons hj] at this
      rw [← Option.some.inj hp]
      exact this.symm
    conv => lhs; rw [this]
    simp
  unfold codes
  rw [List.getElem?_map, e, List.append_assoc, List.getElem?_append_right (by omega), List.getElem?_append_left (by omega), List.getD_eq_getElem?_getD]
  rw [show (catN g ps j).length + k - (catN g ps j).length = k by omega, List.getElem?_eq_getElem hk]; rfl
theorem catN_succ {g : Pc → List Nat} {ps : List (Pc × Addr × Addr)} {j : Nat} {p : Pc × Addr × Addr} (hp : ps[j]? = some p) : (catN g ps (j + 1)).length = (catN g ps j).length + (g p.1).length := by
  unfold catN
  rw [List.take_succ, hp]; simp
theorem cat_all {g : Pc → List Nat} {ps : List (Pc × Addr × Addr)} : catN g ps ps.length = cat g ps := by unfold catN cat; rw [jn_nil, List.take_length]
def dueN (ps : List (Pc × Addr × Addr)) (j : Nat) : Nat := ((ps.take j).map fun p => dueOf p.1).sum
theorem due_succ {ps : List (Pc × Addr × Addr)} {j : Nat} {p : Pc × Addr × Addr} (hp : ps[j]? = some p) : dueN ps (j + 1) = dueN ps j + dueOf p.1 := by
  unfold dueN
  rw [List.take_succ, hp]; simp
theorem law12 {I1 I2 D1 D2 P : Addr} {ps : List (Pc × Addr × Addr)} (R : Rm 3 A) (G : GB w mg mb b.heap) (H0 : LP b σ m P ps) (W : ∀ p ∈ ps, WordOk p.1)
    (h1 : gv m "tape" = some (.ref I1)) (h2 : gv m "folded_tape" = some (.ref I2)) (h3 : gv m "due" = some (.int 0)) :
    HS w A b (lenv L f cd) (bd24[12]'(by decide)) m ((I2, .liter D2 0) :: (D2, .list (codes (cat gFold ps))) :: (I1, .liter D1 0) :: (D1, .list (codes (cat gBare ps))) :: σ)
      (fun fl m' σ' => fl = .next ∧ gv m' "due" = some (.int (dueN ps ps.length)) ∧ gv m' "built" = gv m "built" ∧ gv m' "folded" = gv m "folded" ∧ gv m' "tape" = some (.ref I1) ∧ gv m' "folded_tape" = some (.ref I2) ∧
        σ' = (I2, .liter D2 (codes (cat gFold ps)).length) :: (D2, .list (codes (cat gFold ps))) :: (I1, .liter D1 (codes (cat gBare ps)).length) :: (D1, .list (codes (cat gBare ps))) :: σ) := by
  refine HS_for ps.length (fun i => (ps.map fun p => AV.ref p.2.1).getD i .none) (fun i => .liter P i)
    (fun j m' σ' => gv m' "due" = some (.int (dueN ps j)) ∧ gv m' "built" = gv m "built" ∧ gv m' "folded" = gv m "folded" ∧ gv m' "tape" = some (.ref I1) ∧ gv m' "folded_tape" = some (.ref I2) ∧
      σ' = (I2, .liter D2 (catN gFold ps j).length) :: (D2, .list (codes (cat gFold ps))) :: (I1, .liter D1 (catN gBare ps j).length) :: (D1, .list (codes (cat gBare ps))) :: σ) (itr_listJ (by simp) R.h ?_) ?_ ?_ ?_
  · rintro i m' σ' ⟨_, _, _, _, _, rfl⟩
    exact H0.hP.sub ((List.sublist_cons_self _ _).trans ((List.sublist_cons_self _ _).trans ((List.sublist_cons_self _ _).trans (List.sublist_cons_self _ _))))
  · refine HE_name _ H0.v ⟨starts_list (H0.hP.sub ((List.sublist_cons_self _ _).trans ((List.sublist_cons_self _ _).trans ((List.sublist_cons_self _ _).trans (List.sublist_cons_self _ _))))), _, .refl _, h3, rfl, rfl, h1, h2, rfl⟩
  · rintro I j m' σ' ⟨q1, q2, q3, q4, q5, rfl⟩ hj v hv
    have hp : ps[j]? = some ps[j] := List.getElem?_eq_getElem hj
    have hmem : ps[j] ∈ ps := List.getElem_mem hj
    generalize ps[j] = p at hp hmem
    have hr : (ps.map fun p => AV.ref p.2.1).getD j .none = .ref p.2.1 := by rw [List.getD_eq_getElem?_getD, List.getElem?_map, hp]; rfl
    rw [hr] at hv
    obtain rfl := er_ref hv
    have hat := H0.at' p hmem
    refine H_assign4 R.h (.inl (.inl (.tail _ (.tail _ (.tail _ (.tail _ (.tail _ hat.1))))))) ?_ (by rfl) (by rfl) (by rfl) (by rfl) (by rfl)
    refine (law12_turn (pre := [(I, .liter P (j + 1))]) (p := p) R G (H0.ok p hmem) (W p hmem) hat (by walk_at "lk") (by walk_at "lk") (by walk_at "lk") (by walk_at "lk") (by walk_at "lk") (by walk_at "lk") (by walk_at "lk") (fun k hk => cat_at hp hk) (fun k hk => cat_at hp hk)).mono ?_
    rintro fl m₂ σ₂ ⟨rfl, r1, r2, r3⟩
    refine ⟨_, r3, ?_, ?_, ?_, ?_, ?_, ?_⟩
    · rw [r1, due_succ hp]; push_cast; rfl
    · rw [r2 _ (by decide) (by decide) (by decide), ← q2]; show List.lookup _ _ = _; walk_at "lk"
    · rw [r2 _ (by decide) (by decide) (by decide), ← q3]; show List.lookup _ _ = _; walk_at "lk"
    · rw [r2 _ (by decide) (by decide) (by decide)]; walk_at "lk"
    · rw [r2 _ (by decide) (by decide) (by decide)]; walk_at "lk"
    · rw [catN_succ hp, catN_succ hp]; rfl
  · rintro m' σ' ⟨q1, q2, q3, q4, q5, rfl⟩
    refine HB_nil ⟨rfl, q1, q2, q3, q4, q5, ?_⟩
    rw [cat_all, cat_all]; simp
end
end Mine
end
section
open PySem PySem.W PyProof.Rows PySem.Calls PySem.Spec
namespace Mine
/-- what the plain law must give -/
structure Plain (ps : List (Pc × Addr × Addr)) : Prop where
  fe : fe (cat gBuilt ps) false = false
  sh : shorn (cat gBuilt ps) = cat gShorn ps
  un : unb (cat gShorn ps) = cat gBare ps
  lo : (cat gBare ps).map low = cat gFold ps
  asc : ∀ c ∈ cat gBare ps, c < 128
  w : ∀ p ∈ ps, WordOk p.1
  okb : lenOk (cat gBuilt ps)
  okf : lenOk (cat gFold ps)
  e1 : lev (cat gBuilt ps) (cat gFold ps) (dueN ps ps.length) = dueN ps ps.length
  e2 : lev (cat gFold ps) (cat gBuilt ps) ((dueN ps ps.length : Int) - 1) = dueN ps ps.length
section
variable {w : World} {A : Around} {b : Shared} {L f : Addr} {cd : Value} {m : Loc} {σ : Cells} {mg mb : PySem.Str → Option Value}
local macro_rules | `(tactic| walk_at "lk") => `(tactic| ((repeat (first | with_reducible assumption | with_reducible exact lookup_put_eq | with_reducible refine (lookup_put_ne (by decide)).trans ?_)); first | done | exact lookup_put_eq | rfl))
theorem sub_len {ps : List (Pc × Addr × Addr)} (g : Pc → List Nat) (hn : ps.length = 2) (h : ∀ p ∈ ps, (g p.1).length ≤ 10) : (cat g ps).length ≤ 40 := by
  unfold cat
  rw [jn_nil, List.length_flatten]
  have := sum_le (k := 10) (l := ps.map fun p => g p.1) (fun r hr => by
    obtain ⟨p, hp, rfl⟩ := List.mem_map.mp hr
    exact h p hp)
  rw [List.length_map] at this
  omega
-- from the fourth statement on
set_option maxRecDepth 20000 in
set_option maxHeartbeats 2000000 in
theorem law_rest {P : Addr} {ps : List (Pc × Addr × Addr)} {Q : FL → Loc → Cells → Prop} (R : Rm 3 A) (G : GB w mg mb b.heap) (H0 : LP b σ m P ps) (pl : Plain ps) (h1 : gv m "built" = some (.str (cat gBuilt ps))) (h2 : gv m "shorn" = some (.str (cat gShorn ps)))
    (fin : ∀ m' σ', Q (.ret (.bool true)) m' σ') : HB w A b (lenv L f cd) (bd24.drop 4) m σ Q := by
  have ls := sub_len gShorn H0.len fun p hp => gShorn_len (H0.ok p hp)
  have lb := sub_len gBare H0.len fun p hp => gBare_len (H0.ok p hp)
  have lf := sub_len gFold H0.len fun p hp => gFold_len (H0.ok p hp)
  have nx : ∀ {st rest m σ} {P' : Loc → Cells → Prop}, HS w A b (lenv L f cd) st m σ (fun fl m' σ' => fl = .next ∧ P' m' σ') → (∀ m' σ', P' m' σ' → HB w A b (lenv L f cd) rest m' σ' Q) → HB w A b (lenv L f cd) (st :: rest) m σ Q := by
    intro st rest m σ P' h k
    refine HB_cons (h.mono ?_)
    rintro fl m' σ' ⟨rfl, hp⟩
    exact k m' σ' hp
  refine nx (law4 R G H0 h2) ?_
  rintro m1 s1 ⟨rfl, hs1⟩
  refine H.less hs1 ?_
  refine nx (law5 R G ls h2) ?_
  rintro m1 s1 ⟨rfl, hs1⟩
  refine H.less hs1 ?_
  rw [pl.un]
  refine nx (law6 R G (H0.sub (.refl _) (by have := H0.v; walk_at "lk")) (by walk_at "lk")) ?_
  rintro m1 s1 ⟨rfl, hs1⟩
  refine H.less hs1 ?_
  refine nx (law7 R G lb pl.asc (by walk_at "lk")) ?_
  rintro m1 s1 ⟨rfl, hs1⟩
  refine H.less hs1 ?_
  rw [pl.lo]
  refine nx (law8 R G (H0.sub (.refl _) (by have := H0.v; walk_at "lk")) (by walk_at "lk")) ?_
  rintro m1 s1 ⟨rfl, hs1⟩
  refine H.less hs1 ?_
  refine nx (law9 R G lb (by walk_at "lk")) ?_
  rintro m1 s1 ⟨I1, D1, rfl, rfl⟩
  refine nx (law10 R G lf (by walk_at "lk")) ?_
  rintro m1 s1 ⟨I2, D2, rfl, rfl⟩
  refine HB_cons (HS_assign (HE_int ?_))
  refine nx (law12 R G (H0.sub (.refl _) (by have := H0.v; walk_at "lk")) pl.w (by walk_at "lk") (by walk_at "lk") (by walk_at "lk")) ?_
  rintro m1 s1 ⟨q1, q2, q3, q4, q5, rfl⟩
  refine nx (law13 R G q4 q5) ?_
  rintro m2 s2 ⟨rfl, hs2⟩
  refine law_end R G pl.okb pl.okf ?_ ?_ q1 pl.e1 pl.e2 fin
  · rw [q2]; walk_at "lk"
  · rw [q3]; walk_at "lk"
end
end Mine
end
section
open PySem PySem.W PyProof.Rows PySem.Calls PySem.Spec
namespace Mine
section
variable {w : World} {A : Around} {b : Shared} {L f : Addr} {cd : Value} {m : Loc} {σ : Cells} {mg mb : PySem.Str → Option Value}
local macro_rules | `(tactic| walk_at "lk") => `(tactic| ((repeat (first | with_reducible assumption | with_reducible exact lookup_put_eq | with_reducible refine (lookup_put_ne (by decide)).trans ?_)); first | done | exact lookup_put_eq | rfl))
set_option maxRecDepth 20000 in
set_option maxHeartbeats 2000000 in
theorem law_body {S : Addr} {is : List Int} {s : Shared} (R : Rm 3 A) (G : GB w mg mb b.heap) (hS : HasL b [] S (is.map .int)) (hl : is.length ≤ 63) (I : Inv b L [("script", .ref S)] [] s)
    (plain : ∀ ps : List (Pc × Addr × Addr), ps.length = 2 → (∀ p ∈ ps, p.1.Ok) → Plain ps) :
    wpAny (model PW w) A (execs bd24 (lenv L f cd)) (fun fl s' => fl = .ret (.bool true) ∧ (∀ a o, b.heap.get? a = some o → s'.heap.get? a = some o) ∧ s'.os = b.os ∧ s'.drawn = b.drawn ∧ (s'.gens = b.gens ∨ s'.gens = b.gens.push .finished)) NoE s := by
  refine wpAny_execs_cons (H.seq I (law0 (R.le (by decide)) G hS hl (by rfl)) fun fl m₁ σ₁ s₁ q I₁ X₁ => ?_)
  obtain ⟨hfl, N, n1, n2, rfl, hN, hs1⟩ := q
  obtain rfl := erF_next hfl
  dsimp only
  refine wpAny_execs_cons (H.seq I₁ (law1 R G hN (by walk_at "lk")) fun fl m₂ σ₂ s₂ q I₂ X₂ => ?_)
  obtain ⟨hfl, P, ps, rfl, hlen, hok, hP, hat, hs2⟩ := q
  obtain rfl := erF_next hfl
  dsimp only
  have pl := plain ps hlen hok
  have H0 : LP b σ₂ (put "pieces" (.ref P) (put "numbers" (.ref N) [("script", .ref S)])) P ps := ⟨hlen, hok, hP, hat, by walk_at "lk"⟩
  refine wpAny_execs_cons (H.seq I₂ (law2 R G H0) fun fl m₃ σ₃ s₃ q I₃ X₃ => ?_)
  obtain ⟨hfl, rfl, hs3⟩ := q
  obtain rfl := erF_next hfl
  dsimp only
  obtain ⟨mm, hn, hml⟩ := I₃.ns
  obtain ⟨vb, hvb, heb⟩ := hml "built" (.str (cat gBuilt ps)) (by walk_at "lk")
  obtain ⟨fs, o, pm, cds, doc, g1, g2, g3, g4⟩ := (G.keeps I₃.keep).fn 6 "_strip_quoted_realnames" ((fnRec 6).get some6).2.1 bd6 sc6 (by rfl)
  have lbt : (cat gBuilt ps).length ≤ 40 := pl.okb.1
  refine wpAny_execs_cons (wpAny_Assign_Name (Call_Name (env := lenv L f cd) (by rfl) (Calls.Name_function_global (env := lenv L f cd) (by rfl) (by rfl) (Calls.loadGlobal_global (env := lenv L f cd) (G.g.keeps I₃.keep) g1
    (Calls.callWith_function (o := o) (Calls.evalArgs_plain (Calls.spliced_cons (wpAny_Name (wpAny_loadName_local (by rfl) (by rfl) hn hvb (Calls.spliced_nil ⟨⟨g2, g3⟩, wpAny_mono (run_strip (R.le (by decide)) G g1 I₃ heb lbt pl.fe) (fun r s₄ h => ?_) fun _ _ x => x⟩)) (by decide)))))) (by decide))) (by rfl))
  obtain ⟨hr, I₄, hg, hd, ho⟩ := h
  obtain ⟨mm4, hn4, hml4⟩ := I₄.ns
  refine wpAny_storeName_local (env := lenv L f cd) (by rfl) hn4 (fun h' hn' hsb => ?_) (by rfl)
  have z := I₄.store (tk := s₄.toks + 1) (v := r) (x := "shorn") hml4 hn' hsb
  dsimp only
  rw [pl.sh] at hr
  have I₅ := z.1.toBB
  rw [hr] at I₅
  have H5 : LP (bb (bb b s₄) { s₄ with heap := h', toks := s₄.toks + 1 }) σ₃ (put "shorn" (.str (cat gShorn ps)) (put "built" (.str (cat gBuilt ps)) (put "pieces" (.ref P) (put "numbers" (.ref N) [("script", .ref S)])))) P ps :=
    ⟨hlen, hok, hP.sub hs3, fun p hp => (hat p hp).sub hs3, by walk_at "lk"⟩
  refine H.seq I₅ (law_rest (Q := fun fl _ _ => fl = .ret (.bool true)) R G H5 pl (by walk_at "lk") (by walk_at "lk") fun _ _ => rfl) fun fl m₆ σ₆ s₆ q I₆ X₆ => ?_
  obtain ⟨u, rfl, hu⟩ := erF_ret q
  obtain rfl := er_bool hu
  exact ⟨rfl, I₆.keep, X₆.os.trans ho, X₆.drawn.trans hd, hg.imp (fun h => X₆.gens.trans h) (fun h => X₆.gens.trans h)⟩
end
end Mine
end
section
open PySem PySem.W PyProof.Rows PySem.Calls PySem.Spec
namespace Mine
theorem fold_word {x : List Nat} {st : Sst} {r : List Nat} : ∀ {w : List Nat} {i : Nat}, (∀ c ∈ w, c ≠ 34 ∧ c ≠ 92) → (esc (w ++ r) i false).foldl (stp x) st = (esc r (i + w.length) false).foldl (stp x) st
  | [], i, _ => by simp
  | c :: w, i, h => by
    have hc := h c (.head _)
    have ih := fold_word (x := x) (st := st) (r := r) (w := w) (i := i + 1) fun d hd => h d (.tail _ hd)
    have e1 : esc (c :: w ++ r) i false = (i, [c]) :: esc (w ++ r) (i + 1) false := by simp [esc, hc.2]
    rw [e1, List.foldl_cons]
    have e2 : stp x st (i, [c]) = st := by simp [stp, hc.1]
    rw [e2, ih, List.length_cons, show i + 1 + w.length = i + (w.length + 1) by omega]
theorem fe_word {r : List Nat} : ∀ {w : List Nat}, (∀ c ∈ w, c ≠ 34 ∧ c ≠ 92) → fe (w ++ r) false = fe r false
  | [], _ => rfl
  | c :: w, h => by
    have hc := h c (.head _)
    show (if false = true then _ else fe (w ++ r) (decide (c = 92))) = _
    rw [if_neg (by decide), decide_eq_false hc.2]
    exact fe_word fun d hd => h d (.tail _ hd)
/-- a remark in quotation marks -/
def RmOk (rm : List Nat) : Prop := rm = [34, 92, 34, 34] ∨ ∃ d, d ≠ 34 ∧ d ≠ 92 ∧ rm = [34, d, 34]
theorem fold_rm {x r rm : List Nat} {a i : Nat} {res : List (List Nat)} (h : RmOk rm) : (esc (rm ++ r) i false).foldl (stp x) (a, none, res) =
    (esc r (i + rm.length) false).foldl (stp x) (i + rm.length, none, if a ≠ i then res ++ [sl x (some (a : Nat)) (some (i : Nat))] else res) := by
  rcases h with rfl | ⟨d, h1, h2, rfl⟩
  · simp [esc, stp]
  · simp [esc, stp, h1, h2]
theorem fe_rm {r rm : List Nat} (h : RmOk rm) : fe (rm ++ r) false = fe r false := by
  rcases h with rfl | ⟨d, h1, h2, rfl⟩
  · simp [fe]
  · simp [fe, h2]
end Mine
end
section
open PySem PySem.W PyProof.Rows PySem.Calls PySem.Spec
namespace Mine
theorem qin_eq {x : List Nat} : qin x = decide (34 ∈ x) := by
  unfold qin
  exact StrLaws.found_one (mk x) 34
theorem sl_at {x u v r : List Nat} (h : x = u ++ v ++ r) : sl x (some ((u.length : Nat) : Int)) (some ((u.length + v.length : Nat) : Int)) = v := by
  subst h
  rw [sl_mid (by omega) (by omega) (by simp only [List.length_append]; omega)]
  rw [show ((u.length : Nat) : Int).toNat = u.length by omega, show (((u.length + v.length : Nat) : Int) - (u.length : Nat)).toNat = v.length by omega, List.append_assoc, List.drop_left, List.take_left]
theorem sl_at0 {x v r : List Nat} (h : x = v ++ r) : sl x (some ((0 : Nat) : Int)) (some ((v.length : Nat) : Int)) = v := by
  have := sl_at (x := x) (u := []) (v := v) (r := r) (by simpa using h)
  simpa using this
theorem sl_end {x u v : List Nat} (h : x = u ++ v) : sl x (some ((u.length : Nat) : Int)) none = v := by
  subst h
  rw [sl_from (by omega) (by simp only [List.length_append]; omega)]
  simp
def Wd (w : List Nat) : Prop := w ≠ [] ∧ ∀ c ∈ w, c ≠ 34 ∧ c ≠ 92
theorem st_eq (x : List Nat) : stAt x (esc x 0 false).length = (esc x 0 false).foldl (stp x) (0, none, []) := by
  unfold stAt; rw [List.take_length]
theorem no34 {w : List Nat} (h : Wd w) : 34 ∉ w := fun hm => (h.2 34 hm).1 rfl
theorem in34 {rm : List Nat} (h : RmOk rm) : 34 ∈ rm := by
  rcases h with rfl | ⟨d, h1, h2, rfl⟩ <;> simp
theorem shorn_two {w0 w1 r0 r1 : List Nat} (h0 : Wd w0) (h1 : Wd w1) (k0 : r0 = [] ∨ RmOk r0) (k1 : r1 = [] ∨ RmOk r1) :
    shorn (w0 ++ r0 ++ (w1 ++ r1)) = w0 ++ w1 ∧ fe (w0 ++ r0 ++ (w1 ++ r1)) false = false := by
  have l0 : 0 < w0.length := List.length_pos_iff.mpr h0.1
  have l1 : 0 < w1.length := List.length_pos_iff.mpr h1.1
  refine ⟨?_, ?_⟩
  · unfold shorn
    rw [qin_eq, st_eq]
    generalize hx : w0 ++ r0 ++ (w1 ++ r1) = x
    rcases k0 with rfl | k0
    · rcases k1 with rfl | k1
      · have : 34 ∉ x := by rw [← hx]; simp [no34 h0, no34 h1]
        rw [if_neg (by simpa using this), ← hx]; simp
      · have hq : 34 ∈ x := by rw [← hx]; simp [in34 k1]
        rw [if_pos (by simpa using hq)]
        have hw : ∀ c ∈ w0 ++ w1, c ≠ 34 ∧ c ≠ 92 := fun c hc => (List.mem_append.mp hc).elim (h0.2 c) (h1.2 c)
        have hx' : x = (w0 ++ w1) ++ (r1 ++ []) := by rw [← hx]; simp
        have e : (esc x 0 false).foldl (stp x) (0, none, []) = ((w0 ++ w1).length + r1.length, none, [w0 ++ w1]) := by
          conv => lhs; arg 3; rw [hx']
          rw [fold_word hw, fold_rm k1, Nat.zero_add, if_pos (by simp; omega), sl_at0 (v := w0 ++ w1) (r := r1 ++ []) hx']
          rfl
        rw [e]
        dsimp only
        rw [if_neg (by rw [hx']; simp; omega)]
        rfl
    · rcases k1 with rfl | k1
      · have hq : 34 ∈ x := by rw [← hx]; simp [in34 k0]
        rw [if_pos (by simpa using hq)]
        have hx' : x = w0 ++ (r0 ++ (w1 ++ [])) := by rw [← hx]; simp
        have e : (esc x 0 false).foldl (stp x) (0, none, []) = (w0.length + r0.length, none, [w0]) := by
          conv => lhs; arg 3; rw [hx']
          rw [fold_word h0.2, fold_rm k0, Nat.zero_add, if_pos (by omega), sl_at0 (v := w0) hx', fold_word h1.2]
          rfl
        rw [e]
        dsimp only
        rw [if_pos (by rw [hx']; simp; omega)]
        have := sl_end (x := x) (u := w0 ++ r0) (v := w1) (by rw [hx']; simp)
        rw [List.length_append] at this
        rw [this]
        simp [jn]
      · have hq : 34 ∈ x := by rw [← hx]; simp [in34 k0]
        rw [if_pos (by simpa using hq)]
        have hx' : x = w0 ++ (r0 ++ (w1 ++ (r1 ++ []))) := by rw [← hx]; simp
        have e : (esc x 0 false).foldl (stp x) (0, none, []) = (w0.length + r0.length + w1.length + r1.length, none, [w0, w1]) := by
          conv => lhs; arg 3; rw [hx']
          rw [fold_word h0.2, fold_rm k0, Nat.zero_add, if_pos (by omega), sl_at0 (v := w0) hx', fold_word h1.2, fold_rm k1, if_pos (by omega)]
          have := sl_at (x := x) (u := w0 ++ r0) (v := w1) (r := r1) (by rw [hx']; simp)
          rw [List.length_append] at this
          rw [this]; rfl
        rw [e]
        dsimp only
        rw [if_neg (by rw [hx']; simp; omega)]
        simp [jn]
  · rcases k0 with rfl | k0 <;> rcases k1 with rfl | k1
    · simp only [List.append_nil]; rw [fe_word h0.2, ← List.append_nil w1, fe_word h1.2]; rfl
    · simp only [List.append_nil]; rw [fe_word h0.2, fe_word h1.2, ← List.append_nil r1, fe_rm k1]; rfl
    · rw [List.append_assoc, fe_word h0.2, fe_rm k0, List.append_nil, ← List.append_nil w1, fe_word h1.2]; rfl
    · rw [List.append_assoc, fe_word h0.2, fe_rm k0, fe_word h1.2, ← List.append_nil r1, fe_rm k1]; rfl
end Mine
end
section
open PySem PySem.W PyProof.Rows PySem.Calls PySem.Spec
namespace Mine
theorem digs_of {l : List Nat} {d : Nat} (h : ∀ c ∈ l, 64 ≤ c ∧ c < 128) (hd : d < 64) : Digs (l ++ [d]) := by
  refine ⟨by simp, fun j hj => ?_, ?_, fun j => ?_⟩
  · simp at hj
    rw [List.getD_eq_getElem?_getD, List.getElem?_append_left hj, List.getElem?_eq_getElem hj]
    exact (h _ (List.getElem_mem hj)).1
  · simp; exact hd
  · rw [List.getD_eq_getElem?_getD]
    cases q : (l ++ [d])[j]? with
    | none => simp
    | some c =>
      have := List.mem_of_getElem? q
      rcases List.mem_append.mp this with h1 | h1
      · simpa using (h c h1).2
      · have : c = d := by simpa using h1
        simp; omega
theorem sum_mul {α : Type} {f : α → Int} {k : Int} : ∀ l : List α, (l.map fun x => f x * k).sum = (l.map f).sum * k
  | [] => by simp
  | x :: r => by simp only [List.map_cons, List.sum_cons, sum_mul r, Int.add_mul]
theorem lawNum_snoc {l : List Nat} {d : Nat} : lawNum (l ++ [d]) = lawNum l * 64 + (d % 64 : Nat) := by
  unfold lawNum
  rw [List.length_append, show l.length + [d].length = l.length + 1 from rfl, List.range_succ_eq_map, List.map_cons, List.sum_cons, List.map_map, List.reverse_append]
  have e : ((fun p => (((([d] : List Nat).reverse ++ l.reverse).getD p 0 % 64 * 64 ^ p : Nat) : Int)) ∘ Nat.succ) = fun p => ((l.reverse.getD p 0 % 64 * 64 ^ p : Nat) : Int) * 64 := by
    funext p
    simp only [Function.comp, List.reverse_cons, List.reverse_nil, List.nil_append, List.singleton_append, List.getD_cons_succ, Nat.pow_succ]
    push_cast
    rw [Int.mul_assoc]
  rw [e, sum_mul]
  simp
  omega
theorem num_law : ∀ (l : List Nat), (num l 0 : Int) = lawNum l := by
  intro l
  have key : ∀ n, ∀ l : List Nat, l.length = n → (num l 0 : Int) = lawNum l := by
    intro n
    induction n with
    | zero => intro l h; obtain rfl := List.eq_nil_of_length_eq_zero h; rfl
    | succ n ih =>
      intro l h
      have hne : l ≠ [] := by rintro rfl; simp at h
      have e := List.dropLast_concat_getLast hne
      rw [← e, num_snoc, lawNum_snoc]
      have := ih l.dropLast (by simp [h])
      push_cast
      rw [this]
  exact key _ l rfl
end Mine
end
section
open PySem PySem.W PyProof.Rows PySem.Calls PySem.Spec
namespace Mine
theorem xor_dig {a c x y : Nat} (hx : x < 64) (hy : y < 64) : (a * 64 + x) ^^^ (c * 64 + y) = (a ^^^ c) * 64 + (x ^^^ y) := by
  have h64 : (64 : Nat) = 2 ^ 6 := rfl
  have hxy : x ^^^ y < 64 := by rw [h64] at *; exact Nat.xor_lt_two_pow hx hy
  have e1 : ((a * 64 + x) ^^^ (c * 64 + y)) % 64 = x ^^^ y := by
    rw [h64, Nat.xor_mod_two_pow]
    rw [show (a * 2 ^ 6 + x) % 2 ^ 6 = x by omega, show (c * 2 ^ 6 + y) % 2 ^ 6 = y by omega]
  have e2 : ((a * 64 + x) ^^^ (c * 64 + y)) / 64 = a ^^^ c := by
    rw [h64, Nat.xor_div_two_pow]
    rw [show (a * 2 ^ 6 + x) / 2 ^ 6 = a by omega, show (c * 2 ^ 6 + y) / 2 ^ 6 = c by omega]
  have := Nat.div_add_mod ((a * 64 + x) ^^^ (c * 64 + y)) 64
  omega
theorem xor_add : ∀ n x y : Nat, x ≤ n → (x ^^^ y) + 2 * (x &&& y) = x + y := by
  intro n
  induction n with
  | zero => intro x y h; obtain rfl : x = 0 := by omega
            simp
  | succ n ih =>
    intro x y h
    by_cases hx : x = 0
    · subst hx; simp
    have i := ih (x / 2) (y / 2) (by omega)
    have e1 : (x ^^^ y) / 2 = x / 2 ^^^ y / 2 := by have := Nat.xor_div_two_pow (a := x) (b := y) (n := 1); simpa using this
    have e2 : (x &&& y) / 2 = x / 2 &&& y / 2 := by have := Nat.and_div_two_pow (a := x) (b := y) (n := 1); simpa using this
    have e3 : (x ^^^ y) % 2 = x % 2 ^^^ y % 2 := by have := Nat.xor_mod_two_pow (a := x) (b := y) (n := 1); simpa using this
    have e4 : (x &&& y) % 2 = x % 2 &&& y % 2 := by have := Nat.and_mod_two_pow (a := x) (b := y) (n := 1); simpa using this
    have h1 : x % 2 = 0 ∨ x % 2 = 1 := by omega
    have h2 : y % 2 = 0 ∨ y % 2 = 1 := by omega
    rcases h1 with h1 | h1 <;> rcases h2 with h2 | h2 <;> rw [h1, h2] at e3 e4 <;> simp only [Nat.xor_self, Nat.and_self, Nat.zero_xor, Nat.xor_zero, Nat.zero_and, Nat.and_zero] at e3 e4 <;> (generalize x / 2 ^^^ y / 2 = A at *; generalize x / 2 &&& y / 2 = B at *; generalize x ^^^ y = C at *; generalize x &&& y = D at *; omega)
theorem bitXor_nn (x y : Nat) : Builtin.bitXor (x : Int) (y : Int) = ((x ^^^ y : Nat) : Int) := by
  rw [bitXor_and, bitAnd_pp (by omega) (by omega)]
  have := xor_add x x y (Nat.le_refl _)
  simp only [Int.toNat_natCast]
  omega
end Mine
end
section
open PySem PySem.W PyProof.Rows PySem.Calls PySem.Spec
namespace Mine
def pnum : List Bool → Nat → Nat
  | [], v => v
  | c :: r, v => pnum r (v * 64 + if c = true then 32 else 0)
def pW (pat : List Bool) : List (List Nat) := ((List.range pat.length).filter fun i => pat.reverse.getD i false).map fun i => wd (6 * (i + 1) + 5)
def pats : Nat → List (List Bool)
  | 0 => [[]]
  | n + 1 => (pats n).flatMap fun p => [true :: p, false :: p]
theorem mem_pats : ∀ (p : List Bool), p ∈ pats p.length
  | [] => by simp [pats]
  | b :: p => by
    have := mem_pats p
    simp only [List.length_cons, pats, List.mem_flatMap]
    exact ⟨p, this, by cases b <;> simp⟩
set_option maxRecDepth 100000 in
theorem pat_facts : ∀ n : Fin 5, ∀ pat ∈ pats n, pnum pat 0 * 64 ∈ Fs ∧ prettyS (pnum pat 0 * 64) = (if pW pat = [] then [48, 120, 48] else jn [44, 32] (pW pat)) := by decide +kernel
end Mine
end
section
open PySem PySem.W PyProof.Rows PySem.Calls PySem.Spec
namespace Mine
def mi (x y : Int) : Int := if x < y then x else y
theorem mi_l (x y : Int) : mi x y ≤ x := by unfold mi; split <;> omega
theorem mi_r (x y : Int) : mi x y ≤ y := by unfold mi; split <;> omega
theorem le_mi {x y z : Int} (h1 : z ≤ x) (h2 : z ≤ y) : z ≤ mi x y := by unfold mi; split <;> assumption
/-- a row behind the row prev -/
def Er (bc : Nat) (a : List Nat) (B : Nat) (prev : Nat → Int) : Nat → Int
  | 0 => 2 * (B + 1)
  | i + 1 => mi (prev i + subC bc (a.getD i 0)) (mi (prev (i + 1)) (if i = 0 then (B : Int) * 2 else Er bc a B prev i) + 2)
def E (a b : List Nat) : Nat → Nat → Int
  | 0 => fun i => 2 * i
  | j + 1 => Er (b.getD j 0) a j (E a b j)
theorem E_zero {a b} (j : Nat) : E a b j 0 = 2 * j := by
  cases j with
  | zero => rfl
  | succ j => show (2 * ((j : Int) + 1)) = _; omega
theorem inn_E {bc : Nat} {a : List Nat} {row : List Int} {B : Nat} {prev : Nat → Int} (hr : row.length = a.length) (h0 : prev 0 = (B : Int) * 2) (hp : ∀ i, i < a.length → row.getD i 0 = prev (i + 1)) :
    ∀ i, i ≤ a.length → (inn bc a row B i).1 = prev i ∧ (inn bc a row B i).2.1 = (if i = 0 then (B : Int) * 2 else Er bc a B prev i) ∧
      (∀ k, k < a.length → (inn bc a row B i).2.2.2.getD k 0 = if k < i then Er bc a B prev (k + 1) else prev (k + 1)) ∧ (∀ k, k < i → (inn bc a row B i).2.2.1 ≤ Er bc a B prev (k + 1))
  | 0, _ => ⟨h0.symm, rfl, fun k hk => by simpa [inn] using hp k hk, fun k hk => by omega⟩
  | i + 1, hi => by
    obtain ⟨e1, e2, e3, e4⟩ := inn_E (bc := bc) hr h0 hp i (by omega)
    have e3i := e3 i (by omega)
    rw [if_neg (by omega)] at e3i
    have hl := inn_len (bc := bc) (a := a) (row := row) (B := B) i
    have res : (let sub := (inn bc a row B i).1 + subC bc (a.getD i 0)
        let ins := (if (inn bc a row B i).2.2.2.getD i 0 < (inn bc a row B i).2.1 then (inn bc a row B i).2.2.2.getD i 0 else (inn bc a row B i).2.1) + 2
        if sub < ins then sub else ins) = Er bc a B prev (i + 1) := by
      rw [e1, e2, e3i]; rfl
    have u1 : (inn bc a row B (i + 1)).1 = (inn bc a row B i).2.2.2.getD i 0 := rfl
    have u2 : (inn bc a row B (i + 1)).2.1 = Er bc a B prev (i + 1) := res
    have u4 : (inn bc a row B (i + 1)).2.2.2 = (inn bc a row B i).2.2.2.set i (Er bc a B prev (i + 1)) := by rw [← res]; rfl
    have u3 : (inn bc a row B (i + 1)).2.2.1 = (if Er bc a B prev (i + 1) < (inn bc a row B i).2.2.1 then Er bc a B prev (i + 1) else (inn bc a row B i).2.2.1) := by rw [← res]; rfl
    refine ⟨by rw [u1, e3i], by rw [u2, if_neg (by omega)], fun k hk => ?_, fun k hk => ?_⟩
    · rw [u4]
      by_cases q : k = i
      · subst q
        rw [if_pos (by omega)]
        simp only [List.getD_eq_getElem?_getD]
        rw [List.getElem?_set_self (by omega)]; rfl
      · simp only [List.getD_eq_getElem?_getD] at e3 ⊢
        rw [List.getElem?_set_ne (by omega), e3 k hk]
        by_cases h : k < i
        · rw [if_pos h, if_pos (by omega)]
        · rw [if_neg h, if_neg (by omega)]
    · rw [u3]
      by_cases q : k = i
      · subst q
        split <;> omega
      · have := e4 k (by omega)
        split <;> omega
theorem out_E {a b : List Nat} : ∀ j, ∀ i, i < a.length → (out a b j).1.getD i 0 = E a b j (i + 1)
  | 0, i, hi => by
    show (row0 a).getD i 0 = _
    unfold row0
    simp only [List.getD_eq_getElem?_getD, List.getElem?_map, List.getElem?_range hi, Option.map_some, Option.getD_some]
    show (2 + (i : Int) * 2) = 2 * ((i + 1 : Nat) : Int)
    omega
  | j + 1, i, hi => by
    have := (inn_E (bc := b.getD j 0) (B := j) (prev := E a b j) (out_len (a := a) (b := b) j) (by rw [E_zero]; omega) (fun i hi => out_E j i hi) a.length (Nat.le_refl _)).2.2.1 i hi
    rw [if_pos hi] at this
    exact this
theorem out_res {a b : List Nat} (j : Nat) (ha : a ≠ []) : (out a b (j + 1)).2 = E a b (j + 1) a.length := by
  have := (inn_E (bc := b.getD j 0) (B := j) (prev := E a b j) (out_len (a := a) (b := b) j) (by rw [E_zero]; omega) (fun i hi => out_E j i hi) a.length (Nat.le_refl _)).2.1
  rw [if_neg (by have := List.length_pos_iff.mpr ha; omega)] at this
  exact this
theorem mn_E {a b : List Nat} (j : Nat) {i : Nat} (hi : i < a.length) : mn a b j ≤ E a b (j + 1) (i + 1) :=
  (inn_E (bc := b.getD j 0) (B := j) (prev := E a b j) (out_len (a := a) (b := b) j) (by rw [E_zero]; omega) (fun i hi => out_E j i hi) a.length (Nat.le_refl _)).2.2.2 i hi
theorem E_succ {a b : List Nat} (j i : Nat) : E a b (j + 1) (i + 1) = mi (E a b j i + subC (b.getD j 0) (a.getD i 0)) (mi (E a b j (i + 1)) (if i = 0 then (j : Int) * 2 else E a b (j + 1) i) + 2) := rfl
theorem subC_le (x y : Nat) : (subC x y : Int) ≤ 2 ∧ (0 : Int) ≤ subC x y := by
  unfold subC
  split
  · simp
  · split <;> simp
/-- the row's minimum is at most what comes later -/
theorem mn_le {a b : List Nat} {j : Nat} (ha : a ≠ []) : ∀ d i, i < a.length → mn a b j ≤ E a b (j + 1 + d) (i + 1)
  | 0, i, hi => mn_E j hi
  | d + 1, i, hi => by
    have hl := List.length_pos_iff.mpr ha
    have h0 : mn a b j ≤ 2 * (j : Int) + 2 := by
      have h1 : mn a b j ≤ E a b (j + 1) 1 := mn_E (b := b) j (i := 0) hl
      have h3 : E a b (j + 1) 1 ≤ E a b j 0 + subC (b.getD j 0) (a.getD 0 0) := mi_l _ _
      rw [E_zero] at h3
      have := (subC_le (b.getD j 0) (a.getD 0 0)).1
      omega
    have hd : ∀ k, k ≤ a.length → mn a b j ≤ E a b (j + 1 + d) k := by
      intro k hk
      cases k with
      | zero => rw [E_zero]; omega
      | succ k => exact mn_le ha d k (by omega)
    show mn a b j ≤ E a b ((j + 1 + d) + 1) (i + 1)
    induction i with
    | zero =>
      rw [E_succ]
      refine le_mi ?_ ?_
      · have := hd 0 (by omega); have := (subC_le (b.getD (j + 1 + d) 0) (a.getD 0 0)).2; omega
      · have : mn a b j ≤ mi (E a b (j + 1 + d) (0 + 1)) (if 0 = 0 then ((j + 1 + d : Nat) : Int) * 2 else E a b (j + 1 + d + 1) 0) := le_mi (hd 1 (by omega)) (by rw [if_pos rfl]; omega)
        omega
    | succ i ih =>
      rw [E_succ]
      refine le_mi ?_ ?_
      · have := hd (i + 1) (by omega); have := (subC_le (b.getD (j + 1 + d) 0) (a.getD (i + 1) 0)).2; omega
      · have : mn a b j ≤ mi (E a b (j + 1 + d) (i + 1 + 1)) (if i + 1 = 0 then ((j + 1 + d : Nat) : Int) * 2 else E a b (j + 1 + d + 1) (i + 1)) := le_mi (hd (i + 2) (by omega)) (by rw [if_neg (by omega)]; exact ih (by omega))
        omega
def Dst (a b : List Nat) : Int := E a b b.length a.length
theorem tab_eq {a b : List Nat} {mx : Int} (ha : a ≠ []) (hb : b ≠ []) (h : (Dst a b ≤ mx ∧ ((b.length : Int) - a.length) * 2 ≤ mx) ∨ Dst a b = mx + 1) : tab a b mx = Dst a b := by
  have la := List.length_pos_iff.mpr ha
  have lb := List.length_pos_iff.mpr hb
  obtain ⟨n, hn⟩ : ∃ n, b.length = n + 1 := ⟨b.length - 1, by omega⟩
  have hres : (out a b b.length).2 = Dst a b := by unfold Dst; rw [hn]; exact out_res n ha
  have hmn : ∀ j, j < b.length → mn a b j ≤ Dst a b := by
    intro j hj
    obtain ⟨k, hk⟩ : ∃ k, a.length = k + 1 := ⟨a.length - 1, by omega⟩
    have := mn_le (a := a) (b := b) (j := j) ha (b.length - (j + 1)) k (by omega)
    rw [show j + 1 + (b.length - (j + 1)) = b.length by omega, ← hk] at this
    exact this
  unfold tab
  rcases h with ⟨h1, h2⟩ | h
  · rw [if_neg (by omega), if_neg, hres]
    rw [List.any_eq_true]
    rintro ⟨j, hj, hm⟩
    have := hmn j (List.mem_range.mp hj)
    have := of_decide_eq_true hm
    omega
  · split
    · omega
    · split
      · omega
      · exact hres
end Mine
end
section
open PySem PySem.W PyProof.Rows PySem.Calls PySem.Spec
namespace Mine
/-- a lower bound of the table -/
theorem E_lb {a b : List Nat} {L : Nat → Nat → Int} (h0 : ∀ i, i ≤ a.length → L 0 i ≤ 2 * i) (h1 : ∀ j, j ≤ b.length → L j 0 ≤ 2 * j) (h2 : ∀ j, j < b.length → 0 < a.length → L (j + 1) 1 ≤ 2 * j + 2)
    (s : ∀ j i, j < b.length → i < a.length → L (j + 1) (i + 1) ≤ L j i + subC (b.getD j 0) (a.getD i 0)) (sa : ∀ j i, j < b.length → i < a.length → L (j + 1) (i + 1) ≤ L (j + 1) i + 2) (sb : ∀ j i, j < b.length → i < a.length → L (j + 1) (i + 1) ≤ L j (i + 1) + 2) :
    ∀ j, j ≤ b.length → ∀ i, i ≤ a.length → L j i ≤ E a b j i
  | 0, _, i, hi => h0 i hi
  | j + 1, hj, 0, _ => by rw [E_zero]; exact h1 (j + 1) hj
  | j + 1, hj, i + 1, hi => by
    rw [E_succ]
    have ih := E_lb h0 h1 h2 s sa sb j (by omega)
    refine le_mi ?_ ?_
    · have := ih i (by omega); have := s j i (by omega) (by omega); omega
    · have e1 := ih (i + 1) (by omega)
      have e2 := sb j i (by omega) (by omega)
      by_cases q : i = 0
      · subst q
        have h2' : L (j + 1) (0 + 1) ≤ 2 * j + 2 := h2 j (by omega) (by omega)
        have : L (j + 1) (0 + 1) - 2 ≤ mi (E a b j (0 + 1)) (if 0 = 0 then (j : Int) * 2 else E a b (j + 1) 0) := le_mi (by omega) (by rw [if_pos rfl]; omega)
        omega
      · have ih2 := E_lb h0 h1 h2 s sa sb (j + 1) hj i (by omega)
        have e3 := sa j i (by omega) (by omega)
        have : L (j + 1) (i + 1) - 2 ≤ mi (E a b j (i + 1)) (if i = 0 then (j : Int) * 2 else E a b (j + 1) i) := le_mi (by omega) (by rw [if_neg q]; omega)
        omega
termination_by j _ i => (j, i)
/-- a way from the one to the other -/
inductive Al : List Nat → List Nat → Int → Prop
  | nil : Al [] [] 0
  | sub {x y X Y c} : Al X Y c → Al (x :: X) (y :: Y) (subC y x + c)
  | da {x X Y c} : Al X Y c → Al (x :: X) Y (2 + c)
  | db {y X Y c} : Al X Y c → Al X (y :: Y) (2 + c)
theorem drop_cons {x : Nat} {X l : List Nat} {i : Nat} (h : l.drop i = x :: X) : i < l.length ∧ l.getD i 0 = x ∧ l.drop (i + 1) = X := by
  have hl : i < l.length := by
    rcases Nat.lt_or_ge i l.length with q | q
    · exact q
    · rw [List.drop_eq_nil_of_le q] at h; cases h
  rw [List.drop_eq_getElem_cons hl] at h
  injection h with h1 h2
  refine ⟨hl, ?_, h2⟩
  rw [List.getD_eq_getElem?_getD, List.getElem?_eq_getElem hl, h1]; rfl
theorem E_ub {a b X Y : List Nat} {c : Int} (h : Al X Y c) : ∀ i j, a.drop i = X → b.drop j = Y → i ≤ a.length → j ≤ b.length → Dst a b ≤ E a b j i + c := by
  induction h with
  | nil =>
    intro i j h1 h2 l1 l2
    have e1 : i = a.length := by have := congrArg List.length h1; simp at this; omega
    have e2 : j = b.length := by have := congrArg List.length h2; simp at this; omega
    subst e1 e2
    show E a b _ _ ≤ _
    omega
  | @sub x y X Y c h ih =>
    intro i j h1 h2 l1 l2
    obtain ⟨a1, a2, a3⟩ := drop_cons h1
    obtain ⟨b1, b2, b3⟩ := drop_cons h2
    have := ih (i + 1) (j + 1) a3 b3 a1 b1
    have q : E a b (j + 1) (i + 1) ≤ E a b j i + subC (b.getD j 0) (a.getD i 0) := mi_l _ _
    rw [a2, b2] at q
    omega
  | @da x X Y c h ih =>
    intro i j h1 h2 l1 l2
    obtain ⟨a1, a2, a3⟩ := drop_cons h1
    have := ih (i + 1) j a3 h2 a1 l2
    have q : E a b j (i + 1) ≤ E a b j i + 2 := by
      cases j with
      | zero => show (2 * ((i + 1 : Nat) : Int)) ≤ 2 * (i : Int) + 2; omega
      | succ j =>
        have q1 : E a b (j + 1) (i + 1) ≤ mi (E a b j (i + 1)) (if i = 0 then (j : Int) * 2 else E a b (j + 1) i) + 2 := mi_r _ _
        have q2 := mi_r (E a b j (i + 1)) (if i = 0 then (j : Int) * 2 else E a b (j + 1) i)
        by_cases q : i = 0
        · rw [if_pos q] at q1 q2
          subst q
          rw [E_zero]
          omega
        · rw [if_neg q] at q1 q2
          omega
    omega
  | @db y X Y c h ih =>
    intro i j h1 h2 l1 l2
    obtain ⟨b1, b2, b3⟩ := drop_cons h2
    have := ih i (j + 1) h1 b3 l1 b1
    have q : E a b (j + 1) i ≤ E a b j i + 2 := by
      cases i with
      | zero => rw [E_zero, E_zero]; omega
      | succ i =>
        have q1 : E a b (j + 1) (i + 1) ≤ mi (E a b j (i + 1)) (if i = 0 then (j : Int) * 2 else E a b (j + 1) i) + 2 := mi_r _ _
        have q2 := mi_l (E a b j (i + 1)) (if i = 0 then (j : Int) * 2 else E a b (j + 1) i)
        omega
    omega
theorem Dst_ub {a b : List Nat} {c : Int} (h : Al a b c) : Dst a b ≤ c := by
  have := E_ub (a := a) (b := b) h 0 0 rfl rfl (Nat.zero_le _) (Nat.zero_le _)
  rw [E_zero] at this
  omega
theorem subC_comm (x y : Nat) : subC x y = subC y x := by
  unfold subC
  by_cases h : x = y
  · rw [if_pos h, if_pos h.symm]
  · rw [if_neg h, if_neg (Ne.symm h)]
    by_cases q : low x = low y
    · rw [if_pos q, if_pos q.symm]
    · rw [if_neg q, if_neg (Ne.symm q)]
theorem Al.symm {X Y c} (h : Al X Y c) : Al Y X c := by
  induction h with
  | nil => exact .nil
  | @sub x y X Y c h ih => rw [subC_comm]; exact .sub ih
  | da h ih => exact .db ih
  | db h ih => exact .da ih
/-- weights on the signs -/
theorem sum_take {f : Nat → Int} {l : List Nat} {i : Nat} (h : i < l.length) : ((l.take (i + 1)).map f).sum = ((l.take i).map f).sum + f (l.getD i 0) := by
  rw [List.take_succ, List.map_append, List.sum_append, List.getElem?_eq_getElem h, List.getD_eq_getElem?_getD, List.getElem?_eq_getElem h]
  simp
theorem mem_gd {l : List Nat} {i : Nat} (h : i < l.length) : l.getD i 0 ∈ l := by
  rw [List.getD_eq_getElem?_getD, List.getElem?_eq_getElem h]; exact List.getElem_mem h
theorem sum_le2 {f : Nat → Int} {l : List Nat} (h : ∀ x ∈ l, f x ≤ 2) : (l.map f).sum ≤ 2 * l.length := by
  induction l with
  | nil => simp
  | cons x l ih =>
    have h1 := h x (.head _)
    have h2 := ih fun y hy => h y (.tail _ hy)
    simp only [List.map_cons, List.sum_cons, List.length_cons]
    omega
theorem Dst_lb {a b : List Nat} {f g : Nat → Int} (hf : ∀ x ∈ a, f x ≤ 2) (hg : ∀ y ∈ b, g y ≤ 2) (hs : ∀ x ∈ a, ∀ y ∈ b, f x + g y ≤ subC y x) : (a.map f).sum + (b.map g).sum ≤ Dst a b := by
  have key := E_lb (a := a) (b := b) (L := fun j i => ((a.take i).map f).sum + ((b.take j).map g).sum)
    (fun i hi => by
      have := sum_le2 (f := f) (l := a.take i) fun x hx => hf x (List.mem_of_mem_take hx)
      rw [List.length_take, Nat.min_eq_left hi] at this
      simpa using this)
    (fun j hj => by
      have := sum_le2 (f := g) (l := b.take j) fun x hx => hg x (List.mem_of_mem_take hx)
      rw [List.length_take, Nat.min_eq_left hj] at this
      simpa using this)
    (fun j hj ha => by
      have := sum_le2 (f := g) (l := b.take j) fun x hx => hg x (List.mem_of_mem_take hx)
      rw [List.length_take, Nat.min_eq_left (by omega)] at this
      have h1 := sum_take (f := g) hj
      have h2 := sum_take (f := f) (i := 0) ha
      have h3 := hs _ (mem_gd ha) _ (mem_gd hj)
      have h4 := (subC_le (b.getD j 0) (a.getD 0 0)).1
      simp only [List.take_zero, List.map_nil, List.sum_nil, Nat.zero_add] at h2
      try dsimp only
      omega)
    (fun j i hj hi => by
      have h1 := sum_take (f := g) hj
      have h2 := sum_take (f := f) hi
      have h3 := hs _ (mem_gd hi) _ (mem_gd hj)
      try dsimp only
      omega)
    (fun j i hj hi => by
      have h2 := sum_take (f := f) hi
      have h3 := hf _ (mem_gd hi)
      try dsimp only
      omega)
    (fun j i hj hi => by
      have h2 := sum_take (f := g) hj
      have h3 := hg _ (mem_gd hj)
      try dsimp only
      omega) b.length (Nat.le_refl _) a.length (Nat.le_refl _)
  unfold Dst
  simpa using key
/-- what is stripped -/
theorem strip_ind {R : List Nat → List Nat → Prop} (hp : ∀ c X Y, R (c :: X) (c :: Y) → R X Y) (hr : ∀ X Y, R X Y → R X.reverse Y.reverse) {X Y : List Nat} (h : R X Y) : R (strip X Y).1 (strip X Y).2 := by
  have pre : ∀ X Y, R X Y → R (X.drop (lcp X Y)) (Y.drop (lcp X Y)) := by
    intro X
    induction X with
    | nil => intro Y h; simpa [lcp] using h
    | cons x X ih =>
      intro Y h
      cases Y with
      | nil => simpa [lcp] using h
      | cons y Y =>
        unfold lcp
        by_cases e : x = y
        · subst e
          rw [if_pos rfl]
          simp only [List.drop_succ_cons]
          exact ih Y (hp _ _ _ h)
        · rw [if_neg e]; simpa using h
  have suf : ∀ X Y, R X Y → R (X.take (X.length - lcp X.reverse Y.reverse)) (Y.take (Y.length - lcp X.reverse Y.reverse)) := by
    intro X Y h
    have := hr _ _ (pre _ _ (hr _ _ h))
    rw [List.drop_reverse, List.drop_reverse, List.reverse_reverse, List.reverse_reverse] at this
    exact this
  exact suf _ _ (pre _ _ h)
end Mine
end
section
open PySem PySem.W PyProof.Rows PySem.Calls PySem.Spec
namespace Mine
def pp (x : Nat) : Int := if 65 ≤ x ∧ x ≤ 90 then 1 else if 97 ≤ x ∧ x ≤ 122 then 0 else 2
def qq (y : Nat) : Int := if 97 ≤ y ∧ y ≤ 122 then 0 else 2
def okY (y : Nat) : Prop := (97 ≤ y ∧ y ≤ 122) ∨ (48 ≤ y ∧ y ≤ 57)
def Mt (x y : Nat) : Prop := x = y ∨ (x + 32 = y ∧ 97 ≤ y ∧ y ≤ 122)
inductive Emb : List Nat → List Nat → Prop
  | nil : Emb [] []
  | sub {x y X Y} : Mt x y → okY y → Emb X Y → Emb (x :: X) (y :: Y)
  | del {x X Y} : pp x = 2 → Emb X Y → Emb (x :: X) Y
def pot (X Y : List Nat) : Int := (X.map pp).sum - (Y.map qq).sum
theorem pp_small {y : Nat} (h : 97 ≤ y ∧ y ≤ 122) : pp y = 0 ∧ qq y = 0 ∧ low y = y := by
  unfold pp qq low
  rw [if_neg (by omega), if_pos h, if_neg (by omega)]
  exact ⟨rfl, rfl, rfl⟩
theorem pp_fig {y : Nat} (h : 48 ≤ y ∧ y ≤ 57) : pp y = 2 ∧ qq y = 2 ∧ low y = y := by
  unfold pp qq low
  rw [if_neg (by omega), if_neg (by omega), if_neg (by omega)]
  exact ⟨rfl, rfl, rfl⟩
theorem pp_up {y : Nat} (h : 65 ≤ y ∧ y ≤ 90) : pp y = 1 ∧ low y = y + 32 := by
  unfold pp low
  rw [if_pos h, if_pos h]
  exact ⟨rfl, rfl⟩
theorem mt_cost {x y : Nat} (h : Mt x y) (o : okY y) : (subC x y : Int) = pp x - qq y := by
  rcases h with h | h
  · subst h
    have e : subC x x = 0 := by unfold subC; rw [if_pos rfl]
    rw [e]
    rcases o with o | o
    · obtain ⟨a, b, _⟩ := pp_small o; rw [a, b]; rfl
    · obtain ⟨a, b, _⟩ := pp_fig o; rw [a, b]; rfl
  · obtain ⟨a, b, c⟩ := pp_small (y := y) ⟨h.2.1, h.2.2⟩
    obtain ⟨d, e⟩ := pp_up (y := x) (by omega)
    have : subC x y = 1 := by
      unfold subC
      rw [if_neg (by omega), if_pos (by rw [e, c]; exact h.1)]
    rw [this, d, b]; rfl
theorem pq_le {x y : Nat} (o : okY y) : pp x - qq y ≤ (subC x y : Int) := by
  unfold okY at o
  unfold subC pp qq low
  split <;> split <;> split <;> (try split) <;> (try split) <;> (try split) <;> (try split) <;> simp_all <;> omega
theorem pp_range (x : Nat) : 0 ≤ pp x ∧ pp x ≤ 2 := by unfold pp; split <;> (try split) <;> omega
theorem qq_range (x : Nat) : 0 ≤ qq x ∧ qq x ≤ 2 := by unfold qq; split <;> omega
theorem Emb.al {X Y} (h : Emb X Y) : Al X Y (pot X Y) := by
  induction h with
  | nil => exact .nil
  | @sub x y X Y m o h ih =>
    have := Al.sub (x := x) (y := y) ih
    rw [subC_comm, mt_cost m o] at this
    have e : pp x - qq y + pot X Y = pot (x :: X) (y :: Y) := by unfold pot; simp only [List.map_cons, List.sum_cons]; omega
    rw [e] at this
    exact this
  | @del x X Y p h ih =>
    have := Al.da (x := x) ih
    have e : 2 + pot X Y = pot (x :: X) Y := by unfold pot; simp only [List.map_cons, List.sum_cons]; omega
    rw [e] at this
    exact this
theorem Emb.okY {X Y} (h : Emb X Y) : ∀ y ∈ Y, okY y := by
  induction h with
  | nil => intro y h; cases h
  | sub m o h ih => intro z hz; exact (List.mem_cons.mp hz).elim (fun e => e ▸ o) (ih z)
  | del p h ih => exact ih
theorem Emb.len {X Y} (h : Emb X Y) : Y.length ≤ X.length ∧ ((X.length : Int) - Y.length) * 2 ≤ pot X Y := by
  induction h with
  | nil => exact ⟨Nat.le_refl _, by simp [pot]⟩
  | @sub x y X Y m o h ih =>
    refine ⟨by simpa using ih.1, ?_⟩
    have := (subC_le x y).2
    rw [mt_cost m o] at this
    have e : pp x - qq y + pot X Y = pot (x :: X) (y :: Y) := by unfold pot; simp only [List.map_cons, List.sum_cons]; omega
    have := ih.2
    simp only [List.length_cons]
    omega
  | @del x X Y p h ih =>
    refine ⟨by have := ih.1; simp only [List.length_cons]; omega, ?_⟩
    have e : 2 + pot X Y = pot (x :: X) Y := by unfold pot; simp only [List.map_cons, List.sum_cons]; omega
    have := ih.2
    simp only [List.length_cons]
    omega
theorem Emb.nil_right {X Y} (h : Emb X Y) : Y = [] → pot X Y = 2 * X.length := by
  induction h with
  | nil => intro _; simp [pot]
  | sub m o h ih => intro e; cases e
  | @del x X Y p h ih =>
    intro e
    have e1 : 2 + pot X Y = pot (x :: X) Y := by unfold pot; simp only [List.map_cons, List.sum_cons]; omega
    have := ih e
    simp only [List.length_cons]
    omega
theorem Emb.app {X Y X' Y'} (h : Emb X Y) (h' : Emb X' Y') : Emb (X ++ X') (Y ++ Y') := by
  induction h with
  | nil => exact h'
  | sub m o h ih => exact .sub m o ih
  | del p h ih => exact .del p ih
theorem Emb.rev {X Y} (h : Emb X Y) : Emb X.reverse Y.reverse := by
  induction h with
  | nil => exact .nil
  | sub m o h ih => rw [List.reverse_cons, List.reverse_cons]; exact ih.app (.sub m o .nil)
  | del p h ih =>
    rw [List.reverse_cons]
    have := ih.app (.del p .nil)
    rwa [List.append_nil] at this
theorem Emb.skip {c : Nat} (hc : pp c = 2) : ∀ {X Y}, Emb X (c :: Y) → Emb X Y
  | x :: X, Y, .sub m o h => by
    have : pp x = 2 := by
      rcases m with rfl | m
      · exact hc
      · unfold pp at hc; rw [if_neg (by omega), if_pos (by omega)] at hc; omega
    exact .del this h
  | x :: X, Y, .del p h => .del p (Emb.skip hc h)
theorem Emb.tail {c : Nat} {X Y} (h : Emb (c :: X) (c :: Y)) : Emb X Y := by
  cases h with
  | sub m o h => exact h
  | del p h => exact h.skip p
theorem okY_pq {y : Nat} (o : okY y) : pp y = qq y := by
  have := mt_cost (.inl rfl) o
  have e : subC y y = 0 := by unfold subC; rw [if_pos rfl]
  rw [e] at this
  simp at this
  omega
theorem sum_rev {f : Nat → Int} : ∀ l : List Nat, (l.reverse.map f).sum = (l.map f).sum
  | [] => rfl
  | x :: l => by rw [List.reverse_cons, List.map_append, List.sum_append, sum_rev l]; simp; omega
theorem lev_emb {X Y : List Nat} {mx : Int} (h : Emb X Y) (hm : pot X Y = mx ∨ pot X Y = mx + 1) : lev X Y mx = pot X Y ∧ lev Y X mx = pot X Y := by
  have st := strip_ind (R := fun A B => Emb A B ∧ pot A B = pot X Y) (fun c A B r => ⟨r.1.tail, by
      rw [← r.2]
      have o := r.1.okY c (.head _)
      have := okY_pq o
      unfold pot; simp only [List.map_cons, List.sum_cons]; omega⟩) (fun A B r => ⟨r.1.rev, by rw [← r.2]; unfold pot; rw [sum_rev, sum_rev]⟩) (X := X) (Y := Y) ⟨h, rfl⟩
  have hsym : (strip Y X).1 = (strip X Y).2 ∧ (strip Y X).2 = (strip X Y).1 := by
    have lc : ∀ A B : List Nat, lcp A B = lcp B A := by
      intro A
      induction A with
      | nil => intro B; cases B <;> rfl
      | cons x A ih =>
        intro B
        cases B with
        | nil => rfl
        | cons y B =>
          unfold lcp
          by_cases e : x = y
          · rw [if_pos e, if_pos e.symm, ih]
          · rw [if_neg e, if_neg (Ne.symm e)]
    unfold strip
    dsimp only
    rw [lc Y X, lc (Y.drop (lcp X Y)).reverse]
    exact ⟨rfl, rfl⟩
  obtain ⟨E', hp⟩ := st
  have hlen := E'.len
  have D1 : ∀ a b, ((a = (strip X Y).1 ∧ b = (strip X Y).2) ∨ (a = (strip X Y).2 ∧ b = (strip X Y).1)) → Dst a b = pot X Y := by
    rintro a b (⟨rfl, rfl⟩ | ⟨rfl, rfl⟩)
    · refine Int.le_antisymm (by rw [← hp]; exact Dst_ub E'.al) ?_
      have := Dst_lb (a := (strip X Y).1) (b := (strip X Y).2) (f := pp) (g := fun y => - qq y) (fun x _ => (pp_range x).2) (fun y _ => by have := (qq_range y).1; omega) (fun x hx y hy => by rw [subC_comm]; have := pq_le (x := x) (E'.okY y hy); omega)
      have e : (((strip X Y).2.map fun y => - qq y).sum) = - ((strip X Y).2.map qq).sum := by
        generalize (strip X Y).2 = l
        induction l with
        | nil => rfl
        | cons x l ih => simp only [List.map_cons, List.sum_cons, ih]; omega
      rw [e] at this
      rw [← hp]; unfold pot; omega
    · refine Int.le_antisymm (by rw [← hp]; exact Dst_ub E'.al.symm) ?_
      have := Dst_lb (a := (strip X Y).2) (b := (strip X Y).1) (f := fun y => - qq y) (g := pp) (fun y _ => by have := (qq_range y).1; omega) (fun x _ => (pp_range x).2) (fun y hy x hx => by have := pq_le (x := x) (E'.okY y hy); omega)
      have e : (((strip X Y).2.map fun y => - qq y).sum) = - ((strip X Y).2.map qq).sum := by
        generalize (strip X Y).2 = l
        induction l with
        | nil => rfl
        | cons x l ih => simp only [List.map_cons, List.sum_cons, ih]; omega
      rw [e] at this
      rw [← hp]; unfold pot; omega
  have zero : X = Y → pot X Y = 0 := by
    rintro rfl
    have := h.okY
    unfold pot
    have : (X.map pp) = (X.map qq) := List.map_congr_left fun x hx => okY_pq (this x hx)
    rw [this]; omega
  have emp : ((strip X Y).1 = [] ∨ (strip X Y).2 = []) → (2 * (((strip X Y).1.length : Int) + ((strip X Y).2.length : Int))) = pot X Y := by
    intro hh
    have h2 : (strip X Y).2 = [] := by
      rcases hh with q | q
      · have := hlen.1; rw [q] at this; exact List.length_eq_zero_iff.mp (by simpa using this)
      · exact q
    have := E'.nil_right h2
    rw [h2]
    simp only [List.length_nil]
    omega
  have tb : ∀ a b, ((a = (strip X Y).1 ∧ b = (strip X Y).2) ∨ (a = (strip X Y).2 ∧ b = (strip X Y).1)) → a ≠ [] → b ≠ [] → ((b.length : Int) - a.length) * 2 ≤ pot X Y → tab a b mx = pot X Y := by
    intro a b hab ha hb hl
    have := D1 a b hab
    rw [tab_eq ha hb, this]
    rcases hm with q | q
    · left; omega
    · right; omega
  constructor
  · unfold lev
    by_cases e : X = Y
    · rw [if_pos e, zero e]
    · rw [if_neg e]
      dsimp only
      by_cases q : (strip X Y).1 = [] ∨ (strip X Y).2 = []
      · rw [if_pos q]; exact emp q
      · rw [if_neg q]
        rw [not_or] at q
        split
        · exact tb _ _ (.inr ⟨rfl, rfl⟩) q.2 q.1 (by have := hlen.2; omega)
        · exact tb _ _ (.inl ⟨rfl, rfl⟩) q.1 q.2 (by have := hlen.1; have := hlen.2; omega)
  · unfold lev
    by_cases e : Y = X
    · rw [if_pos e, zero e.symm]
    · rw [if_neg e]
      dsimp only
      rw [hsym.1, hsym.2]
      by_cases q : (strip X Y).2 = [] ∨ (strip X Y).1 = []
      · rw [if_pos q]; have := emp q.symm; omega
      · rw [if_neg q]
        rw [not_or] at q
        split
        · have := hlen.1; omega
        · exact tb _ _ (.inr ⟨rfl, rfl⟩) q.1 q.2 (by have := hlen.2; omega)
end Mine
end
section
open PySem PySem.W PyProof.Rows PySem.Calls PySem.Spec
namespace Mine
/-- words with the same letters -/
inductive Sm : List Nat → List Nat → Nat → Prop
  | nil : Sm [] [] 0
  | cons {x y X Y n} : subC y x ≤ 1 → Sm X Y n → Sm (x :: X) (y :: Y) (subC y x + n)
theorem subC_self (x : Nat) : subC x x = 0 := by unfold subC; rw [if_pos rfl]
theorem Sm.len {X Y n} (h : Sm X Y n) : Y.length = X.length ∧ n ≤ X.length := by
  induction h with
  | nil => exact ⟨rfl, Nat.le_refl _⟩
  | cons c h ih => simp only [List.length_cons]; omega
theorem Sm.app {X Y n X' Y' n'} (h : Sm X Y n) (h' : Sm X' Y' n') : Sm (X ++ X') (Y ++ Y') (n + n') := by
  induction h with
  | nil => rw [Nat.zero_add]; exact h'
  | cons c h ih => rw [Nat.add_assoc]; exact .cons c ih
theorem Sm.rev {X Y n} (h : Sm X Y n) : Sm X.reverse Y.reverse n := by
  induction h with
  | nil => exact .nil
  | @cons x y X Y n c h ih =>
    rw [List.reverse_cons, List.reverse_cons]
    have := ih.app (.cons c .nil)
    rw [Nat.add_zero, Nat.add_comm] at this
    exact this
theorem Sm.tail {c : Nat} {X Y n} (h : Sm (c :: X) (c :: Y) n) : Sm X Y n := by
  cases h with
  | cons q h => rw [subC_self, Nat.zero_add]; exact h
theorem Sm.al {X Y n} (h : Sm X Y n) : Al X Y n := by
  induction h with
  | nil => exact .nil
  | cons c h ih => exact .sub ih
def dd (a b : List Nat) (i : Nat) : Int := ((List.range i).map fun k => (subC (b.getD k 0) (a.getD k 0) : Int)).sum
theorem dd_succ (a b : List Nat) (i : Nat) : dd a b (i + 1) = dd a b i + subC (b.getD i 0) (a.getD i 0) := by
  unfold dd
  rw [List.range_succ, List.map_append, List.sum_append]; simp
theorem dd_nn (a b : List Nat) : ∀ i, 0 ≤ dd a b i
  | 0 => by simp [dd]
  | i + 1 => by rw [dd_succ]; have := dd_nn a b i; have := (subC_le (b.getD i 0) (a.getD i 0)).2; omega
theorem dd_cons {x y : Nat} {X Y : List Nat} : ∀ i, dd (x :: X) (y :: Y) (i + 1) = subC y x + dd X Y i
  | 0 => by rw [dd_succ]; simp [dd]
  | i + 1 => by rw [dd_succ, dd_cons i, dd_succ]; simp; omega
theorem Sm.dd {X Y n} (h : Sm X Y n) : dd X Y X.length = n := by
  induction h with
  | nil => rfl
  | cons c h ih => rw [List.length_cons, dd_cons, ih]; simp
def LL (a b : List Nat) (j i : Nat) : Int := if i = j then (if dd a b i < 4 then dd a b i else 4) else if i < j then 2 * ((j : Int) - i) else 2 * ((i : Int) - j)
theorem Dst_sm {X Y n} (h : Sm X Y n) (l : X.length ≤ 4) : Dst X Y = n := by
  refine Int.le_antisymm (Dst_ub h.al) ?_
  have key := E_lb (a := X) (b := Y) (L := LL X Y)
    (fun i hi => by
      have h0 : dd X Y 0 = 0 := rfl
      unfold LL
      by_cases q : i = 0
      · subst q; rw [if_pos rfl, h0]; simp
      · rw [if_neg q, if_neg (by omega)]; omega)
    (fun j hj => by
      have h0 : dd X Y 0 = 0 := rfl
      unfold LL
      by_cases q : 0 = j
      · subst q; rw [if_pos rfl, h0]; simp
      · rw [if_neg q, if_pos (by omega)]; omega)
    (fun j hj ha => by
      have h1 : dd X Y 1 = dd X Y 0 + _ := dd_succ X Y 0
      have h0 : dd X Y 0 = 0 := rfl
      have h4 := (subC_le (Y.getD 0 0) (X.getD 0 0)).1
      unfold LL
      by_cases q : 1 = j + 1
      · obtain rfl : j = 0 := by omega
        rw [if_pos q]; split <;> omega
      · rw [if_neg q, if_pos (by omega)]; omega)
    (fun j i hj hi => by
      have h4 := (subC_le (Y.getD j 0) (X.getD i 0)).2
      unfold LL
      by_cases q : i = j
      · subst q
        have h1 := dd_succ X Y i
        rw [if_pos rfl, if_pos rfl]
        split <;> split <;> omega
      · rw [if_neg (by omega), if_neg q]
        split <;> split <;> omega)
    (fun j i hj hi => by
      have h5 := dd_nn X Y i
      unfold LL
      by_cases q : i = j
      · subst q
        rw [if_pos rfl, if_neg (show ¬ i = i + 1 by omega), if_pos (show i < i + 1 by omega)]
        split <;> omega
      · rw [if_neg (show ¬ i + 1 = j + 1 by omega)]
        by_cases q2 : i = j + 1
        · rw [if_pos q2]
          split <;> split <;> omega
        · rw [if_neg q2]
          split <;> split <;> omega)
    (fun j i hj hi => by
      have h5 := dd_nn X Y (i + 1)
      unfold LL
      by_cases q : i = j
      · subst q
        rw [if_pos rfl, if_neg (show ¬ i + 1 = i by omega), if_neg (show ¬ i + 1 < i by omega)]
        split <;> omega
      · rw [if_neg (show ¬ i + 1 = j + 1 by omega)]
        by_cases q2 : i + 1 = j
        · rw [if_pos q2]
          split <;> split <;> omega
        · rw [if_neg q2]
          split <;> split <;> omega)
    Y.length (Nat.le_refl _) X.length (Nat.le_refl _)
  have e1 := h.len
  unfold LL at key
  rw [if_pos e1.1.symm, h.dd] at key
  unfold Dst
  split at key <;> omega
theorem lev_sm {X Y : List Nat} {n : Nat} (h : Sm X Y n) (l : X.length ≤ 4) : lev X Y n = n := by
  obtain ⟨st, l4⟩ := strip_ind (R := fun A B => Sm A B n ∧ A.length ≤ 4) (fun c A B r => ⟨r.1.tail, by have := r.2; simp at this; omega⟩) (fun A B r => ⟨r.1.rev, by simpa using r.2⟩) (X := X) (Y := Y) ⟨h, l⟩
  have hl := st.len
  unfold lev
  by_cases e : X = Y
  · rw [if_pos e]
    subst e
    have : ∀ {X Y n}, Sm X Y n → X = Y → n = 0 := by
      intro X Y n h
      induction h with
      | nil => intro _; rfl
      | cons c h ih => intro e; injection e with e1 e2; subst e1; rw [subC_self, ih e2]
    rw [this h rfl]; rfl
  · rw [if_neg e]
    dsimp only
    by_cases q : (strip X Y).1 = [] ∨ (strip X Y).2 = []
    · rw [if_pos q]
      have : (strip X Y).1.length = 0 := by
        rcases q with q | q
        · rw [q]; rfl
        · have := congrArg List.length q
          simp only [List.length_nil] at this
          omega
      have h2 : (strip X Y).2.length = 0 := by omega
      rw [this, h2]
      omega
    · rw [if_neg q, if_neg (by omega)]
      rw [not_or] at q
      have d := Dst_sm st l4
      rw [tab_eq q.1 q.2 (.inl ⟨by omega, by omega⟩), d]
end Mine
end
section
open PySem PySem.W PyProof.Rows PySem.Calls PySem.Spec
namespace Mine
/-- small or great of the letter c -/
def Of (x c : Nat) : Prop := 97 ≤ c ∧ c ≤ 122 ∧ (x = c ∨ x + 32 = c)
theorem Of.range {x c} (h : Of x c) : (97 ≤ x ∧ x ≤ 122) ∨ (65 ≤ x ∧ x ≤ 90) := by obtain ⟨h1, h2, h⟩ := h; omega
theorem Of.low {x c} (h : Of x c) : low x = c := by
  obtain ⟨h1, h2, h | h⟩ := h
  · subst h; exact (pp_small ⟨h1, h2⟩).2.2
  · rw [(pp_up (y := x) (by omega)).2]; exact h
theorem Of.sub {x y c} (h : Of x c) (k : Of y c) : subC y x = if x ≠ y then 1 else 0 := by
  unfold subC
  by_cases e : y = x
  · rw [if_pos e, if_neg (by simp [e])]
  · rw [if_neg e, if_pos (by rw [h.low, k.low]), if_pos (Ne.symm e)]
theorem xor26 : ∀ k : Fin 26, ((33 + (k : Nat)) ^^^ (1 + (k : Nat))) = 32 ∧ ((1 + (k : Nat)) ^^^ (33 + (k : Nat))) = 32 := by decide +kernel
theorem Of.xor {x y c} (h : Of x c) (k : Of y c) : (x % 64) ^^^ (y % 64) = if x ≠ y then 32 else 0 := by
  by_cases e : x = y
  · subst e; rw [if_neg (by simp), Nat.xor_self]
  · rw [if_pos e]
    obtain ⟨h1, h2, h⟩ := h
    obtain ⟨_, _, k⟩ := k
    have q := xor26 ⟨c - 97, by omega⟩
    simp only at q
    rcases h with h | h
    · rcases k with k | k
      · omega
      · rw [show x % 64 = 33 + (c - 97) by omega, show y % 64 = 1 + (c - 97) by omega]; exact q.1
    · rcases k with k | k
      · rw [show x % 64 = 1 + (c - 97) by omega, show y % 64 = 33 + (c - 97) by omega]; exact q.2
      · omega
abbrev Tr := Nat × Nat × Nat
def patOf (u v : Tr → Nat) (ts : List Tr) : List Bool := ts.map fun t => decide (u t ≠ v t)
section
variable {u v : Tr → Nat} {ts : List Tr}
theorem num_xor : ∀ (ts : List Tr), (∀ t ∈ ts, Of (u t) t.2.2) → (∀ t ∈ ts, Of (v t) t.2.2) → ∀ x y : Nat, num (ts.map u) x ^^^ num (ts.map v) y = pnum (patOf u v ts) (x ^^^ y)
  | [], _, _, x, y => rfl
  | t :: ts, hu, hv, x, y => by
    show num (ts.map u) (x * 64 + u t % 64) ^^^ num (ts.map v) (y * 64 + v t % 64) = pnum (patOf u v ts) ((x ^^^ y) * 64 + if decide (u t ≠ v t) = true then 32 else 0)
    rw [num_xor ts (fun s h => hu s (.tail _ h)) (fun s h => hv s (.tail _ h)), xor_dig (Nat.mod_lt _ (by decide)) (Nat.mod_lt _ (by decide)), (hu t (.head _)).xor (hv t (.head _))]
    simp only [decide_eq_true_eq]
theorem Sm.of : ∀ (ts : List Tr), (∀ t ∈ ts, Of (u t) t.2.2) → (∀ t ∈ ts, Of (v t) t.2.2) → Sm (ts.map u) (ts.map v) ((patOf u v ts).filter id).length
  | [], _, _ => .nil
  | t :: ts, hu, hv => by
    have ih := Sm.of ts (fun s h => hu s (.tail _ h)) (fun s h => hv s (.tail _ h))
    have e := (hu t (.head _)).sub (hv t (.head _))
    have := Sm.cons (x := u t) (y := v t) (by rw [e]; split <;> omega) ih
    have e2 : subC (v t) (u t) + ((patOf u v ts).filter id).length = ((patOf u v (t :: ts)).filter id).length := by
      rw [e]
      unfold patOf
      rw [List.map_cons, List.filter_cons]
      by_cases q : u t = v t
      · rw [if_neg (by simp [q]), if_neg (by simp [q])]; omega
      · rw [if_pos q, if_pos (by simp [q]), List.length_cons]; omega
    rw [e2] at this
    exact this
theorem rev_getD {α : Type} {l : List α} {d : α} {i : Nat} (h : i < l.length) : l.reverse.getD i d = l.getD (l.length - 1 - i) d := by
  rw [List.getD_eq_getElem?_getD, List.getD_eq_getElem?_getD, List.getElem?_reverse h]
theorem bits_pat : bitsW (ts.map u) (ts.map v) = pW (patOf u v ts) := by
  unfold bitsW bitsI pW patOf
  congr 1
  rw [List.length_map, List.length_map]
  apply List.filter_congr
  intro i hi
  have hi := List.mem_range.mp hi
  rw [rev_getD (by simpa using hi), rev_getD (by simpa using hi), rev_getD (by simpa using hi)]
  simp only [List.length_map, List.getD_eq_getElem?_getD, List.getElem?_map]
  rw [List.getElem?_eq_getElem (by omega)]
  simp
set_option maxRecDepth 100000 in
theorem pat_len : ∀ n : Fin 5, ∀ pat ∈ pats n, (pW pat).length = (pat.filter id).length := by decide +kernel
theorem okC_of {x c} (h : Of x c) : OkC x := .inl (by have := h.range; omega)
theorem pair_of (l : ts.length ≤ 4) (hu : ∀ t ∈ ts, Of (u t) t.2.2) (hv : ∀ t ∈ ts, Of (v t) t.2.2) {f : Nat} :
    PairOk (ts.map u) (ts.map v) (num (ts.map u ++ [f]) 0) (num (ts.map v ++ [f]) 0) := by
  have lp : (patOf u v ts).length = ts.length := by unfold patOf; simp
  have mp : patOf u v ts ∈ pats (⟨ts.length, by omega⟩ : Fin 5) := by
    have := mem_pats (patOf u v ts)
    rw [lp] at this
    exact this
  have pf := pat_facts _ _ mp
  have pl := pat_len _ _ mp
  have sm := Sm.of (u := u) (v := v) ts hu hv
  refine ⟨by simp, by simpa using l, ⟨by simp; omega, fun c hc => ?_⟩, ⟨by simp; omega, fun c hc => ?_⟩, ⟨_, pf.1, ?_, ?_⟩, ?_⟩
  · obtain ⟨t, ht, rfl⟩ := List.mem_map.mp hc; exact okC_of (hu t ht)
  · obtain ⟨t, ht, rfl⟩ := List.mem_map.mp hc; exact okC_of (hv t ht)
  · rw [num_snoc, num_snoc, bitXor_nn, xor_dig (Nat.mod_lt _ (by decide)) (Nat.mod_lt _ (by decide)), num_xor ts hu hv, Nat.xor_self, Nat.xor_self]
    rfl
  · rw [bits_pat]; exact pf.2
  · rw [bits_pat, pl]
    exact lev_sm sm (by simpa using l)
end
theorem okT_of {t : Tr} (h : okT t) : Of t.1 t.2.2 ∧ Of t.2.1 t.2.2 ∧ Of t.2.2 t.2.2 := ⟨⟨h.1, h.2.1, h.2.2.1⟩, ⟨h.1, h.2.1, h.2.2.2⟩, ⟨h.1, h.2.1, .inl rfl⟩⟩
theorem word_ok {p : Pc} (h : p.Ok) : WordOk p := by
  have hf := h.fig
  have d : ∀ u : Tr → Nat, (∀ t ∈ p.ts, Of (u t) t.2.2) → Digs (p.ts.map u ++ [p.fig]) := fun u hu =>
    digs_of (fun c hc => by obtain ⟨t, ht, rfl⟩ := List.mem_map.mp hc; have := (hu t ht).range; omega) (by omega)
  have h1 : ∀ t ∈ p.ts, Of t.1 t.2.2 := fun t ht => (okT_of (h.ts t ht)).1
  have h2 : ∀ t ∈ p.ts, Of t.2.1 t.2.2 := fun t ht => (okT_of (h.ts t ht)).2.1
  have h3 : ∀ t ∈ p.ts, Of t.2.2 t.2.2 := fun t ht => (okT_of (h.ts t ht)).2.2
  exact ⟨d _ h1, d _ h2, d _ h3, num_law _, num_law _, num_law _, pair_of (u := fun t => t.1) (v := fun t => t.2.1) h.len h1 h2, pair_of (u := fun t => t.1) (v := fun t => t.2.2) h.len h1 h3, pair_of (u := fun t => t.2.2) (v := fun t => t.2.1) h.len h3 h2⟩
end Mine
end
section
open PySem PySem.W PyProof.Rows PySem.Calls PySem.Spec
namespace Mine
theorem b1_big : ∀ b ∈ b1, 173 ≤ b := by decide
theorem pot_app {X Y X' Y' : List Nat} : pot (X ++ X') (Y ++ Y') = pot X Y + pot X' Y' := by
  unfold pot; simp only [List.map_append, List.sum_append]; omega
theorem del_all : ∀ {l : List Nat}, (∀ c ∈ l, pp c = 2) → Emb l [] ∧ pot l [] = 2 * l.length
  | [], _ => ⟨.nil, by simp [pot]⟩
  | c :: l, h => by
    obtain ⟨h1, h2⟩ := del_all (l := l) fun c hc => h c (.tail _ hc)
    have := h c (.head _)
    refine ⟨.del this h1, ?_⟩
    unfold pot at *
    simp only [List.map_cons, List.sum_cons, List.length_cons] at *
    omega
theorem letters_emb : ∀ {ts : List Tr}, (∀ t ∈ ts, okT t) → Emb (ts.map (·.1)) (ts.map (·.2.2)) ∧ pot (ts.map (·.1)) (ts.map (·.2.2)) = ((patOf (·.1) (·.2.2) ts).filter id).length
  | [], _ => ⟨.nil, rfl⟩
  | t :: ts, h => by
    obtain ⟨h1, h2⟩ := letters_emb (ts := ts) fun c hc => h c (.tail _ hc)
    obtain ⟨o1, _, o3⟩ := okT_of (h t (.head _))
    have m : Mt t.1 t.2.2 := by
      rcases o1.2.2 with e | e
      · exact .inl e
      · exact .inr ⟨e, o1.1, o1.2.1⟩
    have ok : okY t.2.2 := .inl ⟨o1.1, o1.2.1⟩
    refine ⟨.sub m ok h1, ?_⟩
    have c := mt_cost m ok
    rw [subC_comm, o1.sub o3] at c
    have e : pot ((t :: ts).map (·.1)) ((t :: ts).map (·.2.2)) = (pp t.1 - qq t.2.2) + pot (ts.map (·.1)) (ts.map (·.2.2)) := by
      unfold pot; simp only [List.map_cons, List.sum_cons]; omega
    rw [e, h2, ← c]
    unfold patOf
    rw [List.map_cons, List.filter_cons]
    by_cases q : t.1 = t.2.2
    · rw [if_neg (by simp [q]), if_neg (by simp [q])]; simp
    · rw [if_pos q, if_pos (by simp [q]), List.length_cons]; simp; omega
theorem rm_chars {p : Pc} (h : p.Ok) : ∀ c ∈ p.rm, c = 34 ∨ c = 92 ∨ c = p.fig := by
  intro c hc
  rcases h.rm with e | e | e <;> rw [e] at hc <;> simp at hc <;> omega
theorem un_chars {p : Pc} (h : p.Ok) : ∀ c ∈ p.un, c ∈ b1 := by
  intro c hc
  rcases h.un with e | ⟨u, hu, e⟩
  · rw [e] at hc; cases hc
  · rw [e] at hc; rw [List.mem_singleton.mp hc]; exact hu
theorem first_chars {p : Pc} (h : p.Ok) : ∀ c ∈ p.first, (97 ≤ c ∧ c ≤ 122) ∨ (65 ≤ c ∧ c ≤ 90) := by
  intro c hc
  obtain ⟨t, ht, rfl⟩ := List.mem_map.mp hc
  exact (okT_of (h.ts t ht)).1.range
theorem small_chars {p : Pc} (h : p.Ok) : ∀ c ∈ p.small, 97 ≤ c ∧ c ≤ 122 := by
  intro c hc
  obtain ⟨t, ht, rfl⟩ := List.mem_map.mp hc
  exact ⟨(h.ts t ht).1, (h.ts t ht).2.1⟩
theorem pp_two {c : Nat} (h : ¬ (65 ≤ c ∧ c ≤ 90)) (k : ¬ (97 ≤ c ∧ c ≤ 122)) : pp c = 2 := by
  unfold pp; rw [if_neg h, if_neg k]
theorem piece_emb {p : Pc} (h : p.Ok) : Emb (gBuilt p) (gFold p) ∧ pot (gBuilt p) (gFold p) = dueOf p := by
  have hf := h.fig
  obtain ⟨a1, a2⟩ := letters_emb (ts := p.ts) h.ts
  obtain ⟨b1', b2⟩ := del_all (l := p.un) fun c hc => by have := b1_big c (un_chars h c hc); exact pp_two (by omega) (by omega)
  obtain ⟨c1, c2⟩ := del_all (l := p.rm) fun c hc => by have := rm_chars h c hc; exact pp_two (by omega) (by omega)
  have f1 : Emb [p.fig] [p.fig] := .sub (.inl rfl) (.inr hf) .nil
  have f2 : pot [p.fig] [p.fig] = 0 := by
    have := pp_fig hf
    unfold pot; simp [this.1, this.2.1]
  have e := ((a1.app b1').app f1).app c1
  have lp : (patOf (·.1) (·.2.2) p.ts).length = p.ts.length := by unfold patOf; simp
  have mp : patOf (·.1) (·.2.2) p.ts ∈ pats (⟨p.ts.length, by have := h.len; omega⟩ : Fin 5) := by
    have := mem_pats (patOf (·.1) (·.2.2) p.ts)
    rw [lp] at this
    exact this
  have pl := pat_len _ _ mp
  have bp : bitsW p.first p.small = pW (patOf (·.1) (·.2.2) p.ts) := bits_pat
  simp only [List.append_nil] at e
  refine ⟨e, ?_⟩
  have q' : pot (gBuilt p) (gFold p) = pot p.first p.small + pot p.un [] + pot [p.fig] [p.fig] + pot p.rm [] := by
    have e1 := pot_app (X := p.first ++ p.un ++ [p.fig]) (Y := p.small ++ [p.fig]) (X' := p.rm) (Y' := [])
    have e2 := pot_app (X := p.first ++ p.un) (Y := p.small) (X' := [p.fig]) (Y' := [p.fig])
    have e3 := pot_app (X := p.first) (Y := p.small) (X' := p.un) (Y' := [])
    rw [List.append_nil] at e1 e3
    unfold gBuilt gFold
    omega
  rw [q', a2, b2, c2, f2]
  unfold dueOf
  rw [bp, pl]
  omega
theorem wd_of {p : Pc} (h : p.Ok) : Wd (gShorn p) := by
  have hf := h.fig
  refine ⟨by unfold gShorn; simp, fun c hc => ?_⟩
  unfold gShorn at hc
  simp only [List.mem_append, List.mem_singleton] at hc
  rcases hc with (hc | hc) | hc
  · have := first_chars h c hc; omega
  · have := b1_big c (un_chars h c hc); omega
  · omega
theorem rm_of {p : Pc} (h : p.Ok) : p.rm = [] ∨ RmOk p.rm := by
  have hf := h.fig
  rcases h.rm with e | e | e
  · exact .inl e
  · exact .inr (.inl e)
  · exact .inr (.inr ⟨p.fig, by omega, by omega, e⟩)
theorem not_b1 {c : Nat} (h : c < 128) : c ∉ b1 := fun hm => by have := b1_big c hm; omega
theorem unb_piece {p : Pc} (h : p.Ok) : unb (gShorn p) = gBare p := by
  have hf := h.fig
  unfold unb gShorn gBare
  rw [List.filter_append, List.filter_append]
  rw [List.filter_eq_self.mpr (fun c hc => by have := first_chars h c hc; simpa using not_b1 (by omega)), List.filter_eq_nil_iff.mpr (fun c hc => by simpa using un_chars h c hc), List.filter_eq_self.mpr (fun c hc => by rw [List.mem_singleton.mp hc]; simpa using not_b1 (by omega))]
  simp
theorem low_piece {p : Pc} (h : p.Ok) : (gBare p).map low = gFold p := by
  have hf := h.fig
  unfold gBare gFold
  rw [List.map_append, List.map_map]
  congr 1
  · exact List.map_congr_left fun t ht => (okT_of (h.ts t ht)).1.low
  · rw [List.map_cons, (pp_fig hf).2.2]; rfl
theorem plain_law (ps : List (Pc × Addr × Addr)) (hn : ps.length = 2) (h : ∀ p ∈ ps, p.1.Ok) : Plain ps := by
  obtain ⟨⟨p, a1, a2⟩, ⟨q, b1', b2'⟩, rfl⟩ : ∃ x y, ps = [x, y] := by
    match ps, hn with
    | [x, y], _ => exact ⟨x, y, rfl⟩
  have hp : p.Ok := h _ (.head _)
  have hq : q.Ok := h _ (.tail _ (.head _))
  have cat2 : ∀ g : Pc → List Nat, cat g [(p, a1, a2), (q, b1', b2')] = g p ++ g q := fun g => by unfold cat; simp [jn]
  have due2 : dueN [(p, a1, a2), (q, b1', b2')] 2 = dueOf p + dueOf q := by unfold dueN; simp
  have st := shorn_two (wd_of hp) (wd_of hq) (rm_of hp) (rm_of hq)
  have bt : ∀ r : Pc, gBuilt r = gShorn r ++ r.rm := fun r => rfl
  have fp := hp.fig
  have fq := hq.fig
  have okp : ∀ r : Pc, r.Ok → ∀ c ∈ gBuilt r, OkC c := fun r hr c hc => by
    have hf := hr.fig
    unfold gBuilt at hc
    simp only [List.mem_append, List.mem_singleton] at hc
    rcases hc with ((hc | hc) | hc) | hc
    · have := first_chars hr c hc; exact .inl (by omega)
    · exact .inr (un_chars hr c hc)
    · exact .inl (by omega)
    · have := rm_chars hr c hc; exact .inl (by omega)
  have okf : ∀ r : Pc, r.Ok → ∀ c ∈ gFold r, OkC c := fun r hr c hc => by
    have hf := hr.fig
    unfold gFold at hc
    simp only [List.mem_append, List.mem_singleton] at hc
    rcases hc with hc | hc
    · have := small_chars hr c hc; exact .inl (by omega)
    · exact .inl (by omega)
  have bare : ∀ r : Pc, r.Ok → ∀ c ∈ gBare r, c < 128 := fun r hr c hc => by
    have hf := hr.fig
    unfold gBare at hc
    simp only [List.mem_append, List.mem_singleton] at hc
    rcases hc with hc | hc
    · have := first_chars hr c hc; omega
    · omega
  obtain ⟨ep, dp⟩ := piece_emb hp
  obtain ⟨eq', dq⟩ := piece_emb hq
  have em := ep.app eq'
  have pt : pot (gBuilt p ++ gBuilt q) (gFold p ++ gFold q) = ((dueOf p + dueOf q : Nat) : Int) := by rw [pot_app, dp, dq]; omega
  constructor
  · rw [cat2, bt, bt]; exact st.2
  · rw [cat2, cat2, bt, bt]; exact st.1
  · rw [cat2, cat2]
    unfold unb
    rw [List.filter_append]
    have := unb_piece hp
    have := unb_piece hq
    unfold unb at *
    simp_all
  · rw [cat2, cat2, List.map_append, low_piece hp, low_piece hq]
  · rw [cat2]
    intro c hc
    rcases List.mem_append.mp hc with hc | hc
    · exact bare p hp c hc
    · exact bare q hq c hc
  · intro r hr
    exact word_ok (h r hr)
  · rw [cat2]
    refine ⟨by have := gBuilt_len hp; have := gBuilt_len hq; rw [List.length_append]; omega, fun c hc => ?_⟩
    rcases List.mem_append.mp hc with hc | hc
    · exact okp p hp c hc
    · exact okp q hq c hc
  · rw [cat2]
    refine ⟨by have := gFold_len hp; have := gFold_len hq; rw [List.length_append]; omega, fun c hc => ?_⟩
    rcases List.mem_append.mp hc with hc | hc
    · exact okf p hp c hc
    · exact okf q hq c hc
  · rw [cat2, cat2]
    show lev _ _ ((dueN _ 2 : Nat) : Int) = ((dueN _ 2 : Nat) : Int)
    rw [due2]
    exact ((lev_emb em (.inl pt)).1).trans pt
  · rw [cat2, cat2]
    show lev _ _ (((dueN _ 2 : Nat) : Int) - 1) = ((dueN _ 2 : Nat) : Int)
    rw [due2]
    exact ((lev_emb em (.inr (by rw [pt]; omega))).2).trans pt
end Mine
end
section
open PySem PySem.W PyProof.Rows PySem.Calls PySem.Spec
set_option maxRecDepth 100000
namespace Mine
noncomputable section
def dPar (i : Nat) : Arguments := match fnRec i with | some (_, a, _, _) => a | _ => default
def dBod (i : Nat) : List Stmt := match fnRec i with | some (_, _, b, _) => b | _ => []
def dSco (i : Nat) : Scope := match fnRec i with | some (_, _, _, sc) => sc | _ => default
def fnD (i : Nat) (pm cd doc : Value) : FuncData := match fnRec i with | some (n, a, b, sc) => docDef n a b sc pm cd doc | _ => default
def kE (P : Params) (x : String) (t : Tok) (v : Value) : DictEntry := DictEntry.mk (PyData.keyHash P (Str.ofString x)) (.str (Str.ofString x) t) v
def b3st : List (Option PySem.Expr × PySem.Expr) := match PW.main.body[10]? with | some (PySem.Stmt.Assign _ (PySem.Expr.Dict ks vs _) _) => ks.zip vs | _ => []
def kvOf : Option PySem.Expr × PySem.Expr → Int × PySem.Str | (some (.Constant (.int i) _ _), .Constant (.str s) _ _) => (i, s) | _ => (0, default)
def b3kv : List (Int × PySem.Str) := b3st.map kvOf
def mkE (t : Nat) : List (Int × PySem.Str) → List DictEntry
  | [] => []
  | p :: r => ⟨p.1, .int p.1 t, .str p.2 (t + 1)⟩ :: mkE (t + 3) r
def mkL (t : Nat) : List (Int × PySem.Str) → List DictEntry
  | [] => []
  | p :: r => ⟨p.1, .int p.1 t, .str p.2 (t + 1)⟩ :: mkL (t + 2) r
def b3ch (k : Nat) : List DictEntry := if k < 38 then mkE (332 + 51 * k) ((b3kv.drop (17 * k)).take 17) else mkL (332 + 51 * 38) (b3kv.drop 646)
def dObj (es : List DictEntry) (n : Nat) : Obj := ⟨.type "dict", none, .dict es.toArray n, #[]⟩
def b3o (k : Nat) (P : Params) : Obj := match k with
  | 0 => dObj ((List.range 39).flatMap b3ch) 650
  | k + 1 => dObj (b3ch (k + 1)) (if k + 1 < 38 then 17 else 4)
def o_a_11 (P : Params) : Obj := (Obj.mk (Value.type "tuple") (@Option.none Nat) (Data.seq #[] 0) #[])
def o_a_12 (P : Params) : Obj := (Obj.mk Value.none (@Option.none Nat) (Data.fields #[]) #[])
def o_a_13 (P : Params) : Obj := (Obj.mk (Value.type "code") (@Option.none Nat) (Data.fields #[(Value.str (Str.ofString "<module>") 182), (Value.str (Str.ofString "<module>") 183), (Value.str (Str.ofString "/claim/cut.py") 184), (Value.int (1 : Int) 0), (Value.int (0 : Int) 0), (Value.int (0 : Int) 0), (Value.int (0 : Int) 0), (Value.int (0 : Int) 0), (Value.ref 11), (Value.bool Bool.false), (Value.int (181 : Int) 0), (Value.ref 12), Value.none, Value.none, Value.none, Value.none, (Value.int (185 : Int) 0), (Value.int (1 : Int) 0), (Value.str (Str.ofString "/claim/cut.py") 186)]) #[])
def o_a_14 (P : Params) : Obj := (Obj.mk (Value.type "frame") (@Option.none Nat) Data.plain #[(@Option.some Value (Value.ref 13)), (@Option.some Value (Value.ref 3)), (@Option.some Value (Value.ref 3)), (@Option.none Value), (@Option.some Value (Value.str (Str.ofString "__main__") 164)), (@Option.none Value), (@Option.some Value (Value.ref 0))])
def tree_a (P : Params) : BT := (.node (boot_o_0 P) (.node (boot_o_1 P) (.node (boot_o_3 P) (.node (boot_o_7 P) .nil .nil) (.node (o_a_11 P) .nil .nil)) (.node (boot_o_5 P) (.node (boot_o_9 P) .nil .nil) (.node (o_a_13 P) .nil .nil))) (.node (boot_o_2 P) (.node (boot_o_4 P) (.node (boot_o_8 P) .nil .nil) (.node (o_a_12 P) .nil .nil)) (.node (boot_o_6 P) (.node (boot_o_10 P) .nil .nil) (.node (o_a_14 P) .nil .nil))))
def objs_a (P : Params) : List Obj := [boot_o_0 P, boot_o_1 P, boot_o_2 P, boot_o_3 P, boot_o_4 P, boot_o_5 P, boot_o_6 P, boot_o_7 P, boot_o_8 P, boot_o_9 P, boot_o_10 P, o_a_11 P, o_a_12 P, o_a_13 P, o_a_14 P]
def tree_b (P : Params) : BT := (.node (boot_o_0 P) (.node (boot_o_1 P) (.node (boot_o_3 P) (.node (boot_o_7 P) .nil .nil) (.node (o_a_11 P) .nil .nil)) (.node (boot_o_5 P) (.node (boot_o_9 P) .nil .nil) (.node (o_a_13 P) .nil .nil))) (.node (boot_o_2 P) (.node (boot_o_4 P) (.node (boot_o_8 P) .nil .nil) (.node (o_a_12 P) .nil .nil)) (.node (boot_o_6 P) (.node (boot_o_10 P) .nil .nil) (.node (o_a_14 P) .nil .nil))))
def objs_b (P : Params) : List Obj := [boot_o_0 P, boot_o_1 P, boot_o_2 P, boot_o_3 P, boot_o_4 P, boot_o_5 P, boot_o_6 P, boot_o_7 P, boot_o_8 P, boot_o_9 P, boot_o_10 P, o_a_11 P, o_a_12 P, o_a_13 P, o_a_14 P]
def o_0_3 (P : Params) : Obj := (Obj.mk (Value.type "dict") (@Option.none Nat) (Data.dict #[kE P "__name__" 165 (Value.str (Str.ofString "cpy313.dis") 187), kE P "__doc__" 166 Value.none, kE P "__package__" 167 Value.none, kE P "__loader__" 168 (Value.builtin "__main__.__loader__#opaque"), kE P "__spec__" 169 Value.none, kE P "__annotations__" 170 (Value.ref 6), kE P "__builtins__" 171 (Value.ref 4), kE P "__file__" 173 (Value.str (Str.ofString "/claim/cut.py") 172), kE P "__cached__" 174 Value.none] 9) #[])
def tree_0 (P : Params) : BT := (.node (boot_o_0 P) (.node (boot_o_1 P) (.node (o_0_3 P) (.node (boot_o_7 P) .nil .nil) (.node (o_a_11 P) .nil .nil)) (.node (boot_o_5 P) (.node (boot_o_9 P) .nil .nil) (.node (o_a_13 P) .nil .nil))) (.node (boot_o_2 P) (.node (boot_o_4 P) (.node (boot_o_8 P) .nil .nil) (.node (o_a_12 P) .nil .nil)) (.node (boot_o_6 P) (.node (boot_o_10 P) .nil .nil) (.node (o_a_14 P) .nil .nil))))
def objs_0 (P : Params) : List Obj := [boot_o_0 P, boot_o_1 P, boot_o_2 P, o_0_3 P, boot_o_4 P, boot_o_5 P, boot_o_6 P, boot_o_7 P, boot_o_8 P, boot_o_9 P, boot_o_10 P, o_a_11 P, o_a_12 P, o_a_13 P, o_a_14 P]
def o_1_3 (P : Params) : Obj := (Obj.mk (Value.type "dict") (@Option.none Nat) (Data.dict #[kE P "__name__" 165 (Value.str (Str.ofString "cpy313.dis") 187), kE P "__doc__" 166 Value.none, kE P "__package__" 167 Value.none, kE P "__loader__" 168 (Value.builtin "__main__.__loader__#opaque"), kE P "__spec__" 169 Value.none, kE P "__annotations__" 170 (Value.ref 6), kE P "__builtins__" 171 (Value.ref 4), kE P "__file__" 173 (Value.str (Str.ofString "/claim/cut.py") 172), kE P "__cached__" 174 Value.none, kE P "COMPILER_FLAG_NAMES" 219 (Value.ref 15)] 10) #[])
def o_1_15 (P : Params) : Obj := (Obj.mk (Value.type "dict") (@Option.none Nat) (Data.dict #[(@DictEntry.mk (1 : Int) (Value.int (1 : Int) 189) (Value.str (Str.ofString "OPTIMIZED") 190)), (@DictEntry.mk (2 : Int) (Value.int (2 : Int) 191) (Value.str (Str.ofString "NEWLOCALS") 192)), (@DictEntry.mk (4 : Int) (Value.int (4 : Int) 193) (Value.str (Str.ofString "VARARGS") 194)), (@DictEntry.mk (8 : Int) (Value.int (8 : Int) 195) (Value.str (Str.ofString "VARKEYWORDS") 196)), (@DictEntry.mk (16 : Int) (Value.int (16 : Int) 197) (Value.str (Str.ofString "NESTED") 198)), (@DictEntry.mk (32 : Int) (Value.int (32 : Int) 199) (Value.str (Str.ofString "GENERATOR") 200)), (@DictEntry.mk (64 : Int) (Value.int (64 : Int) 201) (Value.str (Str.ofString "NOFREE") 202)), (@DictEntry.mk (128 : Int) (Value.int (128 : Int) 203) (Value.str (Str.ofString "COROUTINE") 204)), (@DictEntry.mk (256 : Int) (Value.int (256 : Int) 205) (Value.str (Str.ofString "ITERABLE_COROUTINE") 206)), (@DictEntry.mk (512 : Int) (Value.int (512 : Int) 207) (Value.str (Str.ofString "ASYNC_GENERATOR") 208))] 10) #[])
def tree_1 (P : Params) : BT := (.node (boot_o_0 P) (.node (boot_o_1 P) (.node (o_1_3 P) (.node (boot_o_7 P) (.node (o_1_15 P) .nil .nil) .nil) (.node (o_a_11 P) .nil .nil)) (.node (boot_o_5 P) (.node (boot_o_9 P) .nil .nil) (.node (o_a_13 P) .nil .nil))) (.node (boot_o_2 P) (.node (boot_o_4 P) (.node (boot_o_8 P) .nil .nil) (.node (o_a_12 P) .nil .nil)) (.node (boot_o_6 P) (.node (boot_o_10 P) .nil .nil) (.node (o_a_14 P) .nil .nil))))
def objs_1 (P : Params) : List Obj := [boot_o_0 P, boot_o_1 P, boot_o_2 P, o_1_3 P, boot_o_4 P, boot_o_5 P, boot_o_6 P, boot_o_7 P, boot_o_8 P, boot_o_9 P, boot_o_10 P, o_a_11 P, o_a_12 P, o_a_13 P, o_a_14 P, o_1_15 P]
def o_7_3 (P : Params) : Obj := (Obj.mk (Value.type "dict") (@Option.none Nat) (Data.dict #[kE P "__name__" 165 (Value.str (Str.ofString "cpy313.stringprep") 263), kE P "__doc__" 166 Value.none, kE P "__package__" 167 Value.none, kE P "__loader__" 168 (Value.builtin "__main__.__loader__#opaque"), kE P "__spec__" 169 Value.none, kE P "__annotations__" 170 (Value.ref 6), kE P "__builtins__" 171 (Value.ref 4), kE P "__file__" 173 (Value.str (Str.ofString "/claim/cut.py") 172), kE P "__cached__" 174 Value.none, kE P "COMPILER_FLAG_NAMES" 219 (Value.ref 15), kE P "pretty_flags" 229 (Value.ref 22), kE P "_parse_varint" 238 (Value.ref 29), kE P "_iter_escaped_chars" 250 (Value.ref 36), kE P "_strip_quoted_realnames" 262 (Value.ref 43)] 14) #[])
def o_7_12 (P : Params) : Obj := (Obj.mk Value.none (@Option.none Nat) (Data.fields #[(Value.int (3 : Int) 0), (Value.int (0 : Int) 0), (Value.ref 21), (Value.int (15 : Int) 0), (Value.int (0 : Int) 0), (Value.ref 28), (Value.int (24 : Int) 0), (Value.int (0 : Int) 0), (Value.ref 35), (Value.int (37 : Int) 0), (Value.int (0 : Int) 0), (Value.ref 42)]) #[])
def o_7_16 (P : Params) : Obj := (Obj.mk (Value.type "tuple") (@Option.none Nat) (Data.seq #[] 0) #[])
def o_7_17 (P : Params) : Obj := (Obj.mk Value.none (@Option.none Nat) (Data.fields #[]) #[])
def o_7_18 (P : Params) : Obj := (Obj.mk (Value.type "tuple") (@Option.none Nat) (Data.seq #[(Value.str (Str.ofString "flags") 223), (Value.str (Str.ofString "names") 224), (Value.str (Str.ofString "i") 225), (Value.str (Str.ofString "flag") 226)] 0) #[])
def o_7_19 (P : Params) : Obj := (Obj.mk (Value.type "tuple") (@Option.none Nat) (Data.seq #[] 0) #[])
def o_7_20 (P : Params) : Obj := (Obj.mk Value.none (@Option.none Nat) (Data.func (@FuncData.mk (Str.ofString "pretty_flags") (Str.ofString "pretty_flags") (dPar 2) (FuncBody.stmts (dBod 2)) (dSco 2) 0 [] Value.none Value.none Value.none Value.none (@Option.none Nat) Value.none Value.none 0)) #[])
def o_7_21 (P : Params) : Obj := (Obj.mk (Value.type "code") (@Option.none Nat) (Data.fields #[(Value.str (Str.ofString "pretty_flags") 220), (Value.str (Str.ofString "pretty_flags") 221), (Value.str (Str.ofString "/claim/cut.py") 222), (Value.int (3 : Int) 0), (Value.int (1 : Int) 0), (Value.int (0 : Int) 0), (Value.int (0 : Int) 0), (Value.int (3 : Int) 0), (Value.ref 16), (Value.bool Bool.true), (Value.int (181 : Int) 0), (Value.ref 17), Value.none, (Value.ref 18), (Value.ref 19), (Value.ref 20), (Value.int (227 : Int) 0), (Value.int (3 : Int) 0), (Value.str (Str.ofString "/claim/cut.py") 228)]) #[])
def o_7_22 (P : Params) : Obj := (Obj.mk (Value.type "function") (@Option.none Nat) (Data.func (fnD 2 (Value.str (Str.ofString "cpy313.dis") 187) (Value.ref 21) Value.none)) #[])
def o_7_23 (P : Params) : Obj := (Obj.mk (Value.type "tuple") (@Option.none Nat) (Data.seq #[] 0) #[])
def o_7_24 (P : Params) : Obj := (Obj.mk Value.none (@Option.none Nat) (Data.fields #[]) #[])
def o_7_25 (P : Params) : Obj := (Obj.mk (Value.type "tuple") (@Option.none Nat) (Data.seq #[(Value.str (Str.ofString "iterator") 233), (Value.str (Str.ofString "b") 234), (Value.str (Str.ofString "val") 235)] 0) #[])
def o_7_26 (P : Params) : Obj := (Obj.mk (Value.type "tuple") (@Option.none Nat) (Data.seq #[] 0) #[])
def o_7_27 (P : Params) : Obj := (Obj.mk Value.none (@Option.none Nat) (Data.func (@FuncData.mk (Str.ofString "_parse_varint") (Str.ofString "_parse_varint") (dPar 3) (FuncBody.stmts (dBod 3)) (dSco 3) 0 [] Value.none Value.none Value.none Value.none (@Option.none Nat) Value.none Value.none 0)) #[])
def o_7_28 (P : Params) : Obj := (Obj.mk (Value.type "code") (@Option.none Nat) (Data.fields #[(Value.str (Str.ofString "_parse_varint") 230), (Value.str (Str.ofString "_parse_varint") 231), (Value.str (Str.ofString "/claim/cut.py") 232), (Value.int (15 : Int) 0), (Value.int (1 : Int) 0), (Value.int (0 : Int) 0), (Value.int (0 : Int) 0), (Value.int (3 : Int) 0), (Value.ref 23), (Value.bool Bool.true), (Value.int (181 : Int) 0), (Value.ref 24), Value.none, (Value.ref 25), (Value.ref 26), (Value.ref 27), (Value.int (236 : Int) 0), (Value.int (15 : Int) 0), (Value.str (Str.ofString "/claim/cut.py") 237)]) #[])
def o_7_29 (P : Params) : Obj := (Obj.mk (Value.type "function") (@Option.none Nat) (Data.func (fnD 3 (Value.str (Str.ofString "cpy313.dis") 187) (Value.ref 28) Value.none)) #[])
def o_7_30 (P : Params) : Obj := (Obj.mk (Value.type "tuple") (@Option.none Nat) (Data.seq #[] 0) #[])
def o_7_31 (P : Params) : Obj := (Obj.mk Value.none (@Option.none Nat) (Data.fields #[]) #[])
def o_7_32 (P : Params) : Obj := (Obj.mk (Value.type "tuple") (@Option.none Nat) (Data.seq #[(Value.str (Str.ofString "addr") 244), (Value.str (Str.ofString "pos") 245), (Value.str (Str.ofString "escape") 246), (Value.str (Str.ofString "ch") 247)] 0) #[])
def o_7_33 (P : Params) : Obj := (Obj.mk (Value.type "tuple") (@Option.none Nat) (Data.seq #[] 0) #[])
def o_7_34 (P : Params) : Obj := (Obj.mk Value.none (@Option.none Nat) (Data.func (@FuncData.mk (Str.ofString "_iter_escaped_chars") (Str.ofString "_iter_escaped_chars") (dPar 5) (FuncBody.stmts (dBod 5)) (dSco 5) 0 [] Value.none Value.none Value.none Value.none (@Option.none Nat) Value.none Value.none 0)) #[])
def o_7_35 (P : Params) : Obj := (Obj.mk (Value.type "code") (@Option.none Nat) (Data.fields #[(Value.str (Str.ofString "_iter_escaped_chars") 241), (Value.str (Str.ofString "_iter_escaped_chars") 242), (Value.str (Str.ofString "/claim/cut.py") 243), (Value.int (24 : Int) 0), (Value.int (1 : Int) 0), (Value.int (0 : Int) 0), (Value.int (0 : Int) 0), (Value.int (35 : Int) 0), (Value.ref 30), (Value.bool Bool.true), (Value.int (181 : Int) 0), (Value.ref 31), Value.none, (Value.ref 32), (Value.ref 33), (Value.ref 34), (Value.int (248 : Int) 0), (Value.int (24 : Int) 0), (Value.str (Str.ofString "/claim/cut.py") 249)]) #[])
def o_7_36 (P : Params) : Obj := (Obj.mk (Value.type "function") (@Option.none Nat) (Data.func (fnD 5 (Value.str (Str.ofString "cpy313.email.utils") 239) (Value.ref 35) Value.none)) #[])
def o_7_37 (P : Params) : Obj := (Obj.mk (Value.type "tuple") (@Option.none Nat) (Data.seq #[] 0) #[])
def o_7_38 (P : Params) : Obj := (Obj.mk Value.none (@Option.none Nat) (Data.fields #[]) #[])
def o_7_39 (P : Params) : Obj := (Obj.mk (Value.type "tuple") (@Option.none Nat) (Data.seq #[(Value.str (Str.ofString "addr") 254), (Value.str (Str.ofString "start") 255), (Value.str (Str.ofString "open_pos") 256), (Value.str (Str.ofString "result") 257), (Value.str (Str.ofString "pos") 258), (Value.str (Str.ofString "ch") 259)] 0) #[])
def o_7_40 (P : Params) : Obj := (Obj.mk (Value.type "tuple") (@Option.none Nat) (Data.seq #[] 0) #[])
def o_7_41 (P : Params) : Obj := (Obj.mk Value.none (@Option.none Nat) (Data.func (@FuncData.mk (Str.ofString "_strip_quoted_realnames") (Str.ofString "_strip_quoted_realnames") (dPar 6) (FuncBody.stmts (dBod 6)) (dSco 6) 0 [] Value.none Value.none Value.none Value.none (@Option.none Nat) Value.none Value.none 0)) #[])
def o_7_42 (P : Params) : Obj := (Obj.mk (Value.type "code") (@Option.none Nat) (Data.fields #[(Value.str (Str.ofString "_strip_quoted_realnames") 251), (Value.str (Str.ofString "_strip_quoted_realnames") 252), (Value.str (Str.ofString "/claim/cut.py") 253), (Value.int (37 : Int) 0), (Value.int (1 : Int) 0), (Value.int (0 : Int) 0), (Value.int (0 : Int) 0), (Value.int (3 : Int) 0), (Value.ref 37), (Value.bool Bool.true), (Value.int (181 : Int) 0), (Value.ref 38), Value.none, (Value.ref 39), (Value.ref 40), (Value.ref 41), (Value.int (260 : Int) 0), (Value.int (37 : Int) 0), (Value.str (Str.ofString "/claim/cut.py") 261)]) #[])
def o_7_43 (P : Params) : Obj := (Obj.mk (Value.type "function") (@Option.none Nat) (Data.func (fnD 6 (Value.str (Str.ofString "cpy313.email.utils") 239) (Value.ref 42) Value.none)) #[])
def tree_7 (P : Params) : BT := (.node (boot_o_0 P) (.node (boot_o_1 P) (.node (o_7_3 P) (.node (boot_o_7 P) (.node (o_1_15 P) (.node (o_7_31 P) .nil .nil) .nil) (.node (o_7_23 P) (.node (o_7_39 P) .nil .nil) .nil)) (.node (o_a_11 P) (.node (o_7_19 P) (.node (o_7_35 P) .nil .nil) .nil) (.node (o_7_27 P) (.node (o_7_43 P) .nil .nil) .nil))) (.node (boot_o_5 P) (.node (boot_o_9 P) (.node (o_7_17 P) (.node (o_7_33 P) .nil .nil) .nil) (.node (o_7_25 P) (.node (o_7_41 P) .nil .nil) .nil)) (.node (o_a_13 P) (.node (o_7_21 P) (.node (o_7_37 P) .nil .nil) .nil) (.node (o_7_29 P) .nil .nil)))) (.node (boot_o_2 P) (.node (boot_o_4 P) (.node (boot_o_8 P) (.node (o_7_16 P) (.node (o_7_32 P) .nil .nil) .nil) (.node (o_7_24 P) (.node (o_7_40 P) .nil .nil) .nil)) (.node (o_7_12 P) (.node (o_7_20 P) (.node (o_7_36 P) .nil .nil) .nil) (.node (o_7_28 P) .nil .nil))) (.node (boot_o_6 P) (.node (boot_o_10 P) (.node (o_7_18 P) (.node (o_7_34 P) .nil .nil) .nil) (.node (o_7_26 P) (.node (o_7_42 P) .nil .nil) .nil)) (.node (o_a_14 P) (.node (o_7_22 P) (.node (o_7_38 P) .nil .nil) .nil) (.node (o_7_30 P) .nil .nil)))))
def objs_7 (P : Params) : List Obj := [boot_o_0 P, boot_o_1 P, boot_o_2 P, o_7_3 P, boot_o_4 P, boot_o_5 P, boot_o_6 P, boot_o_7 P, boot_o_8 P, boot_o_9 P, boot_o_10 P, o_a_11 P, o_7_12 P, o_a_13 P, o_a_14 P, o_1_15 P, o_7_16 P, o_7_17 P, o_7_18 P, o_7_19 P, o_7_20 P, o_7_21 P, o_7_22 P, o_7_23 P, o_7_24 P, o_7_25 P, o_7_26 P, o_7_27 P, o_7_28 P, o_7_29 P, o_7_30 P, o_7_31 P, o_7_32 P, o_7_33 P, o_7_34 P, o_7_35 P, o_7_36 P, o_7_37 P, o_7_38 P, o_7_39 P, o_7_40 P, o_7_41 P, o_7_42 P, o_7_43 P]
def o_8_3 (P : Params) : Obj := (Obj.mk (Value.type "dict") (@Option.none Nat) (Data.dict #[kE P "__name__" 165 (Value.str (Str.ofString "cpy313.stringprep") 263), kE P "__doc__" 166 Value.none, kE P "__package__" 167 Value.none, kE P "__loader__" 168 (Value.builtin "__main__.__loader__#opaque"), kE P "__spec__" 169 Value.none, kE P "__annotations__" 170 (Value.ref 6), kE P "__builtins__" 171 (Value.ref 4), kE P "__file__" 173 (Value.str (Str.ofString "/claim/cut.py") 172), kE P "__cached__" 174 Value.none, kE P "COMPILER_FLAG_NAMES" 219 (Value.ref 15), kE P "pretty_flags" 229 (Value.ref 22), kE P "_parse_varint" 238 (Value.ref 29), kE P "_iter_escaped_chars" 250 (Value.ref 36), kE P "_strip_quoted_realnames" 262 (Value.ref 43), kE P "b1_set" 324 (Value.ref 51)] 15) #[])
def o_8_44 (P : Params) : Obj := (Obj.mk (Value.type "list") (@Option.none Nat) (Data.seq #[(Value.int (173 : Int) 265), (Value.int (847 : Int) 266), (Value.int (6150 : Int) 267), (Value.int (6155 : Int) 268), (Value.int (6156 : Int) 269), (Value.int (6157 : Int) 270), (Value.int (8203 : Int) 271), (Value.int (8204 : Int) 272), (Value.int (8205 : Int) 273), (Value.int (8288 : Int) 274), (Value.int (65279 : Int) 275)] 0) #[])
def o_8_45 (P : Params) : Obj := (Obj.mk (Value.type "range") (@Option.none Nat) (Data.fields #[(Value.int (65024 : Int) 276), (Value.int (65040 : Int) 277), (Value.int (1 : Int) 278)]) #[])
def o_8_46 (P : Params) : Obj := (Obj.mk (Value.type "list") (@Option.none Nat) (Data.seq #[(Value.int (65024 : Int) 281), (Value.int (65025 : Int) 282), (Value.int (65026 : Int) 283), (Value.int (65027 : Int) 284), (Value.int (65028 : Int) 285), (Value.int (65029 : Int) 286), (Value.int (65030 : Int) 287), (Value.int (65031 : Int) 288), (Value.int (65032 : Int) 289), (Value.int (65033 : Int) 290), (Value.int (65034 : Int) 291), (Value.int (65035 : Int) 292), (Value.int (65036 : Int) 293), (Value.int (65037 : Int) 294), (Value.int (65038 : Int) 295), (Value.int (65039 : Int) 296)] 18) #[])
def o_8_47 (P : Params) : Obj := (Obj.mk (Value.type "range_iterator") (@Option.none Nat) (Data.fields #[(Value.int (65040 : Int) 0), (Value.int (0 : Int) 0), (Value.int (1 : Int) 0)]) #[])
def o_8_48 (P : Params) : Obj := (Obj.mk (Value.type "tuple") (@Option.none Nat) (Data.seq #[] 0) #[])
def o_8_49 (P : Params) : Obj := (Obj.mk (Value.type "StopIteration") (@Option.none Nat) (Data.fields #[(Value.ref 48), Value.none, Value.none, Value.none, (Value.bool Bool.false), Value.none]) #[])
def o_8_50 (P : Params) : Obj := (Obj.mk (Value.type "list") (@Option.none Nat) (Data.seq #[(Value.int (173 : Int) 265), (Value.int (847 : Int) 266), (Value.int (6150 : Int) 267), (Value.int (6155 : Int) 268), (Value.int (6156 : Int) 269), (Value.int (6157 : Int) 270), (Value.int (8203 : Int) 271), (Value.int (8204 : Int) 272), (Value.int (8205 : Int) 273), (Value.int (8288 : Int) 274), (Value.int (65279 : Int) 275), (Value.int (65024 : Int) 281), (Value.int (65025 : Int) 282), (Value.int (65026 : Int) 283), (Value.int (65027 : Int) 284), (Value.int (65028 : Int) 285), (Value.int (65029 : Int) 286), (Value.int (65030 : Int) 287), (Value.int (65031 : Int) 288), (Value.int (65032 : Int) 289), (Value.int (65033 : Int) 290), (Value.int (65034 : Int) 291), (Value.int (65035 : Int) 292), (Value.int (65036 : Int) 293), (Value.int (65037 : Int) 294), (Value.int (65038 : Int) 295), (Value.int (65039 : Int) 296)] 0) #[])
def o_8_51 (P : Params) : Obj := (Obj.mk (Value.type "set") (@Option.none Nat) (Data.set #[(@Prod.mk Int Value (65024 : Int) (Value.int (65024 : Int) 281)), (@Prod.mk Int Value (65025 : Int) (Value.int (65025 : Int) 282)), (@Prod.mk Int Value (65026 : Int) (Value.int (65026 : Int) 283)), (@Prod.mk Int Value (65027 : Int) (Value.int (65027 : Int) 284)), (@Prod.mk Int Value (65028 : Int) (Value.int (65028 : Int) 285)), (@Prod.mk Int Value (65029 : Int) (Value.int (65029 : Int) 286)), (@Prod.mk Int Value (6150 : Int) (Value.int (6150 : Int) 267)), (@Prod.mk Int Value (65030 : Int) (Value.int (65030 : Int) 287)), (@Prod.mk Int Value (65031 : Int) (Value.int (65031 : Int) 288)), (@Prod.mk Int Value (65032 : Int) (Value.int (65032 : Int) 289)), (@Prod.mk Int Value (65033 : Int) (Value.int (65033 : Int) 290)), (@Prod.mk Int Value (6155 : Int) (Value.int (6155 : Int) 268)), (@Prod.mk Int Value (6156 : Int) (Value.int (6156 : Int) 269)), (@Prod.mk Int Value (6157 : Int) (Value.int (6157 : Int) 270)), (@Prod.mk Int Value (8203 : Int) (Value.int (8203 : Int) 271)), (@Prod.mk Int Value (8204 : Int) (Value.int (8204 : Int) 272)), (@Prod.mk Int Value (8205 : Int) (Value.int (8205 : Int) 273)), (@Prod.mk Int Value (65034 : Int) (Value.int (65034 : Int) 291)), (@Prod.mk Int Value (65035 : Int) (Value.int (65035 : Int) 292)), (@Prod.mk Int Value (65036 : Int) (Value.int (65036 : Int) 293)), (@Prod.mk Int Value (65037 : Int) (Value.int (65037 : Int) 294)), (@Prod.mk Int Value (65038 : Int) (Value.int (65038 : Int) 295)), (@Prod.mk Int Value (65039 : Int) (Value.int (65039 : Int) 296)), (@Prod.mk Int Value (173 : Int) (Value.int (173 : Int) 265)), (@Prod.mk Int Value (847 : Int) (Value.int (847 : Int) 266)), (@Prod.mk Int Value (8288 : Int) (Value.int (8288 : Int) 274)), (@Prod.mk Int Value (65279 : Int) (Value.int (65279 : Int) 275))] 29 (SetTable.mk 127 #[0, 1, 2, 3, 4, 5, 6, 7, 8, 9, 10, 11, 12, 13, 14, 15, 16, 17, 18, 19, 20, 21, 22, 45, 79, 96, 127] #[] 0 (Bool.not (Params.followText P "set-order")) 2 Bool.true)) #[])
def o_8_52 (P : Params) : Obj := (Obj.mk (Value.type "list_iterator") (@Option.none Nat) (Data.fields #[Value.none, (Value.int (27 : Int) 0)]) #[])
def o_8_53 (P : Params) : Obj := (Obj.mk (Value.type "tuple") (@Option.none Nat) (Data.seq #[] 0) #[])
def o_8_54 (P : Params) : Obj := (Obj.mk (Value.type "StopIteration") (@Option.none Nat) (Data.fields #[(Value.ref 53), Value.none, Value.none, Value.none, (Value.bool Bool.false), Value.none]) #[])
def tree_8 (P : Params) : BT := (.node (boot_o_0 P) (.node (boot_o_1 P) (.node (o_8_3 P) (.node (boot_o_7 P) (.node (o_1_15 P) (.node (o_7_31 P) .nil .nil) (.node (o_8_47 P) .nil .nil)) (.node (o_7_23 P) (.node (o_7_39 P) .nil .nil) .nil)) (.node (o_a_11 P) (.node (o_7_19 P) (.node (o_7_35 P) .nil .nil) (.node (o_8_51 P) .nil .nil)) (.node (o_7_27 P) (.node (o_7_43 P) .nil .nil) .nil))) (.node (boot_o_5 P) (.node (boot_o_9 P) (.node (o_7_17 P) (.node (o_7_33 P) .nil .nil) (.node (o_8_49 P) .nil .nil)) (.node (o_7_25 P) (.node (o_7_41 P) .nil .nil) .nil)) (.node (o_a_13 P) (.node (o_7_21 P) (.node (o_7_37 P) .nil .nil) (.node (o_8_53 P) .nil .nil)) (.node (o_7_29 P) (.node (o_8_45 P) .nil .nil) .nil)))) (.node (boot_o_2 P) (.node (boot_o_4 P) (.node (boot_o_8 P) (.node (o_7_16 P) (.node (o_7_32 P) .nil .nil) (.node (o_8_48 P) .nil .nil)) (.node (o_7_24 P) (.node (o_7_40 P) .nil .nil) .nil)) (.node (o_7_12 P) (.node (o_7_20 P) (.node (o_7_36 P) .nil .nil) (.node (o_8_52 P) .nil .nil)) (.node (o_7_28 P) (.node (o_8_44 P) .nil .nil) .nil))) (.node (boot_o_6 P) (.node (boot_o_10 P) (.node (o_7_18 P) (.node (o_7_34 P) .nil .nil) (.node (o_8_50 P) .nil .nil)) (.node (o_7_26 P) (.node (o_7_42 P) .nil .nil) .nil)) (.node (o_a_14 P) (.node (o_7_22 P) (.node (o_7_38 P) .nil .nil) (.node (o_8_54 P) .nil .nil)) (.node (o_7_30 P) (.node (o_8_46 P) .nil .nil) .nil)))))
def objs_8 (P : Params) : List Obj := [boot_o_0 P, boot_o_1 P, boot_o_2 P, o_8_3 P, boot_o_4 P, boot_o_5 P, boot_o_6 P, boot_o_7 P, boot_o_8 P, boot_o_9 P, boot_o_10 P, o_a_11 P, o_7_12 P, o_a_13 P, o_a_14 P, o_1_15 P, o_7_16 P, o_7_17 P, o_7_18 P, o_7_19 P, o_7_20 P, o_7_21 P, o_7_22 P, o_7_23 P, o_7_24 P, o_7_25 P, o_7_26 P, o_7_27 P, o_7_28 P, o_7_29 P, o_7_30 P, o_7_31 P, o_7_32 P, o_7_33 P, o_7_34 P, o_7_35 P, o_7_36 P, o_7_37 P, o_7_38 P, o_7_39 P, o_7_40 P, o_7_41 P, o_7_42 P, o_7_43 P, o_8_44 P, o_8_45 P, o_8_46 P, o_8_47 P, o_8_48 P, o_8_49 P, o_8_50 P, o_8_51 P, o_8_52 P, o_8_53 P, o_8_54 P]
def o_9_3 (P : Params) : Obj := (Obj.mk (Value.type "dict") (@Option.none Nat) (Data.dict #[kE P "__name__" 165 (Value.str (Str.ofString "cpy313.stringprep") 263), kE P "__doc__" 166 Value.none, kE P "__package__" 167 Value.none, kE P "__loader__" 168 (Value.builtin "__main__.__loader__#opaque"), kE P "__spec__" 169 Value.none, kE P "__annotations__" 170 (Value.ref 6), kE P "__builtins__" 171 (Value.ref 4), kE P "__file__" 173 (Value.str (Str.ofString "/claim/cut.py") 172), kE P "__cached__" 174 Value.none, kE P "COMPILER_FLAG_NAMES" 219 (Value.ref 15), kE P "pretty_flags" 229 (Value.ref 22), kE P "_parse_varint" 238 (Value.ref 29), kE P "_iter_escaped_chars" 250 (Value.ref 36), kE P "_strip_quoted_realnames" 262 (Value.ref 43), kE P "b1_set" 324 (Value.ref 51), kE P "in_table_b1" 331 (Value.ref 61)] 16) #[])
def o_9_12 (P : Params) : Obj := (Obj.mk Value.none (@Option.none Nat) (Data.fields #[(Value.int (3 : Int) 0), (Value.int (0 : Int) 0), (Value.ref 21), (Value.int (15 : Int) 0), (Value.int (0 : Int) 0), (Value.ref 28), (Value.int (24 : Int) 0), (Value.int (0 : Int) 0), (Value.ref 35), (Value.int (37 : Int) 0), (Value.int (0 : Int) 0), (Value.ref 42), (Value.int (57 : Int) 0), (Value.int (0 : Int) 0), (Value.ref 60)]) #[])
def o_9_55 (P : Params) : Obj := (Obj.mk (Value.type "tuple") (@Option.none Nat) (Data.seq #[] 0) #[])
def o_9_56 (P : Params) : Obj := (Obj.mk Value.none (@Option.none Nat) (Data.fields #[]) #[])
def o_9_57 (P : Params) : Obj := (Obj.mk (Value.type "tuple") (@Option.none Nat) (Data.seq #[(Value.str (Str.ofString "code") 328)] 0) #[])
def o_9_58 (P : Params) : Obj := (Obj.mk (Value.type "tuple") (@Option.none Nat) (Data.seq #[] 0) #[])
def o_9_59 (P : Params) : Obj := (Obj.mk Value.none (@Option.none Nat) (Data.func (@FuncData.mk (Str.ofString "in_table_b1") (Str.ofString "in_table_b1") (dPar 9) (FuncBody.stmts (dBod 9)) (dSco 9) 0 [] Value.none Value.none Value.none Value.none (@Option.none Nat) Value.none Value.none 0)) #[])
def o_9_60 (P : Params) : Obj := (Obj.mk (Value.type "code") (@Option.none Nat) (Data.fields #[(Value.str (Str.ofString "in_table_b1") 325), (Value.str (Str.ofString "in_table_b1") 326), (Value.str (Str.ofString "/claim/cut.py") 327), (Value.int (57 : Int) 0), (Value.int (1 : Int) 0), (Value.int (0 : Int) 0), (Value.int (0 : Int) 0), (Value.int (3 : Int) 0), (Value.ref 55), (Value.bool Bool.true), (Value.int (181 : Int) 0), (Value.ref 56), Value.none, (Value.ref 57), (Value.ref 58), (Value.ref 59), (Value.int (329 : Int) 0), (Value.int (57 : Int) 0), (Value.str (Str.ofString "/claim/cut.py") 330)]) #[])
def o_9_61 (P : Params) : Obj := (Obj.mk (Value.type "function") (@Option.none Nat) (Data.func (fnD 9 (Value.str (Str.ofString "cpy313.stringprep") 263) (Value.ref 60) Value.none)) #[])
def tree_9 (P : Params) : BT := (.node (boot_o_0 P) (.node (boot_o_1 P) (.node (o_9_3 P) (.node (boot_o_7 P) (.node (o_1_15 P) (.node (o_7_31 P) .nil .nil) (.node (o_8_47 P) .nil .nil)) (.node (o_7_23 P) (.node (o_7_39 P) .nil .nil) (.node (o_9_55 P) .nil .nil))) (.node (o_a_11 P) (.node (o_7_19 P) (.node (o_7_35 P) .nil .nil) (.node (o_8_51 P) .nil .nil)) (.node (o_7_27 P) (.node (o_7_43 P) .nil .nil) (.node (o_9_59 P) .nil .nil)))) (.node (boot_o_5 P) (.node (boot_o_9 P) (.node (o_7_17 P) (.node (o_7_33 P) .nil .nil) (.node (o_8_49 P) .nil .nil)) (.node (o_7_25 P) (.node (o_7_41 P) .nil .nil) (.node (o_9_57 P) .nil .nil))) (.node (o_a_13 P) (.node (o_7_21 P) (.node (o_7_37 P) .nil .nil) (.node (o_8_53 P) .nil .nil)) (.node (o_7_29 P) (.node (o_8_45 P) .nil .nil) (.node (o_9_61 P) .nil .nil))))) (.node (boot_o_2 P) (.node (boot_o_4 P) (.node (boot_o_8 P) (.node (o_7_16 P) (.node (o_7_32 P) .nil .nil) (.node (o_8_48 P) .nil .nil)) (.node (o_7_24 P) (.node (o_7_40 P) .nil .nil) (.node (o_9_56 P) .nil .nil))) (.node (o_9_12 P) (.node (o_7_20 P) (.node (o_7_36 P) .nil .nil) (.node (o_8_52 P) .nil .nil)) (.node (o_7_28 P) (.node (o_8_44 P) .nil .nil) (.node (o_9_60 P) .nil .nil)))) (.node (boot_o_6 P) (.node (boot_o_10 P) (.node (o_7_18 P) (.node (o_7_34 P) .nil .nil) (.node (o_8_50 P) .nil .nil)) (.node (o_7_26 P) (.node (o_7_42 P) .nil .nil) (.node (o_9_58 P) .nil .nil))) (.node (o_a_14 P) (.node (o_7_22 P) (.node (o_7_38 P) .nil .nil) (.node (o_8_54 P) .nil .nil)) (.node (o_7_30 P) (.node (o_8_46 P) .nil .nil) .nil)))))
def objs_9 (P : Params) : List Obj := [boot_o_0 P, boot_o_1 P, boot_o_2 P, o_9_3 P, boot_o_4 P, boot_o_5 P, boot_o_6 P, boot_o_7 P, boot_o_8 P, boot_o_9 P, boot_o_10 P, o_a_11 P, o_9_12 P, o_a_13 P, o_a_14 P, o_1_15 P, o_7_16 P, o_7_17 P, o_7_18 P, o_7_19 P, o_7_20 P, o_7_21 P, o_7_22 P, o_7_23 P, o_7_24 P, o_7_25 P, o_7_26 P, o_7_27 P, o_7_28 P, o_7_29 P, o_7_30 P, o_7_31 P, o_7_32 P, o_7_33 P, o_7_34 P, o_7_35 P, o_7_36 P, o_7_37 P, o_7_38 P, o_7_39 P, o_7_40 P, o_7_41 P, o_7_42 P, o_7_43 P, o_8_44 P, o_8_45 P, o_8_46 P, o_8_47 P, o_8_48 P, o_8_49 P, o_8_50 P, o_8_51 P, o_8_52 P, o_8_53 P, o_8_54 P, o_9_55 P, o_9_56 P, o_9_57 P, o_9_58 P, o_9_59 P, o_9_60 P, o_9_61 P]
def o_10_3 (P : Params) : Obj := (Obj.mk (Value.type "dict") (@Option.none Nat) (Data.dict #[kE P "__name__" 165 (Value.str (Str.ofString "cpy313.stringprep") 263), kE P "__doc__" 166 Value.none, kE P "__package__" 167 Value.none, kE P "__loader__" 168 (Value.builtin "__main__.__loader__#opaque"), kE P "__spec__" 169 Value.none, kE P "__annotations__" 170 (Value.ref 6), kE P "__builtins__" 171 (Value.ref 4), kE P "__file__" 173 (Value.str (Str.ofString "/claim/cut.py") 172), kE P "__cached__" 174 Value.none, kE P "COMPILER_FLAG_NAMES" 219 (Value.ref 15), kE P "pretty_flags" 229 (Value.ref 22), kE P "_parse_varint" 238 (Value.ref 29), kE P "_iter_escaped_chars" 250 (Value.ref 36), kE P "_strip_quoted_realnames" 262 (Value.ref 43), kE P "b1_set" 324 (Value.ref 51), kE P "in_table_b1" 331 (Value.ref 61), kE P "b3_exceptions" 2282 (Value.ref 62)] 17) #[])
def tree_10 (P : Params) : BT := (.node (boot_o_0 P) (.node (boot_o_1 P) (.node (o_10_3 P) (.node (boot_o_7 P) (.node (o_1_15 P) (.node (o_7_31 P) (.node (b3o 1 P) .nil .nil) (.node (b3o 33 P) .nil .nil)) (.node (o_8_47 P) (.node (b3o 17 P) .nil .nil) .nil)) (.node (o_7_23 P) (.node (o_7_39 P) (.node (b3o 9 P) .nil .nil) .nil) (.node (o_9_55 P) (.node (b3o 25 P) .nil .nil) .nil))) (.node (o_a_11 P) (.node (o_7_19 P) (.node (o_7_35 P) (.node (b3o 5 P) .nil .nil) (.node (b3o 37 P) .nil .nil)) (.node (o_8_51 P) (.node (b3o 21 P) .nil .nil) .nil)) (.node (o_7_27 P) (.node (o_7_43 P) (.node (b3o 13 P) .nil .nil) .nil) (.node (o_9_59 P) (.node (b3o 29 P) .nil .nil) .nil)))) (.node (boot_o_5 P) (.node (boot_o_9 P) (.node (o_7_17 P) (.node (o_7_33 P) (.node (b3o 3 P) .nil .nil) (.node (b3o 35 P) .nil .nil)) (.node (o_8_49 P) (.node (b3o 19 P) .nil .nil) .nil)) (.node (o_7_25 P) (.node (o_7_41 P) (.node (b3o 11 P) .nil .nil) .nil) (.node (o_9_57 P) (.node (b3o 27 P) .nil .nil) .nil))) (.node (o_a_13 P) (.node (o_7_21 P) (.node (o_7_37 P) (.node (b3o 7 P) .nil .nil) .nil) (.node (o_8_53 P) (.node (b3o 23 P) .nil .nil) .nil)) (.node (o_7_29 P) (.node (o_8_45 P) (.node (b3o 15 P) .nil .nil) .nil) (.node (o_9_61 P) (.node (b3o 31 P) .nil .nil) .nil))))) (.node (boot_o_2 P) (.node (boot_o_4 P) (.node (boot_o_8 P) (.node (o_7_16 P) (.node (o_7_32 P) (.node (b3o 2 P) .nil .nil) (.node (b3o 34 P) .nil .nil)) (.node (o_8_48 P) (.node (b3o 18 P) .nil .nil) .nil)) (.node (o_7_24 P) (.node (o_7_40 P) (.node (b3o 10 P) .nil .nil) .nil) (.node (o_9_56 P) (.node (b3o 26 P) .nil .nil) .nil))) (.node (o_9_12 P) (.node (o_7_20 P) (.node (o_7_36 P) (.node (b3o 6 P) .nil .nil) (.node (b3o 38 P) .nil .nil)) (.node (o_8_52 P) (.node (b3o 22 P) .nil .nil) .nil)) (.node (o_7_28 P) (.node (o_8_44 P) (.node (b3o 14 P) .nil .nil) .nil) (.node (o_9_60 P) (.node (b3o 30 P) .nil .nil) .nil)))) (.node (boot_o_6 P) (.node (boot_o_10 P) (.node (o_7_18 P) (.node (o_7_34 P) (.node (b3o 4 P) .nil .nil) (.node (b3o 36 P) .nil .nil)) (.node (o_8_50 P) (.node (b3o 20 P) .nil .nil) .nil)) (.node (o_7_26 P) (.node (o_7_42 P) (.node (b3o 12 P) .nil .nil) .nil) (.node (o_9_58 P) (.node (b3o 28 P) .nil .nil) .nil))) (.node (o_a_14 P) (.node (o_7_22 P) (.node (o_7_38 P) (.node (b3o 8 P) .nil .nil) .nil) (.node (o_8_54 P) (.node (b3o 24 P) .nil .nil) .nil)) (.node (o_7_30 P) (.node (o_8_46 P) (.node (b3o 16 P) .nil .nil) .nil) (.node (b3o 0 P) (.node (b3o 32 P) .nil .nil) .nil))))))
def objs_10 (P : Params) : List Obj := [boot_o_0 P, boot_o_1 P, boot_o_2 P, o_10_3 P, boot_o_4 P, boot_o_5 P, boot_o_6 P, boot_o_7 P, boot_o_8 P, boot_o_9 P, boot_o_10 P, o_a_11 P, o_9_12 P, o_a_13 P, o_a_14 P, o_1_15 P, o_7_16 P, o_7_17 P, o_7_18 P, o_7_19 P, o_7_20 P, o_7_21 P, o_7_22 P, o_7_23 P, o_7_24 P, o_7_25 P, o_7_26 P, o_7_27 P, o_7_28 P, o_7_29 P, o_7_30 P, o_7_31 P, o_7_32 P, o_7_33 P, o_7_34 P, o_7_35 P, o_7_36 P, o_7_37 P, o_7_38 P, o_7_39 P, o_7_40 P, o_7_41 P, o_7_42 P, o_7_43 P, o_8_44 P, o_8_45 P, o_8_46 P, o_8_47 P, o_8_48 P, o_8_49 P, o_8_50 P, o_8_51 P, o_8_52 P, o_8_53 P, o_8_54 P, o_9_55 P, o_9_56 P, o_9_57 P, o_9_58 P, o_9_59 P, o_9_60 P, o_9_61 P, b3o 0 P, b3o 1 P, b3o 2 P, b3o 3 P, b3o 4 P, b3o 5 P, b3o 6 P, b3o 7 P, b3o 8 P, b3o 9 P, b3o 10 P, b3o 11 P, b3o 12 P, b3o 13 P, b3o 14 P, b3o 15 P, b3o 16 P, b3o 17 P, b3o 18 P, b3o 19 P, b3o 20 P, b3o 21 P, b3o 22 P, b3o 23 P, b3o 24 P, b3o 25 P, b3o 26 P, b3o 27 P, b3o 28 P, b3o 29 P, b3o 30 P, b3o 31 P, b3o 32 P, b3o 33 P, b3o 34 P, b3o 35 P, b3o 36 P, b3o 37 P, b3o 38 P]
def o_24_3 (P : Params) : Obj := (Obj.mk (Value.type "dict") (@Option.none Nat) (Data.dict #[kE P "__name__" 165 (Value.str (Str.ofString "law_st0038_01") 2327), kE P "__doc__" 166 Value.none, kE P "__package__" 167 Value.none, kE P "__loader__" 168 (Value.builtin "__main__.__loader__#opaque"), kE P "__spec__" 169 Value.none, kE P "__annotations__" 170 (Value.ref 6), kE P "__builtins__" 171 (Value.ref 4), kE P "__file__" 173 (Value.str (Str.ofString "/claim/cut.py") 172), kE P "__cached__" 174 Value.none, kE P "COMPILER_FLAG_NAMES" 219 (Value.ref 15), kE P "pretty_flags" 229 (Value.ref 22), kE P "_parse_varint" 238 (Value.ref 29), kE P "_iter_escaped_chars" 250 (Value.ref 36), kE P "_strip_quoted_realnames" 262 (Value.ref 43), kE P "b1_set" 324 (Value.ref 51), kE P "in_table_b1" 331 (Value.ref 61), kE P "b3_exceptions" 2282 (Value.ref 62), kE P "map_table_b3" 2290 (Value.ref 107), kE P "_MAX_STRING_SIZE" 2294 (Value.int (40 : Int) 2293), kE P "_MOVE_COST" 2296 (Value.int (2 : Int) 2295), kE P "_CASE_COST" 2298 (Value.int (1 : Int) 2297), kE P "_substitution_cost" 2306 (Value.ref 114), kE P "_levenshtein_distance" 2326 (Value.ref 121), kE P "_law_unseen" 2336 (Value.ref 128), kE P "_law_piece" 2354 (Value.ref 135), kE P "_law_number" 2360 (Value.ref 140), kE P "_law_bits" 2371 (Value.ref 147), kE P "_law_word" 2377 (Value.ref 152), kE P "law" 2383 (Value.ref 157)] 29) #[])
def o_24_12 (P : Params) : Obj := (Obj.mk Value.none (@Option.none Nat) (Data.fields #[(Value.int (3 : Int) 0), (Value.int (0 : Int) 0), (Value.ref 21), (Value.int (15 : Int) 0), (Value.int (0 : Int) 0), (Value.ref 28), (Value.int (24 : Int) 0), (Value.int (0 : Int) 0), (Value.ref 35), (Value.int (37 : Int) 0), (Value.int (0 : Int) 0), (Value.ref 42), (Value.int (57 : Int) 0), (Value.int (0 : Int) 0), (Value.ref 60), (Value.int (60 : Int) 0), (Value.int (0 : Int) 0), (Value.ref 106), (Value.int (69 : Int) 0), (Value.int (0 : Int) 0), (Value.ref 113), (Value.int (75 : Int) 0), (Value.int (0 : Int) 0), (Value.ref 120), (Value.int (114 : Int) 0), (Value.int (0 : Int) 0), (Value.ref 127), (Value.int (117 : Int) 0), (Value.int (0 : Int) 0), (Value.ref 134), (Value.int (137 : Int) 0), (Value.int (0 : Int) 0), (Value.ref 139), (Value.int (139 : Int) 0), (Value.int (0 : Int) 0), (Value.ref 146), (Value.int (146 : Int) 0), (Value.int (0 : Int) 0), (Value.ref 151), (Value.int (157 : Int) 0), (Value.int (0 : Int) 0), (Value.ref 156)]) #[])
def o_24_101 (P : Params) : Obj := (Obj.mk (Value.type "tuple") (@Option.none Nat) (Data.seq #[] 0) #[])
def o_24_102 (P : Params) : Obj := (Obj.mk Value.none (@Option.none Nat) (Data.fields #[]) #[])
def o_24_103 (P : Params) : Obj := (Obj.mk (Value.type "tuple") (@Option.none Nat) (Data.seq #[(Value.str (Str.ofString "code") 2286), (Value.str (Str.ofString "r") 2287)] 0) #[])
def o_24_104 (P : Params) : Obj := (Obj.mk (Value.type "tuple") (@Option.none Nat) (Data.seq #[] 0) #[])
def o_24_105 (P : Params) : Obj := (Obj.mk Value.none (@Option.none Nat) (Data.func (@FuncData.mk (Str.ofString "map_table_b3") (Str.ofString "map_table_b3") (dPar 11) (FuncBody.stmts (dBod 11)) (dSco 11) 0 [] Value.none Value.none Value.none Value.none (@Option.none Nat) Value.none Value.none 0)) #[])
def o_24_106 (P : Params) : Obj := (Obj.mk (Value.type "code") (@Option.none Nat) (Data.fields #[(Value.str (Str.ofString "map_table_b3") 2283), (Value.str (Str.ofString "map_table_b3") 2284), (Value.str (Str.ofString "/claim/cut.py") 2285), (Value.int (60 : Int) 0), (Value.int (1 : Int) 0), (Value.int (0 : Int) 0), (Value.int (0 : Int) 0), (Value.int (3 : Int) 0), (Value.ref 101), (Value.bool Bool.true), (Value.int (181 : Int) 0), (Value.ref 102), Value.none, (Value.ref 103), (Value.ref 104), (Value.ref 105), (Value.int (2288 : Int) 0), (Value.int (60 : Int) 0), (Value.str (Str.ofString "/claim/cut.py") 2289)]) #[])
def o_24_107 (P : Params) : Obj := (Obj.mk (Value.type "function") (@Option.none Nat) (Data.func (fnD 11 (Value.str (Str.ofString "cpy313.stringprep") 263) (Value.ref 106) Value.none)) #[])
def o_24_108 (P : Params) : Obj := (Obj.mk (Value.type "tuple") (@Option.none Nat) (Data.seq #[] 0) #[])
def o_24_109 (P : Params) : Obj := (Obj.mk Value.none (@Option.none Nat) (Data.fields #[]) #[])
def o_24_110 (P : Params) : Obj := (Obj.mk (Value.type "tuple") (@Option.none Nat) (Data.seq #[(Value.str (Str.ofString "ch_a") 2302), (Value.str (Str.ofString "ch_b") 2303)] 0) #[])
def o_24_111 (P : Params) : Obj := (Obj.mk (Value.type "tuple") (@Option.none Nat) (Data.seq #[] 0) #[])
def o_24_112 (P : Params) : Obj := (Obj.mk Value.none (@Option.none Nat) (Data.func (@FuncData.mk (Str.ofString "_substitution_cost") (Str.ofString "_substitution_cost") (dPar 16) (FuncBody.stmts (dBod 16)) (dSco 16) 0 [] Value.none Value.none Value.none Value.none (@Option.none Nat) Value.none Value.none 0)) #[])
def o_24_113 (P : Params) : Obj := (Obj.mk (Value.type "code") (@Option.none Nat) (Data.fields #[(Value.str (Str.ofString "_substitution_cost") 2299), (Value.str (Str.ofString "_substitution_cost") 2300), (Value.str (Str.ofString "/claim/cut.py") 2301), (Value.int (69 : Int) 0), (Value.int (2 : Int) 0), (Value.int (0 : Int) 0), (Value.int (0 : Int) 0), (Value.int (3 : Int) 0), (Value.ref 108), (Value.bool Bool.true), (Value.int (181 : Int) 0), (Value.ref 109), Value.none, (Value.ref 110), (Value.ref 111), (Value.ref 112), (Value.int (2304 : Int) 0), (Value.int (69 : Int) 0), (Value.str (Str.ofString "/claim/cut.py") 2305)]) #[])
def o_24_114 (P : Params) : Obj := (Obj.mk (Value.type "function") (@Option.none Nat) (Data.func (fnD 16 (Value.str (Str.ofString "cpy313.traceback") 2291) (Value.ref 113) Value.none)) #[])
def o_24_115 (P : Params) : Obj := (Obj.mk (Value.type "tuple") (@Option.none Nat) (Data.seq #[] 0) #[])
def o_24_116 (P : Params) : Obj := (Obj.mk Value.none (@Option.none Nat) (Data.fields #[]) #[])
def o_24_117 (P : Params) : Obj := (Obj.mk (Value.type "tuple") (@Option.none Nat) (Data.seq #[(Value.str (Str.ofString "a") 2310), (Value.str (Str.ofString "b") 2311), (Value.str (Str.ofString "max_cost") 2312), (Value.str (Str.ofString "pre") 2313), (Value.str (Str.ofString "post") 2314), (Value.str (Str.ofString "row") 2315), (Value.str (Str.ofString "result") 2316), (Value.str (Str.ofString "bindex") 2317), (Value.str (Str.ofString "bchar") 2318), (Value.str (Str.ofString "distance") 2319), (Value.str (Str.ofString "minimum") 2320), (Value.str (Str.ofString "index") 2321), (Value.str (Str.ofString "substitute") 2322), (Value.str (Str.ofString "insert_delete") 2323)] 0) #[])
def o_24_118 (P : Params) : Obj := (Obj.mk (Value.type "tuple") (@Option.none Nat) (Data.seq #[] 0) #[])
def o_24_119 (P : Params) : Obj := (Obj.mk Value.none (@Option.none Nat) (Data.func (@FuncData.mk (Str.ofString "_levenshtein_distance") (Str.ofString "_levenshtein_distance") (dPar 17) (FuncBody.stmts (dBod 17)) (dSco 17) 0 [] Value.none Value.none Value.none Value.none (@Option.none Nat) Value.none Value.none 0)) #[])
def o_24_120 (P : Params) : Obj := (Obj.mk (Value.type "code") (@Option.none Nat) (Data.fields #[(Value.str (Str.ofString "_levenshtein_distance") 2307), (Value.str (Str.ofString "_levenshtein_distance") 2308), (Value.str (Str.ofString "/claim/cut.py") 2309), (Value.int (75 : Int) 0), (Value.int (3 : Int) 0), (Value.int (0 : Int) 0), (Value.int (0 : Int) 0), (Value.int (3 : Int) 0), (Value.ref 115), (Value.bool Bool.true), (Value.int (181 : Int) 0), (Value.ref 116), Value.none, (Value.ref 117), (Value.ref 118), (Value.ref 119), (Value.int (2324 : Int) 0), (Value.int (75 : Int) 0), (Value.str (Str.ofString "/claim/cut.py") 2325)]) #[])
def o_24_121 (P : Params) : Obj := (Obj.mk (Value.type "function") (@Option.none Nat) (Data.func (fnD 17 (Value.str (Str.ofString "cpy313.traceback") 2291) (Value.ref 120) Value.none)) #[])
def o_24_122 (P : Params) : Obj := (Obj.mk (Value.type "tuple") (@Option.none Nat) (Data.seq #[] 0) #[])
def o_24_123 (P : Params) : Obj := (Obj.mk Value.none (@Option.none Nat) (Data.fields #[]) #[])
def o_24_124 (P : Params) : Obj := (Obj.mk (Value.type "tuple") (@Option.none Nat) (Data.seq #[(Value.str (Str.ofString "number") 2332), (Value.str (Str.ofString "codes") 2333)] 0) #[])
def o_24_125 (P : Params) : Obj := (Obj.mk (Value.type "tuple") (@Option.none Nat) (Data.seq #[] 0) #[])
def o_24_126 (P : Params) : Obj := (Obj.mk Value.none (@Option.none Nat) (Data.func (@FuncData.mk (Str.ofString "_law_unseen") (Str.ofString "_law_unseen") (dPar 19) (FuncBody.stmts (dBod 19)) (dSco 19) 0 [] Value.none Value.none Value.none Value.none (@Option.none Nat) Value.none Value.none 0)) #[])
def o_24_127 (P : Params) : Obj := (Obj.mk (Value.type "code") (@Option.none Nat) (Data.fields #[(Value.str (Str.ofString "_law_unseen") 2329), (Value.str (Str.ofString "_law_unseen") 2330), (Value.str (Str.ofString "/claim/cut.py") 2331), (Value.int (114 : Int) 0), (Value.int (1 : Int) 0), (Value.int (0 : Int) 0), (Value.int (0 : Int) 0), (Value.int (3 : Int) 0), (Value.ref 122), (Value.bool Bool.true), (Value.int (181 : Int) 0), (Value.ref 123), Value.none, (Value.ref 124), (Value.ref 125), (Value.ref 126), (Value.int (2334 : Int) 0), (Value.int (114 : Int) 0), (Value.str (Str.ofString "/claim/cut.py") 2335)]) #[])
def o_24_128 (P : Params) : Obj := (Obj.mk (Value.type "function") (@Option.none Nat) (Data.func (fnD 19 (Value.str (Str.ofString "law_st0038_01") 2327) (Value.ref 127) Value.none)) #[])
def o_24_129 (P : Params) : Obj := (Obj.mk (Value.type "tuple") (@Option.none Nat) (Data.seq #[] 0) #[])
def o_24_130 (P : Params) : Obj := (Obj.mk Value.none (@Option.none Nat) (Data.fields #[]) #[])
def o_24_131 (P : Params) : Obj := (Obj.mk (Value.type "tuple") (@Option.none Nat) (Data.seq #[(Value.str (Str.ofString "number") 2340), (Value.str (Str.ofString "rest") 2341), (Value.str (Str.ofString "count") 2342), (Value.str (Str.ofString "first") 2343), (Value.str (Str.ofString "second") 2344), (Value.str (Str.ofString "small") 2345), (Value.str (Str.ofString "turn") 2346), (Value.str (Str.ofString "letter") 2347), (Value.str (Str.ofString "sizes") 2348), (Value.str (Str.ofString "figure") 2349), (Value.str (Str.ofString "unseen") 2350), (Value.str (Str.ofString "remark") 2351)] 0) #[])
def o_24_132 (P : Params) : Obj := (Obj.mk (Value.type "tuple") (@Option.none Nat) (Data.seq #[] 0) #[])
def o_24_133 (P : Params) : Obj := (Obj.mk Value.none (@Option.none Nat) (Data.func (@FuncData.mk (Str.ofString "_law_piece") (Str.ofString "_law_piece") (dPar 20) (FuncBody.stmts (dBod 20)) (dSco 20) 0 [] Value.none Value.none Value.none Value.none (@Option.none Nat) Value.none Value.none 0)) #[])
def o_24_134 (P : Params) : Obj := (Obj.mk (Value.type "code") (@Option.none Nat) (Data.fields #[(Value.str (Str.ofString "_law_piece") 2337), (Value.str (Str.ofString "_law_piece") 2338), (Value.str (Str.ofString "/claim/cut.py") 2339), (Value.int (117 : Int) 0), (Value.int (1 : Int) 0), (Value.int (0 : Int) 0), (Value.int (0 : Int) 0), (Value.int (3 : Int) 0), (Value.ref 129), (Value.bool Bool.true), (Value.int (181 : Int) 0), (Value.ref 130), Value.none, (Value.ref 131), (Value.ref 132), (Value.ref 133), (Value.int (2352 : Int) 0), (Value.int (117 : Int) 0), (Value.str (Str.ofString "/claim/cut.py") 2353)]) #[])
def o_24_135 (P : Params) : Obj := (Obj.mk (Value.type "function") (@Option.none Nat) (Data.func (fnD 20 (Value.str (Str.ofString "law_st0038_01") 2327) (Value.ref 134) Value.none)) #[])
def o_24_136 (P : Params) : Obj := (Obj.mk (Value.type "tuple") (@Option.none Nat) (Data.seq #[] 0) #[])
def o_24_137 (P : Params) : Obj := (Obj.mk Value.none (@Option.none Nat) (Data.fields #[]) #[])
def o_24_138 (P : Params) : Obj := (Obj.mk Value.none (@Option.none Nat) (Data.func (@FuncData.mk (Str.ofString "_law_number") (Str.ofString "_law_number") (dPar 21) (FuncBody.stmts (dBod 21)) (dSco 21) 0 [] Value.none Value.none Value.none Value.none (@Option.none Nat) Value.none Value.none 0)) #[])
def o_24_139 (P : Params) : Obj := (Obj.mk (Value.type "code") (@Option.none Nat) (Data.fields #[(Value.str (Str.ofString "_law_number") 2355), (Value.str (Str.ofString "_law_number") 2356), (Value.str (Str.ofString "/claim/cut.py") 2357), (Value.int (137 : Int) 0), (Value.int (1 : Int) 0), (Value.int (0 : Int) 0), (Value.int (0 : Int) 0), (Value.int (3 : Int) 0), (Value.ref 136), (Value.bool Bool.true), (Value.int (181 : Int) 0), (Value.ref 137), Value.none, Value.none, Value.none, (Value.ref 138), (Value.int (2358 : Int) 0), (Value.int (137 : Int) 0), (Value.str (Str.ofString "/claim/cut.py") 2359)]) #[])
def o_24_140 (P : Params) : Obj := (Obj.mk (Value.type "function") (@Option.none Nat) (Data.func (fnD 21 (Value.str (Str.ofString "law_st0038_01") 2327) (Value.ref 139) Value.none)) #[])
def o_24_141 (P : Params) : Obj := (Obj.mk (Value.type "tuple") (@Option.none Nat) (Data.seq #[] 0) #[])
def o_24_142 (P : Params) : Obj := (Obj.mk Value.none (@Option.none Nat) (Data.fields #[]) #[])
def o_24_143 (P : Params) : Obj := (Obj.mk (Value.type "tuple") (@Option.none Nat) (Data.seq #[(Value.str (Str.ofString "one") 2364), (Value.str (Str.ofString "other") 2365), (Value.str (Str.ofString "words") 2366), (Value.str (Str.ofString "place") 2367), (Value.str (Str.ofString "bit") 2368)] 0) #[])
def o_24_144 (P : Params) : Obj := (Obj.mk (Value.type "tuple") (@Option.none Nat) (Data.seq #[] 0) #[])
def o_24_145 (P : Params) : Obj := (Obj.mk Value.none (@Option.none Nat) (Data.func (@FuncData.mk (Str.ofString "_law_bits") (Str.ofString "_law_bits") (dPar 22) (FuncBody.stmts (dBod 22)) (dSco 22) 0 [] Value.none Value.none Value.none Value.none (@Option.none Nat) Value.none Value.none 0)) #[])
def o_24_146 (P : Params) : Obj := (Obj.mk (Value.type "code") (@Option.none Nat) (Data.fields #[(Value.str (Str.ofString "_law_bits") 2361), (Value.str (Str.ofString "_law_bits") 2362), (Value.str (Str.ofString "/claim/cut.py") 2363), (Value.int (139 : Int) 0), (Value.int (2 : Int) 0), (Value.int (0 : Int) 0), (Value.int (0 : Int) 0), (Value.int (3 : Int) 0), (Value.ref 141), (Value.bool Bool.true), (Value.int (181 : Int) 0), (Value.ref 142), Value.none, (Value.ref 143), (Value.ref 144), (Value.ref 145), (Value.int (2369 : Int) 0), (Value.int (139 : Int) 0), (Value.str (Str.ofString "/claim/cut.py") 2370)]) #[])
def o_24_147 (P : Params) : Obj := (Obj.mk (Value.type "function") (@Option.none Nat) (Data.func (fnD 22 (Value.str (Str.ofString "law_st0038_01") 2327) (Value.ref 146) Value.none)) #[])
def o_24_148 (P : Params) : Obj := (Obj.mk (Value.type "tuple") (@Option.none Nat) (Data.seq #[] 0) #[])
def o_24_149 (P : Params) : Obj := (Obj.mk Value.none (@Option.none Nat) (Data.fields #[]) #[])
def o_24_150 (P : Params) : Obj := (Obj.mk Value.none (@Option.none Nat) (Data.func (@FuncData.mk (Str.ofString "_law_word") (Str.ofString "_law_word") (dPar 23) (FuncBody.stmts (dBod 23)) (dSco 23) 0 [] Value.none Value.none Value.none Value.none (@Option.none Nat) Value.none Value.none 0)) #[])
def o_24_151 (P : Params) : Obj := (Obj.mk (Value.type "code") (@Option.none Nat) (Data.fields #[(Value.str (Str.ofString "_law_word") 2372), (Value.str (Str.ofString "_law_word") 2373), (Value.str (Str.ofString "/claim/cut.py") 2374), (Value.int (146 : Int) 0), (Value.int (3 : Int) 0), (Value.int (0 : Int) 0), (Value.int (0 : Int) 0), (Value.int (3 : Int) 0), (Value.ref 148), (Value.bool Bool.true), (Value.int (181 : Int) 0), (Value.ref 149), Value.none, Value.none, Value.none, (Value.ref 150), (Value.int (2375 : Int) 0), (Value.int (146 : Int) 0), (Value.str (Str.ofString "/claim/cut.py") 2376)]) #[])
def o_24_152 (P : Params) : Obj := (Obj.mk (Value.type "function") (@Option.none Nat) (Data.func (fnD 23 (Value.str (Str.ofString "law_st0038_01") 2327) (Value.ref 151) Value.none)) #[])
def o_24_153 (P : Params) : Obj := (Obj.mk (Value.type "tuple") (@Option.none Nat) (Data.seq #[] 0) #[])
def o_24_154 (P : Params) : Obj := (Obj.mk Value.none (@Option.none Nat) (Data.fields #[]) #[])
def o_24_155 (P : Params) : Obj := (Obj.mk Value.none (@Option.none Nat) (Data.func (@FuncData.mk (Str.ofString "law") (Str.ofString "law") (dPar 24) (FuncBody.stmts (dBod 24)) (dSco 24) 0 [] Value.none Value.none Value.none Value.none (@Option.none Nat) Value.none Value.none 0)) #[])
def o_24_156 (P : Params) : Obj := (Obj.mk (Value.type "code") (@Option.none Nat) (Data.fields #[(Value.str (Str.ofString "law") 2378), (Value.str (Str.ofString "law") 2379), (Value.str (Str.ofString "/claim/cut.py") 2380), (Value.int (157 : Int) 0), (Value.int (1 : Int) 0), (Value.int (0 : Int) 0), (Value.int (0 : Int) 0), (Value.int (3 : Int) 0), (Value.ref 153), (Value.bool Bool.true), (Value.int (181 : Int) 0), (Value.ref 154), Value.none, Value.none, Value.none, (Value.ref 155), (Value.int (2381 : Int) 0), (Value.int (157 : Int) 0), (Value.str (Str.ofString "/claim/cut.py") 2382)]) #[])
def o_24_157 (P : Params) : Obj := (Obj.mk (Value.type "function") (@Option.none Nat) (Data.func (fnD 24 (Value.str (Str.ofString "law_st0038_01") 2327) (Value.ref 156) Value.none)) #[])
def tree_24 (P : Params) : BT := (.node (boot_o_0 P) (.node (boot_o_1 P) (.node (o_24_3 P) (.node (boot_o_7 P) (.node (o_1_15 P) (.node (o_7_31 P) (.node (b3o 1 P) (.node (o_24_127 P) .nil .nil) .nil) (.node (b3o 33 P) .nil .nil)) (.node (o_8_47 P) (.node (b3o 17 P) (.node (o_24_143 P) .nil .nil) .nil) (.node (o_24_111 P) .nil .nil))) (.node (o_7_23 P) (.node (o_7_39 P) (.node (b3o 9 P) (.node (o_24_135 P) .nil .nil) .nil) (.node (o_24_103 P) .nil .nil)) (.node (o_9_55 P) (.node (b3o 25 P) (.node (o_24_151 P) .nil .nil) .nil) (.node (o_24_119 P) .nil .nil)))) (.node (o_a_11 P) (.node (o_7_19 P) (.node (o_7_35 P) (.node (b3o 5 P) (.node (o_24_131 P) .nil .nil) .nil) (.node (b3o 37 P) .nil .nil)) (.node (o_8_51 P) (.node (b3o 21 P) (.node (o_24_147 P) .nil .nil) .nil) (.node (o_24_115 P) .nil .nil))) (.node (o_7_27 P) (.node (o_7_43 P) (.node (b3o 13 P) (.node (o_24_139 P) .nil .nil) .nil) (.node (o_24_107 P) .nil .nil)) (.node (o_9_59 P) (.node (b3o 29 P) (.node (o_24_155 P) .nil .nil) .nil) (.node (o_24_123 P) .nil .nil))))) (.node (boot_o_5 P) (.node (boot_o_9 P) (.node (o_7_17 P) (.node (o_7_33 P) (.node (b3o 3 P) (.node (o_24_129 P) .nil .nil) .nil) (.node (b3o 35 P) .nil .nil)) (.node (o_8_49 P) (.node (b3o 19 P) (.node (o_24_145 P) .nil .nil) .nil) (.node (o_24_113 P) .nil .nil))) (.node (o_7_25 P) (.node (o_7_41 P) (.node (b3o 11 P) (.node (o_24_137 P) .nil .nil) .nil) (.node (o_24_105 P) .nil .nil)) (.node (o_9_57 P) (.node (b3o 27 P) (.node (o_24_153 P) .nil .nil) .nil) (.node (o_24_121 P) .nil .nil)))) (.node (o_a_13 P) (.node (o_7_21 P) (.node (o_7_37 P) (.node (b3o 7 P) (.node (o_24_133 P) .nil .nil) .nil) (.node (o_24_101 P) .nil .nil)) (.node (o_8_53 P) (.node (b3o 23 P) (.node (o_24_149 P) .nil .nil) .nil) (.node (o_24_117 P) .nil .nil))) (.node (o_7_29 P) (.node (o_8_45 P) (.node (b3o 15 P) (.node (o_24_141 P) .nil .nil) .nil) (.node (o_24_109 P) .nil .nil)) (.node (o_9_61 P) (.node (b3o 31 P) (.node (o_24_157 P) .nil .nil) .nil) (.node (o_24_125 P) .nil .nil)))))) (.node (boot_o_2 P) (.node (boot_o_4 P) (.node (boot_o_8 P) (.node (o_7_16 P) (.node (o_7_32 P) (.node (b3o 2 P) (.node (o_24_128 P) .nil .nil) .nil) (.node (b3o 34 P) .nil .nil)) (.node (o_8_48 P) (.node (b3o 18 P) (.node (o_24_144 P) .nil .nil) .nil) (.node (o_24_112 P) .nil .nil))) (.node (o_7_24 P) (.node (o_7_40 P) (.node (b3o 10 P) (.node (o_24_136 P) .nil .nil) .nil) (.node (o_24_104 P) .nil .nil)) (.node (o_9_56 P) (.node (b3o 26 P) (.node (o_24_152 P) .nil .nil) .nil) (.node (o_24_120 P) .nil .nil)))) (.node (o_24_12 P) (.node (o_7_20 P) (.node (o_7_36 P) (.node (b3o 6 P) (.node (o_24_132 P) .nil .nil) .nil) (.node (b3o 38 P) .nil .nil)) (.node (o_8_52 P) (.node (b3o 22 P) (.node (o_24_148 P) .nil .nil) .nil) (.node (o_24_116 P) .nil .nil))) (.node (o_7_28 P) (.node (o_8_44 P) (.node (b3o 14 P) (.node (o_24_140 P) .nil .nil) .nil) (.node (o_24_108 P) .nil .nil)) (.node (o_9_60 P) (.node (b3o 30 P) (.node (o_24_156 P) .nil .nil) .nil) (.node (o_24_124 P) .nil .nil))))) (.node (boot_o_6 P) (.node (boot_o_10 P) (.node (o_7_18 P) (.node (o_7_34 P) (.node (b3o 4 P) (.node (o_24_130 P) .nil .nil) .nil) (.node (b3o 36 P) .nil .nil)) (.node (o_8_50 P) (.node (b3o 20 P) (.node (o_24_146 P) .nil .nil) .nil) (.node (o_24_114 P) .nil .nil))) (.node (o_7_26 P) (.node (o_7_42 P) (.node (b3o 12 P) (.node (o_24_138 P) .nil .nil) .nil) (.node (o_24_106 P) .nil .nil)) (.node (o_9_58 P) (.node (b3o 28 P) (.node (o_24_154 P) .nil .nil) .nil) (.node (o_24_122 P) .nil .nil)))) (.node (o_a_14 P) (.node (o_7_22 P) (.node (o_7_38 P) (.node (b3o 8 P) (.node (o_24_134 P) .nil .nil) .nil) (.node (o_24_102 P) .nil .nil)) (.node (o_8_54 P) (.node (b3o 24 P) (.node (o_24_150 P) .nil .nil) .nil) (.node (o_24_118 P) .nil .nil))) (.node (o_7_30 P) (.node (o_8_46 P) (.node (b3o 16 P) (.node (o_24_142 P) .nil .nil) .nil) (.node (o_24_110 P) .nil .nil)) (.node (b3o 0 P) (.node (b3o 32 P) .nil .nil) (.node (o_24_126 P) .nil .nil)))))))
def objs_24 (P : Params) : List Obj := [boot_o_0 P, boot_o_1 P, boot_o_2 P, o_24_3 P, boot_o_4 P, boot_o_5 P, boot_o_6 P, boot_o_7 P, boot_o_8 P, boot_o_9 P, boot_o_10 P, o_a_11 P, o_24_12 P, o_a_13 P, o_a_14 P, o_1_15 P, o_7_16 P, o_7_17 P, o_7_18 P, o_7_19 P, o_7_20 P, o_7_21 P, o_7_22 P, o_7_23 P, o_7_24 P, o_7_25 P, o_7_26 P, o_7_27 P, o_7_28 P, o_7_29 P, o_7_30 P, o_7_31 P, o_7_32 P, o_7_33 P, o_7_34 P, o_7_35 P, o_7_36 P, o_7_37 P, o_7_38 P, o_7_39 P, o_7_40 P, o_7_41 P, o_7_42 P, o_7_43 P, o_8_44 P, o_8_45 P, o_8_46 P, o_8_47 P, o_8_48 P, o_8_49 P, o_8_50 P, o_8_51 P, o_8_52 P, o_8_53 P, o_8_54 P, o_9_55 P, o_9_56 P, o_9_57 P, o_9_58 P, o_9_59 P, o_9_60 P, o_9_61 P, b3o 0 P, b3o 1 P, b3o 2 P, b3o 3 P, b3o 4 P, b3o 5 P, b3o 6 P, b3o 7 P, b3o 8 P, b3o 9 P, b3o 10 P, b3o 11 P, b3o 12 P, b3o 13 P, b3o 14 P, b3o 15 P, b3o 16 P, b3o 17 P, b3o 18 P, b3o 19 P, b3o 20 P, b3o 21 P, b3o 22 P, b3o 23 P, b3o 24 P, b3o 25 P, b3o 26 P, b3o 27 P, b3o 28 P, b3o 29 P, b3o 30 P, b3o 31 P, b3o 32 P, b3o 33 P, b3o 34 P, b3o 35 P, b3o 36 P, b3o 37 P, b3o 38 P, o_24_101 P, o_24_102 P, o_24_103 P, o_24_104 P, o_24_105 P, o_24_106 P, o_24_107 P, o_24_108 P, o_24_109 P, o_24_110 P, o_24_111 P, o_24_112 P, o_24_113 P, o_24_114 P, o_24_115 P, o_24_116 P, o_24_117 P, o_24_118 P, o_24_119 P, o_24_120 P, o_24_121 P, o_24_122 P, o_24_123 P, o_24_124 P, o_24_125 P, o_24_126 P, o_24_127 P, o_24_128 P, o_24_129 P, o_24_130 P, o_24_131 P, o_24_132 P, o_24_133 P, o_24_134 P, o_24_135 P, o_24_136 P, o_24_137 P, o_24_138 P, o_24_139 P, o_24_140 P, o_24_141 P, o_24_142 P, o_24_143 P, o_24_144 P, o_24_145 P, o_24_146 P, o_24_147 P, o_24_148 P, o_24_149 P, o_24_150 P, o_24_151 P, o_24_152 P, o_24_153 P, o_24_154 P, o_24_155 P, o_24_156 P, o_24_157 P]
def tree_f (P : Params) : BT := (.node (boot_o_0 P) (.node (boot_o_1 P) (.node (o_24_3 P) (.node (boot_o_7 P) (.node (o_1_15 P) (.node (o_7_31 P) (.node (b3o 1 P) (.node (o_24_127 P) .nil .nil) .nil) (.node (b3o 33 P) .nil .nil)) (.node (o_8_47 P) (.node (b3o 17 P) (.node (o_24_143 P) .nil .nil) .nil) (.node (o_24_111 P) .nil .nil))) (.node (o_7_23 P) (.node (o_7_39 P) (.node (b3o 9 P) (.node (o_24_135 P) .nil .nil) .nil) (.node (o_24_103 P) .nil .nil)) (.node (o_9_55 P) (.node (b3o 25 P) (.node (o_24_151 P) .nil .nil) .nil) (.node (o_24_119 P) .nil .nil)))) (.node (o_a_11 P) (.node (o_7_19 P) (.node (o_7_35 P) (.node (b3o 5 P) (.node (o_24_131 P) .nil .nil) .nil) (.node (b3o 37 P) .nil .nil)) (.node (o_8_51 P) (.node (b3o 21 P) (.node (o_24_147 P) .nil .nil) .nil) (.node (o_24_115 P) .nil .nil))) (.node (o_7_27 P) (.node (o_7_43 P) (.node (b3o 13 P) (.node (o_24_139 P) .nil .nil) .nil) (.node (o_24_107 P) .nil .nil)) (.node (o_9_59 P) (.node (b3o 29 P) (.node (o_24_155 P) .nil .nil) .nil) (.node (o_24_123 P) .nil .nil))))) (.node (boot_o_5 P) (.node (boot_o_9 P) (.node (o_7_17 P) (.node (o_7_33 P) (.node (b3o 3 P) (.node (o_24_129 P) .nil .nil) .nil) (.node (b3o 35 P) .nil .nil)) (.node (o_8_49 P) (.node (b3o 19 P) (.node (o_24_145 P) .nil .nil) .nil) (.node (o_24_113 P) .nil .nil))) (.node (o_7_25 P) (.node (o_7_41 P) (.node (b3o 11 P) (.node (o_24_137 P) .nil .nil) .nil) (.node (o_24_105 P) .nil .nil)) (.node (o_9_57 P) (.node (b3o 27 P) (.node (o_24_153 P) .nil .nil) .nil) (.node (o_24_121 P) .nil .nil)))) (.node (o_a_13 P) (.node (o_7_21 P) (.node (o_7_37 P) (.node (b3o 7 P) (.node (o_24_133 P) .nil .nil) .nil) (.node (o_24_101 P) .nil .nil)) (.node (o_8_53 P) (.node (b3o 23 P) (.node (o_24_149 P) .nil .nil) .nil) (.node (o_24_117 P) .nil .nil))) (.node (o_7_29 P) (.node (o_8_45 P) (.node (b3o 15 P) (.node (o_24_141 P) .nil .nil) .nil) (.node (o_24_109 P) .nil .nil)) (.node (o_9_61 P) (.node (b3o 31 P) (.node (o_24_157 P) .nil .nil) .nil) (.node (o_24_125 P) .nil .nil)))))) (.node (boot_o_2 P) (.node (boot_o_4 P) (.node (boot_o_8 P) (.node (o_7_16 P) (.node (o_7_32 P) (.node (b3o 2 P) (.node (o_24_128 P) .nil .nil) .nil) (.node (b3o 34 P) .nil .nil)) (.node (o_8_48 P) (.node (b3o 18 P) (.node (o_24_144 P) .nil .nil) .nil) (.node (o_24_112 P) .nil .nil))) (.node (o_7_24 P) (.node (o_7_40 P) (.node (b3o 10 P) (.node (o_24_136 P) .nil .nil) .nil) (.node (o_24_104 P) .nil .nil)) (.node (o_9_56 P) (.node (b3o 26 P) (.node (o_24_152 P) .nil .nil) .nil) (.node (o_24_120 P) .nil .nil)))) (.node (o_24_12 P) (.node (o_7_20 P) (.node (o_7_36 P) (.node (b3o 6 P) (.node (o_24_132 P) .nil .nil) .nil) (.node (b3o 38 P) .nil .nil)) (.node (o_8_52 P) (.node (b3o 22 P) (.node (o_24_148 P) .nil .nil) .nil) (.node (o_24_116 P) .nil .nil))) (.node (o_7_28 P) (.node (o_8_44 P) (.node (b3o 14 P) (.node (o_24_140 P) .nil .nil) .nil) (.node (o_24_108 P) .nil .nil)) (.node (o_9_60 P) (.node (b3o 30 P) (.node (o_24_156 P) .nil .nil) .nil) (.node (o_24_124 P) .nil .nil))))) (.node (boot_o_6 P) (.node (boot_o_10 P) (.node (o_7_18 P) (.node (o_7_34 P) (.node (b3o 4 P) (.node (o_24_130 P) .nil .nil) .nil) (.node (b3o 36 P) .nil .nil)) (.node (o_8_50 P) (.node (b3o 20 P) (.node (o_24_146 P) .nil .nil) .nil) (.node (o_24_114 P) .nil .nil))) (.node (o_7_26 P) (.node (o_7_42 P) (.node (b3o 12 P) (.node (o_24_138 P) .nil .nil) .nil) (.node (o_24_106 P) .nil .nil)) (.node (o_9_58 P) (.node (b3o 28 P) (.node (o_24_154 P) .nil .nil) .nil) (.node (o_24_122 P) .nil .nil)))) (.node (o_a_14 P) (.node (o_7_22 P) (.node (o_7_38 P) (.node (b3o 8 P) (.node (o_24_134 P) .nil .nil) .nil) (.node (o_24_102 P) .nil .nil)) (.node (o_8_54 P) (.node (b3o 24 P) (.node (o_24_150 P) .nil .nil) .nil) (.node (o_24_118 P) .nil .nil))) (.node (o_7_30 P) (.node (o_8_46 P) (.node (b3o 16 P) (.node (o_24_142 P) .nil .nil) .nil) (.node (o_24_110 P) .nil .nil)) (.node (b3o 0 P) (.node (b3o 32 P) .nil .nil) (.node (o_24_126 P) .nil .nil)))))))
def objs_f (P : Params) : List Obj := [boot_o_0 P, boot_o_1 P, boot_o_2 P, o_24_3 P, boot_o_4 P, boot_o_5 P, boot_o_6 P, boot_o_7 P, boot_o_8 P, boot_o_9 P, boot_o_10 P, o_a_11 P, o_24_12 P, o_a_13 P, o_a_14 P, o_1_15 P, o_7_16 P, o_7_17 P, o_7_18 P, o_7_19 P, o_7_20 P, o_7_21 P, o_7_22 P, o_7_23 P, o_7_24 P, o_7_25 P, o_7_26 P, o_7_27 P, o_7_28 P, o_7_29 P, o_7_30 P, o_7_31 P, o_7_32 P, o_7_33 P, o_7_34 P, o_7_35 P, o_7_36 P, o_7_37 P, o_7_38 P, o_7_39 P, o_7_40 P, o_7_41 P, o_7_42 P, o_7_43 P, o_8_44 P, o_8_45 P, o_8_46 P, o_8_47 P, o_8_48 P, o_8_49 P, o_8_50 P, o_8_51 P, o_8_52 P, o_8_53 P, o_8_54 P, o_9_55 P, o_9_56 P, o_9_57 P, o_9_58 P, o_9_59 P, o_9_60 P, o_9_61 P, b3o 0 P, b3o 1 P, b3o 2 P, b3o 3 P, b3o 4 P, b3o 5 P, b3o 6 P, b3o 7 P, b3o 8 P, b3o 9 P, b3o 10 P, b3o 11 P, b3o 12 P, b3o 13 P, b3o 14 P, b3o 15 P, b3o 16 P, b3o 17 P, b3o 18 P, b3o 19 P, b3o 20 P, b3o 21 P, b3o 22 P, b3o 23 P, b3o 24 P, b3o 25 P, b3o 26 P, b3o 27 P, b3o 28 P, b3o 29 P, b3o 30 P, b3o 31 P, b3o 32 P, b3o 33 P, b3o 34 P, b3o 35 P, b3o 36 P, b3o 37 P, b3o 38 P, o_24_101 P, o_24_102 P, o_24_103 P, o_24_104 P, o_24_105 P, o_24_106 P, o_24_107 P, o_24_108 P, o_24_109 P, o_24_110 P, o_24_111 P, o_24_112 P, o_24_113 P, o_24_114 P, o_24_115 P, o_24_116 P, o_24_117 P, o_24_118 P, o_24_119 P, o_24_120 P, o_24_121 P, o_24_122 P, o_24_123 P, o_24_124 P, o_24_125 P, o_24_126 P, o_24_127 P, o_24_128 P, o_24_129 P, o_24_130 P, o_24_131 P, o_24_132 P, o_24_133 P, o_24_134 P, o_24_135 P, o_24_136 P, o_24_137 P, o_24_138 P, o_24_139 P, o_24_140 P, o_24_141 P, o_24_142 P, o_24_143 P, o_24_144 P, o_24_145 P, o_24_146 P, o_24_147 P, o_24_148 P, o_24_149 P, o_24_150 P, o_24_151 P, o_24_152 P, o_24_153 P, o_24_154 P, o_24_155 P, o_24_156 P, o_24_157 P]
end
end Mine
end
section
open PySem PySem.W PyProof.Rows PySem.Calls PySem.Spec
set_option maxRecDepth 100000
namespace Mine
noncomputable section
def env1 : Env := { scope := PW.main.scope, locals := mainNs, globals := mainNs, cells := [], code := .ref 13, frame := some 14 }
abbrev bE : List Stmt := behindTheImports PW
def cE : Code := .body bE env1
abbrev q0 : Pos := ⟨0, 0, 0, 0⟩
abbrev B0 : List Frame := [topFrame q0]
def st (i k : Nat) : List Stmt := (bE.drop i).take k
def sh (t : BT) (n tk : Nat) (os : OsState) : SharedT := ⟨t, n, {}, #[], {}, tk, os⟩
abbrev ann0 : Option Value := some (.ref 6)
theorem g0 (w : World) (os : OsState) : segRunT treeTable PW w 11 ann0 1 10 (sh (tree_b w.params) 15 187 os) (piecesOf (st 0 1) env1 cE q0 B0) = some (.next, sh (tree_0 w.params) 15 189 os, cE, ⟨1, 0, 1, 8⟩) := by kernel_rfl
end
end Mine
end
section
open PySem PySem.W PyProof.Rows PySem.Calls PySem.Spec
set_option maxRecDepth 100000
namespace Mine
abbrev rowG : String := "special-get-raises"
theorem g1 (w : World) : ∀ os : OsState, segRunT treeTable PW w 11 ann0 1 141 (sh (tree_0 w.params) 15 189 os) (piecesOf (st 1 1) env1 cE ⟨1, 0, 1, 8⟩ B0) = some (.next, sh (tree_1 w.params) 16 220 os, cE, ⟨2, 0, 2, 19⟩) :=
  byRow2 "special-get-raises" (P := fun w => ∀ os : OsState, segRunT treeTable PW w 11 ann0 1 141 (sh (tree_0 w.params) 15 189 os) (piecesOf (st 1 1) env1 cE ⟨1, 0, 1, 8⟩ B0) = some (.next, sh (tree_1 w.params) 16 220 os, cE, ⟨2, 0, 2, 19⟩))
    (fun w os => by kernel_rfl) (fun w os => by kernel_rfl) w
theorem g2 (w : World) (os : OsState) : segRunT treeTable PW w 11 ann0 1 157 (sh (tree_1 w.params) 16 220 os) (piecesOf (st 2 6) env1 cE ⟨2, 0, 2, 19⟩ B0) = some (.next, sh (tree_7 w.params) 44 265 os, cE, ⟨55, 0, 55, 8⟩) := by kernel_rfl
theorem g9 (w : World) (os : OsState) : segRunT treeTable PW w 11 ann0 1 30 (sh (tree_8 w.params) 55 325 os) (piecesOf (st 9 1) env1 cE ⟨56, 0, 56, 6⟩ B0) = some (.next, sh (tree_9 w.params) 62 332 os, cE, ⟨57, 0, 58, 30⟩) := by kernel_rfl
end Mine
end
section
open PySem PySem.W PyProof.Rows PySem.Calls PySem.Spec
set_option maxRecDepth 100000
namespace Mine
theorem g8_ff (w : World) (os : OsState) : segRunT treeTable PW ((w.withFollow "special-get-raises" false).withFollow "set-order" false) 11 ann0 1 999 (sh (tree_7 ((w.withFollow "special-get-raises" false).withFollow "set-order" false).params) 44 265 os) (piecesOf (st 8 1) env1 cE ⟨55, 0, 55, 8⟩ B0) = some (.next, sh (tree_8 ((w.withFollow "special-get-raises" false).withFollow "set-order" false).params) 55 325 os, cE, ⟨56, 0, 56, 6⟩) := by
  rw [PySem.W.Fast.te10110043849684766642, PySem.W.Fast.te14364793385576792824]
  kernel_rfl
theorem g8_ft (w : World) (os : OsState) : segRunT treeTable PW ((w.withFollow "special-get-raises" false).withFollow "set-order" true) 11 ann0 1 999 (sh (tree_7 ((w.withFollow "special-get-raises" false).withFollow "set-order" true).params) 44 265 os) (piecesOf (st 8 1) env1 cE ⟨55, 0, 55, 8⟩ B0) = some (.next, sh (tree_8 ((w.withFollow "special-get-raises" false).withFollow "set-order" true).params) 55 325 os, cE, ⟨56, 0, 56, 6⟩) := by
  rw [PySem.W.Fast.te10110043849684766642, PySem.W.Fast.te14364793385576792824]
  kernel_rfl
theorem g8_tf (w : World) (os : OsState) : segRunT treeTable PW ((w.withFollow "special-get-raises" true).withFollow "set-order" false) 11 ann0 1 999 (sh (tree_7 ((w.withFollow "special-get-raises" true).withFollow "set-order" false).params) 44 265 os) (piecesOf (st 8 1) env1 cE ⟨55, 0, 55, 8⟩ B0) = some (.next, sh (tree_8 ((w.withFollow "special-get-raises" true).withFollow "set-order" false).params) 55 325 os, cE, ⟨56, 0, 56, 6⟩) := by
  rw [PySem.W.Fast.te10110043849684766642, PySem.W.Fast.te14364793385576792824]
  kernel_rfl
theorem g8_tt (w : World) (os : OsState) : segRunT treeTable PW ((w.withFollow "special-get-raises" true).withFollow "set-order" true) 11 ann0 1 999 (sh (tree_7 ((w.withFollow "special-get-raises" true).withFollow "set-order" true).params) 44 265 os) (piecesOf (st 8 1) env1 cE ⟨55, 0, 55, 8⟩ B0) = some (.next, sh (tree_8 ((w.withFollow "special-get-raises" true).withFollow "set-order" true).params) 55 325 os, cE, ⟨56, 0, 56, 6⟩) := by
  rw [PySem.W.Fast.te10110043849684766642, PySem.W.Fast.te14364793385576792824]
  kernel_rfl
theorem g8' (w : World) (os : OsState) (x y : Bool) : segRunT treeTable PW ((w.withFollow "special-get-raises" x).withFollow "set-order" y) 11 ann0 1 999 (sh (tree_7 ((w.withFollow "special-get-raises" x).withFollow "set-order" y).params) 44 265 os) (piecesOf (st 8 1) env1 cE ⟨55, 0, 55, 8⟩ B0) = some (.next, sh (tree_8 ((w.withFollow "special-get-raises" x).withFollow "set-order" y).params) 55 325 os, cE, ⟨56, 0, 56, 6⟩) := by
  cases x <;> cases y
  · exact g8_ff w os
  · exact g8_ft w os
  · exact g8_tf w os
  · exact g8_tt w os
end Mine
end
section
open PySem PySem.W PyProof.Rows PySem.Calls PySem.Spec
set_option maxRecDepth 100000
namespace Mine
theorem g11 (w : World) (os : OsState) : segRunT treeTable PW w 11 ann0 1 360 (sh (tree_10 w.params) 101 2283 os) (piecesOf (st 11 14) env1 cE ⟨59, 0, 59, 13⟩ B0) = some (.next, sh (tree_24 w.params) 158 2384 os, cE, ⟨157, 0, 183, 101⟩) := by
  rw [PySem.W.Fast.te10110043849684766642, PySem.W.Fast.te14364793385576792824]
  kernel_rfl
end Mine
end
section
open PySem PySem.W PyProof.Rows PySem.Calls PySem.Spec
set_option maxRecDepth 100000
namespace Mine
abbrev NN : Nat := 200000
theorem h_open : ∀ w : World, (fencedOpening treeTable PW w NN).map (fun s => (s.heap, s.gens, s.drawn, s.toks)) = some (boot_heap w.params, Array.mk [], boot_drawn, boot_toks) :=
  boot_open (by kernel_rfl) (by decide) (fun s => by kernel_rfl)
theorem h_pre (w : World) (os : OsState) : topGo treeTable PW w 11 ann0 12 ⟨boot_heap w.params, Array.mk [], boot_drawn, boot_toks, os⟩ (topStub PW) = some ((sh (tree_b w.params) 15 187 os).abs, ⟨denote treeTable cE, cE, q0, B0⟩) := by
  kernel_rfl
theorem h_block (w : World) (os : OsState) : segRun treeTable PW w 11 ann0 1 1 (sh (tree_b w.params) 15 187 os).abs (blockOf bE env1 cE q0 B0) = some (.next, (sh (tree_b w.params) 15 187 os).abs, cE, q0) := by
  kernel_rfl
theorem h_fin (w : World) (os : OsState) : topRun treeTable PW w 11 ann0 2 (sh (tree_24 w.params) 158 2384 os).abs ⟨doneF .next, cE, ⟨157, 0, 183, 101⟩, B0⟩ = some (sh (tree_f w.params) 158 2384 os).abs := by
  kernel_rfl
theorem h_size (w : World) : ((boot_heap w.params).isNs mainGlobals && (Array.mk [] : Array GenState).size == 0, (boot_heap w.params).objs.size, (boot_heap w.params).nsMap mainGlobals "__annotations__") = (true, 11, ann0) := by
  kernel_rfl
end Mine
end
section
open PySem PySem.W PyProof.Rows PySem.Calls PySem.Spec
set_option maxRecDepth 100000
namespace Mine
abbrev TR (w : World) := topRun treeTable PW w 11 ann0
def Goes {α : Type} (w : World) (n : Nat) (x : Sem α) (s : Shared) (P : Pos) (a : α) (s' : Shared) (P' : Pos) : Prop :=
  ∀ (K : α → Sem Fin) (H : Value → Sem Fin) (gd : Bool → Bool) (lv : List Value → List Value) (N : Nat) (r : Shared), TR w N s' ⟨K a, cE, P', B0⟩ = some r → TR w (n + N) s ⟨x.wrap K H gd lv, cE, P, B0⟩ = some r
section
variable {w : World} {α β : Type} {n m : Nat} {x : Sem α} {f : α → Sem β} {s s1 s2 : Shared} {P P1 P2 : Pos} {a : α} {b : β}
theorem Goes.pure : Goes w 0 (.pure a) s P a s P := fun K H gd lv N r h => by rw [Nat.zero_add]; exact h
theorem Goes.bind (h1 : Goes w n x s P a s1 P1) (h2 : Goes w m (f a) s1 P1 b s2 P2) : Goes w (n + m) (x >>= f) s P b s2 P2 := fun K H gd lv N r h => by
  rw [Sem.bind_eq_wrap', Sem.wrap_wrap, Nat.add_assoc]
  exact h1 _ _ _ _ _ _ (h2 _ _ _ _ _ _ h)
theorem Goes.keep {l : List Value} (h1 : Goes w n x s P a s1 P1) : Goes w n (x.keep l) s P a s1 P1 := fun K H gd lv N r h => by
  rw [Sem.keep_eq_wrap, Sem.wrap_wrap]
  exact h1 _ _ _ _ _ _ h
theorem Goes.onRaise {g : Value → Sem Unit} (h1 : Goes w n x s P a s1 P1) : Goes w n (x.onRaise g) s P a s1 P1 := fun K H gd lv N r h => by
  rw [Sem.onRaise_eq_wrap, Sem.wrap_wrap]
  exact h1 _ _ _ _ _ _ h
theorem Goes.le (h1 : Goes w n x s P a s1 P1) (l : n ≤ m) : Goes w m x s P a s1 P1 := fun K H gd lv N r h => by
  have := topRun_mono (m - n) _ _ _ _ (h1 K H gd lv N r h)
  rwa [show n + N + (m - n) = m + N by omega] at this
theorem Goes.of_eq {y : Sem α} (e : x = y) (h1 : Goes w n y s P a s1 P1) : Goes w n x s P a s1 P1 := e ▸ h1
theorem tr_step {t t' : Thread} {s' : Shared} {N : Nat} {r : Shared} (h3 : through t = false) (h1 : stepOk 11 ann0 t = true) (h2 : step (denote treeTable) PW w s t = .go s' t') (h : TR w N s' t' = some r) : TR w (1 + N) s t = some r := by
  rw [Nat.add_comm]
  show topRun treeTable PW w 11 ann0 (N + 1) s t = some r
  unfold topRun
  rw [h3, h1, h2]
  exact h
theorem G_load {d : Addr} {part : Option Value} {o : Obj} (hh : s.heap.get? d = some o) : Goes w 1 (.load d part .pure) s P o s P := fun K H gd lv N r h =>
  tr_step rfl rfl (t' := ⟨K o, cE, P, B0⟩) (s' := s) (by obtain ⟨h0, g, dr, tk, os⟩ := s; simp only [Sem.wrap, step]; rw [hh]) h
theorem G_alloc {o : Obj} : Goes w 1 (.alloc o .pure) s P s.heap.objs.size { s with heap := s.heap.push o } P := fun K H gd lv N r h =>
  tr_step rfl rfl (by obtain ⟨h0, g, dr, tk, os⟩ := s; simp only [Sem.wrap, step]) h
theorem G_update {d : Addr} {part : Option Value} {g : Obj → Obj} {o : Obj} (hh : s.heap.get? d = some o) (hd : 11 ≤ d) : Goes w 1 (.update d part g .pure) s P () { s with heap := s.heap.update d g } P := fun K H gd lv N r h =>
  tr_step rfl (by
    show (true && (Nat.ble 11 d || _ || _ || _)) = true
    rw [Nat.ble_eq_true_of_le hd]; rfl) (by obtain ⟨h0, g, dr, tk, os⟩ := s; simp only [Sem.wrap, step]; rw [hh]; rfl) h
theorem G_rule {t : String} : Goes w 1 (.rule t .pure) s P () s P := fun K H gd lv N r h =>
  tr_step rfl rfl (by obtain ⟨h0, g, dr, tk, os⟩ := s; simp only [Sem.wrap, step]) h
theorem G_at : Goes w 1 (.at P1 .pure) s P () s P1 := fun K H gd lv N r h =>
  tr_step rfl rfl (by obtain ⟨h0, g, dr, tk, os⟩ := s; simp only [Sem.wrap, step]) h
theorem G_fresh : Goes w 1 (.fresh .pure) s P s.toks { s with toks := s.toks + 1 } P := fun K H gd lv N r h =>
  tr_step rfl rfl (by obtain ⟨h0, g, dr, tk, os⟩ := s; simp only [Sem.wrap, step]) h
theorem G_seg {res : α → Flow} (inj : ∀ b, res b = res a → b = a) (h : ∀ gd lv, segRun treeTable PW w 11 ann0 1 n s ⟨x.wrap (fun b => .pure (.done (res b))) deadEnd gd lv, cE, P, B0⟩ = some (res a, s1, cE, P1)) : Goes w n x s P a s1 P1 := fun K H gd lv N r k => by
  obtain ⟨b, hb, q⟩ := seg_top (res := res) (K' := K) (H' := H) (gd := gd) (lv := lv) (B := B0) rfl n s ⟨x.wrap (fun b => .pure (.done (res b))) deadEnd gd lv, cE, P, B0⟩ ⟨x.wrap K H gd lv, cE, P, B0⟩ _ _ _ _ ⟨rfl, rfl, .inl ⟨rfl, rfl, _, rfl, rfl⟩⟩ (h gd lv)
  obtain rfl := inj b hb
  exact q N r k
end
def resO : Option Value → Flow
  | some v => .ret v
  | none => .next
theorem resO_inj (a : Option Value) : ∀ b, resO b = resO a → b = a := by
  intro b h
  cases a <;> cases b <;> simp_all [resO]
theorem G_special_hash {w : World} {s : Shared} {P : Pos} {k : Int} {t : Tok} : Goes w 1 (specialOf (.int k t) "__hash__") s P (some (.builtin "int.__hash__")) s P := by
  refine G_seg (res := resO) (resO_inj _) fun gd lv => ?_
  kernel_rfl
end Mine
end
section
open PySem PySem.W PyProof.Rows PySem.Calls PySem.Spec
set_option maxRecDepth 100000
namespace Mine
abbrev keepL : List Nat := [1, 2, 3, 5, 6, 8, 9, 11, 13, 14, 15, 16, 17, 19, 20, 21, 22, 23, 24]
def qV : Program := view PW keepL
abbrev looseL : List PySem.Str := ["COMPILER_FLAG_NAMES", "b1_set", "b3_exceptions"]
noncomputable abbrev H1h (P : Params) : Heap := absHeap (tree_f P) 158 {}
theorem h_st (w : World) : (staticsOk (importedModules PW.main.body) (boot_heap w.params) (H1h w.params)) = true := by kernel_rfl
theorem h_nb (w : World) : namesBound PW (H1h w.params) = true := by kernel_rfl
theorem h_gd (w : World) (os : OsState) : gensDone ⟨H1h w.params, #[], {}, 2384, os⟩ = true := by kernel_rfl
theorem h_lk (w : World) : laidKept (boot_heap w.params) (H1h w.params) = true := by kernel_rfl
abbrev recs0 : WRecords := []
abbrev XtV (s : Shared) : Bool := xlAt qV [] s && recOk [] s
theorem h_seen (w : World) : (fun os => openSeen qV looseL (importedModules PW.main.body) XtV true ⟨H1h w.params, #[], {}, 2384, os⟩) = fun _ => openGood qV looseL := by kernel_rfl
end Mine
end
section
open PySem PySem.W PyProof.Rows PySem.Calls PySem.Spec
set_option maxRecDepth 100000
namespace Mine
theorem G_callhash {w : World} {s : Shared} {P : Pos} {k : Int} {t : Tok} {R : Sem Value} : Goes w 40 (callSpecialIfBoundUnlessNone? (.int k t) "__hash__" R) s P (some (.int (rawHash k) s.toks)) { s with toks := s.toks + 1 } P := by
  refine G_seg (res := resO) (resO_inj _) ?_
  obtain ⟨h, g, d, tk, os⟩ := s
  refine byRow2 "special-get-raises" (P := fun w => ∀ gd lv, segRun treeTable PW w 11 ann0 1 40 ⟨h, g, d, tk, os⟩ ⟨(callSpecialIfBoundUnlessNone? (.int k t) "__hash__" R).wrap (fun b => .pure (.done (resO b))) deadEnd gd lv, cE, P, B0⟩ = some (resO (some (.int (rawHash k) tk)), ⟨h, g, d, tk + 1, os⟩, cE, P)) ?_ ?_ w
  · intro w gd lv
    kernel_rfl
  · intro w gd lv
    kernel_rfl
theorem G_hash {w : World} {s : Shared} {P : Pos} {k : Int} {t : Tok} : Goes w 50 (pyHash (.int k t)) s P (hashInt k) { s with toks := s.toks + 1 } P := by
  have hr := rawHash_range k
  unfold pyHash
  have hv : [Value.int k t].any Value.onHeap = false := rfl
  unfold pyHashByItsType
  refine Goes.le (Goes.bind (n := 0) (m := 1 + (1 + (40 + 0))) (a := ()) (s1 := s) (P1 := P) ?_ ?_) (by decide)
  · unfold cRoomFor
    rw [if_neg (by rw [hv]; exact Bool.false_ne_true)]
    exact Goes.pure
  refine Goes.bind G_special_hash ?_
  show Goes w _ (if (some (Value.builtin "int.__hash__") == some Value.none) = true then _ else _) s P _ _ _
  rw [if_neg (by rw [beq_builtin_none]; exact Bool.false_ne_true)]
  refine Goes.bind G_special_hash ?_
  refine Goes.bind G_callhash ?_
  show Goes w 0 (if (decide (-(2 : Int) ^ 63 ≤ rawHash k) && decide (rawHash k < 2 ^ 63)) = true then _ else _) _ P _ _ _
  rw [if_pos (by rw [decide_eq_true hr.1, decide_eq_true hr.2]; rfl)]
  exact Goes.pure
end Mine
end
section
open PySem PySem.W PyProof.Rows PySem.Calls PySem.Spec
set_option maxRecDepth 100000
namespace Mine
def hl (l : List Obj) : Heap := ⟨l.toArray, {}⟩
def S (os : OsState) (l : List Obj) (tk : Nat) : Shared := ⟨hl l, #[], {}, tk, os⟩
theorem hl_get {A B : List Obj} {o : Obj} (ho : o.isFreed = false) : (hl (A ++ o :: B)).get? A.length = some o :=
  Heap.get?_some_iff.mpr ⟨by simp [hl], ho⟩
theorem hl_upd {A B : List Obj} {o : Obj} {f : Obj → Obj} : (hl (A ++ o :: B)).update A.length f = hl (A ++ f o :: B) := by
  have : ((A ++ o :: B).toArray.modify A.length f) = (A ++ f o :: B).toArray := by
    apply Array.ext_getElem?
    intro i
    rw [Array.getElem?_modify]
    simp only [List.getElem?_toArray]
    by_cases e : A.length = i
    · subst e; simp
    · rw [if_neg e]
      by_cases h : i < A.length
      · rw [List.getElem?_append_left h, List.getElem?_append_left h]
      · rw [List.getElem?_append_right (by omega), List.getElem?_append_right (by omega)]
        obtain ⟨j, hj⟩ : ∃ j, i - A.length = j + 1 := ⟨i - A.length - 1, by omega⟩
        rw [hj]; simp
  show Heap.mk _ _ = Heap.mk _ _
  exact congrArg (Heap.mk · _) this
theorem hl_push {A : List Obj} {o : Obj} : (hl A).push o = hl (A ++ [o]) := by
  show Heap.mk _ _ = Heap.mk _ _
  simp [hl]
theorem hl_size {A : List Obj} : (hl A).objs.size = A.length := by simp [hl]
theorem dObj_free {es n} : (dObj es n).isFreed = false := rfl
theorem dObj_push {es n} {e : DictEntry} : Obj.mapDictKeys (·.push e) (dObj es n) = dObj (es ++ [e]) (n + 1) := by
  show Obj.mk _ _ (Data.dict _ _) _ = Obj.mk _ _ (Data.dict _ _) _
  simp
section
variable {w : World} {os : OsState} {A B : List Obj} {es : List DictEntry} {n tk : Nat} {P : Pos} {k : Int} {t : Tok} {v : Value}
theorem G_entries {part : Option Value} : Goes w 1 (dictEntries A.length part) (S os (A ++ dObj es n :: B) tk) P es.toArray (S os (A ++ dObj es n :: B) tk) P := by
  unfold dictEntries
  exact Goes.bind (n := 1) (m := 0) (G_load (hl_get dObj_free)) Goes.pure
theorem G_epoch {part : Option Value} : Goes w 1 (dictEpoch A.length part) (S os (A ++ dObj es n :: B) tk) P n (S os (A ++ dObj es n :: B) tk) P := by
  unfold dictEpoch
  exact Goes.bind (n := 1) (m := 0) (G_load (hl_get dObj_free)) Goes.pure
theorem G_push {part : Option Value} {e : DictEntry} (hA : 11 ≤ A.length) (hz : es.length ≤ 1000) : Goes w 3 (updateDictKeys A.length (·.push e) part) (S os (A ++ dObj es n :: B) tk) P () (S os (A ++ dObj (es ++ [e]) (n + 1) :: B) tk) P := by
  unfold updateDictKeys
  refine Goes.bind (n := 1) (m := 2) (G_load (hl_get dObj_free)) ?_
  refine Goes.bind (n := 1) (m := 1) (s1 := S os (A ++ dObj (es ++ [e]) (n + 1) :: B) tk) (P1 := P) (a := ()) ?_ ?_
  · have := G_update (w := w) (P := P) (part := part) (s := S os (A ++ dObj es n :: B) tk) (d := A.length) (g := Obj.mapDictKeys (·.push e)) (hl_get dObj_free) hA
    have q : { S os (A ++ dObj es n :: B) tk with heap := (S os (A ++ dObj es n :: B) tk).heap.update A.length (Obj.mapDictKeys (·.push e)) } = S os (A ++ dObj (es ++ [e]) (n + 1) :: B) tk := by
      show Shared.mk ((hl _).update _ _) _ _ _ _ = Shared.mk _ _ _ _ _
      rw [hl_upd, dObj_push]; rfl
    rw [q] at this
    exact this
  · unfold lookBehind
    refine Goes.bind (n := 1) (m := 0) (G_load (hl_get dObj_free)) ?_
    have : (dObj (es ++ [e]) (n + 1)).data.pastItsLine = none := by
      show (if (es ++ [e]).toArray.size > sizeLine + 1 then _ else _) = _
      rw [if_neg]
      simp [sizeLine]; omega
    rw [this]
    exact Goes.pure
theorem places_nil {h : Int} (hn : ∀ e ∈ es, e.hash ≠ h) : placesWithHash es.toArray.size (fun i => es.toArray[i]?.map (·.hash)) h = [] := by
  unfold placesWithHash
  rw [List.filter_eq_nil_iff]
  intro i hi
  simp only [List.getElem?_toArray, List.size_toArray, List.mem_range] at *
  rw [List.getElem?_eq_getElem hi]
  simp only [Option.map_some, beq_iff_eq, Option.some.injEq]
  exact hn _ (List.getElem_mem ..)
theorem G_find (hn : ∀ e ∈ es, e.hash ≠ h) : Goes w 1 (dictFind A.length (.int k t) h) (S os (A ++ dObj es n :: B) tk) P none (S os (A ++ dObj es n :: B) tk) P := by
  unfold dictFind
  show Goes w 1 (dictEntries A.length (keyPart (.int k t)) >>= _) _ _ _ _ _
  refine Goes.bind (n := 1) (m := 0) G_entries ?_
  dsimp only
  rw [places_nil hn]
  exact Goes.pure
theorem G_set {x : PySem.Str} {u : Tok} (hA : 11 ≤ A.length) (hz : es.length ≤ 1000) (hn : ∀ e ∈ es, e.hash ≠ hashInt k) : Goes w 60 (dictSet A.length (.int k t) (.str x u)) (S os (A ++ dObj es n :: B) tk) P () (S os (A ++ dObj (es ++ [⟨hashInt k, .int k t, .str x u⟩]) (n + 1) :: B) (tk + 1)) P := by
  unfold dictSet
  show Goes w 60 (pyHash (.int k t) >>= _) _ _ _ _ _
  refine Goes.le (Goes.bind (n := 50) (m := 1 + (1 + 3)) G_hash ?_) (by decide)
  unfold dictSetHashed
  show Goes w _ (dictFind A.length (.int k t) (hashInt k) >>= _) _ _ _ _ _
  refine Goes.bind (s1 := S os (A ++ dObj es n :: B) (tk + 1)) (G_find hn) ?_
  refine Goes.bind (s1 := S os (A ++ dObj es n :: B) (tk + 1)) G_rule ?_
  exact G_push hA hz
theorem G_put {x : PySem.Str} {u : Tok} {h : Int} (hA : 11 ≤ A.length) (hz : es.length ≤ 1000) (hn : ∀ e ∈ es, e.hash ≠ h) : Goes w 4 (dictPut A.length h (.int k t) (.str x u)) (S os (A ++ dObj es n :: B) tk) P () (S os (A ++ dObj (es ++ [⟨h, .int k t, .str x u⟩]) (n + 1) :: B) tk) P := by
  unfold dictPut
  refine Goes.bind (n := 1) (m := 3) (G_find hn) ?_
  exact G_push hA hz
end
end Mine
end
section
open PySem PySem.W PyProof.Rows PySem.Calls PySem.Spec
set_option maxRecDepth 100000
namespace Mine
structure PrOk (w : World) (os : OsState) (pos : Pos) (pr : Sem Value × Sem Value) (kv : Int × PySem.Str) : Prop where
  k : ∀ l tk, Goes w 3 pr.1 (S os l tk) pos (.int kv.1 tk) (S os l (tk + 1)) pos
  v : ∀ l tk, Goes w 5 pr.2 (S os l tk) pos (.str kv.2 tk) (S os l (tk + 1)) pos
def Prs (w : World) (os : OsState) (pos : Pos) : List (Sem Value × Sem Value) → List (Int × PySem.Str) → Prop
  | [], [] => True
  | p :: ps, k :: ks => PrOk w os pos p k ∧ Prs w os pos ps ks
  | _, _ => False
theorem Prs.len {w os pos} : ∀ {ps kvs}, Prs w os pos ps kvs → ps.length = kvs.length
  | [], [], _ => rfl
  | _ :: _, _ :: _, h => by simp [Prs.len h.2]
/-- keys that are told apart by their hash -/
structure Keys (es : List DictEntry) (kvs : List (Int × PySem.Str)) : Prop where
  out : ∀ e ∈ es, ∀ p ∈ kvs, e.hash ≠ p.1
  nd : (kvs.map (·.1)).Nodup
  h : ∀ p ∈ kvs, hashInt p.1 = p.1
theorem Keys.tail {es kv kvs t u} (K : Keys es (kv :: kvs)) : Keys (es ++ [⟨hashInt kv.1, .int kv.1 t, .str kv.2 u⟩]) kvs := by
  have nd := K.nd
  rw [List.map_cons, List.nodup_cons] at nd
  refine ⟨fun e he p hp => ?_, nd.2, fun p hp => K.h p (.tail _ hp)⟩
  rcases List.mem_append.mp he with he | he
  · exact K.out e he p (.tail _ hp)
  · rw [List.mem_singleton] at he
    subst he
    show hashInt kv.1 ≠ p.1
    rw [K.h kv (.head _)]
    intro q
    exact nd.1 (q ▸ List.mem_map_of_mem hp)
section
variable {w : World} {os : OsState} {A B : List Obj} {pos : Pos}
theorem G_loop {F : (Sem Value × Sem Value) → PUnit → Sem (ForInStep PUnit)} (hA : 11 ≤ A.length)
    (hF : ∀ k v, F (k, v) ⟨⟩ = k >>= fun kv => holding [kv] v >>= fun vv => holding [kv, vv] (dictSet A.length kv vv) >>= fun _ => pure (.yield ⟨⟩)) :
    ∀ {ps kvs} {es : List DictEntry} {n tk : Nat}, Prs w os pos ps kvs → Keys es kvs → es.length + kvs.length ≤ 1000 →
      Goes w (70 * kvs.length) (forIn ps PUnit.unit F) (S os (A ++ dObj es n :: B) tk) pos PUnit.unit (S os (A ++ dObj (es ++ mkE tk kvs) (n + kvs.length) :: B) (tk + 3 * kvs.length)) pos
  | [], [], es, n, tk, _, _, _ => by
    rw [List.forIn_nil]
    simp only [mkE, List.append_nil, List.length_nil, Nat.mul_zero, Nat.add_zero]
    exact Goes.pure
  | (k, v) :: ps, kv :: kvs, es, n, tk, h, K, l => by
    rw [List.forIn_cons, hF]
    have l' : es.length + (kvs.length + 1) ≤ 1000 := l
    refine Goes.le (Goes.bind (n := 3 + (5 + (60 + 0))) (m := 70 * kvs.length) (a := .yield ⟨⟩) (s1 := S os (A ++ dObj (es ++ [⟨hashInt kv.1, .int kv.1 tk, .str kv.2 (tk + 1)⟩]) (n + 1) :: B) (tk + 3)) (P1 := pos) ?_ ?_) (by rw [List.length_cons]; omega)
    · refine Goes.bind (h.1.k _ _) ?_
      show Goes w _ (v >>= fun vv => holding [.int kv.1 tk, vv] (dictSet A.length (.int kv.1 tk) vv) >>= fun _ => pure (ForInStep.yield PUnit.unit)) _ _ _ _ _
      refine Goes.bind (h.1.v _ _) ?_
      show Goes w _ (dictSet A.length (.int kv.1 tk) (.str kv.2 (tk + 1)) >>= fun _ => pure (ForInStep.yield PUnit.unit)) _ _ _ _ _
      refine Goes.bind (G_set hA (by omega) fun e he => by rw [K.h kv (.head _)]; exact K.out e he kv (.head _)) ?_
      exact Goes.pure
    · have := G_loop hA hF (es := es ++ [⟨hashInt kv.1, .int kv.1 tk, .str kv.2 (tk + 1)⟩]) (n := n + 1) (tk := tk + 3) h.2 K.tail (by simp; omega)
      have e1 : es ++ [⟨hashInt kv.1, .int kv.1 tk, .str kv.2 (tk + 1)⟩] ++ mkE (tk + 3) kvs = es ++ mkE tk (kv :: kvs) := by
        rw [List.append_assoc, K.h kv (.head _)]; rfl
      rw [e1, show n + 1 + kvs.length = n + (kv :: kvs).length by rw [List.length_cons]; omega, show tk + 3 + 3 * kvs.length = tk + 3 * (kv :: kvs).length by rw [List.length_cons]; omega] at this
      exact this
theorem G_loop2 {F : (Sem Value × Sem Value) → PUnit → Sem (ForInStep PUnit)} {ps kvs tk} (hA : 11 ≤ A.length) (h : Prs w os pos ps kvs) (K : Keys [] kvs) (l : kvs.length ≤ 1000)
    (hF : ∀ k v, F (k, v) ⟨⟩ = k >>= fun kv => holding [kv] v >>= fun vv => holding [kv, vv] (dictSet A.length kv vv) >>= fun _ => pure (.yield ⟨⟩)) :
    Goes w (70 * kvs.length) (forIn ps PUnit.unit F) (S os (A ++ [dObj [] 0]) tk) pos PUnit.unit (S os (A ++ [dObj (mkE tk kvs) kvs.length]) (tk + 3 * kvs.length)) pos := by
  have := G_loop (w := w) (os := os) (A := A) (B := []) (pos := pos) (es := []) (n := 0) (tk := tk) hA hF h K (by simpa using l)
  rw [List.nil_append, Nat.zero_add] at this
  exact this
theorem G_subLong {ps kvs tk} (hA : 11 ≤ A.length) (h : Prs w os pos ps kvs) (K : Keys [] kvs) (l : kvs.length ≤ 1000) (l15 : ¬ ps.length ≤ 15) :
    Goes w (70 * kvs.length + 2) (subDict ps) (S os A tk) pos A.length (S os (A ++ [dObj (mkE tk kvs) kvs.length]) (tk + 3 * kvs.length)) pos := by
  unfold subDict
  refine Goes.le (Goes.bind (n := 1) (m := (1 + (70 * kvs.length)) + 0) (s1 := S os (A ++ [dObj [] 0]) tk) (a := A.length) (P1 := pos) ?_ ?_) (by omega)
  · have := G_alloc (w := w) (s := S os A tk) (P := pos) (o := dObj [] 0)
    have q : { S os A tk with heap := (S os A tk).heap.push (dObj [] 0) } = S os (A ++ [dObj [] 0]) tk := by
      show Shared.mk ((hl _).push _) _ _ _ _ = Shared.mk _ _ _ _ _
      rw [hl_push]; rfl
    rw [q] at this
    have q2 : (S os A tk).heap.objs.size = A.length := hl_size
    rw [q2] at this
    exact this
  · refine Goes.bind (s1 := S os (A ++ [dObj (mkE tk kvs) kvs.length]) (tk + 3 * kvs.length)) (P1 := pos) (a := ()) ?_ Goes.pure
    refine Goes.keep ?_
    rw [if_neg l15]
    refine Goes.bind G_rule ?_
    refine Goes.bind (m := 0) (G_loop2 hA h K l ?_) Goes.pure
    intro k v
    rfl
end
end Mine
end
section
open PySem PySem.W PyProof.Rows PySem.Calls PySem.Spec
set_option maxRecDepth 100000
namespace Mine
def resB (b : Bool) : Flow := .ret (.bool b)
theorem resB_inj (a : Bool) : ∀ b, resB b = resB a → b = a := by intro b h; simpa [resB] using h
section
variable {w : World} {os : OsState} {A B : List Obj} {pos : Pos}
theorem G_subtype {s : Shared} : Goes w 1 (isSubtype (.type "dict") (.type "dict")) s pos true s pos := by
  refine G_seg (res := resB) (resB_inj _) fun gd lv => ?_
  kernel_rfl
theorem G_lookIter {s : Shared} : Goes w 1 (typeLookup (.type "dict") "__iter__") s pos (some (.builtin "dict.__iter__")) s pos := by
  refine G_seg (res := resO) (resO_inj _) fun gd lv => ?_
  kernel_rfl
theorem G_typeOf {es n tk} : Goes w 1 (typeOf (.ref A.length)) (S os (A ++ dObj es n :: B) tk) pos (.type "dict") (S os (A ++ dObj es n :: B) tk) pos := by
  show Goes w 1 (loadPart A.length (some headPart) >>= fun o => Pure.pure o.cls) _ _ _ _ _
  exact Goes.bind (n := 1) (m := 0) (G_load (hl_get dObj_free)) Goes.pure
theorem G_isDict {es n tk} : Goes w 2 (isInstance (.ref A.length) (.type "dict")) (S os (A ++ dObj es n :: B) tk) pos true (S os (A ++ dObj es n :: B) tk) pos := by
  unfold isInstance
  exact Goes.bind (n := 1) (m := 1) G_typeOf G_subtype
theorem G_iterOf {es n tk} : Goes w 2 (specialOf (.ref A.length) "__iter__") (S os (A ++ dObj es n :: B) tk) pos (some (.builtin "dict.__iter__")) (S os (A ++ dObj es n :: B) tk) pos := by
  unfold specialOf
  exact Goes.bind (n := 1) (m := 1) G_typeOf G_lookIter
/-- the entries of a display -/
def Disp (es : List DictEntry) : Prop := ∀ e ∈ es, ∃ k t x u, e = ⟨e.hash, .int k t, .str x u⟩
def Fresh (es ces : List DictEntry) : Prop := (∀ e ∈ es, ∀ c ∈ ces, e.hash ≠ c.hash) ∧ (ces.map (·.hash)).Nodup
theorem Fresh.tail {es e ces} (F : Fresh es (e :: ces)) : Fresh (es ++ [e]) ces := by
  have nd := F.2
  rw [List.map_cons, List.nodup_cons] at nd
  refine ⟨fun x hx c hc => ?_, nd.2⟩
  rcases List.mem_append.mp hx with hx | hx
  · exact F.1 x hx c (.tail _ hc)
  · rw [List.mem_singleton] at hx
    subst hx
    intro q
    exact nd.1 (q ▸ List.mem_map_of_mem hc)
theorem G_mloop {F : Nat → PUnit → Sem (ForInStep PUnit)} {ces : List DictEntry} {m L : Nat} (hA : 11 ≤ A.length) (hL : L = (A ++ dObj [] 0 :: B).length)
    (hFG : ∃ G : Nat → Array DictEntry → Sem (ForInStep PUnit), (∀ i, F i ⟨⟩ = dictEntries L >>= G i) ∧
      ∀ i es e, es[i]? = some e → ∃ bad, G i es = (holding [e.key, e.val] (dictPut A.length e.hash e.key e.val) >>= fun _ => dictEpoch L >>= fun ep => if (ep != m) = true then bad else pure (ForInStep.yield PUnit.unit))) (hD : Disp ces) :
    ∀ (rest pre : List DictEntry) {es : List DictEntry} {n tk : Nat}, ces = pre ++ rest → Fresh es rest → es.length + rest.length ≤ 1000 →
      Goes w (8 * rest.length) (forIn (List.range' pre.length rest.length) PUnit.unit F) (S os ((A ++ dObj es n :: B) ++ [dObj ces m]) tk) pos PUnit.unit (S os ((A ++ dObj (es ++ rest) (n + rest.length) :: B) ++ [dObj ces m]) tk) pos
  | [], pre, es, n, tk, _, _, _ => by
    simp only [List.length_nil, List.range'_zero, List.forIn_nil, List.append_nil, Nat.mul_zero, Nat.add_zero]
    exact Goes.pure
  | e :: rest, pre, es, n, tk, h, Fr, l => by
    have hFG' := hFG
    obtain ⟨G, hF, hG⟩ := hFG'
    rw [List.length_cons, List.range'_succ, List.forIn_cons, hF]
    have l' : es.length + (rest.length + 1) ≤ 1000 := l
    have hL' : ∀ {es n}, L = (A ++ dObj es n :: B).length := by intro es n; rw [hL]; simp
    refine Goes.le (Goes.bind (n := 1 + (4 + (1 + 0))) (m := 8 * rest.length) (a := ForInStep.yield PUnit.unit) (s1 := S os ((A ++ dObj (es ++ [e]) (n + 1) :: B) ++ [dObj ces m]) tk) (P1 := pos) ?_ ?_) (by omega)
    · have he : ces.toArray[pre.length]? = some e := by rw [h]; simp
      refine Goes.bind (a := ces.toArray) (s1 := S os ((A ++ dObj es n :: B) ++ [dObj ces m]) tk) (P1 := pos) (by rw [hL' (es := es) (n := n)]; exact G_entries (B := [])) ?_
      obtain ⟨k, t, x, u, hh⟩ := hD e (h ▸ List.mem_append_right _ (.head _))
      obtain ⟨bad, hb⟩ := hG pre.length ces.toArray e he
      rw [hb, hh]
      refine Goes.bind (n := 4) (a := ()) (s1 := S os ((A ++ dObj (es ++ [⟨e.hash, .int k t, .str x u⟩]) (n + 1) :: B) ++ [dObj ces m]) tk) (P1 := pos) ?_ ?_
      · have := G_put (w := w) (os := os) (A := A) (B := B ++ [dObj ces m]) (es := es) (n := n) (tk := tk) (P := pos) (k := k) (t := t) (x := x) (u := u) (h := e.hash) hA (by omega) (fun y hy => Fr.1 y hy e (.head _))
        rw [show A ++ dObj es n :: (B ++ [dObj ces m]) = (A ++ dObj es n :: B) ++ [dObj ces m] by simp, show A ++ dObj (es ++ [⟨e.hash, .int k t, .str x u⟩]) (n + 1) :: (B ++ [dObj ces m]) = (A ++ dObj (es ++ [⟨e.hash, .int k t, .str x u⟩]) (n + 1) :: B) ++ [dObj ces m] by simp] at this
        exact this
      · refine Goes.bind (a := m) (s1 := S os ((A ++ dObj (es ++ [⟨e.hash, .int k t, .str x u⟩]) (n + 1) :: B) ++ [dObj ces m]) tk) (P1 := pos) (by rw [hL' (es := es ++ [⟨e.hash, .int k t, .str x u⟩]) (n := n + 1)]; exact G_epoch (B := [])) ?_
        rw [if_neg (by simp)]
        exact Goes.pure
    · have := G_mloop hA hL hFG hD rest (pre ++ [e]) (es := es ++ [e]) (n := n + 1) (tk := tk) (by rw [h]; simp) Fr.tail (by simp; omega)
      rw [show (pre ++ [e]).length = pre.length + 1 by simp, show n + 1 + rest.length = n + (rest.length + 1) by omega, show es ++ [e] ++ rest = es ++ e :: rest by simp] at this
      exact this
theorem G_merge {ces es : List DictEntry} {m n tk L : Nat} (hA : 11 ≤ A.length) (hL : L = (A ++ dObj [] 0 :: B).length) (hD : Disp ces) (Fr : Fresh es ces) (l : es.length + ces.length ≤ 1000) (he : es ≠ []) :
    Goes w (8 * ces.length + 20) (mergeMapping A.length (.ref L) false) (S os ((A ++ dObj es n :: B) ++ [dObj ces m]) tk) pos () (S os ((A ++ dObj (es ++ ces) (n + ces.length) :: B) ++ [dObj ces m]) tk) pos := by
  have hL' : ∀ {es n}, L = (A ++ dObj es n :: B).length := by intro es n; rw [hL]; simp
  unfold mergeMapping
  refine Goes.le (Goes.bind (n := 2) (m := 2 + (0 + (1 + (1 + (1 + (8 * ces.length)))))) (a := true) (s1 := S os ((A ++ dObj es n :: B) ++ [dObj ces m]) tk) (P1 := pos) ?_ ?_) (by omega)
  · rw [hL' (es := es) (n := n)]
    exact G_isDict (B := [])
  rw [if_pos rfl]
  refine Goes.bind (a := some (.builtin "dict.__iter__")) (s1 := S os ((A ++ dObj es n :: B) ++ [dObj ces m]) tk) (P1 := pos) ?_ ?_
  · rw [hL' (es := es) (n := n)]
    exact G_iterOf (B := [])
  refine Goes.bind (n := 0) (a := true) Goes.pure ?_
  have hs : (L == sysModules) = false := by
    rw [hL]; simp only [beq_eq_false_iff_ne]
    have h2 : sysModules < 11 := by decide
    have h3 : A.length ≤ (A ++ dObj [] 0 :: B).length := by simp
    exact Nat.ne_of_gt (Nat.lt_of_lt_of_le h2 (Nat.le_trans hA h3))
  dsimp only
  rw [hs]
  simp only [Bool.false_eq_true, if_false]
  refine Goes.bind (a := es.toArray) (s1 := S os ((A ++ dObj es n :: B) ++ [dObj ces m]) tk) (P1 := pos) ?_ ?_
  · rw [List.append_assoc, List.cons_append]
    exact G_entries
  rw [if_neg (by simpa using he)]
  refine Goes.bind (a := ces.toArray) (s1 := S os ((A ++ dObj es n :: B) ++ [dObj ces m]) tk) (P1 := pos) ?_ ?_
  · rw [hL' (es := es) (n := n)]
    exact G_entries (B := [])
  refine Goes.bind (a := m) (s1 := S os ((A ++ dObj es n :: B) ++ [dObj ces m]) tk) (P1 := pos) ?_ ?_
  · rw [hL' (es := es) (n := n)]
    exact G_epoch (B := [])
  refine Goes.bind (n := 8 * ces.length) (m := 0) (a := PUnit.unit) (s1 := S os ((A ++ dObj (es ++ ces) (n + ces.length) :: B) ++ [dObj ces m]) tk) (P1 := pos) ?_ Goes.pure
  rw [List.size_toArray, List.range_eq_range']
  refine G_mloop hA hL ?_ hD ces [] rfl Fr l
  refine ⟨_, fun i => rfl, ?_⟩
  · intro i es e h
    refine ⟨(unsupported "dict.changed-during-merge" : Sem PUnit) >>= fun _ => pure (ForInStep.yield PUnit.unit), ?_⟩
    simp only [h]
end
end Mine
end
section
open PySem PySem.W PyProof.Rows PySem.Calls PySem.Spec
set_option maxRecDepth 100000
namespace Mine
def pairsAt (t : Nat) : List (Int × PySem.Str) → List (Value × Value)
  | [] => []
  | p :: r => (.int p.1 t, .str p.2 (t + 1)) :: pairsAt (t + 2) r
theorem holding_none {α : Type} {l : List Value} {x : Sem α} (h : ∀ v ∈ l, carriedByValue v = true) : holding l x = x := by
  unfold holding
  split
  · rfl
  · rename_i refs hx
    exfalso
    apply hx
    rw [List.filter_eq_nil_iff]
    intro v hv
    have := h v hv
    cases v <;> simp_all [carriedByValue]
theorem pairsAt_carried {t : Nat} : ∀ {kvs : List (Int × PySem.Str)} {t : Nat}, ∀ v ∈ ((pairsAt t kvs).flatMap fun (k, v) => [k, v]), carriedByValue v = true
  | [], _, _, h => by simp [pairsAt] at h
  | p :: r, t, v, h => by
    simp only [pairsAt, List.flatMap_cons, List.mem_append, List.mem_cons, List.not_mem_nil, or_false] at h
    rcases h with (h | h) | h
    · subst h; rfl
    · subst h; rfl
    · exact pairsAt_carried (t := t) v h
section
variable {w : World} {os : OsState} {A B : List Obj} {pos : Pos}
theorem G_evalPairs {l : List Obj} : ∀ {ps kvs} {tk : Nat}, Prs w os pos ps kvs → Goes w (8 * kvs.length) (evalPairs ps) (S os l tk) pos (pairsAt tk kvs) (S os l (tk + 2 * kvs.length)) pos
  | [], [], tk, _ => Goes.pure
  | (k, v) :: ps, kv :: kvs, tk, h => by
    unfold evalPairs
    refine Goes.le (Goes.bind (n := 3) (m := 5 + (8 * kvs.length + 0)) (h.1.k _ _) ?_) (by rw [List.length_cons]; omega)
    show Goes w _ (v >>= fun vv => (holding [.int kv.1 tk, vv] (evalPairs ps)) >>= fun r => Pure.pure ((.int kv.1 tk, vv) :: r)) _ _ _ _ _
    refine Goes.bind (h.1.v _ _) ?_
    show Goes w _ (evalPairs ps >>= fun r => Pure.pure ((.int kv.1 tk, .str kv.2 (tk + 1)) :: r)) _ _ _ _ _
    refine Goes.bind (G_evalPairs h.2) ?_
    rw [show tk + 1 + 1 + 2 * kvs.length = tk + 2 * (kv :: kvs).length by rw [List.length_cons]; omega]
    exact Goes.pure
theorem G_sloop {F : (Value × Value) → PUnit → Sem (ForInStep PUnit)} (hA : 11 ≤ A.length)
    (hF : ∀ k v, F (k, v) ⟨⟩ = dictSet A.length k v >>= fun _ => pure (.yield ⟨⟩)) :
    ∀ {kvs} {es : List DictEntry} {n u tk : Nat}, Keys es kvs → es.length + kvs.length ≤ 1000 →
      Goes w (60 * kvs.length) (forIn (pairsAt u kvs) PUnit.unit F) (S os (A ++ dObj es n :: B) tk) pos PUnit.unit (S os (A ++ dObj (es ++ mkL u kvs) (n + kvs.length) :: B) (tk + kvs.length)) pos
  | [], es, n, u, tk, _, _ => by
    simp only [pairsAt, List.forIn_nil, mkL, List.append_nil, List.length_nil, Nat.mul_zero, Nat.add_zero]
    exact Goes.pure
  | kv :: kvs, es, n, u, tk, K, l => by
    have l' : es.length + (kvs.length + 1) ≤ 1000 := l
    unfold pairsAt
    rw [List.forIn_cons, hF]
    refine Goes.le (Goes.bind (n := 60 + 0) (m := 60 * kvs.length) (a := .yield ⟨⟩) (s1 := S os (A ++ dObj (es ++ [⟨hashInt kv.1, .int kv.1 u, .str kv.2 (u + 1)⟩]) (n + 1) :: B) (tk + 1)) (P1 := pos) ?_ ?_) (by rw [List.length_cons]; omega)
    · refine Goes.bind (G_set hA (by omega) fun e he => by rw [K.h kv (.head _)]; exact K.out e he kv (.head _)) ?_
      exact Goes.pure
    · have := G_sloop hA hF (es := es ++ [⟨hashInt kv.1, .int kv.1 u, .str kv.2 (u + 1)⟩]) (n := n + 1) (u := u + 2) (tk := tk + 1) K.tail (by simp; omega)
      have e1 : es ++ [⟨hashInt kv.1, .int kv.1 u, .str kv.2 (u + 1)⟩] ++ mkL (u + 2) kvs = es ++ mkL u (kv :: kvs) := by
        rw [List.append_assoc, K.h kv (.head _)]; rfl
      rw [e1, show n + 1 + kvs.length = n + (kv :: kvs).length by rw [List.length_cons]; omega, show tk + 1 + kvs.length = tk + (kv :: kvs).length by rw [List.length_cons]; omega] at this
      exact this
theorem G_sloop2 {F : (Value × Value) → PUnit → Sem (ForInStep PUnit)} {kvs u tk} (hA : 11 ≤ A.length) (K : Keys [] kvs) (l : kvs.length ≤ 1000)
    (hF : ∀ k v, F (k, v) ⟨⟩ = dictSet A.length k v >>= fun _ => pure (.yield ⟨⟩)) :
    Goes w (60 * kvs.length) (forIn (pairsAt u kvs) PUnit.unit F) (S os (A ++ [dObj [] 0]) tk) pos PUnit.unit (S os (A ++ [dObj (mkL u kvs) kvs.length]) (tk + kvs.length)) pos := by
  have := G_sloop (w := w) (os := os) (A := A) (B := []) (pos := pos) (es := []) (n := 0) (u := u) (tk := tk) hA hF K (by simpa using l)
  rw [List.nil_append, Nat.zero_add] at this
  exact this
theorem G_dalloc {tk} : Goes w 1 (alloc { cls := .type "dict", data := .dict #[] }) (S os A tk) pos A.length (S os (A ++ [dObj [] 0]) tk) pos := by
  have := G_alloc (w := w) (s := S os A tk) (P := pos) (o := dObj [] 0)
  have q : { S os A tk with heap := (S os A tk).heap.push (dObj [] 0) } = S os (A ++ [dObj [] 0]) tk := by
    show Shared.mk ((hl _).push _) _ _ _ _ = Shared.mk _ _ _ _ _
    rw [hl_push]; rfl
  rw [q] at this
  have q2 : (S os A tk).heap.objs.size = A.length := hl_size
  rw [q2] at this
  exact this
theorem G_subShort {ps kvs tk} (hA : 11 ≤ A.length) (h : Prs w os pos ps kvs) (K : Keys [] kvs) (l : kvs.length ≤ 1000) (l15 : ps.length ≤ 15) :
    Goes w (70 * kvs.length + 2) (subDict ps) (S os A tk) pos A.length (S os (A ++ [dObj (mkL tk kvs) kvs.length]) (tk + 3 * kvs.length)) pos := by
  unfold subDict
  refine Goes.le (Goes.bind (n := 1) (m := ((8 * kvs.length) + (60 * kvs.length + 0)) + 0) (s1 := S os (A ++ [dObj [] 0]) tk) (a := A.length) (P1 := pos) G_dalloc ?_) (by omega)
  refine Goes.bind (s1 := S os (A ++ [dObj (mkL tk kvs) kvs.length]) (tk + 3 * kvs.length)) (P1 := pos) (a := ()) ?_ Goes.pure
  refine Goes.keep ?_
  rw [if_pos l15]
  refine Goes.bind (G_evalPairs h) ?_
  rw [holding_none (pairsAt_carried (t := 0))]
  have e3 : tk + 3 * kvs.length = tk + 2 * kvs.length + kvs.length := by omega
  rw [e3]
  refine Goes.bind (n := 60 * kvs.length) (m := 0) (G_sloop2 hA K l ?_) Goes.pure
  intro k v
  rfl
end
end Mine
end
section
open PySem PySem.W PyProof.Rows PySem.Calls PySem.Spec
set_option maxRecDepth 100000
namespace Mine
abbrev Pr := Sem Value × Sem Value
abbrev Kv := Int × PySem.Str
abbrev It := Option (Sem Value) × Sem Value
abbrev toIt (p : Pr) : It := (some p.1, p.2)
def flushD (run : List Pr) (main : Option Addr) : Sem (Option Addr) :=
  if run.isEmpty = true then pure main else match main with
    | none => subDict run >>= fun a => pure (some a)
    | some d => holding [.ref d] (subDict run) >>= fun sub => (holding [.ref d, .ref sub] (mergeMapping d (.ref sub) false)).onRaise (fun x => holding [.ref d, x] (runValue (.builtin "proto.let_go" {})) >>= fun _ => pure ()) >>= fun _ => pure (some d)
structure LoopF (F : It → (Option Addr × List Pr) → Sem (ForInStep (Option Addr × List Pr))) : Prop where
  stay : ∀ (p : Pr) m r, (r ++ [p]).length ≠ 17 → F (toIt p) (m, r) = pure (.yield (m, r ++ [p]))
  full : ∀ (p : Pr) m r, (r ++ [p]).length = 17 → F (toIt p) (m, r) = flushD (r ++ [p]) m >>= fun m' => pure (.yield (m', []))
theorem mkE_hash : ∀ (kvs : List Kv) (t : Nat), (mkE t kvs).map (·.hash) = kvs.map (·.1)
  | [], _ => rfl
  | p :: r, t => by simp [mkE, mkE_hash r]
theorem mkL_hash : ∀ (kvs : List Kv) (t : Nat), (mkL t kvs).map (·.hash) = kvs.map (·.1)
  | [], _ => rfl
  | p :: r, t => by simp [mkL, mkL_hash r]
theorem mkE_len : ∀ (kvs : List Kv) (t : Nat), (mkE t kvs).length = kvs.length := fun kvs t => by
  have := congrArg List.length (mkE_hash kvs t); simpa using this
theorem mkL_len : ∀ (kvs : List Kv) (t : Nat), (mkL t kvs).length = kvs.length := fun kvs t => by
  have := congrArg List.length (mkL_hash kvs t); simpa using this
theorem mkE_disp : ∀ (kvs : List Kv) (t : Nat), Disp (mkE t kvs)
  | [], _ => fun e h => by simp [mkE] at h
  | p :: r, t => fun e h => by
    rcases List.mem_cons.mp h with h | h
    · subst h; exact ⟨_, _, _, _, rfl⟩
    · exact mkE_disp r _ e h
theorem mkL_disp : ∀ (kvs : List Kv) (t : Nat), Disp (mkL t kvs)
  | [], _ => fun e h => by simp [mkL] at h
  | p :: r, t => fun e h => by
    rcases List.mem_cons.mp h with h | h
    · subst h; exact ⟨_, _, _, _, rfl⟩
    · exact mkL_disp r _ e h
/-- the keys still to come, beside the entries that stand -/
structure KLeft (es : List DictEntry) (kvs : List Kv) : Prop where
  nd : (es.map (·.hash) ++ kvs.map (·.1)).Nodup
  h : ∀ p ∈ kvs, hashInt p.1 = p.1
  l : es.length + kvs.length ≤ 1000
theorem KLeft.keys {es c r} (L : KLeft es (c ++ r)) : Keys [] c := by
  have := L.nd
  rw [List.map_append, ← List.append_assoc] at this
  exact ⟨fun e he => (nomatch he), (List.nodup_append.mp (List.nodup_append.mp this).1).2.1, fun p hp => L.h p (List.mem_append_left _ hp)⟩
theorem KLeft.fresh {es c r ces} (L : KLeft es (c ++ r)) (h : ces.map DictEntry.hash = c.map Prod.fst) : Fresh es ces := by
  have := L.nd
  rw [List.map_append, ← List.append_assoc] at this
  have := (List.nodup_append.mp this).1
  rw [← h] at this
  obtain ⟨_, n2, n3⟩ := List.nodup_append.mp this
  exact ⟨fun e he c hc => n3 _ (List.mem_map_of_mem he) _ (List.mem_map_of_mem hc), n2⟩
theorem KLeft.next {es c r ces} (L : KLeft es (c ++ r)) (h : ces.map DictEntry.hash = c.map Prod.fst) : KLeft (es ++ ces) r := by
  refine ⟨?_, fun p hp => L.h p (List.mem_append_right _ hp), ?_⟩
  · rw [List.map_append, h, List.append_assoc, ← List.map_append]; exact L.nd
  · have e := congrArg List.length h
    have := L.l
    simp only [List.length_map, List.length_append] at *
    omega
section
variable {w : World} {os : OsState} {A B : List Obj} {pos : Pos} {F : It → (Option Addr × List Pr) → Sem (ForInStep (Option Addr × List Pr))}
theorem G_chunk (hF : LoopF F) {rest : List It} {m m' : Option Addr} {n c : Nat} {s s1 s2 : Shared} {r' : Option Addr × List Pr} :
    ∀ (ps r : List Pr), r.length + ps.length = 17 → ps ≠ [] → Goes w n (flushD (r ++ ps) m) s pos m' s1 pos → Goes w c (forIn rest (m', []) F) s1 pos r' s2 pos →
      Goes w (n + c) (forIn (ps.map toIt ++ rest) (m, r) F) s pos r' s2 pos
  | [], _, _, h, _, _ => absurd rfl h
  | [p], r, l, _, h1, h2 => by
    rw [List.map_cons, List.map_nil, List.cons_append, List.nil_append, List.forIn_cons, hF.full p m r (by simpa using l)]
    refine Goes.bind (n := n + 0) (Goes.bind h1 Goes.pure) ?_
    exact h2
  | p :: q :: ps, r, l, _, h1, h2 => by
    rw [List.map_cons, List.cons_append, List.forIn_cons, hF.stay p m r (by simp at l ⊢; omega)]
    refine Goes.le (Goes.bind (n := 0) (m := n + c) Goes.pure ?_) (by omega)
    exact G_chunk hF (q :: ps) (r ++ [p]) (by simp at l ⊢; omega) (by simp) (by simpa using h1) h2
theorem G_tail (hF : LoopF F) {m : Option Addr} {s : Shared} : ∀ (ps r : List Pr), r.length + ps.length < 17 → Goes w 0 (forIn (ps.map toIt) (m, r) F) s pos (m, r ++ ps) s pos
  | [], r, _ => by rw [List.append_nil]; exact Goes.pure
  | p :: ps, r, l => by
    rw [List.map_cons, List.forIn_cons, hF.stay p m r (by simp at l ⊢; omega)]
    refine Goes.bind (n := 0) (m := 0) Goes.pure ?_
    have := G_tail hF (m := m) (s := s) ps (r ++ [p]) (by simp at l ⊢; omega)
    rw [List.append_assoc, List.singleton_append] at this
    exact this
theorem G_flush0 {ps : List Pr} {kvs : List Kv} {tk : Nat} (hA : 11 ≤ A.length) (h : Prs w os pos ps kvs) (K : Keys [] kvs) (l : kvs.length = 17) :
    Goes w 1500 (flushD ps none) (S os A tk) pos (some A.length) (S os (A ++ [dObj (mkE tk kvs) kvs.length]) (tk + 3 * kvs.length)) pos := by
  have lp := h.len
  unfold flushD
  rw [if_neg (by rw [List.isEmpty_iff]; rintro rfl; simp at lp; omega)]
  exact Goes.le (Goes.bind (m := 0) (G_subLong hA h K (by omega) (by omega)) Goes.pure) (by omega)
theorem G_flushB {ps : List Pr} {kvs : List Kv} {es : List DictEntry} {n tk : Nat} {ces : List DictEntry} (hA : 11 ≤ A.length) (he : es ≠ []) (hl : 0 < ps.length)
    (hs : Goes w 1500 (subDict ps) (S os (A ++ dObj es n :: B) tk) pos (A ++ dObj es n :: B).length (S os ((A ++ dObj es n :: B) ++ [dObj ces ces.length]) (tk + 3 * ces.length)) pos)
    (hD : Disp ces) (Fr : Fresh es ces) (l : es.length + ces.length ≤ 1000) (l2 : ces.length ≤ 17) :
    Goes w 2000 (flushD ps (some A.length)) (S os (A ++ dObj es n :: B) tk) pos (some A.length) (S os (A ++ dObj (es ++ ces) (n + ces.length) :: (B ++ [dObj ces ces.length])) (tk + 3 * ces.length)) pos := by
  unfold flushD
  rw [if_neg (by rw [List.isEmpty_iff]; rintro rfl; simp at hl)]
  refine Goes.le (Goes.bind (n := 1500) (m := (8 * ces.length + 20) + 0) (Goes.keep (l := [.ref A.length]) hs) ?_) (by omega)
  refine Goes.bind (Goes.onRaise (Goes.keep (l := [.ref A.length, .ref (A ++ dObj es n :: B).length]) (G_merge hA (by simp) hD Fr l he))) ?_
  rw [show (A ++ dObj (es ++ ces) (n + ces.length) :: B) ++ [dObj ces ces.length] = A ++ dObj (es ++ ces) (n + ces.length) :: (B ++ [dObj ces ces.length]) by simp]
  exact Goes.pure
end
end Mine
end
section
open PySem PySem.W PyProof.Rows PySem.Calls PySem.Spec
set_option maxRecDepth 100000
namespace Mine
abbrev Chk := List Pr × List Kv
def midE (t : Nat) : List Chk → List DictEntry
  | [] => []
  | c :: cs => mkE t c.2 ++ midE (t + 51) cs
def midO (t : Nat) : List Chk → List Obj
  | [] => []
  | c :: cs => dObj (mkE t c.2) c.2.length :: midO (t + 51) cs
section
variable {w : World} {os : OsState} {A B : List Obj} {pos : Pos} {F : It → (Option Addr × List Pr) → Sem (ForInStep (Option Addr × List Pr))}
theorem G_mid (hF : LoopF F) (hA : 11 ≤ A.length) {rest : List It} {c : Nat} {s2 : Shared} {r' : Option Addr × List Pr} {kr : List Kv} :
    ∀ (cs : List Chk) {es : List DictEntry} {n : Nat} {B : List Obj} {tk : Nat}, (∀ c ∈ cs, Prs w os pos c.1 c.2 ∧ c.2.length = 17) → KLeft es (cs.flatMap (·.2) ++ kr) → es ≠ [] →
      Goes w c (forIn rest (some A.length, []) F) (S os (A ++ dObj (es ++ midE tk cs) (n + 17 * cs.length) :: (B ++ midO tk cs)) (tk + 51 * cs.length)) pos r' s2 pos →
      Goes w (2000 * cs.length + c) (forIn ((cs.flatMap (·.1)).map toIt ++ rest) (some A.length, []) F) (S os (A ++ dObj es n :: B) tk) pos r' s2 pos
  | [], es, n, B, tk, _, _, _, h => by
    simp only [List.flatMap_nil, List.map_nil, List.nil_append, List.length_nil, Nat.mul_zero, Nat.zero_add, Nat.add_zero, midE, midO, List.append_nil] at h ⊢
    exact h
  | c0 :: cs, es, n, B, tk, hc, L, he, h => by
    obtain ⟨p0, l0⟩ := hc c0 (.head _)
    have lp := p0.len
    rw [List.flatMap_cons, List.append_assoc] at L
    have K := L.keys
    have hh := mkE_hash c0.2 tk
    have ll := mkE_len c0.2 tk
    have Fr := L.fresh hh
    rw [List.flatMap_cons, List.map_append, List.append_assoc]
    have h51 : tk + 3 * (mkE tk c0.2).length = tk + 51 := by omega
    have f := G_flushB (w := w) (os := os) (A := A) (B := B) (pos := pos) (ps := c0.1) (kvs := c0.2) (es := es) (n := n) (tk := tk) (ces := mkE tk c0.2) hA he (by omega)
      (by rw [ll]; exact Goes.le (G_subLong (by simp; omega) p0 K (by omega) (by omega)) (by omega)) (mkE_disp _ _) Fr (by have := L.l; simp at this; omega) (by omega)
    rw [h51, ll] at f
    refine Goes.le (G_chunk hF c0.1 [] (by simp; omega) (by rintro e; rw [e] at lp; simp at lp; omega) f ?_ (c := 2000 * cs.length + c)) (by rw [List.length_cons]; omega)
    refine G_mid hF hA cs (fun c h => hc c (.tail _ h)) (L.next hh) (by simp [he]) ?_
    have e1 : es ++ mkE tk c0.2 ++ midE (tk + 51) cs = es ++ midE tk (c0 :: cs) := by simp [midE]
    have e2 : (B ++ [dObj (mkE tk c0.2) c0.2.length]) ++ midO (tk + 51) cs = B ++ midO tk (c0 :: cs) := by simp [midO]
    rw [e1, e2, show n + c0.2.length + 17 * cs.length = n + 17 * (c0 :: cs).length by rw [List.length_cons]; omega, show tk + 51 + 51 * cs.length = tk + 51 * (c0 :: cs).length by rw [List.length_cons]; omega]
    exact h
theorem G_display (hA : 11 ≤ A.length) {c0 last : Chk} {cs : List Chk} {tk : Nat} (h0 : Prs w os pos c0.1 c0.2 ∧ c0.2.length = 17) (hc : ∀ c ∈ cs, Prs w os pos c.1 c.2 ∧ c.2.length = 17)
    (hl : Prs w os pos last.1 last.2) (l0 : 0 < last.2.length) (l15 : last.2.length ≤ 15) (L : KLeft [] (c0.2 ++ (cs.flatMap (·.2) ++ (last.2 ++ [])))) :
    Goes w (2000 * cs.length + 4000) (dictDisplay (c0.1.map toIt ++ ((cs.flatMap (·.1)).map toIt ++ last.1.map toIt))) (S os A tk) pos (.ref A.length)
      (S os (A ++ dObj (mkE tk c0.2 ++ midE (tk + 51) cs ++ mkL (tk + 51 + 51 * cs.length) last.2) (17 + 17 * cs.length + last.2.length) :: (midO (tk + 51) cs ++ [dObj (mkL (tk + 51 + 51 * cs.length) last.2) last.2.length])) (tk + 51 + 51 * cs.length + 3 * last.2.length)) pos := by
  obtain ⟨p0, q0⟩ := h0
  have lp := p0.len
  have ll := hl.len
  unfold dictDisplay
  have hh := mkE_hash c0.2 tk
  have L1 := L.next hh
  rw [List.nil_append] at L1
  have hmid : ∀ (cs : List Chk) (t : Nat), (midE t cs).map (·.hash) = (cs.flatMap (·.2)).map (·.1) := by
    intro cs
    induction cs with
    | nil => intro t; rfl
    | cons c cs ih => intro t; simp only [midE, List.map_append, List.flatMap_cons, mkE_hash, ih]
  have L2 := L1.next (hmid cs (tk + 51))
  have e0 : mkE tk c0.2 ≠ [] := by intro e; have := mkE_len c0.2 tk; rw [e] at this; simp at this; omega
  dsimp only
  refine Goes.le (Goes.bind (n := 1500 + (2000 * cs.length + 0)) (m := 2000 + 0) (a := (some A.length, last.1)) (P1 := pos)
    (s1 := S os (A ++ dObj (mkE tk c0.2 ++ midE (tk + 51) cs) (17 + 17 * cs.length) :: midO (tk + 51) cs) (tk + 51 + 51 * cs.length)) ?_ ?_) (by omega)
  · refine G_chunk (m' := some A.length) (s1 := S os (A ++ [dObj (mkE tk c0.2) c0.2.length]) (tk + 3 * c0.2.length)) ?hF c0.1 [] (by simp; omega) (by rintro e; rw [e] at lp; simp at lp; omega) (G_flush0 hA p0 L.keys q0) ?_
    case hF =>
      constructor
      · intro p m r h
        show (if ((r ++ [p]).length == 17) = true then _ else _) = _
        rw [if_neg (by simpa using h)]
      · intro p m r h
        show (if ((r ++ [p]).length == 17) = true then _ else _) = _
        rw [if_pos (by simpa using h)]
        rfl
    rw [show tk + 3 * c0.2.length = tk + 51 by omega]
    refine G_mid ?hF hA cs hc L1 e0 ?_
    case hF =>
      constructor
      · intro p m r h
        show (if ((r ++ [p]).length == 17) = true then _ else _) = _
        rw [if_neg (by simpa using h)]
      · intro p m r h
        show (if ((r ++ [p]).length == 17) = true then _ else _) = _
        rw [if_pos (by simpa using h)]
        rfl
    rw [q0, List.nil_append]
    have tl : ∀ F, LoopF F → Goes w 0 (forIn (last.1.map toIt) (some A.length, []) F) (S os (A ++ dObj (mkE tk c0.2 ++ midE (tk + 51) cs) (17 + 17 * cs.length) :: midO (tk + 51) cs) (tk + 51 + 51 * cs.length)) pos (some A.length, last.1) (S os (A ++ dObj (mkE tk c0.2 ++ midE (tk + 51) cs) (17 + 17 * cs.length) :: midO (tk + 51) cs) (tk + 51 + 51 * cs.length)) pos := fun F hF =>
      G_tail hF last.1 [] (by simp; omega)
    refine tl _ ?_
    constructor
    · intro p m r h
      show (if ((r ++ [p]).length == 17) = true then _ else _) = _
      rw [if_neg (by simpa using h)]
    · intro p m r h
      show (if ((r ++ [p]).length == 17) = true then _ else _) = _
      rw [if_pos (by simpa using h)]
      rfl
  · have ml := mkL_len last.2 (tk + 51 + 51 * cs.length)
    have f := G_flushB (w := w) (os := os) (A := A) (B := midO (tk + 51) cs) (pos := pos) (ps := last.1) (kvs := last.2) (es := mkE tk c0.2 ++ midE (tk + 51) cs) (n := 17 + 17 * cs.length) (tk := tk + 51 + 51 * cs.length) (ces := mkL (tk + 51 + 51 * cs.length) last.2) hA (by simp [e0]) (by omega)
      (by rw [ml]; exact Goes.le (G_subShort (by simp; omega) hl L2.keys (by omega) (by omega)) (by omega)) (mkL_disp _ _) (L2.fresh (mkL_hash _ _)) (by have := L2.l; simp at this ⊢; omega) (by omega)
    rw [ml] at f
    refine Goes.bind (n := 2000) (m := 0) f ?_
    exact Goes.pure
end
end Mine
end
section
open PySem PySem.W PyProof.Rows PySem.Calls PySem.Spec
set_option maxRecDepth 100000
namespace Mine
noncomputable section
def tree_x (P : Params) : BT := (.node (boot_o_0 P) (.node (boot_o_1 P) (.node (o_9_3 P) (.node (boot_o_7 P) (.node (o_1_15 P) (.node (o_7_31 P) (.node (b3o 1 P) .nil .nil) (.node (b3o 33 P) .nil .nil)) (.node (o_8_47 P) (.node (b3o 17 P) .nil .nil) .nil)) (.node (o_7_23 P) (.node (o_7_39 P) (.node (b3o 9 P) .nil .nil) .nil) (.node (o_9_55 P) (.node (b3o 25 P) .nil .nil) .nil))) (.node (o_a_11 P) (.node (o_7_19 P) (.node (o_7_35 P) (.node (b3o 5 P) .nil .nil) (.node (b3o 37 P) .nil .nil)) (.node (o_8_51 P) (.node (b3o 21 P) .nil .nil) .nil)) (.node (o_7_27 P) (.node (o_7_43 P) (.node (b3o 13 P) .nil .nil) .nil) (.node (o_9_59 P) (.node (b3o 29 P) .nil .nil) .nil)))) (.node (boot_o_5 P) (.node (boot_o_9 P) (.node (o_7_17 P) (.node (o_7_33 P) (.node (b3o 3 P) .nil .nil) (.node (b3o 35 P) .nil .nil)) (.node (o_8_49 P) (.node (b3o 19 P) .nil .nil) .nil)) (.node (o_7_25 P) (.node (o_7_41 P) (.node (b3o 11 P) .nil .nil) .nil) (.node (o_9_57 P) (.node (b3o 27 P) .nil .nil) .nil))) (.node (o_a_13 P) (.node (o_7_21 P) (.node (o_7_37 P) (.node (b3o 7 P) .nil .nil) .nil) (.node (o_8_53 P) (.node (b3o 23 P) .nil .nil) .nil)) (.node (o_7_29 P) (.node (o_8_45 P) (.node (b3o 15 P) .nil .nil) .nil) (.node (o_9_61 P) (.node (b3o 31 P) .nil .nil) .nil))))) (.node (boot_o_2 P) (.node (boot_o_4 P) (.node (boot_o_8 P) (.node (o_7_16 P) (.node (o_7_32 P) (.node (b3o 2 P) .nil .nil) (.node (b3o 34 P) .nil .nil)) (.node (o_8_48 P) (.node (b3o 18 P) .nil .nil) .nil)) (.node (o_7_24 P) (.node (o_7_40 P) (.node (b3o 10 P) .nil .nil) .nil) (.node (o_9_56 P) (.node (b3o 26 P) .nil .nil) .nil))) (.node (o_9_12 P) (.node (o_7_20 P) (.node (o_7_36 P) (.node (b3o 6 P) .nil .nil) (.node (b3o 38 P) .nil .nil)) (.node (o_8_52 P) (.node (b3o 22 P) .nil .nil) .nil)) (.node (o_7_28 P) (.node (o_8_44 P) (.node (b3o 14 P) .nil .nil) .nil) (.node (o_9_60 P) (.node (b3o 30 P) .nil .nil) .nil)))) (.node (boot_o_6 P) (.node (boot_o_10 P) (.node (o_7_18 P) (.node (o_7_34 P) (.node (b3o 4 P) .nil .nil) (.node (b3o 36 P) .nil .nil)) (.node (o_8_50 P) (.node (b3o 20 P) .nil .nil) .nil)) (.node (o_7_26 P) (.node (o_7_42 P) (.node (b3o 12 P) .nil .nil) .nil) (.node (o_9_58 P) (.node (b3o 28 P) .nil .nil) .nil))) (.node (o_a_14 P) (.node (o_7_22 P) (.node (o_7_38 P) (.node (b3o 8 P) .nil .nil) .nil) (.node (o_8_54 P) (.node (b3o 24 P) .nil .nil) .nil)) (.node (o_7_30 P) (.node (o_8_46 P) (.node (b3o 16 P) .nil .nil) .nil) (.node (b3o 0 P) (.node (b3o 32 P) .nil .nil) .nil))))))
def objs_x (P : Params) : List Obj := [boot_o_0 P, boot_o_1 P, boot_o_2 P, o_9_3 P, boot_o_4 P, boot_o_5 P, boot_o_6 P, boot_o_7 P, boot_o_8 P, boot_o_9 P, boot_o_10 P, o_a_11 P, o_9_12 P, o_a_13 P, o_a_14 P, o_1_15 P, o_7_16 P, o_7_17 P, o_7_18 P, o_7_19 P, o_7_20 P, o_7_21 P, o_7_22 P, o_7_23 P, o_7_24 P, o_7_25 P, o_7_26 P, o_7_27 P, o_7_28 P, o_7_29 P, o_7_30 P, o_7_31 P, o_7_32 P, o_7_33 P, o_7_34 P, o_7_35 P, o_7_36 P, o_7_37 P, o_7_38 P, o_7_39 P, o_7_40 P, o_7_41 P, o_7_42 P, o_7_43 P, o_8_44 P, o_8_45 P, o_8_46 P, o_8_47 P, o_8_48 P, o_8_49 P, o_8_50 P, o_8_51 P, o_8_52 P, o_8_53 P, o_8_54 P, o_9_55 P, o_9_56 P, o_9_57 P, o_9_58 P, o_9_59 P, o_9_60 P, o_9_61 P, b3o 0 P, b3o 1 P, b3o 2 P, b3o 3 P, b3o 4 P, b3o 5 P, b3o 6 P, b3o 7 P, b3o 8 P, b3o 9 P, b3o 10 P, b3o 11 P, b3o 12 P, b3o 13 P, b3o 14 P, b3o 15 P, b3o 16 P, b3o 17 P, b3o 18 P, b3o 19 P, b3o 20 P, b3o 21 P, b3o 22 P, b3o 23 P, b3o 24 P, b3o 25 P, b3o 26 P, b3o 27 P, b3o 28 P, b3o 29 P, b3o 30 P, b3o 31 P, b3o 32 P, b3o 33 P, b3o 34 P, b3o 35 P, b3o 36 P, b3o 37 P, b3o 38 P]

/-- the statement of the table B.3 -/
def b3ks : List (Option PySem.Expr) := match PW.main.body[10]? with | some (PySem.Stmt.Assign _ (PySem.Expr.Dict ks _ _) _) => ks | _ => []
def b3vs : List PySem.Expr := match PW.main.body[10]? with | some (PySem.Stmt.Assign _ (PySem.Expr.Dict _ vs _) _) => vs | _ => []
def b3pos : Pos := match PW.main.body[10]? with | some (PySem.Stmt.Assign _ (PySem.Expr.Dict _ _ p) _) => p | _ => default
def b3tg : List PySem.Expr := match PW.main.body[10]? with | some (PySem.Stmt.Assign t _ _) => t | _ => []
def b3at : Pos := match PW.main.body[10]? with | some (PySem.Stmt.Assign _ _ p) => p | _ => default
theorem b3_stmt : st 10 1 = [PySem.Stmt.Assign b3tg (PySem.Expr.Dict b3ks b3vs b3pos) b3at] := by kernel_rfl
def prOf (x : Option PySem.Expr × PySem.Expr) : Pr := (match x.1 with | some k => eval k env1 | none => .unsupported "", do let v ← eval x.2 env1; standAt b3pos; pure v)
def b3pr : List Pr := b3st.map prOf
theorem b3_items : (evalEachOpt b3ks env1).zip ((evalEach b3vs env1).map fun v => do let x ← v; standAt b3pos; pure x) = b3pr.map toIt := by kernel_rfl
def isKV : Option PySem.Expr × PySem.Expr → Bool | (some (PySem.Expr.Constant (.int _) _ _), PySem.Expr.Constant (.str _) _ _) => true | _ => false
theorem b3_kv : b3st.all isKV = true := by kernel_rfl
end
end Mine
end
section
open PySem PySem.W PyProof.Rows PySem.Calls PySem.Spec
set_option maxRecDepth 100000
namespace Mine
noncomputable section
theorem kv_inv {x : Option PySem.Expr × PySem.Expr} (h : isKV x = true) : ∃ i a p s a' p', x = (some (PySem.Expr.Constant (.int i) a p), PySem.Expr.Constant (.str s) a' p') := by
  unfold isKV at h
  split at h
  · exact ⟨_, _, _, _, _, _, rfl⟩
  · cases h
theorem prOk_of {w : World} {os : OsState} {x : Option PySem.Expr × PySem.Expr} (h : isKV x = true) : PrOk w os b3pos (prOf x) (kvOf x) := by
  obtain ⟨i, a, p, s, a', p', rfl⟩ := kv_inv h
  refine ⟨fun l tk => ?_, fun l tk => ?_⟩
  · show Goes w 3 (fresh >>= fun t => Pure.pure (Value.int i t)) _ _ _ _ _
    exact Goes.le (Goes.bind (n := 1) (m := 0) G_fresh Goes.pure) (by decide)
  · show Goes w 5 ((fresh >>= fun t => Pure.pure (Value.str s t)) >>= fun v => standAt b3pos >>= fun _ => Pure.pure v) _ _ _ _ _
    refine Goes.le (Goes.bind (n := 1 + 0) (m := 1 + 0) (Goes.bind G_fresh Goes.pure) ?_) (by decide)
    exact Goes.bind G_at Goes.pure
theorem prs_of {w : World} {os : OsState} : ∀ {l : List (Option PySem.Expr × PySem.Expr)}, l.all isKV = true → Prs w os b3pos (l.map prOf) (l.map kvOf)
  | [], _ => trivial
  | x :: l, h => by
    rw [List.all_cons, Bool.and_eq_true] at h
    exact ⟨prOk_of h.1, prs_of h.2⟩
def ltAll : Int → List Kv → Bool
  | _, [] => true
  | a, p :: r => match decide (a < p.1) && (hashInt p.1 == p.1) with | true => ltAll p.1 r | false => false
theorem ltAll_lt : ∀ {l : List Kv} {a : Int}, ltAll a l = true → (∀ p ∈ l, a < p.1 ∧ hashInt p.1 = p.1) ∧ (l.map (·.1)).Nodup
  | [], a, _ => ⟨fun _ h => (nomatch h), by simp⟩
  | p :: r, a, h => by
    unfold ltAll at h
    split at h
    · rename_i hp
      simp only [Bool.and_eq_true, decide_eq_true_eq, beq_iff_eq] at hp
      obtain ⟨h1, h2⟩ := ltAll_lt h
      refine ⟨fun q hq => ?_, ?_⟩
      · rcases List.mem_cons.mp hq with rfl | hq
        · exact hp
        · exact ⟨Int.lt_trans hp.1 (h1 q hq).1, (h1 q hq).2⟩
      · rw [List.map_cons, List.nodup_cons]
        refine ⟨fun hm => ?_, h2⟩
        obtain ⟨q, hq, e⟩ := List.mem_map.mp hm
        have := (h1 q hq).1
        rw [e] at this
        exact absurd this (Int.lt_irrefl _)
    · cases h
theorem b3_lt : ltAll 180 b3kv = true := by kernel_rfl
theorem b3_len : b3kv.length = 650 := by kernel_rfl
def chk (a k : Nat) : Chk := (((b3st.drop a).take k).map prOf, ((b3st.drop a).take k).map kvOf)
def c0 : Chk := chk 0 17
def cs : List Chk := (List.range 37).map fun i => chk (17 * (i + 1)) 17
def cl : Chk := chk 646 4
theorem all_chk {a k : Nat} : ((b3st.drop a).take k).all isKV = true := by
  have := b3_kv
  rw [List.all_eq_true] at this ⊢
  exact fun x hx => this x (List.mem_of_mem_drop (List.mem_of_mem_take hx))
theorem b3_split : b3pr.map toIt = c0.1.map toIt ++ ((cs.flatMap (·.1)).map toIt ++ cl.1.map toIt) := by kernel_rfl
theorem b3_ksplit : b3kv = c0.2 ++ (cs.flatMap (·.2) ++ (cl.2 ++ [])) := by kernel_rfl
theorem cs_len : cs.all (fun c => c.2.length == 17) = true := by kernel_rfl
theorem cs_mem {w os} : ∀ c ∈ cs, Prs w os b3pos c.1 c.2 ∧ c.2.length = 17 := by
  intro c hc
  have := List.all_eq_true.mp cs_len c hc
  refine ⟨?_, by simpa using this⟩
  obtain ⟨i, _, rfl⟩ := List.mem_map.mp hc
  exact prs_of all_chk
theorem b3_left : KLeft [] (c0.2 ++ (cs.flatMap (·.2) ++ (cl.2 ++ []))) := by
  rw [← b3_ksplit]
  obtain ⟨h1, h2⟩ := ltAll_lt b3_lt
  exact ⟨by simpa using h2, fun p hp => (h1 p hp).2, by rw [b3_len]; decide⟩
theorem G_b3eval {w : World} {os : OsState} {A : List Obj} {tk : Nat} {P : Pos} (hA : 11 ≤ A.length) : Goes w 80000 (eval (PySem.Expr.Dict b3ks b3vs b3pos) env1) (S os A tk) P (.ref A.length)
    (S os (A ++ dObj (mkE tk c0.2 ++ midE (tk + 51) cs ++ mkL (tk + 51 + 51 * 37) cl.2) 650 :: (midO (tk + 51) cs ++ [dObj (mkL (tk + 51 + 51 * 37) cl.2) 4])) (tk + 1950)) b3pos := by
  have e : eval (PySem.Expr.Dict b3ks b3vs b3pos) env1 = (standAt b3pos >>= fun _ => dictDisplay (b3pr.map toIt)) := by
    rw [← b3_items]
    kernel_rfl
  rw [e, b3_split]
  have lc : cs.length = 37 := by kernel_rfl
  have ll : cl.2.length = 4 := by kernel_rfl
  have l0 : c0.2.length = 17 := by kernel_rfl
  have := G_display (w := w) (os := os) (A := A) (pos := b3pos) hA (c0 := c0) (last := cl) (cs := cs) (tk := tk) ⟨prs_of all_chk, l0⟩ cs_mem (prs_of all_chk) (by rw [ll]; decide) (by rw [ll]; decide) b3_left
  rw [lc, ll] at this
  refine Goes.le (Goes.bind (n := 1) G_at this) (by decide)
end
end Mine
end
section
open PySem PySem.W PyProof.Rows PySem.Calls PySem.Spec
set_option maxRecDepth 100000
namespace Mine
noncomputable section
def resF (f : Flow) : Flow := f
theorem objs9_len (P : Params) : (objs_9 P).length = 62 := rfl
theorem S9_eq (w : World) (os : OsState) : (sh (tree_9 w.params) 62 332 os).abs = S os (objs_9 w.params) 332 := by kernel_rfl
theorem Sx_eq (w : World) (os : OsState) : S os (objs_9 w.params ++ dObj (mkE 332 c0.2 ++ midE (332 + 51) cs ++ mkL (332 + 51 + 51 * 37) cl.2) 650 :: (midO (332 + 51) cs ++ [dObj (mkL (332 + 51 + 51 * 37) cl.2) 4])) (332 + 1950) = (sh (tree_x w.params) 101 2282 os).abs := by kernel_rfl
theorem G_swaps {w : World} {s : Shared} {P : Pos} : Goes w 5 (swapsWithSole b3tg (PySem.Expr.Dict b3ks b3vs b3pos) b3at.line env1) s P false s P := by
  refine G_seg (res := resB) (resB_inj _) fun gd lv => ?_
  kernel_rfl
theorem G_store {w : World} {os : OsState} : Goes w 40 ((swappedStores b3tg (PySem.Expr.Dict b3ks b3vs b3pos) env1) >>= fun o => assignStores env1 (.ref 62) o ((assignEach b3tg env1).map (·.2))) (sh (tree_x w.params) 101 2282 os).abs b3pos .next (sh (tree_10 w.params) 101 2283 os).abs ⟨59, 0, 59, 13⟩ := by
  refine G_seg (res := resF) (fun b h => h) fun gd lv => ?_
  refine segRun_of (s := sh (tree_x w.params) 101 2282 os) (s' := sh (tree_10 w.params) 101 2283 os) ?_
  kernel_rfl
theorem G_b3 {w : World} {os : OsState} {P : Pos} : Goes w 81000 (exec (PySem.Stmt.Assign b3tg (PySem.Expr.Dict b3ks b3vs b3pos) b3at) env1) (sh (tree_9 w.params) 62 332 os).abs P .next (sh (tree_10 w.params) 101 2283 os).abs ⟨59, 0, 59, 13⟩ := by
  have e : exec (PySem.Stmt.Assign b3tg (PySem.Expr.Dict b3ks b3vs b3pos) b3at) env1 = (standAt b3at >>= fun _ => swapsWithSole b3tg (PySem.Expr.Dict b3ks b3vs b3pos) b3at.line env1 >>= fun b => if b = true then (evalThenUse (PySem.Expr.Dict b3ks b3vs b3pos) env1 (fun v => assignAll v ((assignEach b3tg env1).map (·.2))) >>= fun _ => Pure.pure Flow.next) else (eval (PySem.Expr.Dict b3ks b3vs b3pos) env1 >>= fun v => swappedStores b3tg (PySem.Expr.Dict b3ks b3vs b3pos) env1 >>= fun o => assignStores env1 v o ((assignEach b3tg env1).map (·.2)))) := by
    kernel_rfl
  rw [e, S9_eq]
  have h := G_b3eval (w := w) (os := os) (A := objs_9 w.params) (tk := 332) (P := b3at) (by rw [objs9_len]; decide)
  rw [objs9_len, Sx_eq] at h
  refine Goes.le (Goes.bind (n := 1) (m := 5 + (80000 + 40)) G_at ?_) (by decide)
  refine Goes.bind G_swaps ?_
  rw [if_neg (by decide)]
  exact Goes.bind h G_store
end
end Mine
end
section
open PySem PySem.W PyProof.Rows PySem.Calls PySem.Spec
set_option maxRecDepth 100000
namespace Mine
noncomputable section
theorem g8 (w : World) : ∀ os : OsState, segRunT treeTable PW w 11 ann0 1 999 (sh (tree_7 w.params) 44 265 os) (piecesOf (st 8 1) env1 cE ⟨55, 0, 55, 8⟩ B0) = some (.next, sh (tree_8 w.params) 55 325 os, cE, ⟨56, 0, 56, 6⟩) :=
  byRow2 "set-order" (P := fun w => ∀ os : OsState, segRunT treeTable PW w 11 ann0 1 999 (sh (tree_7 w.params) 44 265 os) (piecesOf (st 8 1) env1 cE ⟨55, 0, 55, 8⟩ B0) = some (.next, sh (tree_8 w.params) 55 325 os, cE, ⟨56, 0, 56, 6⟩))
    (byRow2 "special-get-raises" (P := fun w => ∀ os : OsState, segRunT treeTable PW (w.withFollow "set-order" false) 11 ann0 1 999 (sh (tree_7 (w.withFollow "set-order" false).params) 44 265 os) (piecesOf (st 8 1) env1 cE ⟨55, 0, 55, 8⟩ B0) = some (.next, sh (tree_8 (w.withFollow "set-order" false).params) 55 325 os, cE, ⟨56, 0, 56, 6⟩))
      (fun w os => g8' w os false false) (fun w os => g8' w os true false))
    (byRow2 "special-get-raises" (P := fun w => ∀ os : OsState, segRunT treeTable PW (w.withFollow "set-order" true) 11 ann0 1 999 (sh (tree_7 (w.withFollow "set-order" true).params) 44 265 os) (piecesOf (st 8 1) env1 cE ⟨55, 0, 55, 8⟩ B0) = some (.next, sh (tree_8 (w.withFollow "set-order" true).params) 55 325 os, cE, ⟨56, 0, 56, 6⟩))
      (fun w os => g8' w os false true) (fun w os => g8' w os true true)) w
theorem rest_goes {w : World} {n N : Nat} {s s' r : Shared} {stm : Stmt} {rest : List Stmt} {P P' : Pos} (h : Goes w n (exec stm env1) s P .next s' P')
    (k : TR w N s' (restOf rest env1 cE P' B0) = some r) : TR w (n + N) s (restOf ([stm] ++ rest) env1 cE P B0) = some r := by
  unfold restOf
  rw [List.singleton_append, execs_cons_wrap]
  exact h _ _ _ _ _ _ k
theorem bE_split : bE = st 0 1 ++ (st 1 1 ++ (st 2 6 ++ (st 8 1 ++ (st 9 1 ++ ([PySem.Stmt.Assign b3tg (PySem.Expr.Dict b3ks b3vs b3pos) b3at] ++ (st 11 14 ++ [])))))) := by
  rw [← b3_stmt]
  kernel_rfl
abbrev MM : Nat := 12 + (1 + (10 + (141 + (157 + (999 + (30 + (81000 + (360 + 2))))))))
theorem h_run (w : World) (os : OsState) : topRun treeTable PW w 11 ann0 MM ⟨boot_heap w.params, Array.mk [], boot_drawn, boot_toks, os⟩ (topStub PW) = some (sh (tree_f w.params) 158 2384 os).abs := by
  refine go_top (h_pre w os) ?_
  refine piece_block (env := env1) (b := bE) (h_block w os) ?_
  rw [bE_split]
  refine piece_app (segRun_of (g0 w os)) ?_
  refine piece_app (segRun_of (g1 w os)) ?_
  refine piece_app (segRun_of (g2 w os)) ?_
  refine piece_app (segRun_of (g8 w os)) ?_
  refine piece_app (segRun_of (g9 w os)) ?_
  refine rest_goes G_b3 ?_
  refine piece_app (segRun_of (g11 w os)) ?_
  refine piece_nil ?_
  exact h_fin w os
end
end Mine
end
section
open PySem PySem.W PyProof.Rows PySem.Calls PySem.Spec
set_option maxRecDepth 100000
namespace Mine
noncomputable section
theorem h_looks (w : World) : (fun os => ((staticsOk (importedModules PW.main.body) (boot_heap w.params) (H1h w.params) && namesBound PW (H1h w.params) && gensDone ⟨H1h w.params, #[], {}, 2384, os⟩ && laidKept (boot_heap w.params) (H1h w.params)),
        openSeen qV looseL (importedModules PW.main.body) XtV true ⟨H1h w.params, #[], {}, 2384, os⟩, (⟨H1h w.params, #[], {}, 2384, os⟩ : Shared).heap)) = fun _ => (true, openGood qV looseL, H1h w.params) := by
  funext os
  exact Prod.ext (by dsimp only; rw [h_st, h_nb, h_gd, h_lk]; rfl) (Prod.ext (congrFun (h_seen w) os) rfl)
theorem h_left : LeftO PW qV looseL XtV (fun s => s.heap) (fun w => H1h w.params) NN :=
  LeftO.of_pieces (H₀ := boot_heap) (H₁ := H1h) (gs₀ := Array.mk []) (gs₁ := #[]) (d₀ := boot_drawn) (d₁ := {}) (k₀ := boot_toks) (k₁ := 2384) (m₀ := 11) (ann := ann0) (M := MM) h_open h_size h_run (by decide) h_looks
end
end Mine
end
section
open PySem PySem.W PyProof.Rows PySem.Calls PySem.Spec
set_option maxRecDepth 100000
namespace Mine
def YPw (w : World) (h : Heap) : Prop := ∀ b o, (H1h w.params).get? b = some o → h.get? b = some o
abbrev theRow := PySem.Challenge.rw_st0038_01.row
theorem h_bare : theRow.prog.bare := ⟨rfl, rfl, rfl, rfl, rfl, by decide +kernel⟩
def dPos (i : Nat) : Pos := match PW.main.body[i]? with | some (PySem.Stmt.FunctionDef _ _ _ _ _ _ _ _ _ p) => p | _ => default
def dLaw : DefRec := ⟨"law", dPar 24, dBod 24, dSco 24, dPos 24⟩
theorem h_def : defOf qV theRow.name = some (dLaw, []) := by kernel_rfl
theorem h_thedef : theRow.prog.theDef theRow.name = some (dLaw.params, dLaw.body, dLaw.scope) := by kernel_rfl
theorem h_kw : kwWritten? dLaw.params.kwonlyargs dLaw.params.kw_defaults = some [] := by kernel_rfl
theorem h_ok : (chainsOk qV && opensWell theRow.prog && (frees theRow.toRowW && theRow.within.isEmpty)) = true := by kernel_rfl
theorem h_prom : theRow.toRowW.promised := by
  exact ⟨[ofPy (PyData.list [PyData.int 3])], by decide +kernel, by decide +kernel⟩
end Mine
end
section
open PySem PySem.W PyProof.Rows PySem.Calls PySem.Spec
set_option maxRecDepth 100000
namespace Mine
noncomputable section
theorem recs_eq : (List.range 25).filterMap fnRec = (recsOf qV).map (fun d => (d.name, d.params, d.body, d.scope)) := by kernel_rfl
theorem body_len : PW.main.body.length = 25 := by kernel_rfl
theorem fnRec_mem {i : Nat} {t} (h : fnRec i = some t) : ∃ d ∈ recsOf qV, (d.name, d.params, d.body, d.scope) = t := by
  have hi : i < 25 := by
    rcases Nat.lt_or_ge i 25 with q | q
    · exact q
    · unfold fnRec at h
      rw [List.getElem?_eq_none (by rw [body_len]; exact q)] at h
      cases h
  have : t ∈ (List.range 25).filterMap fnRec := List.mem_filterMap.mpr ⟨i, List.mem_range.mpr hi, h⟩
  rw [recs_eq] at this
  obtain ⟨d, hd, e⟩ := List.mem_map.mp this
  exact ⟨d, hd, e⟩
def es3 (P : Params) : Array DictEntry := match (o_24_3 P).data with | .dict es _ => es | _ => #[]
def ep3 (P : Params) : Nat := match (o_24_3 P).data with | .dict _ n => n | _ => 0
theorem o3_data (P : Params) : (o_24_3 P).data = .dict (es3 P) (ep3 P) := rfl
theorem get3 (P : Params) : (H1h P).get? mainGlobals = some (o_24_3 P) := by kernel_rfl
theorem get15 (P : Params) : (H1h P).get? 15 = some (o_1_15 P) := by kernel_rfl
theorem get51 (P : Params) : (H1h P).get? 51 = some (o_8_51 P) := by kernel_rfl
theorem get62 (P : Params) : (H1h P).get? 62 = some (b3o 0 P) := by kernel_rfl
theorem mg_es {w : World} {h : Heap} {mg} (g : h.Ns mainGlobals mg) (Y : YPw w h) (x : PySem.Str) : mg x = nsFind (es3 w.params) x := by
  obtain ⟨o, es, ep, ho, hd, _, hf⟩ := g
  have := Y _ _ (get3 w.params)
  rw [ho] at this
  cases this
  rw [o3_data] at hd
  cases hd
  exact (hf x).symm
theorem free3 (P : Params) : bnames.all (fun x => (nsFind (es3 P) x).isNone) = true := by kernel_rfl
theorem v_fl (P : Params) : nsFind (es3 P) "COMPILER_FLAG_NAMES" = some (.ref 15) := by kernel_rfl
theorem v_b1 (P : Params) : nsFind (es3 P) "b1_set" = some (.ref 51) := by kernel_rfl
theorem v_b3 (P : Params) : nsFind (es3 P) "b3_exceptions" = some (.ref 62) := by kernel_rfl
theorem v_1 (P : Params) : nsFind (es3 P) "_CASE_COST" = some (.int 1 2297) := by kernel_rfl
theorem v_2 (P : Params) : nsFind (es3 P) "_MOVE_COST" = some (.int 2 2295) := by kernel_rfl
theorem v_40 (P : Params) : nsFind (es3 P) "_MAX_STRING_SIZE" = some (.int 40 2293) := by kernel_rfl
def fles (P : Params) : Array DictEntry := match (o_1_15 P).data with | .dict es _ => es | _ => #[]
def flep (P : Params) : Nat := match (o_1_15 P).data with | .dict _ n => n | _ => 0
theorem fl_data (P : Params) : (o_1_15 P).data = .dict (fles P) (flep P) := rfl
def b3es : Array DictEntry := ((List.range 39).flatMap b3ch).toArray
theorem b3_data (P : Params) : (b3o 0 P).data = .dict b3es 650 := rfl
def intK (p : Int → Bool) (e : DictEntry) : Bool := match e.key with | .int k _ => e.hash == hashInt k && p k | _ => false
theorem fl_keys (P : Params) : (fles P).toList.all (intK fun k => decide (k < 1024)) = true := by kernel_rfl
theorem b3_keys : b3es.toList.all (intK fun k => decide (128 ≤ k)) = true := by kernel_rfl
theorem keysOf_of {w : World} {es : Array DictEntry} {p : Int → Bool} (h : es.toList.all (intK p) = true) : KeysOf (intKind PW w) es := by
  intro e he
  have := List.all_eq_true.mp h e (Array.mem_toList_iff.mpr he)
  unfold intK at this
  split at this
  · rename_i k t hk
    simp only [Bool.and_eq_true, beq_iff_eq] at this
    exact ⟨k, by rw [hk]; show Value.isInt k (.int k t) = true; simp [Value.isInt], this.1⟩
  · cases this
theorem find_none {w : World} {es : Array DictEntry} {p : Int → Bool} (h : es.toList.all (intK p) = true) {i : Int} (hi : p i = false) : findBy (intKind PW w).is es i = none := by
  have : es.find? (fun e => (intKind PW w).is i e.key) = none := by
    rw [Array.find?_eq_none]
    intro e he
    have := List.all_eq_true.mp h e (Array.mem_toList_iff.mpr he)
    unfold intK at this
    split at this
    · rename_i k t hk
      simp only [Bool.and_eq_true] at this
      rw [hk]
      show ¬ Value.isInt i (.int k t) = true
      simp only [Value.isInt, beq_iff_eq]
      rintro rfl
      rw [hi] at this
      exact absurd this.2 (by simp)
    · cases this
  unfold findBy
  rw [this]
  rfl
def b1es (P : Params) : Array (Int × Value) := match (o_8_51 P).data with | .set es _ _ => es | _ => #[]
def b1ep (P : Params) : Nat := match (o_8_51 P).data with | .set _ n _ => n | _ => 0
def b1tb (P : Params) : SetTable := match (o_8_51 P).data with | .set _ _ t => t | _ => default
theorem b1_data (P : Params) : (o_8_51 P).data = .set (b1es P) (b1ep P) (b1tb P) := rfl
def setK (e : Int × Value) : Bool := match e.2 with | .int k _ => e.1 == hashInt k | _ => false
def keyI (e : Int × Value) : Int := match e.2 with | .int k _ => k | _ => -1
theorem b1_keys (P : Params) : (b1es P).toList.all setK = true := by kernel_rfl
theorem b1_in (P : Params) : ((b1es P).toList.map keyI).all (fun k => (b1.map Int.ofNat).contains k) = true := by kernel_rfl
theorem b1_out (P : Params) : (b1.map Int.ofNat).all (fun k => ((b1es P).toList.map keyI).contains k) = true := by kernel_rfl
theorem b1_fits (P : Params) : (b1tb P).fits (b1es P).size = true := by kernel_rfl
theorem b1_size (P : Params) : (b1es P).size = 27 := by kernel_rfl
theorem b1_set {w : World} {h : Heap} (Y : YPw w h) : h.SetOf (intKind PW w) 51 (fun k => decide (0 ≤ k ∧ k.toNat ∈ b1)) 27 := by
  have keys := b1_keys w.params
  rw [List.all_eq_true] at keys
  refine ⟨_, _, _, _, Y _ _ (get51 w.params), ⟨rfl, rfl, rfl⟩, b1_data _, fun e he => ?_, fun k => ?_, by rw [b1_size]; decide, b1_fits _, b1_size _⟩
  · have := keys e he
    unfold setK at this
    split at this
    · rename_i k t hk
      refine ⟨⟨k, by rw [hk]; show Value.isInt k (.int k t) = true; simp [Value.isInt], eq_of_beq this⟩, by rw [hk]; rfl⟩
    · cases this
  · rw [decide_eq_true_eq]
    constructor
    · rintro ⟨h0, hm⟩
      have : Int.ofNat k.toNat ∈ (b1es w.params).toList.map keyI := by
        have := List.all_eq_true.mp (b1_out w.params) _ (List.mem_map_of_mem hm)
        simpa only [List.contains_iff_mem] using this
      obtain ⟨e, he, hk⟩ := List.mem_map.mp this
      refine ⟨e, he, ?_⟩
      have := keys e he
      unfold setK at this
      unfold keyI at hk
      split at this
      · rename_i k' t hk'
        rw [hk'] at hk ⊢
        show Value.isInt k (.int k' t) = true
        simp only [Value.isInt, beq_iff_eq]
        simp only at hk
        rw [hk]
        simp; omega
      · cases this
    · rintro ⟨e, he, hk⟩
      have h2 : keyI e ∈ b1.map Int.ofNat := by
        have := List.all_eq_true.mp (b1_in w.params) _ (List.mem_map_of_mem he)
        simpa only [List.contains_iff_mem] using this
      have : keyI e = k := by
        have hk' : Value.isInt k e.2 = true := hk
        unfold keyI
        unfold Value.isInt at hk'
        split at hk'
        · rename_i i t hi
          rw [hi]
          simpa using hk'
        · cases hk'
      rw [this] at h2
      obtain ⟨n, hn, hh⟩ := List.mem_map.mp h2
      subst hh
      exact ⟨Int.natCast_nonneg n, hn⟩
theorem gb_of {w : World} {h : Heap} {mean} {mg mb : PySem.Str → Option Value} (T : Top qV (looseW qV looseL) mean mg mb h) (Y : YPw w h) : GB w mg mb h where
  lim := T.nolimit
  g := T.g
  bl := T.b
  boot := T.builtins
  digits := T.nodigits
  fn := fun i n a b sc e => by
    obtain ⟨d, hd, q⟩ := fnRec_mem e
    obtain ⟨rfl, rfl, rfl, rfl⟩ : d.name = n ∧ d.params = a ∧ d.body = b ∧ d.scope = sc := by simpa using q
    obtain ⟨f, o, pm, cd, doc, h1, h2, h3, h4⟩ := T.fn d hd
    exact ⟨f, o, pm, cd, doc, h1, h2, h3, h4⟩
  free := fun x hx => by
    rw [mg_es T.g Y]
    have := List.all_eq_true.mp (free3 w.params) x hx
    simpa using this
  c1 := ⟨_, (mg_es T.g Y _).trans (v_1 _)⟩
  c2 := ⟨_, (mg_es T.g Y _).trans (v_2 _)⟩
  c40 := ⟨_, (mg_es T.g Y _).trans (v_40 _)⟩
  b1 := ⟨51, 27, (mg_es T.g Y _).trans (v_b1 _), b1_set Y⟩
  b3 := ⟨62, _, (mg_es T.g Y _).trans (v_b3 _), by decide, ⟨_, _, _, Y _ _ (get62 w.params), ⟨rfl, rfl, rfl⟩, b3_data _, keysOf_of b3_keys, fun k => rfl⟩, fun i h0 h1 => find_none b3_keys (by simp; omega)⟩
  fl := ⟨15, _, (mg_es T.g Y _).trans (v_fl _), by decide, ⟨_, _, _, Y _ _ (get15 w.params), ⟨rfl, rfl, rfl⟩, fl_data _, keysOf_of (fl_keys _), fun k => rfl⟩, fun i h0 => find_none (fl_keys _) (by simp; omega)⟩
end
end Mine
end
section
open PySem PySem.W PyProof.Rows PySem.Calls PySem.Spec
set_option maxRecDepth 100000
namespace Mine
theorem ints_er : ∀ {vs : List Value} {is : List Int}, IntsAre vs is → vs.map er = is.map .int
  | [], [], .nil => rfl
  | _ :: vs, _ :: is, .cons n t h => by rw [List.map_cons, List.map_cons, ints_er h]; rfl
set_option maxHeartbeats 4000000 in
theorem run_law (plain : ∀ ps : List (Pc × Addr × Addr), ps.length = 2 → (∀ p ∈ ps, p.1.Ok) → Plain ps) {w : World} {mg mb : PySem.Str → Option Value} {s₁ : Shared} {a S : Addr} {vs : List Value} {is : List Int}
    (G : GB w mg mb s₁.heap) (hmg : mg "law" = some (.ref a)) (hL : s₁.heap.IsList S vs.toArray) (hI : IntsAre vs is) (hl : is.length ≤ 63) :
    wpAny (model PW w) callerA (call (.ref a) [.ref S]) (fun r s' => r = .bool true ∧ (∀ a o, s₁.heap.get? a = some o → s'.heap.get? a = some o) ∧ s'.os = s₁.os ∧ s'.drawn = s₁.drawn ∧ (s'.gens = s₁.gens ∨ s'.gens = s₁.gens.push .finished)) NoE s₁ := by
  have R : Rm 4 callerA := ⟨rfl, by decide, by decide⟩
  obtain ⟨f', o, pm, cd, doc, h1, h2, h3, h4⟩ := G.fn 24 "law" ((fnRec 24).get some24).2.1 bd24 sc24 (by rfl)
  obtain rfl : f' = a := by rw [h1] at hmg; cases hmg; rfl
  refine wpAny_call (call_plain_ret (body := bd24) (scope := sc24) (binds := [(Str.ofString "script", .ref S)]) R.lim h2 h3 G.lim h4 (by rfl) (by intro y hy; obtain rfl := List.mem_singleton.mp hy; rfl) (fun h₁ F => ?_) (by rfl) (by rfl) (by rfl) (by decide))
  have hnew := new_of s₁
  have I' : Inv s₁ s₁.heap.objs.size [("script", .ref S)] [] { s₁ with heap := h₁, toks := s₁.toks + [(Str.ofString "script", Value.ref S)].length } := by
    refine ⟨⟨_, F.ns, ?_⟩, fun p hp => (nomatch hp), by simp, fun x hx => ?_, F.keep, rfl, rfl, rfl⟩
    · intro y u e
      by_cases hy : y = "script"
      · subst hy
        have : some (AV.ref S) = some u := e
        cases this
        exact ⟨.ref S, by rfl, rfl⟩
      · rw [List.lookup_cons, beq_eq_false_iff_ne.mpr hy] at e; cases e
    · obtain rfl : x = s₁.heap.objs.size := by simpa using hx
      exact hnew
  have hS : HasL s₁ [] S (is.map .int) := .inr (.inr (lst_sat.mpr ⟨_, hL, by rw [← ints_er hI]⟩))
  refine wpAny_mono (law_body (b := s₁) (L := s₁.heap.objs.size) (f := f') (cd := cd) (R.deeper _) G hS hl I' plain) (fun fl s' h => ?_) fun _ _ x => x
  obtain ⟨rfl, h⟩ := h
  exact ⟨rfl, h⟩
set_option maxHeartbeats 4000000 in
theorem walk_law (plain : ∀ ps : List (Pc × Addr × Addr), ps.length = 2 → (∀ p ∈ ps, p.1.Ok) → Plain ps) : WalkO qV looseL (XL qV []) YPw theRow.toRowW dLaw [] fun f vs => PySem.call f vs := by
  intro w s₀ s₁ mg mb G Y a o pm cd doc dV kV ho hd hcd hD hmg hg args vals as hpre hlay hrd hwl hlo
  wrow_args hpre hlay hrd hwl hlo
  rename_i is _ _ _ _ _ _ _ S vs _ hL ra w1 r0 hI hr hlen _
  refine wpAny_mono (run_law plain (gb_of G.T Y) hmg hL hI (by omega)) (fun v s' h => ?_) fun e s' h => h.elim
  obtain ⟨rfl, hk, hos, hdr, hgs⟩ := h
  refine ⟨.inl ⟨_, _, _, rfl, fun cls => rfl, .bool true, ?_, fun _ => ⟨List.nodup_nil, fun _ h => (nomatch h)⟩⟩, .of_keep hk, hos, ?_⟩
  · kernel_rfl
  · rcases hgs with e | e
    · rw [e, hg]; exact .empty
    · rw [e, hg]; exact AllBare.empty.push rfl
end Mine
end
section
open PySem PySem.W PyProof.Rows PySem.Calls PySem.Spec
set_option maxRecDepth 100000
namespace Mine
theorem the_row (plain : ∀ ps : List (Pc × Addr × Addr), ps.length = 2 → (∀ p ∈ ps, p.1.Ok) → Plain ps) (said : theRow.wellSaid = true) : theRow.Holds :=
  holds_open (r := theRow) (q := qV) (loose := looseL) (Xt := fun s => xlAt qV [] s && recOk (RowW.records theRow.toRowW) s) (XP := XL qV []) (Yf := fun s => s.heap) (Ya := fun w => H1h w.params) (YP := YPw) (d := dLaw) (kwd := []) (N := NN)
    h_left (fun w s e b o h => by rw [(e : s.heap = H1h w.params)]; exact h) (fun w h h' y k b o e => k _ _ (y _ _ e)) (fun s e => xl_of s (Bool.and_eq_true_iff.mp e).1) XL.keeps h_def h_thedef h_kw
    (fun s e => recFacts_of (Bool.and_eq_true_iff.mp e).2) rfl said h_ok h_bare h_prom (walk_law plain)
end Mine
end
section
open PySem PySem.W PyProof.Rows PySem.Calls PySem.Spec
set_option maxRecDepth 100000
namespace Mine
abbrev theLaw : OpenLaw := PySem.Challenge.rw_st0038_01
theorem and2 {a b : Bool} (x : a = true) (y : b = true) : (a && b) = true := by rw [x, y]; rfl
theorem ws0 : (["vars", "dir", "locals"] : List PySem.Str).filter (readsOut PW PW.main.body) = [] := by kernel_rfl
theorem ws1 : noRoadLSs { strict := !(importedModules PW.main.body).all cThrough.contains, foot := none, bare := [] } PW.main.body = true := by rw [PySem.W.Fast.te8326940854005059898]; kernel_rfl
theorem ws2 : namesResolve PW = true := by rw [PySem.W.Fast.te8377067652309620493]; kernel_rfl
theorem ws3 : (sreFenced PW.main && ((moduleNames PW.main.body).isEmpty || lookedIntoSs (moduleNames PW.main.body) PW.main.body)) = true := by kernel_rfl
theorem ws4 : PW.boundNames.all (fun n => !worldNames.contains n) = true := by kernel_rfl
theorem ws5 : (namesMeet PW PW.main.body fun _ n => attrL n) = true := by rw [PySem.W.Fast.te17119622794617984870, PySem.W.Fast.te17868728402115742887]; kernel_rfl
theorem looks : looksOpen PW = true := by
  unfold looksOpen
  rw [ws0]
  exact and2 (and2 (and2 (and2 ws3 ws2) ws4) ws1) ws5
theorem rowSaid : theLaw.row.wellSaid = true := by
  unfold OpenRow.wellSaid OpenRow.partSaid
  have : looksOpen theLaw.row.toRowW.prog = true := looks
  rw [this]
  kernel_rfl
theorem said : OpenLaw.wellSaid PySem.Challenge.rw_st0038_01 = true := by
  unfold OpenLaw.wellSaid
  rw [rowSaid, PySem.W.Fast.te17119622794617984870, PySem.W.Fast.te8326940854005059898]
  kernel_rfl
end Mine
end
theorem PySem.Challenge.cw_st0038_01_holds : PySem.Challenge.rw_st0038_01.Holds := by
  exact PySem.W.holds_law Mine.said fun s => Mine.the_row Mine.plain_law s
