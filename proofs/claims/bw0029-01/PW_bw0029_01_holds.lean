import PyProof.Rows.All
import Wide.All
import OpenK.AllK
import Wide.FinOn
import PySem.Challenge.RW_bw0029_01
open PySem PySem.W PyProof.Rows
set_option Elab.async false
set_option linter.unusedSectionVars false
set_option linter.unusedVariables false
set_option linter.unusedSimpArgs false
set_option maxRecDepth 100000
set_option maxHeartbeats 4000000
namespace Mine

-- M1
inductive V where
  | d (x : PyData)
  | ref (a : Addr)

abbrev St := Addr → Option (List PyData)

def Frozen (h : Heap) (σ : St) (as : List Addr) : Prop :=
  ∀ a ∈ as, σ a = none ∧ ∃ o vs n, h.get? a = some o ∧ o.data = .seq vs n

def RD (h : Heap) (σ : St) (v : Value) (x : PyData) : Prop := ∃ as, Reads h v x as ∧ Frozen h σ as
def RDs (h : Heap) (σ : St) (vs : List Value) (xs : List PyData) : Prop := ∃ as, ReadsAll h vs xs as ∧ Frozen h σ as

def VR (h : Heap) (σ : St) (v : Value) : V → Prop
  | .d x => RD h σ v x
  | .ref a => v = .ref a

def NoDict (h : Heap) (a : Addr) : Prop := ∀ o, h.get? a = some o → o.dict = none
def Rep (h : Heap) (σ : St) : Prop :=
  ∀ a xs, σ a = some xs → ∃ items : Array Value, h.IsList a items ∧ RDs h σ items.toList xs ∧ NoDict h a
theorem NoDict.to {h h' : Heap} {a : Addr} {o : Obj} (x : NoDict h a) (e : h.get? a = some o) (e' : h'.get? a = some o) : NoDict h' a := fun o' h1 => by
  rw [e'] at h1; cases h1; exact x o e

structure Kr (X : Addr → Prop) (h : Heap) (σ : St) (h' : Heap) (σ' : St) : Prop where
  keep : ∀ a o, h.get? a = some o → ¬ X a → σ a = none → h'.get? a = some o
  stay : ∀ a o, h.get? a = some o → σ a = none → σ' a = none
structure Kp (X : Addr → Prop) (h : Heap) (σ : St) (h' : Heap) (σ' : St) : Prop extends Kr X h σ h' σ' where
  live : ∀ a o, h.get? a = some o → ∃ o', h'.get? a = some o'

def NoX : Addr → Prop := fun _ => False
def AtX (L : Addr) : Addr → Prop := fun a => a = L

def NotSeq (X : Addr → Prop) (h : Heap) : Prop := ∀ a, X a → ∀ o, h.get? a = some o → ∀ vs n, o.data ≠ .seq vs n

theorem NotSeq.no (h : Heap) : NotSeq NoX h := fun _ hx => hx.elim

theorem NotSeq.ns {h : Heap} {L : Addr} {m : Str → Option Value} (hn : h.Ns L m) : NotSeq (AtX L) h := by
  rintro a rfl o ho vs n hd
  obtain ⟨o', es, ep, ho', hd', _⟩ := hn
  rw [ho] at ho'; cases ho'
  rw [hd] at hd'; cases hd'

theorem Kp.refl (X : Addr → Prop) (h : Heap) (σ : St) : Kp X h σ h σ :=
  ⟨⟨fun _ _ e _ _ => e, fun _ _ _ e => e⟩, fun _ o e => ⟨o, e⟩⟩

theorem Kp.trans {X : Addr → Prop} {h₀ h₁ h₂ : Heap} {σ₀ σ₁ σ₂ : St} (k : Kp X h₀ σ₀ h₁ σ₁) (k' : Kp X h₁ σ₁ h₂ σ₂) : Kp X h₀ σ₀ h₂ σ₂ where
  keep := fun a o e hx hs => k'.keep a o (k.keep a o e hx hs) hx (k.stay a o e hs)
  stay := fun a o e hs => let ⟨o', e'⟩ := k.live a o e; k'.stay a o' e' (k.stay a o e hs)
  live := fun a o e => let ⟨o', e'⟩ := k.live a o e; k'.live a o' e'

theorem Kp.mono {X Y : Addr → Prop} {h h' : Heap} {σ σ' : St} (k : Kp X h σ h' σ') (hxy : ∀ a, X a → Y a) : Kp Y h σ h' σ' :=
  ⟨⟨fun a o e hy => k.keep a o e (fun hx => hy (hxy a hx)), k.stay⟩, k.live⟩

theorem Kp.ofNo {X : Addr → Prop} {h h' : Heap} {σ σ' : St} (k : Kp NoX h σ h' σ') : Kp X h σ h' σ' := k.mono fun _ hx => hx.elim

/-- only the heap grows -/
theorem Kp.grow {X : Addr → Prop} {h h' : Heap} {σ : St} (hk : ∀ a o, h.get? a = some o → h'.get? a = some o) : Kp X h σ h' σ :=
  ⟨⟨fun a o e _ _ => hk a o e, fun _ _ _ e => e⟩, fun a o e => ⟨o, hk a o e⟩⟩

theorem Frozen.nil (h : Heap) (σ : St) : Frozen h σ [] := fun _ ha => nomatch ha
theorem Frozen.append {h : Heap} {σ : St} {as bs : List Addr} (x : Frozen h σ as) (y : Frozen h σ bs) : Frozen h σ (as ++ bs) := fun a ha => by
  rcases List.mem_append.mp ha with h1 | h1
  · exact x a h1
  · exact y a h1
theorem Frozen.left {h : Heap} {σ : St} {as bs : List Addr} (x : Frozen h σ (as ++ bs)) : Frozen h σ as := fun a ha => x a (List.mem_append_left _ ha)
theorem Frozen.right {h : Heap} {σ : St} {as bs : List Addr} (x : Frozen h σ (as ++ bs)) : Frozen h σ bs := fun a ha => x a (List.mem_append_right _ ha)
theorem Frozen.tail {h : Heap} {σ : St} {a : Addr} {bs : List Addr} (x : Frozen h σ (a :: bs)) : Frozen h σ bs := fun b hb => x b (List.mem_cons_of_mem _ hb)

theorem Frozen.step {X : Addr → Prop} {h h' : Heap} {σ σ' : St} (k : Kr X h σ h' σ') (hX : NotSeq X h) {as : List Addr} (x : Frozen h σ as) : Frozen h' σ' as := fun a ha => by
  obtain ⟨h1, o, vs, n, ho, hd⟩ := x a ha
  exact ⟨k.stay a o ho h1, o, vs, n, k.keep a o ho (fun hx => hX a hx o ho vs n hd) h1, hd⟩

def ListAt (h : Heap) (σ : St) : Prop := ∀ a xs, σ a = some xs → ∀ o, h.get? a = some o → o.cls = .type "list"
theorem Rep.listAt {h : Heap} {σ : St} (r : Rep h σ) : ListAt h σ := fun a xs e o ho => by
  obtain ⟨items, ⟨o', ho', hc, _⟩, _⟩ := r a xs e
  rw [ho] at ho'; cases ho'; exact hc

section
variable {X : Addr → Prop} {h h' : Heap} {σ σ' : St} (k : Kr X h σ h' σ') (hX : NotSeq X h) (hl : ListAt h σ)
include k hX hl
mutual
theorem reads_step : ∀ {v : Value} {x : PyData} {as : List Addr}, Reads h v x as → Frozen h σ as → Reads h' v x as
  | _, _, _, .none, _ => .none
  | _, _, _, .bool b, _ => .bool b
  | _, _, _, .int i t, _ => .int i t
  | _, _, _, .str x t, _ => .str x t
  | _, _, _, .list (a := a) h1 h2 h3 h4, f =>
    .list (k.keep _ _ h1 (fun hx => hX _ hx _ h1 _ _ h3) (f a List.mem_cons_self).1) h2 h3 (readsAll_step h4 f.tail)
  | _, _, _, .tuple (a := a) (o := o) h1 h2 h3 h4, f =>
    have hs : σ a = none := by
      cases e : σ a with
      | none => rfl
      | some xs => exfalso; have hc := hl a xs e _ h1; rw [h2] at hc; exact absurd hc (by decide)
    .tuple (k.keep _ _ h1 (fun hx => hX _ hx _ h1 _ _ h3) hs) h2 h3 (readsAll_step h4 f)
  | _, _, _, .dict (a := a) h1 h2 h3 h4 h5, f => by
    obtain ⟨_, o, vs, n, ho, hd⟩ := f a (List.mem_cons_self)
    rw [h1] at ho; cases ho
    rw [hd] at h3; cases h3
theorem readsAll_step : ∀ {vs : List Value} {xs : List PyData} {as : List Addr}, ReadsAll h vs xs as → Frozen h σ as → ReadsAll h' vs xs as
  | _, _, _, .nil, _ => .nil
  | _, _, _, .cons h1 h2, f => .cons (reads_step h1 f.left) (readsAll_step h2 f.right)
end
theorem RD.step {v : Value} {x : PyData} (r : RD h σ v x) : RD h' σ' v x := let ⟨as, h1, h2⟩ := r; ⟨as, reads_step k hX hl h1 h2, h2.step k hX⟩
theorem RDs.step {v : List Value} {x : List PyData} (r : RDs h σ v x) : RDs h' σ' v x := let ⟨as, h1, h2⟩ := r; ⟨as, readsAll_step k hX hl h1 h2, h2.step k hX⟩
theorem VR.step {v : Value} {x : V} (r : VR h σ v x) : VR h' σ' v x := by
  cases x with
  | d x => exact RD.step k hX hl r
  | ref a => exact r
end

theorem RDs.nil (h : Heap) (σ : St) : RDs h σ [] [] := ⟨[], .nil, .nil _ _⟩
theorem RDs.cons {h : Heap} {σ : St} {v : Value} {x : PyData} {vs : List Value} {xs : List PyData} (r : RD h σ v x) (rs : RDs h σ vs xs) : RDs h σ (v :: vs) (x :: xs) :=
  let ⟨as, h1, h2⟩ := r; let ⟨bs, h3, h4⟩ := rs; ⟨as ++ bs, .cons h1 h3, h2.append h4⟩
theorem RDs.head {h : Heap} {σ : St} {v : Value} {x : PyData} {vs : List Value} {xs : List PyData} (r : RDs h σ (v :: vs) (x :: xs)) : RD h σ v x := by
  obtain ⟨as, h1, h2⟩ := r
  cases h1 with
  | cons h3 h4 => exact ⟨_, h3, h2.left⟩
theorem RDs.tail {h : Heap} {σ : St} {v : Value} {x : PyData} {vs : List Value} {xs : List PyData} (r : RDs h σ (v :: vs) (x :: xs)) : RDs h σ vs xs := by
  obtain ⟨as, h1, h2⟩ := r
  cases h1 with
  | cons h3 h4 => exact ⟨_, h4, h2.right⟩
theorem RDs.length {h : Heap} {σ : St} : ∀ {vs : List Value} {xs : List PyData}, RDs h σ vs xs → vs.length = xs.length
  | [], [], _ => rfl
  | [], _ :: _, ⟨_, r, _⟩ => by cases r
  | _ :: _, [], ⟨_, r, _⟩ => by cases r
  | _ :: vs, _ :: xs, r => by simp [RDs.length r.tail]
theorem RDs.get {h : Heap} {σ : St} : ∀ {vs : List Value} {xs : List PyData} {i : Nat} {x : PyData}, RDs h σ vs xs → xs[i]? = some x → ∃ v, vs[i]? = some v ∧ RD h σ v x
  | [], [], _, _, _, e => by simp at e
  | [], _ :: _, _, _, ⟨_, r, _⟩, _ => by cases r
  | _ :: _, [], _, _, _, e => by simp at e
  | v :: vs, y :: xs, 0, x, r, e => by
    simp at e; subst e
    exact ⟨v, rfl, r.head⟩
  | v :: vs, y :: xs, i + 1, x, r, e => by
    simpa using RDs.get r.tail (by simpa using e)
theorem RDs.append {h : Heap} {σ : St} : ∀ {vs : List Value} {xs : List PyData} {ws : List Value} {ys : List PyData}, RDs h σ vs xs → RDs h σ ws ys → RDs h σ (vs ++ ws) (xs ++ ys)
  | [], [], _, _, _, r => r
  | [], _ :: _, _, _, ⟨_, r, _⟩, _ => by cases r
  | _ :: _, [], _, _, ⟨_, r, _⟩, _ => by cases r
  | _ :: vs, _ :: xs, _, _, r, r' => .cons r.head (RDs.append r.tail r')
theorem RDs.take {h : Heap} {σ : St} : ∀ {vs : List Value} {xs : List PyData} (n : Nat), RDs h σ vs xs → RDs h σ (vs.take n) (xs.take n)
  | _, _, 0, _ => by simpa using RDs.nil h σ
  | [], [], _ + 1, _ => by simpa using RDs.nil h σ
  | [], _ :: _, _, ⟨_, r, _⟩ => by cases r
  | _ :: _, [], _, ⟨_, r, _⟩ => by cases r
  | _ :: vs, _ :: xs, n + 1, r => by simpa using RDs.cons r.head (RDs.take n r.tail)
theorem RDs.drop {h : Heap} {σ : St} : ∀ {vs : List Value} {xs : List PyData} (n : Nat), RDs h σ vs xs → RDs h σ (vs.drop n) (xs.drop n)
  | _, _, 0, r => by simpa using r
  | [], [], _ + 1, _ => by simpa using RDs.nil h σ
  | [], _ :: _, _, ⟨_, r, _⟩ => by cases r
  | _ :: _, [], _, ⟨_, r, _⟩ => by cases r
  | _ :: vs, _ :: xs, n + 1, r => by simpa using RDs.drop n r.tail
theorem RDs.set {h : Heap} {σ : St} : ∀ {vs : List Value} {xs : List PyData} {v : Value} {x : PyData} (n : Nat), RDs h σ vs xs → RD h σ v x → RDs h σ (vs.set n v) (xs.set n x)
  | [], [], _, _, _, _, _ => by simpa using RDs.nil h σ
  | [], _ :: _, _, _, _, ⟨_, r, _⟩, _ => by cases r
  | _ :: _, [], _, _, _, ⟨_, r, _⟩, _ => by cases r
  | _ :: vs, _ :: xs, _, _, 0, r, r' => by simpa using RDs.cons r' r.tail
  | _ :: vs, _ :: xs, _, _, n + 1, r, r' => by simpa using RDs.cons r.head (RDs.set n r.tail r')

theorem RD.int (h : Heap) (σ : St) (i : Int) (t : Tok) : RD h σ (.int i t) (.int i) := ⟨[], .int i t, .nil _ _⟩
theorem RD.bool (h : Heap) (σ : St) (i : Bool) : RD h σ (.bool i) (.bool i) := ⟨[], .bool i, .nil _ _⟩
theorem RD.str (h : Heap) (σ : St) (i : Str) (t : Tok) : RD h σ (.str i t) (.str i) := ⟨[], .str i t, .nil _ _⟩
theorem RD.none (h : Heap) (σ : St) : RD h σ .none .none := ⟨[], .none, .nil _ _⟩
theorem RD.int_inv {h : Heap} {σ : St} {v : Value} {i : Int} (r : RD h σ v (.int i)) : ∃ t, v = .int i t := by
  obtain ⟨as, h1, _⟩ := r; cases h1; exact ⟨_, rfl⟩
theorem RD.bool_inv {h : Heap} {σ : St} {v : Value} {i : Bool} (r : RD h σ v (.bool i)) : v = .bool i := by
  obtain ⟨as, h1, _⟩ := r; cases h1; rfl
theorem RD.str_inv {h : Heap} {σ : St} {v : Value} {i : Str} (r : RD h σ v (.str i)) : ∃ t, v = .str i t := by
  obtain ⟨as, h1, _⟩ := r; cases h1; exact ⟨_, rfl⟩
theorem RD.none_inv {h : Heap} {σ : St} {v : Value} (r : RD h σ v .none) : v = .none := by
  obtain ⟨as, h1, _⟩ := r; cases h1; rfl
theorem RD.tuple_inv {h : Heap} {σ : St} {v : Value} {xs : List PyData} (r : RD h σ v (.tuple xs)) :
    ∃ a o vs n, v = .ref a ∧ h.get? a = some o ∧ o.cls = .type "tuple" ∧ o.data = .seq vs n ∧ RDs h σ vs.toList xs := by
  obtain ⟨as, h1, h2⟩ := r
  cases h1 with
  | tuple e1 e2 e3 e4 => exact ⟨_, _, _, _, rfl, e1, e2, e3, _, e4, h2⟩
theorem RD.list_inv {h : Heap} {σ : St} {v : Value} {xs : List PyData} (r : RD h σ v (.list xs)) :
    ∃ a vs, v = .ref a ∧ σ a = Option.none ∧ h.IsList a vs ∧ RDs h σ vs.toList xs := by
  obtain ⟨as, h1, h2⟩ := r
  cases h1 with
  | list e1 e2 e3 e4 => exact ⟨_, _, rfl, (h2 _ List.mem_cons_self).1, ⟨_, e1, e2, _, e3⟩, _, e4, h2.tail⟩
theorem RD.tuple {h : Heap} {σ : St} {a : Addr} {o : Obj} {vs : Array Value} {n : Nat} {xs : List PyData} (e1 : h.get? a = some o) (e2 : o.cls = .type "tuple") (e3 : o.data = .seq vs n) (r : RDs h σ vs.toList xs) :
    RD h σ (.ref a) (.tuple xs) := let ⟨as, h1, h2⟩ := r; ⟨as, .tuple e1 e2 e3 h1, h2⟩
theorem RD.list {h : Heap} {σ : St} {a : Addr} {vs : Array Value} {xs : List PyData} (e1 : h.IsList a vs) (e2 : σ a = Option.none) (r : RDs h σ vs.toList xs) :
    RD h σ (.ref a) (.list xs) := by
  obtain ⟨as, h1, h2⟩ := r
  obtain ⟨o, ho, hc, n, hd⟩ := e1
  refine ⟨a :: as, .list ho hc hd h1, fun b hb => ?_⟩
  rcases List.mem_cons.mp hb with rfl | hb
  · exact ⟨e2, o, vs, n, ho, hd⟩
  · exact h2 b hb

/-- the whole state's fitness over the base heap -/
structure Good (hb : Heap) (h : Heap) (σ : St) : Prop where
  keep : ∀ a o, hb.get? a = some o → h.get? a = some o
  fix : ∀ a o, hb.get? a = some o → σ a = none
  rep : Rep h σ

theorem Good.grow {hb h h' : Heap} {σ : St} (g : Good hb h σ) (hk : ∀ a o, h.get? a = some o → h'.get? a = some o) : Good hb h' σ where
  keep := fun a o e => hk a o (g.keep a o e)
  fix := g.fix
  rep := fun a xs e => by
    obtain ⟨items, hi, hr, hd⟩ := g.rep a xs e
    obtain ⟨o, ho, r⟩ := hi
    exact ⟨items, ⟨o, hk a o ho, r⟩, hr.step (Kp.grow (X := NoX) hk).toKr (.no _) g.rep.listAt, hd.to ho (hk a o ho)⟩

theorem get_none_of_size {h : Heap} {a : Addr} (ha : h.objs.size ≤ a) : h.get? a = none := by
  cases e : h.get? a with
  | none => rfl
  | some o => exact absurd (Heap.lt_size e) (Nat.not_lt.mpr ha)

def rg : List (Option V) → Nat → Option V
  | [], _ => none
  | x :: _, 0 => x
  | _ :: r, i + 1 => rg r i

def rs : List (Option V) → Nat → V → List (Option V)
  | [], _, _ => []
  | _ :: r, 0, v => some v :: r
  | x :: r, i + 1, v => x :: rs r i v

theorem rg_rs : ∀ (ρ : List (Option V)) (i j : Nat) (v : V), rg (rs ρ i v) j = some w → (j = i ∧ w = v) ∨ (j ≠ i ∧ rg ρ j = some w)
  | [], _, _, _, e => by cases e
  | _ :: r, 0, 0, v, e => by cases e; exact .inl ⟨rfl, rfl⟩
  | _ :: r, 0, j + 1, v, e => .inr ⟨by omega, e⟩
  | x :: r, i + 1, 0, v, e => .inr ⟨by omega, e⟩
  | x :: r, i + 1, j + 1, v, e => by
    rcases rg_rs r i j v e with ⟨h1, h2⟩ | ⟨h1, h2⟩
    · exact .inl ⟨by omega, h2⟩
    · exact .inr ⟨by omega, h2⟩

/-- the frame at L: its names' values -/
def RhoOK (h : Heap) (σ : St) (L : Addr) (nm : List Str) (ρ : List (Option V)) : Prop :=
  ∃ m, h.Ns L m ∧ ∀ i w, rg ρ i = some w → ∃ x v, nm[i]? = some x ∧ m x = some v ∧ VR h σ v w

theorem RhoOK.ns {h : Heap} {σ : St} {L : Addr} {nm : List Str} {ρ : List (Option V)} (r : RhoOK h σ L nm ρ) : NotSeq (AtX L) h := let ⟨_, hn, _⟩ := r; .ns hn

theorem RhoOK.fix {h : Heap} {σ : St} {L : Addr} {nm : List Str} {ρ : List (Option V)} (r : RhoOK h σ L nm ρ) (rep : Rep h σ) : σ L = none := by
  cases e : σ L with
  | none => rfl
  | some xs =>
    exfalso
    obtain ⟨items, ⟨o, ho, _, n, hd⟩, _⟩ := rep L xs e
    exact r.ns L rfl o ho _ _ hd

theorem RhoOK.step {h h' : Heap} {σ σ' : St} {L : Addr} {nm : List Str} {ρ : List (Option V)} (r : RhoOK h σ L nm ρ) (rep : Rep h σ) (k : Kp NoX h σ h' σ') : RhoOK h' σ' L nm ρ := by
  have hf := r.fix rep
  obtain ⟨m, hn, hv⟩ := r
  refine ⟨m, ?_, fun i w e => ?_⟩
  · obtain ⟨o, es, ep, ho, h2⟩ := hn
    exact ⟨o, es, ep, k.keep L o ho (fun x => x.elim) hf, h2⟩
  · obtain ⟨x, v, h1, h2, h3⟩ := hv i w e
    exact ⟨x, v, h1, h2, h3.step k.toKr (.no _) rep.listAt⟩

-- M2
inductive BI where
  | len | abs | min1 | max1 | min2 | sum | int

mutual
inductive Ex where
  | cst (c : PyData)
  | loc (i : Nat)
  | glb (g : Nat)
  | bin (op : Operator) (a b : Ex)
  | neg (a : Ex)
  | nt (a : Ex)
  | cmp (op : CmpOp) (a b : Ex)
  | bool (op : BoolOp) (es : Exs)
  | ife (c a b : Ex)
  | call (f : Nat) (as : Exs)
  | bi (f : BI) (as : Exs)
  | isint (a : Ex)
  | blen (a : Ex)
  | sub (a i : Ex)
  | slto (a : Ex) (hi : Nat)
  | slfrom (a : Ex) (lo : Nat)
  | tab (a : Ex)
  | tup (es : Exs)
  | lst (es : Exs)
  | comp1 (elt : Ex) (it : Ex)
  | comp2 (elt : Ex) (it : Ex)
inductive Exs where
  | nil
  | cons (e : Ex) (es : Exs)
end

mutual
inductive Sm where
  | asg (i : Nat) (e : Ex)
  | asg2 (i j : Nat) (e : Ex)
  | asgc (i : Nat) (elt : Ex) (it : Ex)
  | unp (js : List Nat) (e : Ex)
  | unps (js : List Nat) (es : Exs)
  | seti (a i e : Ex)
  | aug (i : Nat) (op : Operator) (e : Ex)
  | app (i : Nat) (e : Ex)
  | ite (c : Ex) (t f : Sms)
  | whl (c : Ex) (b : Sms)
  | forl (i : Nat) (it : Ex) (b : Sms)
  | forr (i : Nat) (n : Ex) (b : Sms)
  | ret (e : Ex)
  | asrt (e : Ex)
  | rse
inductive Sms where
  | nil
  | cons (s : Sm) (ss : Sms)
end

/-- the top's constants, by name -/
def ctab : List (Str × PyData) := [
  (Str.ofString "MPZ_ZERO", .int 0), (Str.ofString "MPZ_ONE", .int 1),
  (Str.ofString "round_nearest", .str (Str.ofString "n")), (Str.ofString "round_floor", .str (Str.ofString "f")), (Str.ofString "round_ceiling", .str (Str.ofString "c")),
  (Str.ofString "round_up", .str (Str.ofString "u")), (Str.ofString "round_down", .str (Str.ofString "d")),
  (Str.ofString "fzero", .tuple [.int 0, .int 0, .int 0, .int 0]), (Str.ofString "fnan", .tuple [.int 0, .int 0, .int (-123), .int (-1)]),
  (Str.ofString "finf", .tuple [.int 0, .int 0, .int (-456), .int (-2)]), (Str.ofString "fninf", .tuple [.int 1, .int 0, .int (-789), .int (-3)])]
def cval (g : Nat) : Option PyData := (ctab[g]?).map (·.2)

/-- the defs, by number -/
def ftab : List Str := [
  Str.ofString "trailing", Str.ofString "_normalize", Str.ofString "normalize", Str.ofString "from_man_exp", Str.ofString "to_man_exp",
  Str.ofString "mpf_cmp", Str.ofString "mpf_lt", Str.ofString "mpf_gt", Str.ofString "mpf_min_max", Str.ofString "mpf_pos",
  Str.ofString "mpf_neg", Str.ofString "mpf_abs", Str.ofString "mpf_sign", Str.ofString "mpf_add", Str.ofString "mpf_sub",
  Str.ofString "mpf_sum", Str.ofString "mpf_shift", Str.ofString "mpf_frexp", Str.ofString "mpf_mod", Str.ofString "mpf_perturb",
  Str.ofString "_law_state", Str.ofString "_law_draw", Str.ofString "_law_rounded", Str.ofString "_law_power", Str.ofString "_law_tuple",
  Str.ofString "_law_fixed", Str.ofString "_law_made", Str.ofString "_law_rest_right", Str.ofString "_law_parts_right", Str.ofString "_law_hair_right",
  Str.ofString "_law_refused", Str.ofString "law"]

def BI.name : BI → Str
  | .len => Str.ofString "len" | .abs => Str.ofString "abs" | .min1 => Str.ofString "min" | .max1 => Str.ofString "max"
  | .min2 => Str.ofString "min" | .sum => Str.ofString "sum" | .int => Str.ofString "int"
def BI.val : BI → Value
  | .len => .builtin "len" | .abs => .builtin "abs" | .min1 => .builtin "min" | .max1 => .builtin "max"
  | .min2 => .builtin "min" | .sum => .builtin "sum" | .int => .type "int"

def okC : PyData → Const → Bool
  | .none, .none => true
  | .bool b, .bool c => b == c
  | .int i, .int j => i == j
  | .str x, .str y => x == y
  | _, _ => false

def okL (sc : Scope) (nm : List Str) (i : Nat) (x : Str) : Bool := nm[i]? == some x && sc.names.lookup x == some .local && !(x == ("__debug__" : Str))
def okG (sc : Scope) (x y : Str) : Bool := x == y && sc.names.lookup y == some .globalImplicit && !(y == ("__debug__" : Str))
def notCall : Expr → Bool
  | .Call .. => false
  | _ => true
def notSlice : Expr → Bool
  | .Slice .. => false
  | _ => true
def compScope (sc : Scope) : Bool := sc.kind == .function && sc.names.all fun x => x.2 != .free && x.2 != .cell && (x.2 != .local || sc.names.lookup x.1 == some .local)

def compGen1 : List Comprehension → Option (Str × Expr)
  | [⟨.Name x _, pi, [], 0⟩] => some (x, pi)
  | _ => none
def compGen2 : List Comprehension → Option (Str × Str × Expr)
  | [⟨.Tuple [.Name x _, .Name y _] _ _, pi, [], 0⟩] => some (x, y, pi)
  | _ => none
theorem compGen1_inv {gs : List Comprehension} {x : Str} {pi : Expr} (h : compGen1 gs = some (x, pi)) : ∃ q, gs = [⟨.Name x q, pi, [], 0⟩] := by
  unfold compGen1 at h
  split at h
  · cases h; exact ⟨_, rfl⟩
  · cases h
theorem compGen2_inv {gs : List Comprehension} {x y : Str} {pi : Expr} (h : compGen2 gs = some (x, y, pi)) : ∃ q r k t, gs = [⟨.Tuple [.Name x q, .Name y r] k t, pi, [], 0⟩] := by
  unfold compGen2 at h
  split at h
  · cases h; exact ⟨_, _, _, _, rfl⟩
  · cases h
def nameOf : Expr → Option Str
  | .Name x _ => some x
  | _ => none
theorem nameOf_inv {e : Expr} {x : Str} (h : nameOf e = some x) : ∃ q, e = .Name x q := by
  unfold nameOf at h
  split at h
  · cases h; exact ⟨_, rfl⟩
  · cases h

mutual
def okE (sc : Scope) (nm : List Str) : Ex → Expr → Bool
  | .cst c, .Constant k _ _ => okC c k
  | .loc i, .Name x _ => okL sc nm i x
  | .glb g, .Name x _ => (match ctab[g]? with | some p => okG sc p.1 x | none => false)
  | .bin op a b, .BinOp l o r _ => op == o && okE sc nm a l && okE sc nm b r
  | .neg a, .UnaryOp .USub x _ => okE sc nm a x
  | .nt a, .UnaryOp .Not x _ => okE sc nm a x
  | .cmp op a b, .Compare l [o] [r] _ => op == o && !behindInMarks o r && okE sc nm a l && okE sc nm b r
  | .bool op es, .BoolOp o vs _ => op == o && okEs sc nm es vs
  | .ife c a b, .IfExp t x y _ => okE sc nm c t && okE sc nm a x && okE sc nm b y
  | .call f as, .Call (.Name x _) (e :: es) [] _ => (match ftab[f]? with | some p => okG sc p x | none => false) && okEs sc nm as (e :: es)
  | .bi f as, .Call (.Name x _) (e :: es) [] _ => okG sc f.name x && okEs sc nm as (e :: es)
  | .isint a, .Call (.Name x _) [e, t] [] _ => okG sc (Str.ofString "isinstance") x && (match nameOf t with | some y => okG sc (Str.ofString "int") y | none => false) && okE sc nm a e
  | .blen a, .Call (.Attribute o n ap) [] [] p => n == Str.ofString "bit_length" && ap.endLine == p.line && notCall o && okE sc nm a o
  | .sub a i, .Subscript v s _ => notSlice s && okE sc nm a v && okE sc nm i s
  | .slto a hi, .Subscript v (.Slice none (some (.Constant (.int j) _ _)) none _) _ => j == (hi : Int) && okE sc nm a v
  | .slfrom a lo, .Subscript v (.Slice (some (.Constant (.int j) _ _)) none none _) _ => j == (lo : Int) && okE sc nm a v
  | .tab a, .Subscript (.Name x _) s _ => okG sc (Str.ofString "shifts_down") x && notSlice s && okE sc nm a s
  | .tup es, .Tuple vs _ _ => okEs sc nm es vs
  | .lst es, .List vs _ => okEs sc nm es vs
  | .comp1 elt it, .ListComp pe gs sc' _ => (match compGen1 gs with
    | some (x, pi) => compScope sc' && okE sc' [x] elt pe && sc'.names.lookup x == some .local && okE sc nm it pi
    | none => false)
  | .comp2 elt it, .ListComp pe gs sc' _ => (match compGen2 gs with
    | some (x, y, pi) => compScope sc' && okE sc' [x, y] elt pe && sc'.names.lookup x == some .local && sc'.names.lookup y == some .local && !(x == y) && okE sc nm it pi
    | none => false)
  | _, _ => false
def okEs (sc : Scope) (nm : List Str) : Exs → List Expr → Bool
  | .nil, [] => true
  | .cons e es, x :: xs => okE sc nm e x && okEs sc nm es xs
  | _, _ => false
end

def okJs (sc : Scope) (nm : List Str) : List Nat → List Expr → Bool
  | [], [] => true
  | j :: js, .Name x _ :: ts => okL sc nm j x && okJs sc nm js ts
  | _, _ => false

def idsOf (ts : List Expr) : List Str := ts.filterMap nameOf
def swapChk (sc : Scope) (ts vs : List Expr) : Bool :=
  (ts.length == 2 || ts.length == 3) && vs.length == ts.length && (ts.all fun t => match nameOf t with | some id => sc.names.lookup id == some .local && t.pos.line == (ts.head?.map (·.pos.line)).getD 0 | none => false) &&
    (idsOf ts).eraseDups.length == (idsOf ts).length && !(vs.all (foldedForSure 8)) && !(vs.all (constantsAlone 8))

def notTup : Expr → Bool
  | .Tuple .. => false
  | .ListComp .. => false
  | .SetComp .. => false
  | .DictComp .. => false
  | _ => true

def notComp : Expr → Bool
  | .ListComp .. => false
  | .SetComp .. => false
  | .DictComp .. => false
  | _ => true

mutual
def okS (sc : Scope) (nm : List Str) : Sm → Stmt → Bool
  | .asg i e, .Assign [.Name x _] v _ => okL sc nm i x && notComp v && okE sc nm e v
  | .asg2 i j e, .Assign [.Name x _, .Name y _] v _ => okL sc nm i x && okL sc nm j y && okE sc nm e v
  | .asgc i elt it, .Assign [.Name y py] (.ListComp pe gs sc' lp) _ => (match compGen1 gs with
    | some (x, pi) => okL sc nm i y && py.line == lp.line && !(sc'.names.any fun p => p.1 == y && (p.2 == .local || p.2 == .cell)) &&
      compScope sc' && okE sc' [x] elt pe && sc'.names.lookup x == some .local && okE sc nm it pi
    | none => false)
  | .unp js e, .Assign [.Tuple ts _ _] v _ => notTup v && okJs sc nm js ts && js.length == ts.length && okE sc nm e v
  | .unps js es, .Assign [.Tuple ts _ _] (.Tuple vs _ _) _ => okJs sc nm js ts && swapChk sc ts vs && okEs sc nm es vs
  | .seti a i e, .Assign [.Subscript o k _] v _ => notComp v && notSlice k && okE sc nm a o && okE sc nm i k && okE sc nm e v
  | .aug i op e, .AugAssign (.Name x _) o v _ => op == o && okL sc nm i x && okE sc nm e v
  | .app i e, .Expr (.Call (.Attribute (.Name x _) n ap) [v] [] p) _ => n == Str.ofString "append" && ap.endLine == p.line && okL sc nm i x && okE sc nm e v
  | .ite c t f, .If pc pt pf _ => okE sc nm c pc && okSs sc nm t pt && okSs sc nm f pf
  | .whl c b, .While pc pb [] _ => okE sc nm c pc && okSs sc nm b pb
  | .forl i it b, .For (.Name x _) pi pb [] _ => okL sc nm i x && okE sc nm it pi && okSs sc nm b pb
  | .forr i n b, .For (.Name x _) (.Call (.Name r _) [e] [] _) pb [] _ => okG sc (Str.ofString "range") r && okL sc nm i x && okE sc nm n e && okSs sc nm b pb
  | .ret e, .Return (some v) _ => okE sc nm e v
  | .asrt e, .Assert t none _ => okE sc nm e t
  | .rse, .Raise .. => true
  | _, _ => false
def okSs (sc : Scope) (nm : List Str) : Sms → List Stmt → Bool
  | .nil, [] => true
  | .cons s ss, p :: ps => okS sc nm s p && okSs sc nm ss ps
  | _, _ => false
end

-- M3
def upd (σ : St) (l : Addr) (xs : List PyData) : St := fun b => if b = l then some xs else σ b
theorem upd_self (σ : St) (l : Addr) (xs : List PyData) : upd σ l xs l = some xs := if_pos rfl
theorem upd_ne {σ : St} {l b : Addr} (xs : List PyData) (h : b ≠ l) : upd σ l xs b = σ b := if_neg h
theorem upd_upd (σ : St) (l : Addr) (xs ys : List PyData) : upd (upd σ l xs) l ys = upd σ l ys := by
  funext b; unfold upd; split <;> rfl

theorem upd_none {σ : St} {l : Addr} {xs : List PyData} {b : Addr} (h : upd σ l xs b = none) : σ b = none := by
  unfold upd at h
  split at h
  · cases h
  · exact h
theorem upd_none_ne {σ : St} {l : Addr} {xs : List PyData} {b : Addr} (h : upd σ l xs b = none) : b ≠ l := by
  rintro rfl; rw [upd_self] at h; cases h

/-- small enough for every operation -/
def Smal (a : Int) : Prop := Builtin.Int.intBits a ≤ 2000

def TruthP (v : V) (K : Bool → Prop) : Prop := match v with
  | .d .none => K false
  | .d (.bool b) => K b
  | .d (.int i) => K (i != 0)
  | _ => False

def b2 (p : Bool) : Int := if p = true then 1 else 0

def BinP (op : Operator) (x y : V) (K : PyData → Prop) : Prop := match op, x, y with
  | .Add, .d (.int a), .d (.int b) => K (.int (a + b))
  | .Sub, .d (.int a), .d (.int b) => K (.int (a - b))
  | .Mult, .d (.int a), .d (.int b) => (Smal a ∧ Smal b) ∧ K (.int (a * b))
  | .FloorDiv, .d (.int a), .d (.int b) => (b ≠ 0 ∧ Smal b) ∧ K (.int (a.fdiv b))
  | .Mod, .d (.int a), .d (.int b) => b ≠ 0 ∧ K (.int (a.fmod b))
  | .LShift, .d (.int a), .d (.int b) => (0 ≤ b ∧ Smal a ∧ b ≤ 2000) ∧ K (.int (a * 2 ^ b.toNat))
  | .RShift, .d (.int a), .d (.int b) => 0 ≤ b ∧ K (.int (a.fdiv (2 ^ b.toNat)))
  | .BitAnd, .d (.int a), .d (.int b) => K (.int (Builtin.bitAnd a b))
  | .BitXor, .d (.int a), .d (.int b) => K (.int (Builtin.bitXor a b))
  | .BitXor, .d (.bool p), .d (.int b) => K (.int (Builtin.bitXor (b2 p) b))
  | .Pow, .d (.int a), .d (.int b) => (0 ≤ b ∧ Smal a ∧ b ≤ 2000) ∧ K (.int (a ^ b.toNat))
  | _, _, _ => False

def AugP (op : Operator) (x y : V) (K : PyData → Prop) : Prop := match op, x, y with
  | .Add, .d (.int a), .d (.int b) => K (.int (a + b))
  | .Sub, .d (.int a), .d (.int b) => K (.int (a - b))
  | .LShift, .d (.int a), .d (.int b) => (0 ≤ b ∧ Smal a ∧ b ≤ 2000) ∧ K (.int (a * 2 ^ b.toNat))
  | .RShift, .d (.int a), .d (.int b) => 0 ≤ b ∧ K (.int (a.fdiv (2 ^ b.toNat)))
  | .BitXor, .d (.int a), .d (.int b) => K (.int (Builtin.bitXor a b))
  | _, _, _ => False

def strsOf : List PyData → Option (List Str)
  | [] => some []
  | .str x :: r => (strsOf r).map (x :: ·)
  | _ :: _ => none

def CmpP (op : CmpOp) (x y : V) (K : Bool → Prop) : Prop := match op, x, y with
  | .Eq, .d a, .d b => (SeqAt.shaped a = true ∧ SeqAt.shaped b = true) ∧ K (PyData.eqv a b)
  | .NotEq, .d a, .d b => (SeqAt.shaped a = true ∧ SeqAt.shaped b = true) ∧ K (!PyData.eqv a b)
  | .Lt, .d (.int a), .d (.int b) => K (decide (a < b))
  | .LtE, .d (.int a), .d (.int b) => K (decide (a ≤ b))
  | .Gt, .d (.int a), .d (.int b) => K (decide (a > b))
  | .GtE, .d (.int a), .d (.int b) => K (decide (a ≥ b))
  | .In, .d (.str a), .d (.tuple ys) => ∃ zs, strsOf ys = some zs ∧ K (zs.any (· == a))
  | .Is, .d .none, .d .none => K true
  | .Is, .d (.bool _), .d .none => K false
  | _, _, _ => False

def lstOf (σ : St) : V → Option (List PyData)
  | .d (.list xs) => some xs
  | .ref a => σ a
  | _ => none

def intsOf : List PyData → Option (List Int)
  | [] => some []
  | .int x :: r => (intsOf r).map (x :: ·)
  | _ :: _ => none

def BiP (f : BI) (vs : List V) (σ : St) (K : PyData → Prop) : Prop := match f, vs with
  | .len, [v] => ∃ xs, lstOf σ v = some xs ∧ xs.length < 1000000 ∧ K (.int xs.length)
  | .abs, [.d (.int a)] => K (.int a.natAbs)
  | .min2, [.d (.int a), .d (.int b)] => K (.int (if b < a then b else a))
  | .min1, [v] => ∃ xs ns, lstOf σ v = some xs ∧ intsOf xs = some ns ∧ 0 < ns.length ∧ ∀ m, m ∈ ns → (∀ a ∈ ns, m ≤ a) → K (.int m)
  | .max1, [v] => ∃ xs ns, lstOf σ v = some xs ∧ intsOf xs = some ns ∧ 0 < ns.length ∧ ∀ m, m ∈ ns → (∀ a ∈ ns, a ≤ m) → K (.int m)
  | .sum, [v] => ∃ xs ns, lstOf σ v = some xs ∧ intsOf xs = some ns ∧ K (.int ns.sum)
  | .int, [.d (.int a)] => K (.int a)
  | _, _ => False

def SubP (σ : St) (v i : V) (K : PyData → Prop) : Prop := match v, i with
  | .d (.tuple xs), .d (.int k) => ∃ x, (0 ≤ k ∧ k < 1000000 ∧ xs[k.toNat]? = some x) ∧ K x
  | .d (.str x), .d (.int k) => ∃ c, (0 ≤ k ∧ k < 1000000 ∧ x.cps[k.toNat]? = some c) ∧ K (.str ⟨#[c]⟩)
  | v, .d (.int k) => ∃ xs x, (0 ≤ k ∧ k < 1000000 ∧ lstOf σ v = some xs ∧ xs[k.toNat]? = some x) ∧ K x
  | _, _ => False

def tabOf (x : Str) : Option PyData :=
  if x = Str.ofString "f" then some (.tuple [.int 1, .int 0]) else if x = Str.ofString "c" then some (.tuple [.int 0, .int 1])
  else if x = Str.ofString "d" then some (.tuple [.int 1, .int 1]) else if x = Str.ofString "u" then some (.tuple [.int 0, .int 0]) else none

def datas : List V → Option (List PyData)
  | [] => some []
  | .d x :: r => (datas r).map (x :: ·)
  | .ref _ :: _ => none

section
variable (C : Nat → List V → St → (V → St → Prop) → Prop)
mutual
def wpE (ρ : List (Option V)) : Ex → St → (V → St → Prop) → Prop
  | .cst c, σ, Q => Q (.d c) σ
  | .loc i, σ, Q => match rg ρ i with | some v => Q v σ | none => False
  | .glb g, σ, Q => match cval g with | some x => Q (.d x) σ | none => False
  | .bin op a b, σ, Q => wpE ρ a σ fun x σ₁ => wpE ρ b σ₁ fun y σ₂ => BinP op x y fun r => Q (.d r) σ₂
  | .neg a, σ, Q => wpE ρ a σ fun x σ₁ => match x with | .d (.int i) => Q (.d (.int (-i))) σ₁ | _ => False
  | .nt a, σ, Q => wpE ρ a σ fun x σ₁ => TruthP x fun b => Q (.d (.bool (!b))) σ₁
  | .cmp op a b, σ, Q => wpE ρ a σ fun x σ₁ => wpE ρ b σ₁ fun y σ₂ => CmpP op x y fun r => Q (.d (.bool r)) σ₂
  | .bool op es, σ, Q => wpB ρ op es σ Q
  | .ife c a b, σ, Q => wpE ρ c σ fun x σ₁ => TruthP x fun t => (t = true → wpE ρ a σ₁ Q) ∧ (t = false → wpE ρ b σ₁ Q)
  | .call f as, σ, Q => wpEs ρ as σ fun vs σ₁ => C f vs σ₁ Q
  | .bi f as, σ, Q => wpEs ρ as σ fun vs σ₁ => BiP f vs σ₁ fun r => Q (.d r) σ₁
  | .isint a, σ, Q => wpE ρ a σ fun x σ₁ => match x with | .d (.int _) => Q (.d (.bool true)) σ₁ | _ => False
  | .blen a, σ, Q => wpE ρ a σ fun x σ₁ => match x with | .d (.int i) => Q (.d (.int (Builtin.Int.intBits i))) σ₁ | _ => False
  | .sub a i, σ, Q => wpE ρ a σ fun x σ₁ => wpE ρ i σ₁ fun y σ₂ => SubP σ₂ x y fun r => Q (.d r) σ₂
  | .slto a hi, σ, Q => wpE ρ a σ fun x σ₁ => ∃ xs, lstOf σ₁ x = some xs ∧ xs.length < 1000000 ∧ Q (.d (.list (xs.take hi))) σ₁
  | .slfrom a lo, σ, Q => wpE ρ a σ fun x σ₁ => ∃ xs, lstOf σ₁ x = some xs ∧ xs.length < 1000000 ∧ Q (.d (.list (xs.drop lo))) σ₁
  | .tab a, σ, Q => wpE ρ a σ fun x σ₁ => match x with | .d (.str s) => ∃ t, tabOf s = some t ∧ Q (.d t) σ₁ | _ => False
  | .tup es, σ, Q => wpEs ρ es σ fun vs σ₁ => ∃ xs, datas vs = some xs ∧ xs.length < 1000 ∧ Q (.d (.tuple xs)) σ₁
  | .lst es, σ, Q => wpEs ρ es σ fun vs σ₁ => ∃ xs, datas vs = some xs ∧ xs.length < 1000 ∧ ∀ a, σ₁ a = none → Q (.ref a) (upd σ₁ a xs)
  | .comp1 elt it, σ, Q => wpE ρ it σ fun v σ₁ => ∃ xs, lstOf σ₁ v = some xs ∧ xs.length < 1000000 ∧ ∃ F : PyData → PyData,
      (∀ x ∈ xs, ∀ σ', wpE [some (.d x)] elt σ' fun y σ₂ => y = .d (F x) ∧ σ₂ = σ') ∧ Q (.d (.list (xs.map F))) σ₁
  | .comp2 elt it, σ, Q => wpE ρ it σ fun v σ₁ => ∃ xs, lstOf σ₁ v = some xs ∧ xs.length < 1000000 ∧ ∃ F : PyData → PyData,
      (∀ x ∈ xs, ∃ p q, x = .tuple [p, q] ∧ ∀ σ', wpE [some (.d p), some (.d q)] elt σ' fun y σ₂ => y = .d (F x) ∧ σ₂ = σ') ∧ Q (.d (.list (xs.map F))) σ₁
def wpEs (ρ : List (Option V)) : Exs → St → (List V → St → Prop) → Prop
  | .nil, σ, Q => Q [] σ
  | .cons e es, σ, Q => wpE ρ e σ fun v σ₁ => wpEs ρ es σ₁ fun vs σ₂ => Q (v :: vs) σ₂
def wpB (ρ : List (Option V)) (op : BoolOp) : Exs → St → (V → St → Prop) → Prop
  | .nil, _, _ => False
  | .cons e .nil, σ, Q => wpE ρ e σ Q
  | .cons e (.cons e' es), σ, Q => wpE ρ e σ fun v σ₁ => TruthP v fun t =>
      (t = (op == .And) → wpB ρ op (.cons e' es) σ₁ Q) ∧ (t = (op == .Or) → Q v σ₁)
end

def rsAll (ρ : List (Option V)) : List Nat → List PyData → List (Option V)
  | j :: js, x :: xs => rsAll (rs ρ j (.d x)) js xs
  | _, _ => ρ

mutual
def wpS : Sm → List (Option V) → St → (List (Option V) → St → Prop) → (V → St → Prop) → Prop
  | .asg i e, ρ, σ, Q, _ => wpE C ρ e σ fun v σ₁ => Q (rs ρ i v) σ₁
  | .asg2 i j e, ρ, σ, Q, _ => wpE C ρ e σ fun v σ₁ => Q (rs (rs ρ i v) j v) σ₁
  | .asgc i elt it, ρ, σ, Q, _ => wpE C ρ (.comp1 elt it) σ fun v σ₁ => Q (rs ρ i v) σ₁
  | .unp js e, ρ, σ, Q, _ => wpE C ρ e σ fun v σ₁ => match v with | .d (.tuple xs) => xs.length = js.length ∧ Q (rsAll ρ js xs) σ₁ | _ => False
  | .unps js es, ρ, σ, Q, _ => wpEs C ρ es σ fun vs σ₁ => vs.length = js.length ∧ Q ((js.zip vs).reverse.foldl (fun ρ p => rs ρ p.1 p.2) ρ) σ₁
  | .seti a i e, ρ, σ, Q, _ => wpE C ρ e σ fun v σ₁ => wpE C ρ a σ₁ fun l σ₂ => wpE C ρ i σ₂ fun k σ₃ => match l, k, v with
      | .ref l, .d (.int k), .d x => ∃ xs, σ₃ l = some xs ∧ 0 ≤ k ∧ k < xs.length ∧ xs.length < 1000000 ∧ Q ρ (upd σ₃ l (xs.set k.toNat x))
      | _, _, _ => False
  | .aug i op e, ρ, σ, Q, _ => match rg ρ i with
      | some v => wpE C ρ e σ fun y σ₁ => AugP op v y fun r => Q (rs ρ i (.d r)) σ₁
      | none => False
  | .app i e, ρ, σ, Q, _ => match rg ρ i with
      | some (.ref l) => (∃ ys, σ l = some ys) ∧ wpE C ρ e σ fun y σ₁ => match y with
        | .d x => ∃ xs, σ₁ l = some xs ∧ xs.length < 1000000 ∧ Q ρ (upd σ₁ l (xs ++ [x]))
        | _ => False
      | _ => False
  | .ite c t f, ρ, σ, Q, R => wpE C ρ c σ fun v σ₁ => TruthP v fun b => (b = true → wpSs t ρ σ₁ Q R) ∧ (b = false → wpSs f ρ σ₁ Q R)
  | .whl c b, ρ, σ, Q, R => ∃ I : Nat → List (Option V) → St → Prop, (∃ n, I n ρ σ) ∧ ∀ n ρ' σ', I n ρ' σ' →
      wpE C ρ' c σ' fun v σ₁ => TruthP v fun t => (t = true → wpSs b ρ' σ₁ (fun ρ₂ σ₂ => ∃ m, m < n ∧ I m ρ₂ σ₂) R) ∧ (t = false → Q ρ' σ₁)
  | .forl i it b, ρ, σ, Q, R => wpE C ρ it σ fun v σ₁ => ∃ xs, lstOf σ₁ v = some xs ∧ xs.length < 1000000 ∧ ∃ I : Nat → List (Option V) → St → Prop, I 0 ρ σ₁ ∧
      (∀ k ρ' σ', I k ρ' σ' → lstOf σ' v = some xs) ∧
      (∀ k x ρ' σ', xs[k]? = some x → I k ρ' σ' → wpSs b (rs ρ' i (.d x)) σ' (fun ρ₂ σ₂ => I (k + 1) ρ₂ σ₂) R) ∧
      (∀ ρ' σ', I xs.length ρ' σ' → Q ρ' σ')
  | .forr i n b, ρ, σ, Q, R => wpE C ρ n σ fun v σ₁ => match v with
      | .d (.int n) => -1000000 ≤ n ∧ n < 1000000 ∧ ∃ I : Nat → List (Option V) → St → Prop, I 0 ρ σ₁ ∧
        (∀ (k : Nat) ρ' σ', (k : Int) < n → I k ρ' σ' → wpSs b (rs ρ' i (.d (.int k))) σ' (fun ρ₂ σ₂ => I (k + 1) ρ₂ σ₂) R) ∧
        (∀ ρ' σ', I n.toNat ρ' σ' → Q ρ' σ')
      | _ => False
  | .ret e, ρ, σ, _, R => wpE C ρ e σ fun v σ₁ => R v σ₁
  | .asrt e, ρ, σ, Q, _ => wpE C ρ e σ fun v σ₁ => TruthP v fun t => t = true ∧ Q ρ σ₁
  | .rse, _, _, _, _ => False
def wpSs : Sms → List (Option V) → St → (List (Option V) → St → Prop) → (V → St → Prop) → Prop
  | .nil, ρ, σ, Q, _ => Q ρ σ
  | .cons s ss, ρ, σ, Q, R => wpS s ρ σ (fun ρ₁ σ₁ => wpSs ss ρ₁ σ₁ Q R) R
end
end

-- M4
def Dsh : List (Str × KTD.Dat) := [(Str.ofString "f", .tup [.int 1, .int 0]), (Str.ofString "c", .tup [.int 0, .int 1]), (Str.ofString "d", .tup [.int 1, .int 1]), (Str.ofString "u", .tup [.int 0, .int 0])]

structure Bs (hb : Heap) (mg mb : Str → Option Value) (fa : Nat → Addr) : Prop where
  g : hb.Ns mainGlobals mg
  b : hb.Ns builtinsNs mb
  lim : hb.NoLimit
  ct : ∀ p ∈ ctab, ∃ v, mg p.1 = some v ∧ RD hb (fun _ => none) v p.2
  ft : ∀ f n, ftab[f]? = some n → mg n = some (.ref (fa f)) ∧ ∃ o fd, hb.get? (fa f) = some o ∧ o.data = .func fd
  bt : ∀ f : BI, mg f.name = none ∧ mb f.name = some f.val
  isi : mg (Str.ofString "isinstance") = none ∧ mb (Str.ofString "isinstance") = some (.builtin "isinstance")
  rng : mg (Str.ofString "range") = none ∧ mb (Str.ofString "range") = some (.type "range")
  tb : ∃ a, mg (Str.ofString "shifts_down") = some (.ref a) ∧ KTD.TextTab hb a Dsh

structure EnvOK (env : Env) (sc : Scope) (L : Addr) : Prop where
  scp : env.scope = sc
  kind : sc.kind = .function
  loc : env.locals = L
  glo : env.globals = mainGlobals
  bui : env.builtins = builtinsNs

def Room (n : Nat) (A : Around) : Prop := A.handled = none ∧ A.depth + n < 990 ∧ A.units + 100 * (n + 1) < 9800

structure Ev (hb : Heap) (s : Shared) (σ : St) (s' : Shared) (σ' : St) : Prop where
  sh : ∃ h' tk, s' = { s with heap := h', toks := tk }
  good : Good hb s'.heap σ'
  kp : Kp NoX s.heap σ s'.heap σ'

def PostE (hb : Heap) (s : Shared) (σ : St) (Q : V → St → Prop) (v : Value) (s' : Shared) : Prop :=
  ∃ V σ', Q V σ' ∧ VR s'.heap σ' v V ∧ Ev hb s σ s' σ'

def VRs (h : Heap) (σ : St) : List Value → List V → Prop
  | [], [] => True
  | v :: vs, x :: xs => VR h σ v x ∧ VRs h σ vs xs
  | _, _ => False

def PostEs (hb : Heap) (s : Shared) (σ : St) (Q : List V → St → Prop) (v : List Value) (s' : Shared) : Prop :=
  ∃ V σ', Q V σ' ∧ VRs s'.heap σ' v V ∧ Ev hb s σ s' σ'

def CallOK (prog : Program) (w : World) (hb : Heap) (fa : Nat → Addr) (n : Nat) (f : Nat) (vs : List V) (σ : St) (Q : V → St → Prop) : Prop :=
  ∀ (A : Around) (s : Shared) (args : List Value) (E : Value → Shared → Prop), Room n A → Good hb s.heap σ → VRs s.heap σ args vs →
    wpAny (model prog w) A (call (.ref (fa f)) args) (PostE hb s σ Q) E s

theorem Ev.refl {hb : Heap} {s : Shared} {σ : St} (g : Good hb s.heap σ) : Ev hb s σ s σ := ⟨⟨s.heap, s.toks, rfl⟩, g, .refl _ _ _⟩
theorem Ev.trans {hb : Heap} {s₀ s₁ s₂ : Shared} {σ₀ σ₁ σ₂ : St} (x : Ev hb s₀ σ₀ s₁ σ₁) (y : Ev hb s₁ σ₁ s₂ σ₂) : Ev hb s₀ σ₀ s₂ σ₂ := by
  obtain ⟨h1, t1, e1⟩ := x.sh
  obtain ⟨h2, t2, e2⟩ := y.sh
  exact ⟨⟨h2, t2, by rw [e2, e1]⟩, y.good, x.kp.trans y.kp⟩
/-- the heap grows, σ stays -/
theorem Ev.grow {hb : Heap} {s₀ s₁ : Shared} {σ₀ σ₁ : St} (x : Ev hb s₀ σ₀ s₁ σ₁) {h' : Heap} (tk : Nat) (hk : ∀ a o, s₁.heap.get? a = some o → h'.get? a = some o) :
    Ev hb s₀ σ₀ { s₁ with heap := h', toks := tk } σ₁ :=
  x.trans ⟨⟨h', tk, rfl⟩, x.good.grow hk, .grow hk⟩
theorem Ev.toks {hb : Heap} {s₀ s₁ : Shared} {σ₀ σ₁ : St} (x : Ev hb s₀ σ₀ s₁ σ₁) (tk : Nat) : Ev hb s₀ σ₀ { s₁ with toks := tk } σ₁ :=
  x.trans ⟨⟨s₁.heap, tk, rfl⟩, x.good, .refl _ _ _⟩

theorem Ev.vr {hb : Heap} {s₀ s₁ : Shared} {σ₀ σ₁ : St} (x : Ev hb s₀ σ₀ s₁ σ₁) (g : Good hb s₀.heap σ₀) {v : Value} {y : V} (r : VR s₀.heap σ₀ v y) : VR s₁.heap σ₁ v y :=
  r.step x.kp.toKr (.no _) g.rep.listAt
theorem Ev.rd {hb : Heap} {s₀ s₁ : Shared} {σ₀ σ₁ : St} (x : Ev hb s₀ σ₀ s₁ σ₁) (g : Good hb s₀.heap σ₀) {v : Value} {y : PyData} (r : RD s₀.heap σ₀ v y) : RD s₁.heap σ₁ v y :=
  r.step x.kp.toKr (.no _) g.rep.listAt
theorem VRs.step {X : Addr → Prop} {h h' : Heap} {σ σ' : St} (k : Kr X h σ h' σ') (hX : NotSeq X h) (hl : ListAt h σ) : ∀ {vs : List Value} {xs : List V}, VRs h σ vs xs → VRs h' σ' vs xs
  | [], [], _ => trivial
  | [], _ :: _, r => r.elim
  | _ :: _, [], r => r.elim
  | _ :: _, _ :: _, r => ⟨r.1.step k hX hl, VRs.step k hX hl r.2⟩
theorem VRs.length {h : Heap} {σ : St} : ∀ {vs : List Value} {xs : List V}, VRs h σ vs xs → vs.length = xs.length
  | [], [], _ => rfl
  | [], _ :: _, r => r.elim
  | _ :: _, [], r => r.elim
  | _ :: _, _ :: _, r => by simp [VRs.length r.2]
theorem VRs.datas {h : Heap} {σ : St} : ∀ {vs : List Value} {xs : List V} {ds : List PyData}, VRs h σ vs xs → Mine.datas xs = some ds → RDs h σ vs ds
  | [], [], ds, _, e => by cases e; exact .nil _ _
  | [], _ :: _, _, r, _ => r.elim
  | _ :: _, [], _, r, _ => r.elim
  | _ :: _, .ref a :: _, _, _, e => by cases e
  | v :: vs, .d x :: xs, ds, r, e => by
    unfold Mine.datas at e
    cases h1 : Mine.datas xs with
    | none => rw [h1] at e; cases e
    | some ys => rw [h1] at e; cases e; exact .cons r.1 (VRs.datas r.2 h1)

theorem PostE.trans {hb : Heap} {s s₁ s₂ : Shared} {σ σ₁ : St} {Q : V → St → Prop} {v : Value} (x : Ev hb s σ s₁ σ₁) (p : PostE hb s₁ σ₁ Q v s₂) : PostE hb s σ Q v s₂ :=
  let ⟨V, σ', hq, hv, he⟩ := p; ⟨V, σ', hq, hv, x.trans he⟩
theorem PostE.mk {hb : Heap} {s s' : Shared} {σ σ' : St} {Q : V → St → Prop} {v : Value} {V : V} (hq : Q V σ') (hv : VR s'.heap σ' v V) (he : Ev hb s σ s' σ') : PostE hb s σ Q v s' := ⟨V, σ', hq, hv, he⟩

section
variable {M : Model} {A : Around} {E : Value → Shared → Prop} {hb : Heap} {s : Shared} {σ : St}
/-- run t, then go on -/
theorem seqE {α : Type} {t : Sem Value} {f : Value → Sem α} {Q₁ : V → St → Prop} {R : α → Shared → Prop} (h : wpAny M A t (PostE hb s σ Q₁) E s)
    (k : ∀ v V s₁ σ₁, Q₁ V σ₁ → VR s₁.heap σ₁ v V → Ev hb s σ s₁ σ₁ → wpAny M A (f v) R E s₁) : wpAny M A t (fun v s₁ => wpAny M A (f v) R E s₁) E s :=
  wpAny_mono h (fun v s₁ p => let ⟨V, σ₁, hq, hv, he⟩ := p; k v V s₁ σ₁ hq hv he) fun _ _ e => e
theorem postE {t : Sem Value} {Q₁ : V → St → Prop} {R : Value → Shared → Prop} (h : wpAny M A t (PostE hb s σ Q₁) E s)
    (k : ∀ v V s₁ σ₁, Q₁ V σ₁ → VR s₁.heap σ₁ v V → Ev hb s σ s₁ σ₁ → R v s₁) : wpAny M A t R E s :=
  wpAny_mono h (fun v s₁ p => let ⟨V, σ₁, hq, hv, he⟩ := p; k v V s₁ σ₁ hq hv he) fun _ _ e => e
end

/-! ### the operations -/
theorem xor_bool_int_ok {prog : Program} {w : World} {A : Around} {E : Value → Shared → Prop} {s : Shared} {p : Bool} {b : Int} {u : Tok} {Q : Value → Shared → Prop}
    (h : Q (.int (Builtin.bitXor (b2 p) b) s.toks) { s with toks := s.toks + 1 }) :
    wpAny (model prog w) A (binaryOp .BitXor (.bool p) (.int b u)) Q E s := by
  refine wpAny_binaryOp_two (op := .BitXor) (T := "bool") (U := "int") (by decide) rfl (fun s' => typeIs_int s' b u) F.fills_bool_xor F.fills_int_xor F.sub_int_bool F.slot_bool_xor F.slot_int_rxor ?_
  refine wpAny_call (codeAny_call_builtin F.slot_bool_xor.plain F.entry_bool_xor (F.slot_bool_xor.check _ _ _ _ _ _ _ _ rfl (F.args_bool_xor_2 _ _) ?_))
  have e : Builtin.«bool.__xor__» ⟨[.bool p, .int b u], []⟩ = (do rule "bool.bitwise.as-ints"; again (.builtin "int.__xor__" ⟨[.bool p, .int b u], []⟩)) := by rfl
  rw [e]
  refine wpAny_bind (wpAny_rule (wpAny_pure ⟨plainId_quiet (by decide +kernel) _, codeAny_builtin F.entry_int_xor ?_⟩))
  have e2 : Builtin.«int.__xor__» ⟨[.bool p, .int b u], []⟩ = (do ret (← mkInt (Builtin.bitXor (b2 p) b))) := by rfl
  rw [e2]
  refine wpAny_bind (wpAny_mkInt (wpAny_pure ?_))
  exact .inl ⟨(by intro x; cases x), h⟩
section
variable {prog : Program} {w : World} {A : Around} {E : Value → Shared → Prop} {hb : Heap} {s s₀ : Shared} {σ σ₀ : St}

theorem intBits_small {a : Int} (h : Smal a) : Builtin.Int.intBits a ≤ 2000 := h
theorem mulOk_of {a b : Int} (h : Smal a ∧ Smal b) : IntMulOk a b := by
  have h1 := h.1; have h2 := h.2
  unfold Smal at h1 h2
  have : Builtin.Int.intTooBig (Builtin.Int.intBits a + Builtin.Int.intBits b) = false := by
    unfold Builtin.Int.intTooBig bitsLine
    exact decide_eq_false (by omega)
  unfold IntMulOk
  rw [this]; simp
theorem log2_small {b : Int} (hb : b ≠ 0) (h : Smal b) : b.natAbs.log2 < 9000 := by
  unfold Smal Builtin.Int.intBits at h
  rw [if_neg (by simpa using hb)] at h
  omega

theorem binP_ok {op : Operator} {x y : V} {K : PyData → Prop} {a b : Value} (h : BinP op x y K) (ha : VR s.heap σ a x) (hb' : VR s.heap σ b y) (he : Ev hb s₀ σ₀ s σ) :
    wpAny (model prog w) A (binaryOp op a b) (PostE hb s₀ σ₀ fun V σ' => ∃ r, V = .d r ∧ K r ∧ σ' = σ) E s := by
  have fin : ∀ (i : Int), K (.int i) → PostE hb s₀ σ₀ (fun V σ' => ∃ r, V = .d r ∧ K r ∧ σ' = σ) (.int i s.toks) { s with toks := s.toks + 1 } :=
    fun i hK => .mk ⟨_, rfl, hK, rfl⟩ (RD.int _ _ _ _) (he.toks _)
  unfold BinP at h
  split at h
  · obtain ⟨t, rfl⟩ := RD.int_inv ha; obtain ⟨u, rfl⟩ := RD.int_inv hb'
    exact PyProof.Rows.add_int (fin _ h)
  · obtain ⟨t, rfl⟩ := RD.int_inv ha; obtain ⟨u, rfl⟩ := RD.int_inv hb'
    exact PyProof.Rows.sub_int (fin _ h)
  · obtain ⟨t, rfl⟩ := RD.int_inv ha; obtain ⟨u, rfl⟩ := RD.int_inv hb'
    exact PyProof.Rows.mul_int (fin _ h.2) (mulOk_of h.1)
  · obtain ⟨t, rfl⟩ := RD.int_inv ha; obtain ⟨u, rfl⟩ := RD.int_inv hb'
    exact PyProof.Rows.floordiv_int h.1.1 (fin _ h.2) (.inl (PyProof.noPylong_of_log2 (log2_small h.1.1 h.1.2)))
  · obtain ⟨t, rfl⟩ := RD.int_inv ha; obtain ⟨u, rfl⟩ := RD.int_inv hb'
    exact PyProof.Rows.mod_int h.1 (fin _ h.2)
  · obtain ⟨t, rfl⟩ := RD.int_inv ha; obtain ⟨u, rfl⟩ := RD.int_inv hb'
    exact PyProof.Rows.lshift_int h.1.1 (by have := h.1.2.1; unfold Smal at this; have := h.1.2.2; omega) (fin _ h.2)
  · obtain ⟨t, rfl⟩ := RD.int_inv ha; obtain ⟨u, rfl⟩ := RD.int_inv hb'
    exact PyProof.Rows.rshift_int h.1 (fin _ h.2)
  · obtain ⟨t, rfl⟩ := RD.int_inv ha; obtain ⟨u, rfl⟩ := RD.int_inv hb'
    exact PyProof.Rows.and_int (fin _ h)
  · obtain ⟨t, rfl⟩ := RD.int_inv ha; obtain ⟨u, rfl⟩ := RD.int_inv hb'
    exact PyProof.Rows.xor_int (fin _ h)
  · obtain rfl := RD.bool_inv ha; obtain ⟨u, rfl⟩ := RD.int_inv hb'
    exact xor_bool_int_ok (fin _ h)
  · rename_i a' b'
    obtain ⟨t, rfl⟩ := RD.int_inv ha; obtain ⟨u, rfl⟩ := RD.int_inv hb'
    refine PyProof.Rows.pow_int h.1.1 ?_ (fin _ h.2)
    have h1 := h.1.2.1; unfold Smal at h1
    have h2 := h.1.2.2
    have h3 := h.1.1
    have : (Builtin.Int.intBits a' : Int) * b' ≤ 2000 * 2000 := Int.mul_le_mul (by omega) h2 h3 (by omega)
    omega
  · exact h.elim

theorem augP_ok {op : Operator} {x y : V} {K : PyData → Prop} {a b : Value} (h : AugP op x y K) (ha : VR s.heap σ a x) (hb' : VR s.heap σ b y) (he : Ev hb s₀ σ₀ s σ) :
    wpAny (model prog w) A (inplaceOp op a b) (PostE hb s₀ σ₀ fun V σ' => ∃ r, V = .d r ∧ K r ∧ σ' = σ) E s := by
  have fin : ∀ (i : Int), K (.int i) → PostE hb s₀ σ₀ (fun V σ' => ∃ r, V = .d r ∧ K r ∧ σ' = σ) (.int i s.toks) { s with toks := s.toks + 1 } :=
    fun i hK => .mk ⟨_, rfl, hK, rfl⟩ (RD.int _ _ _ _) (he.toks _)
  unfold AugP at h
  split at h
  · obtain ⟨t, rfl⟩ := RD.int_inv ha; obtain ⟨u, rfl⟩ := RD.int_inv hb'
    exact PyProof.Rows.iadd_int (fin _ h)
  · obtain ⟨t, rfl⟩ := RD.int_inv ha; obtain ⟨u, rfl⟩ := RD.int_inv hb'
    exact PyProof.Rows.isub_int (fin _ h)
  · obtain ⟨t, rfl⟩ := RD.int_inv ha; obtain ⟨u, rfl⟩ := RD.int_inv hb'
    exact PyProof.Rows.ilshift_int h.1.1 (by have := h.1.2.1; unfold Smal at this; have := h.1.2.2; omega) (fin _ h.2)
  · obtain ⟨t, rfl⟩ := RD.int_inv ha; obtain ⟨u, rfl⟩ := RD.int_inv hb'
    exact PyProof.Rows.irshift_int h.1 (fin _ h.2)
  · obtain ⟨t, rfl⟩ := RD.int_inv ha; obtain ⟨u, rfl⟩ := RD.int_inv hb'
    exact PyProof.Rows.ixor_int (fin _ h)
  · exact h.elim

theorem truthP_ok {x : V} {K : Bool → Prop} {a : Value} (h : TruthP x K) (ha : VR s.heap σ a x) :
    wpAny (model prog w) A (truthy a) (fun b s' => K b ∧ s' = s) E s := by
  unfold TruthP at h
  split at h
  · obtain rfl := RD.none_inv ha
    exact truthy_none ⟨h, rfl⟩
  · obtain rfl := RD.bool_inv ha
    exact wpAny_truthy_bool ⟨h, rfl⟩
  · obtain ⟨t, rfl⟩ := RD.int_inv ha
    exact PyProof.Rows.truthy_int ⟨h, rfl⟩
  · exact h.elim

theorem strsAre_of : ∀ {ys : List PyData} {zs : List Str} {vs : List Value}, strsOf ys = some zs → RDs s.heap σ vs ys → StrsAre vs zs
  | [], zs, [], e, r => by cases e; exact .nil
  | [], _, _ :: _, _, ⟨_, r, _⟩ => by cases r
  | _ :: _, _, [], _, ⟨_, r, _⟩ => by cases r
  | y :: ys, zs, v :: vs, e, r => by
    cases y with
    | str x =>
      unfold strsOf at e
      cases h1 : strsOf ys with
      | none => rw [h1] at e; cases e
      | some z => rw [h1] at e; cases e; obtain ⟨t, rfl⟩ := RD.str_inv r.head; exact .cons _ _ (strsAre_of h1 r.tail)
    | _ => cases e

theorem intsAre_of : ∀ {ys : List PyData} {zs : List Int} {vs : List Value}, intsOf ys = some zs → RDs s.heap σ vs ys → IntsAre vs zs
  | [], zs, [], e, r => by cases e; exact .nil
  | [], _, _ :: _, _, ⟨_, r, _⟩ => by cases r
  | _ :: _, _, [], _, ⟨_, r, _⟩ => by cases r
  | y :: ys, zs, v :: vs, e, r => by
    cases y with
    | int x =>
      unfold intsOf at e
      cases h1 : intsOf ys with
      | none => rw [h1] at e; cases e
      | some z => rw [h1] at e; cases e; obtain ⟨t, rfl⟩ := RD.int_inv r.head; exact .cons _ _ (intsAre_of h1 r.tail)
    | _ => cases e

theorem cmpP_ok {n : Nat} (hr : Room n A) {op : CmpOp} {x y : V} {K : Bool → Prop} {a b : Value} (h : CmpP op x y K) (ha : VR s.heap σ a x) (hb' : VR s.heap σ b y) :
    wpAny (model prog w) A (compareOp op a b) (fun v s' => (∃ r, v = .bool r ∧ K r) ∧ s' = s) E s := by
  have hu : A.units + 64 < cLine := by have := hr.2.2; unfold cLine; omega
  unfold CmpP at h
  split at h
  · obtain ⟨as, r1, _⟩ := ha; obtain ⟨bs, r2, _⟩ := hb'
    exact eq_dataH r1 r2 h.1.1 h.1.2 hu ⟨⟨_, rfl, h.2⟩, rfl⟩
  · obtain ⟨as, r1, _⟩ := ha; obtain ⟨bs, r2, _⟩ := hb'
    exact ne_dataH r1 r2 h.1.1 h.1.2 hu ⟨⟨_, rfl, h.2⟩, rfl⟩
  · obtain ⟨t, rfl⟩ := RD.int_inv ha; obtain ⟨u, rfl⟩ := RD.int_inv hb'
    exact P.lt_int ⟨⟨_, rfl, h⟩, rfl⟩
  · obtain ⟨t, rfl⟩ := RD.int_inv ha; obtain ⟨u, rfl⟩ := RD.int_inv hb'
    exact P.le_int ⟨⟨_, rfl, h⟩, rfl⟩
  · obtain ⟨t, rfl⟩ := RD.int_inv ha; obtain ⟨u, rfl⟩ := RD.int_inv hb'
    exact P.gt_int ⟨⟨_, rfl, h⟩, rfl⟩
  · obtain ⟨t, rfl⟩ := RD.int_inv ha; obtain ⟨u, rfl⟩ := RD.int_inv hb'
    exact P.ge_int ⟨⟨_, rfl, h⟩, rfl⟩
  · obtain ⟨t, rfl⟩ := RD.str_inv ha
    obtain ⟨zs, hz, hK⟩ := h
    obtain ⟨l, o, vs, k, rfl, h1, h2, h3, h4⟩ := RD.tuple_inv hb'
    exact in_tuple_strs ⟨o, h1, h2, k, h3⟩ (strsAre_of hz h4) ⟨⟨_, rfl, hK⟩, rfl⟩
  · obtain rfl := RD.none_inv ha; obtain rfl := RD.none_inv hb'
    exact is_none ⟨⟨_, rfl, h⟩, rfl⟩
  · obtain rfl := RD.bool_inv ha; obtain rfl := RD.none_inv hb'
    exact is_none ⟨⟨_, rfl, h⟩, rfl⟩
  · exact h.elim

theorem lstOf_ok (g : Good hb s.heap σ) {x : V} {xs : List PyData} {a : Value} (h : lstOf σ x = some xs) (ha : VR s.heap σ a x) :
    ∃ l items, a = .ref l ∧ s.heap.IsList l items ∧ RDs s.heap σ items.toList xs := by
  unfold lstOf at h
  split at h
  · cases h
    obtain ⟨l, vs, rfl, _, h1, h2⟩ := RD.list_inv ha
    exact ⟨l, vs, rfl, h1, h2⟩
  · obtain rfl := ha
    obtain ⟨items, h1, h2, _⟩ := g.rep _ _ h
    exact ⟨_, items, rfl, h1, h2⟩
  · cases h

theorem subscripted_ns {slice : Expr} (hn : notSlice slice = true) (o i : Value) : subscripted slice false o i = operate [o, i] (getItem o i) := by
  cases slice <;> first | rfl | cases hn

theorem subP_ok (g : Good hb s.heap σ) {x y : V} {K : PyData → Prop} {a b : Value} (h : SubP σ x y K) (ha : VR s.heap σ a x) (hb' : VR s.heap σ b y) (he : Ev hb s₀ σ₀ s σ)
    {value slice : Expr} (hn : notSlice slice = true) :
    wpAny (model prog w) A (subscriptTail value slice a b) (PostE hb s₀ σ₀ fun V σ' => ∃ r, V = .d r ∧ K r ∧ σ' = σ) E s := by
  unfold SubP at h
  split at h
  · rename_i xs i
    obtain ⟨t, rfl⟩ := RD.int_inv hb'
    obtain ⟨z, ⟨h0, h1, h2⟩, hK⟩ := h
    obtain ⟨l, o, vs, k, rfl, e1, e2, e3, e4⟩ := RD.tuple_inv ha
    obtain ⟨v, hv, hr⟩ := e4.get h2
    have ht : IsTup s.heap l vs := ⟨o, e1, e2, k, e3⟩
    have hv' : vs[i.toNat]? = some v := by simpa using hv
    have hlt := (Array.getElem?_eq_some_iff.mp hv').1
    refine tail_any ht.typeIs slot_tuple_getitem.lookup (PyProof.Rows.getItem_tuple ht (by omega) (by omega) (seqIndex_of h0 (by omega)) hv' ?_) (subscripted_ns hn _ _)
    exact .mk ⟨_, rfl, hK, rfl⟩ hr he
  · rename_i x i
    obtain ⟨t, rfl⟩ := RD.int_inv hb'
    obtain ⟨u, rfl⟩ := RD.str_inv ha
    obtain ⟨c, ⟨h0, h1, h2⟩, hK⟩ := h
    have hlt : i.toNat < x.length := (Array.getElem?_eq_some_iff.mp h2).1
    refine tail_any (typeIs_str s x u) F.slot_str_getitem.lookup (P.getItem_str (c := c) ?_ ?_ ?_) (subscripted_ns hn _ _)
    · simp; omega
    · rw [seqIndex_of h0 (by omega)]; exact h2
    · exact .mk ⟨_, rfl, hK, rfl⟩ (RD.str _ _ _ _) (he.toks _)
  · obtain ⟨t, rfl⟩ := RD.int_inv hb'
    obtain ⟨xs, z, ⟨h0, h1, h2, h3⟩, hK⟩ := h
    obtain ⟨l, items, rfl, hl, hrs⟩ := lstOf_ok g h2 ha
    obtain ⟨v, hv, hr⟩ := hrs.get h3
    refine tail_any hl.typeIs slot_list_getitem.lookup (wpAny_getItem_list hl h0 (by omega) (by simpa using hv) ?_) (subscripted_ns hn _ _)
    exact .mk ⟨_, rfl, hK, rfl⟩ hr he
  · exact h.elim
end

-- M5
section
variable {prog : Program} {w : World} {A : Around} {E : Value → Shared → Prop} {hb : Heap} {s s₀ : Shared} {σ σ₀ : St}

theorem VRs.one {h : Heap} {σ : St} {vs : List Value} {x : V} (r : VRs h σ vs [x]) : ∃ v, vs = [v] ∧ VR h σ v x := by
  match vs, r with
  | [v], r => exact ⟨v, rfl, r.1⟩
theorem VRs.two {h : Heap} {σ : St} {vs : List Value} {x y : V} (r : VRs h σ vs [x, y]) : ∃ v u, vs = [v, u] ∧ VR h σ v x ∧ VR h σ u y := by
  match vs, r with
  | [v, u], r => exact ⟨v, u, rfl, r.1, r.2.1⟩

theorem biP_ok {n : Nat} (hr : Room n A) (g : Good hb s.heap σ) {f : BI} {vs : List V} {as : List Value} {K : PyData → Prop} (h : BiP f vs σ K) (ha : VRs s.heap σ as vs) (he : Ev hb s₀ σ₀ s σ) :
    wpAny (model prog w) A (call f.val as) (PostE hb s₀ σ₀ fun V σ' => ∃ r, V = .d r ∧ K r ∧ σ' = σ) E s := by
  have hh : A.handled = none := hr.1
  have fin : ∀ (i : Int) (t : Tok) (h' : Heap) (tk : Nat), (∀ b o, s.heap.get? b = some o → h'.get? b = some o) → K (.int i) →
      PostE hb s₀ σ₀ (fun V σ' => ∃ r, V = .d r ∧ K r ∧ σ' = σ) (.int i t) { s with heap := h', toks := tk } :=
    fun i t h' tk hk hK => .mk ⟨_, rfl, hK, rfl⟩ (RD.int _ _ _ _) (he.grow tk hk)
  unfold BiP at h
  split at h
  · obtain ⟨v, rfl, hv⟩ := ha.one
    obtain ⟨xs, h1, h2, hK⟩ := h
    obtain ⟨l, items, rfl, hl, hrs⟩ := lstOf_ok g h1 hv
    have hlen : items.size = xs.length := by have := hrs.length; simpa using this
    rw [← hlen] at h2 hK
    exact len_list hl (by omega) (fin _ _ s.heap _ (fun _ _ e => e) hK)
  · obtain ⟨v, rfl, hv⟩ := ha.one
    obtain ⟨t, rfl⟩ := RD.int_inv hv
    refine call_abs_int fun u tk => ?_
    rename_i a
    have e : (if a < 0 then -a else a) = (a.natAbs : Int) := by split <;> omega
    rw [e]
    exact fin _ _ s.heap _ (fun _ _ e => e) h
  · obtain ⟨v, u, rfl, hv, hu⟩ := ha.two
    obtain ⟨t, rfl⟩ := RD.int_inv hv
    obtain ⟨t', rfl⟩ := RD.int_inv hu
    refine min_two_ints hh fun h' tk hk => ?_
    rename_i a b
    by_cases hc : b < a
    · rw [if_pos hc] at h ⊢; exact fin _ _ h' tk hk h
    · rw [if_neg hc] at h ⊢; exact fin _ _ h' tk hk h
  · obtain ⟨v, rfl, hv⟩ := ha.one
    obtain ⟨xs, ns, h1, h2, h3, hK⟩ := h
    obtain ⟨l, items, rfl, hl, hrs⟩ := lstOf_ok g h1 hv
    have hi := intsAre_of h2 hrs
    obtain ⟨ys, e⟩ := (IntsAre.allInts hi).items
    have hns : ns = ys.toList.map (·.1) := by rw [← hi.numsOf, ← nums_intItems, ← e]
    have hsz : 0 < ys.size := by rw [hns, List.length_map, Array.length_toList] at h3; exact h3
    have hl' : s.heap.IsList l (intItems ys) := by rw [← e]; simpa using hl
    refine min_intList hh hl' hsz fun v h' tk hv hk => ?_
    obtain ⟨t, rfl⟩ := intItems_at hv
    obtain ⟨e1, e2⟩ := argBest_lt (numAt ys) (ys.size - 1)
    refine fin _ t h' tk hk (hK _ ?_ fun a ha => ?_)
    · rw [hns, numAt_eq]; exact getD_mem (by rw [List.length_map, Array.length_toList]; omega)
    · rw [hns] at ha
      obtain ⟨j, hj, rfl⟩ := mem_getD ha
      rw [List.length_map, Array.length_toList] at hj
      rw [← numAt_eq]; exact e2 j (by omega)
  · obtain ⟨v, rfl, hv⟩ := ha.one
    obtain ⟨xs, ns, h1, h2, h3, hK⟩ := h
    obtain ⟨l, items, rfl, hl, hrs⟩ := lstOf_ok g h1 hv
    have hi := intsAre_of h2 hrs
    obtain ⟨ys, e⟩ := (IntsAre.allInts hi).items
    have hns : ns = ys.toList.map (·.1) := by rw [← hi.numsOf, ← nums_intItems, ← e]
    have hsz : 0 < ys.size := by rw [hns, List.length_map, Array.length_toList] at h3; exact h3
    have hl' : s.heap.IsList l (intItems ys) := by rw [← e]; simpa using hl
    refine max_intList hh hl' hsz fun v h' tk hv hk => ?_
    obtain ⟨t, rfl⟩ := intItems_at hv
    obtain ⟨e1, e2⟩ := argBest_gt (numAt ys) (ys.size - 1)
    refine fin _ t h' tk hk (hK _ ?_ fun a ha => ?_)
    · rw [hns, numAt_eq]; exact getD_mem (by rw [List.length_map, Array.length_toList]; omega)
    · rw [hns] at ha
      obtain ⟨j, hj, rfl⟩ := mem_getD ha
      rw [List.length_map, Array.length_toList] at hj
      rw [← numAt_eq]; exact e2 j (by omega)
  · obtain ⟨v, rfl, hv⟩ := ha.one
    obtain ⟨xs, ns, h1, h2, hK⟩ := h
    obtain ⟨l, items, rfl, hl, hrs⟩ := lstOf_ok g h1 hv
    have hi := intsAre_of h2 hrs
    obtain ⟨ys, e⟩ := (IntsAre.allInts hi).items
    have hns : ns = ys.toList.map (·.1) := by rw [← hi.numsOf, ← nums_intItems, ← e]
    have hl' : s.heap.IsList l (intItems ys) := by rw [← e]; simpa using hl
    refine sum_intListG hh hl' fun h' tk t' hk => ?_
    have e3 : preSum (numAt ys) ys.size = ns.sum := by
      rw [preSum_eq, List.take_of_length_le (by simp), hns]
    rw [e3]
    exact fin _ t' h' tk hk hK
  · obtain ⟨v, rfl, hv⟩ := ha.one
    obtain ⟨t, rfl⟩ := RD.int_inv hv
    exact call_int_int (fin _ _ s.heap _ (fun _ _ e => e) h)
  · exact h.elim
end

-- M6
/-! what the checker says of the text -/
section
variable {sc : Scope} {nm : List Str}
theorem inv_cst {c} {pe : Expr} (h : okE sc nm (.cst c) pe = true) : ∃ k j p, pe = .Constant k j p ∧ okC c k = true := by
  cases pe <;> first | exact ⟨_, _, _, rfl, h⟩ | cases h
theorem inv_loc {i} {pe : Expr} (h : okE sc nm (.loc i) pe = true) : ∃ x p, pe = .Name x p ∧ okL sc nm i x = true := by
  cases pe <;> first | exact ⟨_, _, rfl, h⟩ | cases h
theorem inv_glb {i} {pe : Expr} (h : okE sc nm (.glb i) pe = true) : ∃ x p q, pe = .Name x p ∧ ctab[i]? = some q ∧ okG sc q.1 x = true := by
  cases pe <;> first | cases h | skip
  rename_i x p
  refine ⟨x, p, ?_⟩
  have h' : (match ctab[i]? with | some p => okG sc p.1 x | none => false) = true := h
  split at h'
  · exact ⟨_, rfl, by assumption, h'⟩
  · cases h'
theorem inv_bin {op a b} {pe : Expr} (h : okE sc nm (.bin op a b) pe = true) : ∃ l r p, pe = .BinOp l op r p ∧ okE sc nm a l = true ∧ okE sc nm b r = true := by
  cases pe <;> first | cases h | skip
  rename_i l o r p
  have h' : (op == o && okE sc nm a l && okE sc nm b r) = true := h
  simp only [Bool.and_eq_true, beq_iff_eq] at h'
  obtain ⟨⟨rfl, h1⟩, h2⟩ := h'
  exact ⟨l, r, p, rfl, h1, h2⟩
theorem inv_neg {a} {pe : Expr} (h : okE sc nm (.neg a) pe = true) : ∃ x p, pe = .UnaryOp .USub x p ∧ okE sc nm a x = true := by
  cases pe <;> first | cases h | skip
  rename_i o x p
  cases o <;> first | exact ⟨_, _, rfl, h⟩ | cases h
theorem inv_nt {a} {pe : Expr} (h : okE sc nm (.nt a) pe = true) : ∃ x p, pe = .UnaryOp .Not x p ∧ okE sc nm a x = true := by
  cases pe <;> first | cases h | skip
  rename_i o x p
  cases o <;> first | exact ⟨_, _, rfl, h⟩ | cases h
theorem inv_cmp {op a b} {pe : Expr} (h : okE sc nm (.cmp op a b) pe = true) : ∃ l r p, pe = .Compare l [op] [r] p ∧ behindInMarks op r = false ∧ okE sc nm a l = true ∧ okE sc nm b r = true := by
  cases pe <;> first | cases h | skip
  rename_i l os rs p
  match os, rs, h with
  | [o], [r], h =>
    have h' : (op == o && !behindInMarks o r && okE sc nm a l && okE sc nm b r) = true := h
    simp only [Bool.and_eq_true, beq_iff_eq, Bool.not_eq_true'] at h'
    obtain ⟨⟨⟨rfl, h0⟩, h1⟩, h2⟩ := h'
    exact ⟨l, r, p, rfl, h0, h1, h2⟩
  | [], _, h => cases h
  | [_], [], h => cases h
  | [_], _ :: _ :: _, h => cases h
  | _ :: _ :: _, _, h => cases h
theorem inv_bool {op es} {pe : Expr} (h : okE sc nm (.bool op es) pe = true) : ∃ vs p, pe = .BoolOp op vs p ∧ okEs sc nm es vs = true := by
  cases pe <;> first | cases h | skip
  rename_i o vs p
  have h' : (op == o && okEs sc nm es vs) = true := h
  simp only [Bool.and_eq_true, beq_iff_eq] at h'
  obtain ⟨rfl, h1⟩ := h'
  exact ⟨vs, p, rfl, h1⟩
theorem inv_ife {c a b} {pe : Expr} (h : okE sc nm (.ife c a b) pe = true) : ∃ t x y p, pe = .IfExp t x y p ∧ okE sc nm c t = true ∧ okE sc nm a x = true ∧ okE sc nm b y = true := by
  cases pe <;> first | cases h | skip
  rename_i t x y p
  have h' : (okE sc nm c t && okE sc nm a x && okE sc nm b y) = true := h
  simp only [Bool.and_eq_true] at h'
  exact ⟨t, x, y, p, rfl, h'.1.1, h'.1.2, h'.2⟩
theorem inv_call {f as} {pe : Expr} (h : okE sc nm (.call f as) pe = true) : ∃ x q e es p n, pe = .Call (.Name x q) (e :: es) [] p ∧ ftab[f]? = some n ∧ okG sc n x = true ∧ okEs sc nm as (e :: es) = true := by
  cases pe <;> first | cases h | skip
  rename_i fn args kw p
  match fn, args, kw, h with
  | .Name x q, e :: es, [], h =>
    have h' : ((match ftab[f]? with | some p => okG sc p x | none => false) && okEs sc nm as (e :: es)) = true := h
    simp only [Bool.and_eq_true] at h'
    obtain ⟨h1, h2⟩ := h'
    split at h1
    · exact ⟨x, q, e, es, p, _, rfl, by assumption, h1, h2⟩
    · cases h1
  | .Name _ _, [], _, h => cases h
  | .Name _ _, _ :: _, _ :: _, h => cases h
  | .BoolOp .., _, _, h => cases h
  | .NamedExpr .., _, _, h => cases h
  | .BinOp .., _, _, h => cases h
  | .UnaryOp .., _, _, h => cases h
  | .Lambda .., _, _, h => cases h
  | .IfExp .., _, _, h => cases h
  | .Dict .., _, _, h => cases h
  | .Set .., _, _, h => cases h
  | .ListComp .., _, _, h => cases h
  | .SetComp .., _, _, h => cases h
  | .DictComp .., _, _, h => cases h
  | .GeneratorExp .., _, _, h => cases h
  | .Await .., _, _, h => cases h
  | .Yield .., _, _, h => cases h
  | .YieldFrom .., _, _, h => cases h
  | .Compare .., _, _, h => cases h
  | .Call .., _, _, h => cases h
  | .FormattedValue .., _, _, h => cases h
  | .JoinedStr .., _, _, h => cases h
  | .Constant .., _, _, h => cases h
  | .Attribute .., _, _, h => cases h
  | .Subscript .., _, _, h => cases h
  | .Starred .., _, _, h => cases h
  | .List .., _, _, h => cases h
  | .Tuple .., _, _, h => cases h
  | .Slice .., _, _, h => cases h
theorem inv_bi {f as} {pe : Expr} (h : okE sc nm (.bi f as) pe = true) : ∃ x q e es p, pe = .Call (.Name x q) (e :: es) [] p ∧ okG sc f.name x = true ∧ okEs sc nm as (e :: es) = true := by
  cases pe <;> first | cases h | skip
  rename_i fn args kw p
  cases fn <;> first | cases h | skip
  rename_i x q
  cases args <;> first | cases h | skip
  rename_i e es
  cases kw <;> first | cases h | skip
  have h' : (okG sc f.name x && okEs sc nm as (e :: es)) = true := h
  simp only [Bool.and_eq_true] at h'
  exact ⟨x, q, e, es, p, rfl, h'.1, h'.2⟩
theorem inv_isint {a} {pe : Expr} (h : okE sc nm (.isint a) pe = true) : ∃ x q e y r p, pe = .Call (.Name x q) [e, .Name y r] [] p ∧ okG sc (Str.ofString "isinstance") x = true ∧ okG sc (Str.ofString "int") y = true ∧ okE sc nm a e = true := by
  cases pe <;> first | cases h | skip
  rename_i fn args kw p
  cases fn <;> first | cases h | skip
  rename_i x q
  match args, h with
  | [], h => cases h
  | [_], h => cases h
  | _ :: _ :: _ :: _, h => cases h
  | [e, t], h =>
    cases kw <;> first | cases h | skip
    have h' : (okG sc (Str.ofString "isinstance") x && (match nameOf t with | some y => okG sc (Str.ofString "int") y | none => false) && okE sc nm a e) = true := h
    simp only [Bool.and_eq_true] at h'
    obtain ⟨⟨h1, h2⟩, h3⟩ := h'
    split at h2
    · rename_i y hy
      obtain ⟨r, rfl⟩ := nameOf_inv hy
      exact ⟨x, q, e, y, r, p, rfl, h1, h2, h3⟩
    · cases h2
theorem inv_blen {a} {pe : Expr} (h : okE sc nm (.blen a) pe = true) : ∃ o ap p, pe = .Call (.Attribute o (Str.ofString "bit_length") ap) [] [] p ∧ (ap.endLine == p.line) = true ∧ notCall o = true ∧ okE sc nm a o = true := by
  cases pe <;> first | cases h | skip
  rename_i fn args kw p
  cases fn <;> first | cases h | skip
  rename_i o n ap
  cases args <;> first | cases h | skip
  cases kw <;> first | cases h | skip
  have h' : (n == Str.ofString "bit_length" && ap.endLine == p.line && notCall o && okE sc nm a o) = true := h
  simp only [Bool.and_eq_true] at h'
  obtain ⟨⟨⟨h1, h2⟩, h3⟩, h4⟩ := h'
  obtain rfl := eq_of_beq h1
  exact ⟨o, ap, p, rfl, h2, h3, h4⟩
theorem inv_sub {a i} {pe : Expr} (h : okE sc nm (.sub a i) pe = true) : ∃ v k p, pe = .Subscript v k p ∧ notSlice k = true ∧ okE sc nm a v = true ∧ okE sc nm i k = true := by
  cases pe <;> first | cases h | skip
  rename_i v k p
  have h' : (notSlice k && okE sc nm a v && okE sc nm i k) = true := h
  simp only [Bool.and_eq_true] at h'
  exact ⟨v, k, p, rfl, h'.1.1, h'.1.2, h'.2⟩
theorem inv_slto {a hi} {pe : Expr} (h : okE sc nm (.slto a hi) pe = true) : ∃ v k q r p, pe = .Subscript v (.Slice none (some (.Constant (.int (hi : Int)) k q)) none r) p ∧ okE sc nm a v = true := by
  cases pe <;> first | cases h | skip
  rename_i v sl p
  cases sl <;> first | cases h | skip
  rename_i l u st r
  cases l <;> first | cases h | skip
  cases u <;> first | cases h | skip
  rename_i e
  cases e <;> first | cases h | skip
  rename_i c k q
  cases c <;> first | cases h | skip
  cases st <;> first | cases h | skip
  rename_i j
  have h' : (j == (hi : Int) && okE sc nm a v) = true := h
  simp only [Bool.and_eq_true, beq_iff_eq] at h'
  obtain ⟨rfl, h1⟩ := h'
  exact ⟨v, k, q, r, p, rfl, h1⟩
theorem inv_slfrom {a lo} {pe : Expr} (h : okE sc nm (.slfrom a lo) pe = true) : ∃ v k q r p, pe = .Subscript v (.Slice (some (.Constant (.int (lo : Int)) k q)) none none r) p ∧ okE sc nm a v = true := by
  cases pe <;> first | cases h | skip
  rename_i v sl p
  cases sl <;> first | cases h | skip
  rename_i l u st r
  cases l <;> first | cases h | skip
  rename_i e
  cases e <;> first | cases h | skip
  rename_i c k q
  cases c <;> first | cases h | skip
  cases u <;> first | cases h | skip
  cases st <;> first | cases h | skip
  rename_i j
  have h' : (j == (lo : Int) && okE sc nm a v) = true := h
  simp only [Bool.and_eq_true, beq_iff_eq] at h'
  obtain ⟨rfl, h1⟩ := h'
  exact ⟨v, k, q, r, p, rfl, h1⟩
theorem inv_tab {a} {pe : Expr} (h : okE sc nm (.tab a) pe = true) : ∃ x q k p, pe = .Subscript (.Name x q) k p ∧ okG sc (Str.ofString "shifts_down") x = true ∧ notSlice k = true ∧ okE sc nm a k = true := by
  cases pe <;> first | cases h | skip
  rename_i v k p
  cases v <;> first | cases h | skip
  rename_i x q
  have h' : (okG sc (Str.ofString "shifts_down") x && notSlice k && okE sc nm a k) = true := h
  simp only [Bool.and_eq_true] at h'
  exact ⟨x, q, k, p, rfl, h'.1.1, h'.1.2, h'.2⟩
theorem inv_tup {es} {pe : Expr} (h : okE sc nm (.tup es) pe = true) : ∃ vs k p, pe = .Tuple vs k p ∧ okEs sc nm es vs = true := by
  cases pe <;> first | exact ⟨_, _, _, rfl, h⟩ | cases h
theorem inv_lst {es} {pe : Expr} (h : okE sc nm (.lst es) pe = true) : ∃ vs p, pe = .List vs p ∧ okEs sc nm es vs = true := by
  cases pe <;> first | exact ⟨_, _, rfl, h⟩ | cases h
theorem inv_comp1 {elt it} {pe : Expr} (h : okE sc nm (.comp1 elt it) pe = true) : ∃ e x q pi sc' p, pe = .ListComp e [⟨.Name x q, pi, [], 0⟩] sc' p ∧ compScope sc' = true ∧ okE sc' [x] elt e = true ∧
    sc'.names.lookup x = some .local ∧ okE sc nm it pi = true := by
  cases pe <;> first | cases h | skip
  rename_i e gs sc' p
  have h' : (match compGen1 gs with
    | some (x, pi) => compScope sc' && okE sc' [x] elt e && sc'.names.lookup x == some .local && okE sc nm it pi
    | none => false) = true := h
  split at h'
  · rename_i x pi hg
    obtain ⟨q, rfl⟩ := compGen1_inv hg
    simp only [Bool.and_eq_true, beq_iff_eq] at h'
    exact ⟨e, x, q, pi, sc', p, rfl, h'.1.1.1, h'.1.1.2, h'.1.2, h'.2⟩
  · cases h'
theorem inv_comp2 {elt it} {pe : Expr} (h : okE sc nm (.comp2 elt it) pe = true) : ∃ e x y q r k t pi sc' p, pe = .ListComp e [⟨.Tuple [.Name x q, .Name y r] k t, pi, [], 0⟩] sc' p ∧ compScope sc' = true ∧ okE sc' [x, y] elt e = true ∧
    sc'.names.lookup x = some .local ∧ sc'.names.lookup y = some .local ∧ x ≠ y ∧ okE sc nm it pi = true := by
  cases pe <;> first | cases h | skip
  rename_i e gs sc' p
  have h' : (match compGen2 gs with
    | some (x, y, pi) => compScope sc' && okE sc' [x, y] elt e && sc'.names.lookup x == some .local && sc'.names.lookup y == some .local && !(x == y) && okE sc nm it pi
    | none => false) = true := h
  split at h'
  · rename_i x y pi hg
    obtain ⟨q, r, k, t, rfl⟩ := compGen2_inv hg
    simp only [Bool.and_eq_true, beq_iff_eq, Bool.not_eq_true', beq_eq_false_iff_ne] at h'
    exact ⟨e, x, y, q, r, k, t, pi, sc', p, rfl, h'.1.1.1.1.1, h'.1.1.1.1.2, h'.1.1.1.2, h'.1.1.2, h'.1.2, h'.2⟩
  · cases h'
end

-- M7
theorem okL_of {sc : Scope} {nm : List Str} {i : Nat} {x : Str} (h : okL sc nm i x = true) : nm[i]? = some x ∧ sc.names.lookup x = some .local ∧ (x == ("__debug__" : Str)) = false := by
  unfold okL at h
  simp only [Bool.and_eq_true, beq_iff_eq, Bool.not_eq_true'] at h
  exact ⟨h.1.1, h.1.2, h.2⟩
theorem okG_of {sc : Scope} {x y : Str} (h : okG sc x y = true) : y = x ∧ sc.names.lookup y = some .globalImplicit ∧ (y == ("__debug__" : Str)) = false := by
  unfold okG at h
  simp only [Bool.and_eq_true, beq_iff_eq, Bool.not_eq_true'] at h
  exact ⟨h.1.1.symm, h.1.2, h.2⟩

theorem star_of_ok {sc : Scope} {nm : List Str} {e : Ex} {x : Expr} {xs : List Expr} {env : Env} (h : okE sc nm e x = true) : starEach (x :: xs) env = (false, eval x env) :: starEach xs env := by
  cases x <;> first | rfl | (cases e <;> cases h)
theorem noStar_of_ok {sc : Scope} {nm : List Str} {env : Env} {pos : Pos} : ∀ {es : Exs} {xs : List Expr}, okEs sc nm es xs = true → (backTo pos (starEach xs env)).any (·.1) = false
  | .nil, [], _ => rfl
  | .nil, _ :: _, h => by cases h
  | .cons _ _, [], h => by cases h
  | .cons e es, x :: xs, h => by
    have h' : (okE sc nm e x && okEs sc nm es xs) = true := h
    simp only [Bool.and_eq_true] at h'
    rw [star_of_ok h'.1]
    show (false || (backTo pos (starEach xs env)).any (·.1)) = false
    rw [noStar_of_ok h'.2]; rfl

section
variable {prog : Program} {w : World} {hb : Heap} {mg mb : Str → Option Value} {fa : Nat → Addr} {n : Nat} (B : Bs hb mg mb fa)
include B
variable {sc : Scope} {nm : List Str} {pe : Expr} {ρ : List (Option V)} {σ : St} {s : Shared} {A : Around} {env : Env} {L : Addr} {E : Value → Shared → Prop}

theorem name_glob {x : Str} {p : Pos} {v : Value} {Q : Value → Shared → Prop} (he : EnvOK env sc L) (g : Good hb s.heap σ) (hx : sc.names.lookup x = some .globalImplicit) (hd : (x == ("__debug__" : Str)) = false)
    (hv : mg x = some v) (hq : Q v s) : wpAny (model prog w) A (eval (.Name x p) env) Q E s := by
  refine Calls.Name_function_global (by rw [he.scp]; exact he.kind) (by show env.scope.names.lookup x = _; rw [he.scp]; exact hx) ?_ hd
  exact Calls.loadGlobal_global (by rw [he.glo]; exact B.g.keeps g.keep) hv hq
theorem name_built {x : Str} {p : Pos} {v : Value} {Q : Value → Shared → Prop} (he : EnvOK env sc L) (g : Good hb s.heap σ) (hx : sc.names.lookup x = some .globalImplicit) (hd : (x == ("__debug__" : Str)) = false)
    (hv : mg x = none ∧ mb x = some v) (hq : Q v s) : wpAny (model prog w) A (eval (.Name x p) env) Q E s := by
  refine Calls.Name_function_global (by rw [he.scp]; exact he.kind) (by show env.scope.names.lookup x = _; rw [he.scp]; exact hx) ?_ hd
  exact Calls.loadGlobal_builtin (by rw [he.glo]; exact B.g.keeps g.keep) hv.1 (by rw [he.bui]; exact B.b.keeps g.keep) hv.2 hq
theorem name_loc {x : Str} {p : Pos} {i : Nat} {v : V} {Q : Value → Shared → Prop} (he : EnvOK env sc L) (h : RhoOK s.heap σ L nm ρ) (hi : nm[i]? = some x) (hx : sc.names.lookup x = some .local) (hd : (x == ("__debug__" : Str)) = false)
    (hv : rg ρ i = some v) (hq : ∀ a, VR s.heap σ a v → Q a s) : wpAny (model prog w) A (loadName env x) Q E s := by
  obtain ⟨m, hn, hm⟩ := h
  obtain ⟨y, a, h1, h2, h3⟩ := hm i v hv
  rw [hi] at h1; cases h1
  exact wpAny_loadName_local (by rw [he.scp]; exact he.kind) (by show env.scope.names.lookup x = _; rw [he.scp]; exact hx) (by rw [he.loc]; exact hn) h2 (hq a h3)

def SndE (prog : Program) (w : World) (hb : Heap) (fa : Nat → Addr) (n : Nat) (e : Ex) : Prop :=
  ∀ {sc : Scope} {nm : List Str} {pe : Expr} {ρ : List (Option V)} {σ : St} {s : Shared} {A : Around} {env : Env} {L : Addr} {E : Value → Shared → Prop} {Q : V → St → Prop},
    okE sc nm e pe = true → EnvOK env sc L → Room n A → Good hb s.heap σ → RhoOK s.heap σ L nm ρ → wpE (CallOK prog w hb fa n) ρ e σ Q → wpAny (model prog w) A (eval pe env) (PostE hb s σ Q) E s
def SndEs (prog : Program) (w : World) (hb : Heap) (fa : Nat → Addr) (n : Nat) (e : Exs) : Prop :=
  ∀ {sc : Scope} {nm : List Str} {pe : List Expr} {ρ : List (Option V)} {σ : St} {s : Shared} {A : Around} {env : Env} {L : Addr} {E : Value → Shared → Prop} {Q : List V → St → Prop} {pos : Pos},
    okEs sc nm e pe = true → EnvOK env sc L → Room n A → Good hb s.heap σ → RhoOK s.heap σ L nm ρ → wpEs (CallOK prog w hb fa n) ρ e σ Q → wpAny (model prog w) A (spliced (backTo pos (starEach pe env))) (PostEs hb s σ Q) E s
def SndB (prog : Program) (w : World) (hb : Heap) (fa : Nat → Addr) (n : Nat) (e : Exs) : Prop :=
  ∀ {sc : Scope} {nm : List Str} {pe : List Expr} {ρ : List (Option V)} {σ : St} {s : Shared} {A : Around} {env : Env} {L : Addr} {E : Value → Shared → Prop} {Q : V → St → Prop} {pos : Pos} {op : BoolOp},
    okEs sc nm e pe = true → EnvOK env sc L → Room n A → Good hb s.heap σ → RhoOK s.heap σ L nm ρ → wpB (CallOK prog w hb fa n) ρ op e σ Q → wpAny (model prog w) A (boolOp pos op (evalEach pe env)) (PostE hb s σ Q) E s
/-- a test of the text -/
def SndT (prog : Program) (w : World) (hb : Heap) (fa : Nat → Addr) (n : Nat) (e : Ex) : Prop :=
  ∀ {sc : Scope} {nm : List Str} {pe : Expr} {ρ : List (Option V)} {σ : St} {s : Shared} {A : Around} {env : Env} {L : Addr} {E : Value → Shared → Prop} {K : Bool → St → Prop} {Q : V → St → Prop},
    okE sc nm e pe = true → EnvOK env sc L → Room n A → Good hb s.heap σ → RhoOK s.heap σ L nm ρ → wpE (CallOK prog w hb fa n) ρ e σ Q → (∀ v σ₁, Q v σ₁ → TruthP v fun b => K b σ₁) →
      wpAny (model prog w) A (isTrue pe env (eval pe env)) (fun b s' => ∃ σ', K b σ' ∧ Ev hb s σ s' σ') E s

theorem okC_RD {c : PyData} {k : Const} {j : Nat} {p : Pos} {Q : V → St → Prop} (h : okC c k = true) (g : Good hb s.heap σ) (hq : Q (.d c) σ) : wpAny (model prog w) A (eval (.Constant k j p) env) (PostE hb s σ Q) E s := by
  cases c <;> cases k <;> first | cases h | skip
  · exact wpAny_Constant_none (.mk hq (RD.none _ _) (.refl g))
  · obtain rfl := eq_of_beq (show (_ == _) = true from h)
    exact wpAny_Constant_bool (.mk hq (RD.bool _ _ _) (.refl g))
  · obtain rfl := eq_of_beq (show (_ == _) = true from h)
    exact wpAny_Constant_int (.mk hq (RD.int _ _ _ _) ((Ev.refl g).toks _))
  · obtain rfl := eq_of_beq (show (_ == _) = true from h)
    exact wpAny_Constant_str (.mk hq (RD.str _ _ _ _) ((Ev.refl g).toks _))

theorem Room.in1 {A : Around} (h : Room (n + 1) A) : Room n A := ⟨h.1, by have := h.2.1; omega, by have := h.2.2; omega⟩

/-- a new tuple of data -/
theorem newTuple_ok {vs : List Value} {xs : List PyData} {Q : V → St → Prop} {s₀ : Shared} {σ₀ : St} (he : Ev hb s₀ σ₀ s σ) (r : RDs s.heap σ vs xs) (hl : xs.length < 1000) (hq : Q (.d (.tuple xs)) σ) :
    wpAny (model prog w) A (newTuple vs) (PostE hb s₀ σ₀ Q) E s := by
  have hlen := r.length
  refine wpAny_newObj_type ?_ (by show vs.toArray.size ≤ sizeLine; rw [List.size_toArray, hlen]; unfold sizeLine; omega)
  have hk : ∀ a o, s.heap.get? a = some o → (s.heap.push { cls := .type "tuple", data := .seq vs.toArray }).get? a = some o := fun a o e => Heap.get?_push_of_some _ e
  refine .mk hq ?_ (he.grow s.toks hk)
  exact RD.tuple (Heap.get?_push_size _ rfl) rfl rfl (by simpa using r.step (Kp.grow (X := NoX) hk).toKr (.no _) he.good.rep.listAt)

/-- a new list that may be written -/
theorem Ev.alloc {s₀ : Shared} {σ₀ : St} (he : Ev hb s₀ σ₀ s σ) {vs : List Value} {xs : List PyData} (r : RDs s.heap σ vs xs) :
    Ev hb s₀ σ₀ { s with heap := s.heap.push { cls := .type "list", data := .seq vs.toArray } } (upd σ s.heap.objs.size xs) := by
  have hk : ∀ a o, s.heap.get? a = some o → (s.heap.push { cls := .type "list", data := .seq vs.toArray }).get? a = some o := fun a o e => Heap.get?_push_of_some _ e
  have hne : ∀ a o, s.heap.get? a = some o → a ≠ s.heap.objs.size := fun a o e => Nat.ne_of_lt (Heap.lt_size e)
  have kp : Kp NoX s.heap σ (s.heap.push { cls := .type "list", data := .seq vs.toArray }) (upd σ s.heap.objs.size xs) :=
    ⟨⟨fun a o e _ _ => hk a o e, fun a o e h => by rw [upd_ne _ (hne a o e)]; exact h⟩, fun a o e => ⟨o, hk a o e⟩⟩
  refine he.trans ⟨⟨_, s.toks, rfl⟩, ⟨fun a o e => hk a o (he.good.keep a o e), fun a o e => ?_, fun a ys e => ?_⟩, kp⟩
  · rw [upd_ne _ (hne a o (he.good.keep a o e))]; exact he.good.fix a o e
  · by_cases ha : a = s.heap.objs.size
    · subst ha
      rw [upd_self] at e; cases e
      exact ⟨vs.toArray, ⟨_, Heap.get?_push_size _ rfl, rfl, _, rfl⟩, by simpa using r.step kp.toKr (.no _) he.good.rep.listAt, fun o ho => by rw [Heap.get?_push_size _ rfl] at ho; cases ho; rfl⟩
    · rw [upd_ne _ ha] at e
      obtain ⟨items, ⟨o, ho, hi⟩, hr, hd⟩ := he.good.rep a ys e
      exact ⟨items, ⟨o, hk a o ho, hi⟩, hr.step kp.toKr (.no _) he.good.rep.listAt, hd.to ho (hk a o ho)⟩

theorem newList_ok {vs : List Value} {xs : List PyData} {Q : V → St → Prop} {s₀ : Shared} {σ₀ : St} (he : Ev hb s₀ σ₀ s σ) (r : RDs s.heap σ vs xs) (hl : xs.length < 1000)
    (hq : ∀ a, σ a = none → Q (.ref a) (upd σ a xs)) :
    wpAny (model prog w) A (newList vs) (PostE hb s₀ σ₀ Q) E s := by
  have hlen := r.length
  refine wpAny_newObj_type ?_ (by show vs.toArray.size ≤ sizeLine; rw [List.size_toArray, hlen]; unfold sizeLine; omega)
  have hnone : σ s.heap.objs.size = none := by
    cases e : σ s.heap.objs.size with
    | none => rfl
    | some ys =>
      obtain ⟨items, ⟨o, ho, _⟩, _⟩ := he.good.rep _ _ e
      exact absurd (Heap.lt_size ho) (Nat.lt_irrefl _)
  exact .mk (hq _ hnone) rfl (Ev.alloc B he r)

/-- a frozen list out of the pieces of another -/
theorem RD.newList {h : Heap} {o : Obj} {items : Array Value} {xs : List PyData} (hl : ListAt h σ) (rep : Rep h σ) (r : RDs h σ items.toList xs) :
    RD (h.push { cls := .type "list", data := .seq items }) σ (.ref h.objs.size) (.list xs) := by
  have hk : ∀ a o, h.get? a = some o → (h.push { cls := .type "list", data := .seq items }).get? a = some o := fun a o e => Heap.get?_push_of_some _ e
  have hnone : σ h.objs.size = Option.none := by
    cases e : σ h.objs.size with
    | none => rfl
    | some ys =>
      obtain ⟨_, ⟨o, ho, _⟩, _⟩ := rep _ _ e
      exact absurd (Heap.lt_size ho) (Nat.lt_irrefl _)
  exact RD.list ⟨_, Heap.get?_push_size _ rfl, rfl, _, rfl⟩ hnone (r.step (Kp.grow (X := NoX) hk).toKr (.no _) hl)

theorem tab_ok {x : Str} {t : PyData} (h : tabOf x = some t) {a : Addr} (T : KTD.TextTab hb a Dsh) (g : Good hb s.heap σ) {s₀ : Shared} {σ₀ : St} (he : Ev hb s₀ σ₀ s σ) {y : Str} {q : Pos} {slice : Expr} {u : Tok} (hn : notSlice slice = true)
    {Q : V → St → Prop} (hq : Q (.d t) σ) :
    wpAny (model prog w) A (subscriptTail (.Name y q) slice (.ref a) (.str x u)) (PostE hb s₀ σ₀ Q) E s := by
  have fin : ∀ (ds : List PyData) (hf : ∀ vs : List Value, KTD.Flats vs ds → RDs s.heap σ vs ds) (e : t = .tuple ds), KTD.Opened hb (fun v => PostE hb s₀ σ₀ Q v { s with toks := s.toks + 1 }) (.tup ds) := by
    intro ds hf e b vs hT hfl
    obtain ⟨o, h1, h2, k, h3⟩ := hT
    exact .mk hq (by rw [e]; exact RD.tuple (g.keep _ _ h1) h2 h3 (by simpa using hf vs hfl)) (he.toks _)
  have two : ∀ (i j : Int) (vs : List Value), KTD.Flats vs [.int i, .int j] → RDs s.heap σ vs [.int i, .int j] := by
    intro i j vs hv
    cases hv with
    | cons h1 h2 => cases h2 with
      | cons h3 h4 =>
        cases h4
        exact .cons ⟨[], h1 _, .nil _ _⟩ (.cons ⟨[], h3 _, .nil _ _⟩ (.nil _ _))
  refine KTD.item_text (h₀ := hb) (D := Dsh) ⟨T, g.keep⟩ ?_ ?_ (subscripted_ns hn _ _)
  · unfold tabOf at h
    (repeat' split at h) <;> first | (cases h; done) | (subst_vars; decide +kernel)
  · unfold tabOf at h
    by_cases h1 : x = Str.ofString "f"
    · rw [if_pos h1] at h; cases h
      exact KTD.eachL_hit h1 (fin _ (two _ _) rfl)
    rw [if_neg h1] at h
    refine KTD.eachL_miss h1 ?_
    by_cases h2 : x = Str.ofString "c"
    · rw [if_pos h2] at h; cases h
      exact KTD.eachL_hit h2 (fin _ (two _ _) rfl)
    rw [if_neg h2] at h
    refine KTD.eachL_miss h2 ?_
    by_cases h3 : x = Str.ofString "d"
    · rw [if_pos h3] at h; cases h
      exact KTD.eachL_hit h3 (fin _ (two _ _) rfl)
    rw [if_neg h3] at h
    refine KTD.eachL_miss h3 ?_
    by_cases h4 : x = Str.ofString "u"
    · rw [if_pos h4] at h; cases h
      exact KTD.eachL_last fun _ => fin _ (two _ _) rfl
    · rw [if_neg h4] at h; cases h
end

-- M8
/-- a list's object changed in place: its new items are read in the old heap -/
theorem Ev.put {hb : Heap} {s : Shared} {σ : St} (g : Good hb s.heap σ) {l : Addr} {xs xs' : List PyData} (hl : σ l = some xs) {items' : Array Value} {h' : Heap} (hi : h'.IsList l items') (hnd : NoDict h' l) (hs : Heap.SameBut l s.heap h')
    (r : RDs s.heap σ items'.toList xs') (tk : Nat) : Ev hb s σ { s with heap := h', toks := tk } (upd σ l xs') := by
  have ne : ∀ a, σ a = none → a ≠ l := by rintro a e rfl; rw [hl] at e; cases e
  have kp : Kp NoX s.heap σ h' (upd σ l xs') := by
    refine ⟨⟨fun a o e _ h => (hs.2 a (ne a h)).trans e, fun a o e h => by rw [upd_ne _ (ne a h)]; exact h⟩, fun a o e => ?_⟩
    by_cases ha : a = l
    · subst ha; obtain ⟨o', ho, _⟩ := hi; exact ⟨o', ho⟩
    · exact ⟨o, (hs.2 a ha).trans e⟩
  refine ⟨⟨h', tk, rfl⟩, ⟨fun a o e => (hs.2 a (ne a (g.fix a o e))).trans (g.keep a o e), fun a o e => by rw [upd_ne _ (ne a (g.fix a o e))]; exact g.fix a o e, fun a ys e => ?_⟩, kp⟩
  by_cases ha : a = l
  · subst ha
    rw [upd_self] at e; cases e
    exact ⟨items', hi, r.step kp.toKr (.no _) g.rep.listAt, hnd⟩
  · rw [upd_ne _ ha] at e
    obtain ⟨items, ⟨o, ho, hr⟩, hr', hd⟩ := g.rep a ys e
    exact ⟨items, ⟨o, (hs.2 a ha).trans ho, hr⟩, hr'.step kp.toKr (.no _) g.rep.listAt, hd.to ho ((hs.2 a ha).trans ho)⟩

section
variable {prog : Program} {w : World} {hb : Heap} {σ : St} {s : Shared} {A : Around} {E : Value → Shared → Prop}
theorem plainL_nd {h : Heap} {l : Addr} {items : Array Value} (x : PlainL h l items) : NoDict h l := fun o ho => by
  obtain ⟨o', n, h1, _, h2, _⟩ := x
  rw [ho] at h1; cases h1; exact h2
theorem plainL_of {h : Heap} {l : Addr} {items : Array Value} (hi : h.IsList l items) (hd : NoDict h l) : PlainL h l items := by
  obtain ⟨o, ho, hc, n, hdt⟩ := hi
  exact ⟨o, n, ho, hc, hd o ho, hdt⟩

theorem append_ok (g : Good hb s.heap σ) {l : Addr} {xs : List PyData} {v : Value} {x : PyData} (hl : σ l = some xs) (hv : RD s.heap σ v x) (hn : xs.length < 1000000) :
    wpAny (model prog w) A (call (.builtin "list.append") [.ref l, v]) (fun r s' => r = .none ∧ Ev hb s σ s' (upd σ l (xs ++ [x]))) E s := by
  obtain ⟨items, hi, hr, hd⟩ := g.rep l xs hl
  have hlen := hr.length
  have hlen' : items.size = xs.length := by simpa using hlen
  refine list_append_plainL (plainL_of hi hd) (fun h' hi' hs' => ⟨rfl, ?_⟩) (by unfold sizeLine; omega)
  refine Ev.put g hl hi'.isList (plainL_nd hi') hs' ?_ s.toks
  simpa using hr.append (.cons hv (.nil _ _))

theorem setItem_plain {l : Addr} {items : Array Value} {k : Int} {t : Tok} {v : Value} {Q : Unit → Shared → Prop} (hl : PlainL s.heap l items)
    (h0 : 0 ≤ k) (hfit : k < 2 ^ 63) (hn : k < items.size)
    (hQ : ∀ h', PlainL h' l (items.setIfInBounds k.toNat v) → Heap.SameBut l s.heap h' → Q () { s with heap := h' }) :
    wpAny (model prog w) A (setItem (.ref l) (.int k t) v) Q E s := by
  obtain ⟨o, n, ho, hc, hdn, hd⟩ := id hl
  have hj : k.toNat < items.size := by omega
  obtain ⟨n', hd'⟩ := Obj.data_mapSeq hd (·.setIfInBounds k.toNat v)
  have last : Q () { s with heap := s.heap.update l (Obj.mapSeq (·.setIfInBounds k.toNat v)) } := by
    refine hQ _ ⟨_, n', Heap.get?_update_self _ ho (Obj.isFreed_of_seq hd'), (Obj.cls_mapSeq ..).trans hc, ?_, hd'⟩ (Heap.SameBut.update ..)
    obtain ⟨c, d, dt, sl⟩ := o
    subst hd
    exact hdn
  unfold setItem
  try with_reducible refine wpAny_holding ?_
  first | refine wpAny_bind (wpAny_pure ?_) | skip
  refine wpAny_bind (wpAny_sequenceKey hl.isList.typeIs (by decide) ?_)
  have ht := hl.isList.typeIs
  refine wpAny_bind (wpAny_callSpecial?_slot (name := Str.ofString "__setitem__") ht slot_list_setitem
    (wpAny_call_entry slot_list_setitem ht entry_list_setitem ?_ (args_list_setitem _ _ _)))
  show wpAny _ _ (Builtin.List.listSubscript? (.int k t) >>= _) _ _ s
  refine wpAny_bind (wpAny_listSubscript_int (fitsIndex_of h0 hfit) ?_)
  have hk : k = (k.toNat : Int) := (Int.toNat_of_nonneg h0).symm
  generalize k.toNat = j at *
  subst hk
  show wpAny _ _ ((seqItemAt l j >>= fun r => pure (r.map (j, ·))) >>= _) _ _ s
  refine wpAny_bind (wpAny_bind (wpAny_seqItemAt ho hd (wpAny_pure ?_)))
  rw [Array.getElem?_eq_getElem hj]
  show wpAny _ _ (setSeqItemAt l j v >>= _) _ _ s
  refine wpAny_bind (wpAny_setSeqItemAt ho hd ?_)
  first
    | exact wpAny_bind (wpAny_pure (wpAny_pure ⟨.none, rfl, wpAny_pure last⟩))
    | exact wpAny_pure ⟨.none, rfl, wpAny_pure last⟩

theorem setitem_ok (g : Good hb s.heap σ) {l : Addr} {xs : List PyData} {v : Value} {x : PyData} {k : Int} {t : Tok} (hl : σ l = some xs) (hv : RD s.heap σ v x) (h0 : 0 ≤ k) (h1 : k < xs.length) (hn : xs.length < 1000000) :
    wpAny (model prog w) A (setItem (.ref l) (.int k t) v) (fun _ s' => Ev hb s σ s' (upd σ l (xs.set k.toNat x))) E s := by
  obtain ⟨items, hi, hr, hd⟩ := g.rep l xs hl
  have hlen : items.size = xs.length := by simpa using hr.length
  refine setItem_plain (plainL_of hi hd) h0 (by omega) (by omega) (fun h' hi' hs' => ?_)
  refine Ev.put g hl hi'.isList (plainL_nd hi') hs' ?_ s.toks
  simpa using hr.set k.toNat hv

/-- an object that is no list of σ's (a frame, an iterator) changes -/
theorem Good.ext {h h' : Heap} {b : Addr} (g : Good hb h σ) (hs : Heap.ExtBut b h h') (hX : NotSeq (AtX b) h) (hlive : ∃ o, h.get? b = some o) (hnb : hb.get? b = none) : Good hb h' σ ∧ Kr (AtX b) h σ h' σ ∧ σ b = none := by
  have hσ : σ b = none := by
    cases e : σ b with
    | none => rfl
    | some ys =>
      exfalso
      obtain ⟨items, ⟨o, ho, _, n, hd⟩, _⟩ := g.rep b ys e
      exact hX b rfl o ho _ _ hd
  have kr : Kr (AtX b) h σ h' σ := ⟨fun a o e hx _ => hs a o hx e, fun a o e h => h⟩
  refine ⟨⟨fun a o e => hs a o (by rintro rfl; rw [hnb] at e; cases e) (g.keep a o e), g.fix, fun a ys e => ?_⟩, kr, hσ⟩
  obtain ⟨items, ⟨o, ho, hr⟩, hr', hd⟩ := g.rep a ys e
  have ho' := hs a o (by rintro rfl; rw [hσ] at e; cases e) ho
  exact ⟨items, ⟨o, ho', hr⟩, hr'.step kr hX g.rep.listAt, hd.to ho ho'⟩

/-- what changed lay not in the first heap -/
theorem Kp.then_ext {h₀ h₁ h₂ : Heap} {σ₀ σ₁ : St} {b : Addr} (k : Kp NoX h₀ σ₀ h₁ σ₁) (hs : Heap.ExtBut b h₁ h₂) (hn : h₀.get? b = none) : Kp NoX h₀ σ₀ h₂ σ₁ where
  keep := fun a o e hx h => hs a o (by rintro rfl; rw [hn] at e; cases e) (k.keep a o e hx h)
  stay := k.stay
  live := fun a o e => let ⟨o', e'⟩ := k.live a o e; ⟨o', hs a o' (by rintro rfl; rw [hn] at e; cases e) e'⟩
theorem Kp.then_at {h₀ h₁ h₂ : Heap} {σ₀ σ₁ σ₂ : St} {b : Addr} (k : Kp NoX h₀ σ₀ h₁ σ₁) (k' : Kp (AtX b) h₁ σ₁ h₂ σ₂) (hn : h₀.get? b = none) : Kp NoX h₀ σ₀ h₂ σ₂ where
  keep := fun a o e hx h => k'.keep a o (k.keep a o e hx h) (by rintro rfl; rw [hn] at e; cases e) (k.stay a o e h)
  stay := fun a o e h => let ⟨o', e'⟩ := k.live a o e; k'.stay a o' e' (k.stay a o e h)
  live := fun a o e => let ⟨o', e'⟩ := k.live a o e; k'.live a o' e'

end

theorem compScope_of {sc : Scope} (h : compScope sc = true) : sc.kind = .function ∧ (∀ x ∈ sc.names, x.2 ≠ .free) ∧ (∀ x ∈ sc.names, x.2 ≠ .cell) ∧ (∀ x ∈ sc.names, x.2 = .local → sc.names.lookup x.1 = some .local) := by
  unfold compScope at h
  simp only [Bool.and_eq_true, beq_iff_eq, List.all_eq_true, bne_iff_ne, ne_eq, Bool.or_eq_true] at h
  refine ⟨h.1, fun x hx => (h.2 x hx).1.1, fun x hx => (h.2 x hx).1.2, fun x hx e => ?_⟩
  rcases (h.2 x hx).2 with h3 | h3
  · exact absurd e h3
  · exact h3

-- M9
section
variable {prog : Program} {w : World} {hb : Heap} {A : Around} {E : Value → Shared → Prop}

/-- one element of a comprehension: the target is bound in the frame C, the element reckoned -/
def CompTurn (prog : Program) (w : World) (hb : Heap) (A : Around) (target elt : Expr) (cenv : Env) (xs : List PyData) (F : PyData → PyData) : Prop :=
  ∀ (x : PyData) (s : Shared) (σ : St) (v : Value) (m : Str → Option Value) (I l : Addr) (i : Nat) (E' : Value → Shared → Prop), x ∈ xs → Good hb s.heap σ → RD s.heap σ v x → s.heap.Ns cenv.locals m → hb.get? cenv.locals = none →
    s.heap.IsListIter I l i →
    wpAny (model prog w) A (letOwnedTupleGo target (.ref I) v) (fun _ s₁ => wpAny (model prog w) A (assign target cenv v) (fun _ s₂ => wpAny (model prog w) A (eval elt cenv) (fun y s₃ =>
      RD s₃.heap σ y (F x) ∧ Good hb s₃.heap σ ∧ Kp (AtX cenv.locals) s.heap σ s₃.heap σ ∧ (∃ h' tk, s₃ = { s with heap := h', toks := tk }) ∧ ∃ m', s₃.heap.Ns cenv.locals m') E' s₂) E' s₁) E' s

theorem lstOf_d (σ σ' : St) (x : PyData) : lstOf σ (.d x) = lstOf σ' (.d x) := by cases x <;> rfl

theorem NotSeq.iter {h : Heap} {I l : Addr} {i : Nat} (hi : h.IsListIter I l i) : NotSeq (AtX I) h := by
  rintro a rfl o ho vs n hd
  obtain ⟨o', ho', _, hd'⟩ := hi
  rw [ho] at ho'; cases ho'
  rw [hd] at hd'; cases hd'

theorem comp_loop {target elt iter : Expr} {scope : Scope} {pos : Pos} {cenv : Env} {xs : List PyData} {F : PyData → PyData} {s₁ : Shared} {σ₁ : St} {V : V} {I l D : Addr} {R : Result → Shared → Prop}
    (hh : A.handled = none) (g₁ : Good hb s₁.heap σ₁) (hV : VR s₁.heap σ₁ (.ref l) V) (hxs : lstOf σ₁ V = some xs) (hsz : xs.length < 1000000)
    (nI : s₁.heap.get? I = none) (nD : s₁.heap.get? D = none) (nC : s₁.heap.get? cenv.locals = none) (hIC : I ≠ cenv.locals) (hDI : D ≠ I) (hDC : D ≠ cenv.locals)
    (T : CompTurn prog w hb A target elt cenv xs F)
    (hR : ∀ s' m, s'.heap.Ns cenv.locals m → (∀ h'', Heap.SameBut cenv.locals s'.heap h'' → RD h'' σ₁ (.ref D) (.list (xs.map F)) ∧ Ev hb s₁ σ₁ { s' with heap := h'' } σ₁) → R (.ok .next) s')
    {s : Shared} (he : Ev hb s₁ σ₁ s (upd σ₁ D [])) (hit : s.heap.IsListIter I l 0) (hn : ∃ m, s.heap.Ns cenv.locals m) :
    codeAny (model prog w) A (.compLoop (.ListComp elt [⟨target, iter, [], 0⟩] scope pos) 0 (.ref I) (.ref D) cenv) R s := by
  have bI : hb.get? I = none := by
    cases e : hb.get? I with
    | none => rfl
    | some o => rw [g₁.keep I o e] at nI; cases nI
  have bC : hb.get? cenv.locals = none := by
    cases e : hb.get? cenv.locals with
    | none => rfl
    | some o => rw [g₁.keep _ o e] at nC; cases nC
  refine kcp_loop (fun k s' => ∃ i m', i ≤ xs.length ∧ k = xs.length + 1 - i ∧ s'.heap.IsListIter I l i ∧ s'.heap.Ns cenv.locals m' ∧ Ev hb s₁ σ₁ s' (upd σ₁ D ((xs.take i).map F))) ?_ (xs.length + 1)
    (by obtain ⟨m, hn⟩ := hn; exact ⟨0, m, Nat.zero_le _, rfl, hit, hn, by simpa using he⟩)
  rintro k s' ⟨i, m', hi, rfl, hit', hn', he'⟩
  have hl' : lstOf (upd σ₁ D ((xs.take i).map F)) V = some xs := by
    cases V with
    | d x => exact (lstOf_d _ _ x).trans hxs
    | ref a =>
      have ha : σ₁ a = some xs := hxs
      obtain ⟨items, ⟨o, ho, _⟩, _⟩ := g₁.rep a xs ha
      show upd _ _ _ a = some xs
      rw [upd_ne _ (by rintro rfl; rw [nD] at ho; cases ho)]; exact ha
  obtain ⟨l', items, el, hl, hrs⟩ := lstOf_ok he'.good hl' (he'.vr g₁ hV)
  cases el
  have hlen : items.size = xs.length := by simpa using hrs.length
  cases hv : items[i]? with
  | none =>
    have hix : i = xs.length := by
      have : items.size ≤ i := by simpa using hv
      omega
    subst hix
    refine wpAny_pyNext_list_end hh hit' hl hv fun h₁ hs₁ => ?_
    obtain ⟨g2, kr2, hσI⟩ := he'.good.ext hs₁ (.iter hit') (let ⟨o, ho, _⟩ := hit'; ⟨o, ho⟩) bI
    have hn₁ : h₁.Ns cenv.locals m' := hn'.extBut hs₁ (Ne.symm hIC)
    refine hR _ m' hn₁ fun h'' hs'' => ?_
    obtain ⟨g3, kr3, hσC⟩ := g2.ext hs''.extBut (.ns hn₁) (let ⟨o, _, _, ho, _⟩ := hn₁; ⟨o, ho⟩) bC
    obtain ⟨its, hi3, hr3, _⟩ := g3.rep D _ (upd_self _ _ _)
    rw [List.take_length] at hr3
    have kp3 := (he'.kp.then_ext hs₁ nI).then_ext hs''.extBut nC
    have drop : ∀ {h : Heap} {vs : List Value} {ys ds : List PyData}, RDs h (upd σ₁ D ds) vs ys → RDs h σ₁ vs ys := by
      rintro h vs ys ds ⟨as, r1, r2⟩
      exact ⟨as, r1, fun a ha => ⟨upd_none (r2 a ha).1, (r2 a ha).2⟩⟩
    have g4 : Good hb h'' σ₁ := by
      refine ⟨g3.keep, g₁.fix, fun a ys e => ?_⟩
      have haD : a ≠ D := by
        rintro rfl
        obtain ⟨items, ⟨o, ho, _⟩, _⟩ := g₁.rep a ys e
        rw [nD] at ho; cases ho
      obtain ⟨its', h1, h2, h3⟩ := g3.rep a ys (by rw [upd_ne _ haD]; exact e)
      exact ⟨its', h1, drop h2, h3⟩
    have hDn : σ₁ D = none := by
      cases e : σ₁ D with
      | none => rfl
      | some ys =>
        obtain ⟨items, ⟨o, ho, _⟩, _⟩ := g₁.rep D ys e
        rw [nD] at ho; cases ho
    have neD : ∀ a o, s₁.heap.get? a = some o → a ≠ D := by rintro a o e rfl; rw [nD] at e; cases e
    obtain ⟨h0, t0, e0⟩ := he'.sh
    refine ⟨RD.list hi3 hDn (drop hr3), ⟨h'', t0, by rw [e0]⟩, g4, ⟨⟨fun a o e hx h => kp3.keep a o e hx h, fun a o e h => h⟩, kp3.live⟩⟩
  | some v =>
    have hlt : i < items.size := (Array.getElem?_eq_some_iff.mp hv).1
    have hltx : i < xs.length := by omega
    have hx : xs[i]? = some xs[i] := List.getElem?_eq_getElem hltx
    obtain ⟨v', hv', hr⟩ := hrs.get hx
    have ev : v' = v := by
      have : items.toList[i]? = some v := by simpa using hv
      rw [this] at hv'; cases hv'; rfl
    subst ev
    refine wpAny_pyNext_list_item hit' hl hv fun h₁ hit₁ hs₁ => ?_
    obtain ⟨g2, kr2, hσI⟩ := he'.good.ext hs₁.extBut (.iter hit') (let ⟨o, ho, _⟩ := hit'; ⟨o, ho⟩) bI
    have hn₁ : h₁.Ns cenv.locals m' := hn'.sameBut hs₁ (Ne.symm hIC)
    have hr₁ := hr.step kr2 (.iter hit') he'.good.rep.listAt
    have kp1 : Kp NoX s₁.heap σ₁ h₁ (upd σ₁ D ((xs.take i).map F)) := he'.kp.then_ext hs₁.extBut nI
    refine wpAny_mono (T xs[i] { s' with heap := h₁ } _ v' m' I l (i + 1) _ (List.getElem_mem hltx) g2 hr₁ hn₁ bC hit₁) (fun _ s₂ h₂ => ?_) fun _ _ e => e
    refine wpAny_mono h₂ (fun _ s₃ h₃ => ?_) fun _ _ e => e
    refine wpAny_mono h₃ (fun y s₄ h₄ => ?_) fun _ _ e => e
    obtain ⟨hy, g4, kp4, ⟨h4, t4, e4⟩, m4, hn4⟩ := h₄
    refine wpAny_mono (append_ok g4 (upd_self _ _ _) hy (by simp; omega)) (fun r s₅ h₅ => ?_) fun _ _ e => e
    obtain ⟨_, he5⟩ := h₅
    rw [upd_upd] at he5
    have kp5 : Kp NoX s₁.heap σ₁ s₄.heap (upd σ₁ D ((xs.take i).map F)) := kp1.then_at kp4 nC
    have hit4 : s₄.heap.IsListIter I l (i + 1) := by
      obtain ⟨o, ho, r⟩ := hit₁
      exact ⟨o, kp4.keep I o ho hIC hσI, r⟩
    have hit5 : s₅.heap.IsListIter I l (i + 1) := by
      obtain ⟨o, ho, r⟩ := hit4
      exact ⟨o, he5.kp.keep I o ho (fun x => x.elim) hσI, r⟩
    have hσC : (upd σ₁ D ((xs.take i).map F)) cenv.locals = none := by
      cases e : (upd σ₁ D ((xs.take i).map F)) cenv.locals with
      | none => rfl
      | some ys =>
        exfalso
        obtain ⟨items, ⟨o, ho, _, n, hd⟩, _⟩ := g4.rep _ ys e
        exact NotSeq.ns hn4 _ rfl o ho _ _ hd
    have hn5 : s₅.heap.Ns cenv.locals m4 := by
      obtain ⟨o, es, ep, ho, r⟩ := hn4
      exact ⟨o, es, ep, he5.kp.keep _ o ho (fun x => x.elim) hσC, r⟩
    obtain ⟨h0, t0, e0⟩ := he'.sh
    obtain ⟨h5, t5, e5⟩ := he5.sh
    have etake : (xs.take (i + 1)).map F = (xs.take i).map F ++ [F xs[i]] := by
      rw [List.take_add_one, hx, List.map_append]; rfl
    refine ⟨xs.length + 1 - (i + 1), by omega, i + 1, m4, hltx, rfl, hit5, hn5, ?_⟩
    rw [etake]
    exact ⟨⟨h5, t5, by rw [e5, e4, e0]⟩, he5.good, kp5.trans he5.kp⟩
end

-- M10
theorem folded_ok {sc : Scope} {nm : List Str} {e : Ex} {pi : Expr} (h : okE sc nm e pi = true) (env : Env) (x : Value) : foldedSetIterable pi env x = pure x := by
  cases pi <;> first | rfl | (cases e <;> cases h)

section
variable {prog : Program} {w : World} {hb : Heap} {A : Around} {E : Value → Shared → Prop}

theorem comp_whole {target elt iter : Expr} {scope : Scope} {pos : Pos} {env : Env} {xs : List PyData} {F : PyData → PyData} {s₁ : Shared} {σ₁ : St} {V : V} {a : Value} {R : Value → Env → Result → Shared → Prop}
    (hh : A.handled = none) (g₁ : Good hb s₁.heap σ₁) (hV : VR s₁.heap σ₁ a V) (hxs : lstOf σ₁ V = some xs) (hsz : xs.length < 1000000) (hcell : ∀ x ∈ scope.names, x.2 ≠ .cell) (hkind : scope.kind = .function)
    (T : ∀ C, CompTurn prog w hb A target elt (compEnv scope C env) xs F)
    (hR : ∀ D cenv s' m, s₁.heap.get? cenv.locals = none → s₁.heap.get? D = none → s'.heap.Ns cenv.locals m → (∀ h'', Heap.SameBut cenv.locals s'.heap h'' → RD h'' σ₁ (.ref D) (.list (xs.map F)) ∧ Ev hb s₁ σ₁ { s' with heap := h'' } σ₁) → R (.ref D) cenv (.ok .next) s') :
    wpAny (model prog w) A (pyIter a) (fun it s₂ => wpAny (model prog w) A (newList []) (fun acc s₃ =>
      wpAny (model prog w) A (newFunctionEnv scope env.globals [] [] env.qual none .none (some env)) (fun cenv s₄ =>
        codeAny (model prog w) A (.compStart (.ListComp elt [⟨target, iter, [], 0⟩] scope pos) 0 it acc { cenv with scope := scope }) (R acc cenv) s₄) E s₃) E s₂) E s₁ := by
  obtain ⟨l, items, rfl, hl, hrs⟩ := lstOf_ok g₁ hxs hV
  obtain ⟨ol, hol, hol'⟩ := id hl
  have hax : l < s₁.heap.objs.size := Heap.lt_size hol
  refine wpAny_pyIter_list hl (wpAny_newObj_type (hd := by size_fits) (wpAny_newFunctionEnv hcell (by intro y hy; simp at hy) (fun h₁ hns₁ hsb₁ => ?_) hkind))
  dsimp only at hns₁ hsb₁ ⊢
  generalize hH1 : s₁.heap.push { cls := .type "list_iterator", data := .fields #[.ref l, .int 0 0] } = H1 at hns₁ hsb₁ ⊢
  have hD : H1.objs.size = s₁.heap.objs.size + 1 := by rw [← hH1, Heap.size_push]
  generalize hH2 : H1.push { cls := .type "list", dict := none, data := .seq ([] : List Value).toArray } = H2 at hns₁ hsb₁ ⊢
  have hC : H2.objs.size = s₁.heap.objs.size + 2 := by rw [← hH2, Heap.size_push, hD]
  have k1 : ∀ b o, s₁.heap.get? b = some o → H1.get? b = some o := fun b o e => by rw [← hH1]; exact Heap.get?_push_of_some _ e
  have e1 : Ev hb s₁ σ₁ { s₁ with heap := H1 } σ₁ := (Ev.refl g₁).grow s₁.toks k1
  have e2 : Ev hb s₁ σ₁ { s₁ with heap := H2 } (upd σ₁ H1.objs.size []) := by
    have e3 := e1.trans (s₁ := { s₁ with heap := H1 }) (Ev.refl e1.good)
    have nD : H1.get? H1.objs.size = none := get_none_of_size (Nat.le_refl _)
    have hk : ∀ a o, H1.get? a = some o → H2.get? a = some o := fun a o e => by rw [← hH2]; exact Heap.get?_push_of_some _ e
    have ne : ∀ a o, H1.get? a = some o → a ≠ H1.objs.size := fun a o e => Nat.ne_of_lt (Heap.lt_size e)
    have kp : Kp NoX H1 σ₁ H2 (upd σ₁ H1.objs.size []) := ⟨⟨fun a o e _ _ => hk a o e, fun a o e h => by rw [upd_ne _ (ne a o e)]; exact h⟩, fun a o e => ⟨o, hk a o e⟩⟩
    refine e1.trans ⟨⟨H2, s₁.toks, rfl⟩, ⟨fun a o e => hk a o (e1.good.keep a o e), fun a o e => by rw [upd_ne _ (ne a o (e1.good.keep a o e))]; exact e1.good.fix a o e, fun a ys e => ?_⟩, kp⟩
    by_cases ha : a = H1.objs.size
    · subst ha
      rw [upd_self] at e; cases e
      exact ⟨#[], ⟨_, by rw [← hH2]; exact Heap.get?_push_size _ rfl, rfl, _, rfl⟩, by simpa using RDs.nil _ _, fun o ho => by rw [← hH2, Heap.get?_push_size _ rfl] at ho; cases ho; rfl⟩
    · rw [upd_ne _ ha] at e
      obtain ⟨its, ⟨o, ho, r⟩, hr, hd⟩ := e1.good.rep a ys e
      exact ⟨its, ⟨o, hk a o ho, r⟩, hr.step kp.toKr (.no _) e1.good.rep.listAt, hd.to ho (hk a o ho)⟩
  have hk2 : ∀ a o, H2.get? a = some o → h₁.get? a = some o := fun a o e => hsb₁.extBut a o (Nat.ne_of_lt (Heap.lt_size e)) (Heap.get?_push_of_some _ e)
  have e4 : ∀ tk, Ev hb s₁ σ₁ { s₁ with heap := h₁, toks := tk } (upd σ₁ H1.objs.size []) := fun tk => e2.grow tk hk2
  have hit : h₁.IsListIter s₁.heap.objs.size l 0 := by
    refine ⟨{ cls := .type "list_iterator", data := .fields #[.ref l, .int 0 0] }, hk2 _ _ ?_, rfl, rfl⟩
    rw [← hH2]; refine Heap.get?_push_of_some _ ?_
    rw [← hH1]; exact Heap.get?_push_size _ rfl
  have loop : ∀ s₂ : Shared, s₂ = { s₁ with heap := h₁, toks := s₁.toks + ([] : List (Str × Value)).length } →
      codeAny (model prog w) A (.compLoop (.ListComp elt [⟨target, iter, [], 0⟩] scope pos) 0 (.ref s₁.heap.objs.size) (.ref H1.objs.size) (compEnv scope H2.objs.size env)) (R (.ref H1.objs.size) (newEnv scope H2.objs.size env.globals [] env.qual none .none (some env) 0)) s₂ := by
    rintro s₂ rfl
    refine comp_loop hh g₁ hV hxs hsz (get_none_of_size (Nat.le_refl _)) (get_none_of_size (by rw [hD]; exact Nat.le_succ _)) (get_none_of_size (by show _ ≤ H2.objs.size; rw [hC]; omega))
      (by show _ ≠ H2.objs.size; rw [hC]; omega) (by rw [hD]; exact Nat.succ_ne_self _) (by show _ ≠ H2.objs.size; rw [hD, hC]; omega) (T _) ?_ (e4 _) hit ⟨_, hns₁⟩
    exact fun s' m hn hf => hR _ (newEnv scope H2.objs.size env.globals [] env.qual none .none (some env) 0) s' m (get_none_of_size (by show _ ≤ H2.objs.size; rw [hC]; omega)) (get_none_of_size (by rw [hD]; exact Nat.le_succ _)) hn hf
  exact codeAny_compStart_list (loop _ rfl) (wpAny_pyIter_listiter hit (loop _ rfl))
end

-- M11
section
variable {prog : Program} {w : World} {hb : Heap} {mg mb : Str → Option Value} {fa : Nat → Addr} {n : Nat}

theorem compEnv_ok {env : Env} {sc sc' : Scope} {L C : Addr} (h : EnvOK env sc L) (hk : sc'.kind = .function) : EnvOK (compEnv sc' C env) sc' C :=
  ⟨rfl, hk, rfl, h.glo, h.bui⟩

theorem Ev.kpAt {s₀ s₁ s₂ : Shared} {σ : St} {C : Addr} (k : Kp (AtX C) s₀.heap σ s₁.heap σ) (e : Ev hb s₁ σ s₂ σ) : Kp (AtX C) s₀.heap σ s₂.heap σ := k.trans e.kp.ofNo

theorem kpAt_store {h h' : Heap} {σ : St} {C : Addr} {m : Str → Option Value} (hs : Heap.SameBut C h h') (hn : h'.Ns C m) : Kp (AtX C) h σ h' σ :=
  ⟨⟨fun a o e hx _ => (hs.2 a hx).trans e, fun _ _ _ e => e⟩, fun a o e => by
    by_cases ha : a = C
    · subst ha; obtain ⟨o', _, _, ho', _⟩ := hn; exact ⟨o', ho'⟩
    · exact ⟨o, (hs.2 a ha).trans e⟩⟩

theorem turn1 {elt : Ex} (ih : SndE prog w hb fa n elt) {A : Around} {env : Env} {sc sc' : Scope} {L C : Addr} {x : Str} {q : Pos} {pe : Expr} {xs : List PyData} {F : PyData → PyData}
    (hr : Room n A) (he : EnvOK env sc L) (hk : sc'.kind = .function) (hok : okE sc' [x] elt pe = true) (hx : sc'.names.lookup x = some .local)
    (h : ∀ y ∈ xs, ∀ σ', wpE (CallOK prog w hb fa n) [some (.d y)] elt σ' fun z σ₂ => z = .d (F y) ∧ σ₂ = σ') :
    CompTurn prog w hb A (.Name x q) pe (compEnv sc' C env) xs F := by
  intro y s σ v m I l i E' hy g r hn hC hit
  refine wpAny_of_eq (show letOwnedTupleGo (.Name x q) (.ref I) v = pure () from rfl) ?_
  refine wpAny_assign_Name (wpAny_storeName_local (m := m) hx hn (fun h₂ hn₂ hs₂ => ?_) (by simp [compEnv, hk]))
  obtain ⟨g2, kr2, hσC⟩ := g.ext hs₂.extBut (.ns hn) (let ⟨o, _, _, ho, _⟩ := hn; ⟨o, ho⟩) hC
  have r2 := r.step kr2 (.ns hn) g.rep.listAt
  have kp2 := kpAt_store (σ := σ) hs₂ hn₂
  refine postE (ih (s := { s with heap := h₂, toks := s.toks + 1 }) hok (compEnv_ok he hk) hr g2 ⟨_, hn₂, ?_⟩ (h y hy σ)) ?_
  · intro j w hj
    match j, hj with
    | 0, hj => cases hj; exact ⟨x, v, rfl, by simp, r2⟩
    | j + 1, hj => cases hj
  · rintro z V s₁ σ₁ ⟨rfl, rfl⟩ hz e
    obtain ⟨h', tk, e1⟩ := e.sh
    refine ⟨hz, e.good, kp2.trans e.kp.ofNo, ⟨h', tk, by rw [e1]⟩, ?_⟩
    obtain ⟨o, es, ep, ho, rr⟩ := hn₂
    exact ⟨_, o, es, ep, e.kp.keep _ o ho (fun x => x.elim) hσC, rr⟩

theorem turn2 {elt : Ex} (ih : SndE prog w hb fa n elt) {A : Around} {env : Env} {sc sc' : Scope} {L C : Addr} {x y : Str} {q r : Pos} {k : Nat} {t : Pos} {pe : Expr} {xs : List PyData} {F : PyData → PyData}
    (hr : Room n A) (he : EnvOK env sc L) (hk : sc'.kind = .function) (hok : okE sc' [x, y] elt pe = true) (hx : sc'.names.lookup x = some .local) (hy : sc'.names.lookup y = some .local) (hxy : x ≠ y)
    (h : ∀ z ∈ xs, ∃ p q, z = .tuple [p, q] ∧ ∀ σ', wpE (CallOK prog w hb fa n) [some (.d p), some (.d q)] elt σ' fun u σ₂ => u = .d (F z) ∧ σ₂ = σ') :
    CompTurn prog w hb A (.Tuple [.Name x q, .Name y r] k t) pe (compEnv sc' C env) xs F := by
  intro z s σ v m I l i E' hz g rd hn hC hit
  obtain ⟨p, p', rfl, hw⟩ := h z hz
  obtain ⟨a, o, vs, kk, rfl, e1, e2, e3, e4⟩ := RD.tuple_inv rd
  refine wpAny_letOwnedTupleGo_listiter hit ?_
  have hvl : vs.size = 2 := by simpa using e4.length
  obtain ⟨v1, v2, hvs⟩ : ∃ v1 v2, vs.toList = [v1, v2] := by
    match hl : vs.toList, e4.length with
    | [v1, v2], _ => exact ⟨v1, v2, rfl⟩
  rw [hvs] at e4
  refine wpAny_assign_Tuple hr.1 ⟨o, e1, e2, kk, e3⟩ (by rw [hvl]; rfl) rfl (fun h₁ he₁ => ?_)
  rw [hvs]
  have kx : ∀ b o, s.heap.get? b = some o → h₁.get? b = some o := fun b o e => he₁ b o (Nat.ne_of_lt (Heap.lt_size e)) e
  have hn₁ : h₁.Ns C m := hn.keeps kx
  show wpAny _ A (do holding [v1, v2].tail (assign (.Name x q) (compEnv sc' C env) v1); do holding ([] : List Value) (assign (.Name y r) (compEnv sc' C env) v2); pure ()) _ _ _
  refine wpAny_bind (wpAny_holding (wpAny_assign_Name (wpAny_storeName_local (m := m) hx hn₁ (fun h₂ hn₂ hs₂ => ?_) (by simp [compEnv, hk]))))
  refine wpAny_bind (wpAny_holding (wpAny_assign_Name (wpAny_storeName_local hy hn₂ (fun h₃ hn₃ hs₃ => wpAny_pure ?_) (by simp [compEnv, hk]))))
  have g1 := g.grow kx
  obtain ⟨g2, kr2, hσC⟩ := g1.ext hs₂.extBut (.ns hn₁) (let ⟨o, _, _, ho, _⟩ := hn₁; ⟨o, ho⟩) hC
  obtain ⟨g3, kr3, _⟩ := g2.ext hs₃.extBut (.ns hn₂) (let ⟨o, _, _, ho, _⟩ := hn₂; ⟨o, ho⟩) hC
  have r1 := e4.step (Kp.grow (X := NoX) kx).toKr (.no _) g.rep.listAt
  have r2 := r1.step kr2 (.ns hn₁) g1.rep.listAt
  have r3 := r2.step kr3 (.ns hn₂) g2.rep.listAt
  have kp3 : Kp (AtX C) s.heap σ h₃ σ := (Kp.grow kx).trans ((kpAt_store (σ := σ) hs₂ hn₂).trans (kpAt_store (σ := σ) hs₃ hn₃))
  refine postE (ih (s := { s with heap := h₃, toks := s.toks + 1 + 1 }) hok (compEnv_ok he hk) hr g3 ⟨_, hn₃, ?_⟩ (hw σ)) ?_
  · intro j w hj
    match j, hj with
    | 0, hj => cases hj; exact ⟨x, v1, rfl, by simp [hxy], r3.head⟩
    | 1, hj => cases hj; exact ⟨y, v2, rfl, by simp, r3.tail.head⟩
    | j + 2, hj => cases hj
  · rintro z V s₁ σ₁ ⟨rfl, rfl⟩ hz e
    obtain ⟨h', tk, e1⟩ := e.sh
    refine ⟨hz, e.good, kp3.trans e.kp.ofNo, ⟨h', tk, by rw [e1]⟩, ?_⟩
    obtain ⟨o, es, ep, ho, rr⟩ := hn₃
    exact ⟨_, o, es, ep, e.kp.keep _ o ho (fun x => x.elim) hσC, rr⟩
end

-- M12
section
variable {prog : Program} {w : World} {hb : Heap} {mg mb : Str → Option Value} {fa : Nat → Addr} {n : Nat}

theorem TruthP_mono {v : V} {P Q : Bool → Prop} (h : TruthP v P) (hpq : ∀ b, P b → Q b) : TruthP v Q := by
  unfold TruthP at h ⊢
  split at h <;> first | exact hpq _ h | exact h
theorem TruthP_and {v : V} {op : BoolOp} {P : Prop} {Q : Bool → Prop} (h : TruthP v fun t => (t = (op == .And) → P) ∧ (t = (op == .Or) → TruthP v Q)) : TruthP v fun t => (t = (op == .And) → P) ∧ (t = (op == .Or) → Q t) := by
  unfold TruthP at h ⊢
  split at h <;> first | exact h | exact ⟨h.1, h.2⟩

theorem wpAny_bool1 {M : Model} {A : Around} {E : Value → Shared → Prop} {s : Shared} {op : BoolOp} {pos : Pos} {x : Sem Value} {r : Sem Value} {rs : List (Sem Value)} {Q : Value → Shared → Prop}
    (h : wpAny M A x (fun v s₁ => wpAny M A (truthy v) (fun t s₂ => (t = (op == .And) → wpAny M A (boolOp pos op (r :: rs)) Q E s₂) ∧ (t = (op == .Or) → Q v s₂)) E s₁) E s) :
    wpAny M A (boolOp pos op (x :: r :: rs)) Q E s := by
  show wpAny M A (do
    let v ← x
    standAt pos
    let t ← holding [v] (truthy v)
    match op, t with
    | .And, false | .Or, true => pure v
    | _, _ => boolOp pos op (r :: rs)) Q E s
  refine wpAny_bind (wpAny_mono h (fun v s₁ h₁ => wpAny_bind (wpAny_standAt (wpAny_bind (wpAny_holding (wpAny_mono h₁ (fun t s₂ h₂ => ?_) fun _ _ x => x))))) fun _ _ x => x)
  cases op <;> cases t
  · exact wpAny_pure (h₂.2 rfl)
  · exact h₂.1 rfl
  · exact h₂.1 rfl
  · exact wpAny_pure (h₂.2 rfl)

theorem slice_core (B : Bs hb mg mb fa) {A : Around} {E : Value → Shared → Prop} {s₀ s : Shared} {σ₀ σ : St} {Q : V → St → Prop} {value : Expr} {lw up : Option Expr} {r : Pos} {l : Addr} {items : Array Value} {vl vu : Value} {lo hi : Option Int} {ys : List PyData}
    (he : Ev hb s₀ σ₀ s σ) (hl : s.heap.IsList l items) (hlen : items.size < 1000000) (pl : IsPart vl lo) (pu : IsPart vu hi) (hrs : RDs s.heap σ (slicePick items lo hi none).toList ys) (hq : Q (.d (.list ys)) σ) :
    wpAny (model prog w) A (subscriptTail value (.Slice lw up none r) (.ref l) (.ref s.heap.objs.size)) (PostE hb s₀ σ₀ Q) E { s with heap := s.heap.push { cls := .type "slice", data := .fields #[vl, vu, .none] } } := by
  have hk : ∀ a o, s.heap.get? a = some o → (s.heap.push { cls := .type "slice", data := .fields #[vl, vu, .none] }).get? a = some o := fun a o e => Heap.get?_push_of_some _ e
  refine tail_any (ops := [.ref s.heap.objs.size, .ref l]) (Heap.IsList.typeIs (s := { s with heap := s.heap.push { cls := .type "slice", data := .fields #[vl, vu, .none] } }) (hl.push _)) list_getitem_lookup
      (wpAny_getItem_list_slice (hl.push _) (Heap.IsSliceOf.new ..) pl pu .none (by simp) ?_ (by unfold sizeLine; omega)) rfl
  have g1 : Ev hb s₀ σ₀ { s with heap := s.heap.push { cls := .type "slice", data := .fields #[vl, vu, .none] } } σ := he.grow s.toks hk
  have r1 := hrs.step (Kp.grow (X := NoX) hk).toKr (.no _) he.good.rep.listAt
  exact .mk hq (RD.newList B (σ := σ) (o := default) g1.good.rep.listAt g1.good.rep r1) (g1.grow s.toks (fun a o e => Heap.get?_push_of_some _ e))

theorem slto_ok (B : Bs hb mg mb fa) {A : Around} {E : Value → Shared → Prop} {s₀ s : Shared} {σ₀ σ : St} {Q : V → St → Prop} {value : Expr} {env : Env} {k : Nat} {q r : Pos} {x : V} {v : Value} {xs : List PyData} {hi : Nat}
    (he : Ev hb s₀ σ₀ s σ) (h1 : lstOf σ x = some xs) (hv : VR s.heap σ v x) (h2 : xs.length < 1000000) (hq : Q (.d (.list (xs.take hi))) σ) :
    wpAny (model prog w) A (eval (.Slice none (some (.Constant (.int (hi : Int)) k q)) none r) env) (fun i s₂ => wpAny (model prog w) A (subscriptTail value (.Slice none (some (.Constant (.int (hi : Int)) k q)) none r) v i) (PostE hb s₀ σ₀ Q) E s₂) E s := by
  obtain ⟨l, items, rfl, hl, hrs⟩ := lstOf_ok he.good h1 hv
  have hlen : items.size = xs.length := by simpa using hrs.length
  refine wpAny_Slice (wpAny_pure ?_)
  show wpAny _ A (eval (.Constant (.int (hi : Int)) k q) env) _ _ _
  refine wpAny_Constant_int (wpAny_pure ?_)
  exact slice_core (s := { s with toks := s.toks + 1 }) B (he.toks _) hl (by omega) .none (.int _ _) (by rw [slicePick_upto']; simpa using hrs.take hi) hq

theorem slfrom_ok (B : Bs hb mg mb fa) {A : Around} {E : Value → Shared → Prop} {s₀ s : Shared} {σ₀ σ : St} {Q : V → St → Prop} {value : Expr} {env : Env} {k : Nat} {q r : Pos} {x : V} {v : Value} {xs : List PyData} {lo : Nat}
    (he : Ev hb s₀ σ₀ s σ) (h1 : lstOf σ x = some xs) (hv : VR s.heap σ v x) (h2 : xs.length < 1000000) (hq : Q (.d (.list (xs.drop lo))) σ) :
    wpAny (model prog w) A (eval (.Slice (some (.Constant (.int (lo : Int)) k q)) none none r) env) (fun i s₂ => wpAny (model prog w) A (subscriptTail value (.Slice (some (.Constant (.int (lo : Int)) k q)) none none r) v i) (PostE hb s₀ σ₀ Q) E s₂) E s := by
  obtain ⟨l, items, rfl, hl, hrs⟩ := lstOf_ok he.good h1 hv
  have hlen : items.size = xs.length := by simpa using hrs.length
  refine wpAny_Slice ?_
  show wpAny _ A (eval (.Constant (.int (lo : Int)) k q) env) _ _ _
  refine wpAny_Constant_int (wpAny_pure (wpAny_pure ?_))
  exact slice_core (s := { s with toks := s.toks + 1 }) B (he.toks _) hl (by omega) (.int _ _) .none (by rw [slicePick_from']; simpa using hrs.drop lo) hq

theorem bi_callWith {A : Around} {E : Value → Shared → Prop} {s : Shared} {p : Pos} {args : List (Bool × Sem Value)} {Q : Value → Shared → Prop} (hns : args.any (·.1) = false) : ∀ f : BI,
    wpAny (model prog w) A (evalArgs f.val true args []) (fun a s₁ => wpAny (model prog w) A (call f.val ([] ++ a.pos) a.kw) Q E s₁) E s → wpAny (model prog w) A (callWith p f.val [] args []) Q E s
  | .len, h => Calls.callWith_builtin (id := "len") hns h
  | .abs, h => Calls.callWith_builtin (id := "abs") hns h
  | .min1, h => Calls.callWith_builtin (id := "min") hns h
  | .max1, h => Calls.callWith_builtin (id := "max") hns h
  | .min2, h => Calls.callWith_builtin (id := "min") hns h
  | .sum, h => Calls.callWith_builtin (id := "sum") hns h
  | .int, h => PySem.callWith_type (T := "int") hns h

def SndTs (prog : Program) (w : World) (hb : Heap) (fa : Nat → Addr) (n : Nat) (e : Exs) : Prop :=
  ∀ {sc : Scope} {nm : List Str} {pe : List Expr} {ρ : List (Option V)} {σ : St} {s : Shared} {A : Around} {env : Env} {L : Addr} {E : Value → Shared → Prop} {K : Bool → St → Prop} {Q : V → St → Prop} {op : BoolOp},
    okEs sc nm e pe = true → EnvOK env sc L → Room n A → Good hb s.heap σ → RhoOK s.heap σ L nm ρ → wpB (CallOK prog w hb fa n) ρ op e σ Q → (∀ v σ₁, Q v σ₁ → TruthP v fun b => K b σ₁) →
      wpAny (model prog w) A (allTrue op pe env) (fun b s' => ∃ σ', K b σ' ∧ Ev hb s σ s' σ') E s

theorem sndV (B : Bs hb mg mb fa) (e : Ex) (hw : ∀ {sc : Scope} {nm : List Str} {pe : Expr} {env : Env} {whole : Sem Value}, okE sc nm e pe = true → isTrue pe env whole = (do let v ← whole; standAt pe.pos; holding [v] (truthy v)))
    (ih : SndE prog w hb fa n e) : SndT prog w hb fa n e := by
  intro sc nm pe ρ σ s A env L E K Q hok he hr g hρ h hQ
  refine wpAny_isTrue_value (postE (ih hok he hr g hρ h) fun v V s₁ σ₁ hq hv he₁ => ?_) (hw hok)
  refine wpAny_mono (truthP_ok (hQ _ _ hq) hv) (fun b s₂ hb2 => ?_) fun _ _ e => e
  obtain ⟨hK, rfl⟩ := hb2
  exact ⟨σ₁, hK, he₁⟩

mutual
theorem sndE (B : Bs hb mg mb fa) : ∀ e : Ex, SndE prog w hb fa n e
  | .cst c => by
    rename_i sc nm pe ρ σ s A env L E Q
    intro hok he hr g hρ h
    obtain ⟨k, j, p, rfl, hc⟩ := inv_cst hok
    exact okC_RD B hc g h
  | .loc i => by
    rename_i sc nm pe ρ σ s A env L E Q
    intro hok he hr g hρ h
    obtain ⟨x, p, rfl, hc⟩ := inv_loc hok
    obtain ⟨h1, h2, h3⟩ := okL_of hc
    unfold wpE at h
    cases hv : rg ρ i with
    | none => rw [hv] at h; exact h.elim
    | some v =>
      rw [hv] at h
      exact wpAny_Name (name_loc B (p := p) he hρ h1 h2 h3 hv fun a ha => .mk h ha (.refl g)) h3
  | .glb i => by
    rename_i sc nm pe ρ σ s A env L E Q
    intro hok he hr g hρ h
    obtain ⟨x, p, q, rfl, hi, hc⟩ := inv_glb hok
    obtain ⟨rfl, h2, h3⟩ := okG_of hc
    obtain ⟨v, hv, hrd⟩ := B.ct q (List.mem_of_getElem? hi)
    unfold wpE cval at h
    rw [hi] at h
    refine name_glob B he g h2 h3 hv (.mk h ?_ (.refl g))
    obtain ⟨as, r1, r2⟩ := hrd
    exact ⟨as, PyProof.Rows.Reads.keeps g.keep r1, fun a ha => let ⟨_, o, vs, k, ho, hd⟩ := r2 a ha; ⟨g.fix a o ho, o, vs, k, g.keep a o ho, hd⟩⟩
  | .bin op a b => by
    rename_i sc nm pe ρ σ s A env L E Q
    intro hok he hr g hρ h
    obtain ⟨l, r, p, rfl, ha, hb'⟩ := inv_bin hok
    refine wpAny_BinOp (postE (sndE B a ha he hr g hρ h) fun v V s₁ σ₁ hq hv he₁ => ?_)
    refine postE (sndE B b hb' he hr he₁.good (hρ.step g.rep he₁.kp) hq) fun u U s₂ σ₂ hq2 hu he₂ => ?_
    refine wpAny_mono (binP_ok hq2 (he₂.vr he₁.good hv) hu (he₁.trans he₂)) (fun z s' hz => ?_) fun _ _ e => e
    obtain ⟨V', σ', ⟨r, rfl, hK, rfl⟩, hv', he'⟩ := hz
    exact ⟨_, _, hK, hv', he'⟩
  | .neg a => by
    rename_i sc nm pe ρ σ s A env L E Q
    intro hok he hr g hρ h
    obtain ⟨x, p, rfl, ha⟩ := inv_neg hok
    refine wpAny_UnaryOp (postE (sndE B a ha he hr g hρ h) fun v V s₁ σ₁ hq hv he₁ => ?_)
    try dsimp only at hq
    split at hq
    · obtain ⟨t, rfl⟩ := RD.int_inv hv
      exact P.neg_int (.mk hq (RD.int _ _ _ _) (he₁.toks _))
    · exact hq.elim
  | .nt a => by
    rename_i sc nm pe ρ σ s A env L E Q
    intro hok he hr g hρ h
    obtain ⟨x, p, rfl, ha⟩ := inv_nt hok
    refine wpAny_UnaryOp (postE (sndE B a ha he hr g hρ h) fun v V s₁ σ₁ hq hv he₁ => ?_)
    refine not_of (wpAny_mono (truthP_ok hq hv) (fun b s₂ hb2 => ?_) fun _ _ e => e)
    obtain ⟨hK, rfl⟩ := hb2
    exact .mk hK (RD.bool _ _ _) he₁
  | .cmp op a b => by
    rename_i sc nm pe ρ σ s A env L E Q
    intro hok he hr g hρ h
    obtain ⟨l, r, p, rfl, hm, ha, hb'⟩ := inv_cmp hok
    refine wpAny_Compare1 (postE (sndE B a ha he hr g hρ h) fun v V s₁ σ₁ hq hv he₁ => ?_) hm
    refine postE (sndE B b hb' he hr he₁.good (hρ.step g.rep he₁.kp) hq) fun u U s₂ σ₂ hq2 hu he₂ => ?_
    refine wpAny_mono (cmpP_ok hr hq2 (he₂.vr he₁.good hv) hu) (fun z s' hz => ?_) fun _ _ e => e
    obtain ⟨⟨r, rfl, hK⟩, rfl⟩ := hz
    exact .mk hK (RD.bool _ _ _) (he₁.trans he₂)
  | .bool op es => by
    rename_i sc nm pe ρ σ s A env L E Q
    intro hok he hr g hρ h
    obtain ⟨vs, p, rfl, ha⟩ := inv_bool hok
    exact sndB B es ha he hr g hρ h
  | .ife c a b => by
    rename_i sc nm pe ρ σ s A env L E Q
    intro hok he hr g hρ h
    obtain ⟨t, x, y, p, rfl, hc, ha, hb'⟩ := inv_ife hok
    refine wpAny_IfExp (wpAny_mono (sndT B c (K := fun t σ₁ => (t = true → wpE (CallOK prog w hb fa n) ρ a σ₁ Q) ∧ (t = false → wpE (CallOK prog w hb fa n) ρ b σ₁ Q)) hc he hr g hρ h fun _ _ x => x) (fun b s₁ hb1 => ?_) fun _ _ e => e)
    obtain ⟨σ₁, ⟨k1, k2⟩, he₁⟩ := hb1
    have hρ₁ := hρ.step g.rep he₁.kp
    cases b with
    | true => exact wpAny_mono (sndE B a ha he hr he₁.good hρ₁ (k1 rfl)) (fun _ _ p => PostE.trans he₁ p) fun _ _ e => e
    | false => exact wpAny_mono (sndE B _ hb' he hr he₁.good hρ₁ (k2 rfl)) (fun _ _ p => PostE.trans he₁ p) fun _ _ e => e
  | .call f as => by
    rename_i sc nm pe ρ σ s A env L E Q
    intro hok he hr g hρ h
    obtain ⟨x, q, e, es, p, nn, rfl, hf, hg, ha⟩ := inv_call hok
    obtain ⟨rfl, h2, h3⟩ := okG_of hg
    obtain ⟨hmg, o, fd, ho, hd⟩ := B.ft f _ hf
    refine wpAny_Call_NameR (name_glob B he g h2 h3 hmg ?_)
    obtain ⟨ea, eas, rfl⟩ : ∃ a b, as = Exs.cons a b := by
      cases as with
      | nil => cases ha
      | cons a b => exact ⟨a, b, rfl⟩
    have ha' : okE sc nm ea e = true ∧ okEs sc nm eas es = true := by
      have : (okE sc nm ea e && okEs sc nm eas es) = true := ha
      simpa using this
    have key := sndEs B (.cons ea eas) (pos := p) (E := E) ha he hr g hρ h
    rw [star_of_ok ha'.1] at key ⊢
    refine Calls.callWith_function (o := o) (fd := fd) (Calls.evalArgs_plain (wpAny_mono key (fun vs s₁ hv => ?_) fun _ _ e => e))
    obtain ⟨V, σ₁, hq, hvr, he₁⟩ := hv
    refine ⟨⟨he₁.good.keep _ _ ho, hd⟩, ?_⟩
    exact wpAny_mono (hq A s₁ vs E hr he₁.good hvr) (fun _ _ p => PostE.trans he₁ p) fun _ _ e => e
  | .bi f as => by
    rename_i sc nm pe ρ σ s A env L E Q
    intro hok he hr g hρ h
    obtain ⟨x, q, e, es, p, rfl, hg, ha⟩ := inv_bi hok
    obtain ⟨rfl, h2, h3⟩ := okG_of hg
    refine wpAny_Call_NameR (name_built B he g h2 h3 (B.bt f) ?_)
    obtain ⟨ea, eas, rfl⟩ : ∃ a b, as = Exs.cons a b := by
      cases as with
      | nil => cases ha
      | cons a b => exact ⟨a, b, rfl⟩
    have ha' : okE sc nm ea e = true ∧ okEs sc nm eas es = true := by
      have : (okE sc nm ea e && okEs sc nm eas es) = true := ha
      simpa using this
    have hns := noStar_of_ok (env := env) (pos := p) ha
    have key := sndEs B (.cons ea eas) (pos := p) (E := E) ha he hr g hρ h
    rw [star_of_ok ha'.1] at key hns ⊢
    have fin : wpAny (model prog w) A (evalArgs f.val true (backTo p ((false, eval e env) :: starEach es env)) []) (fun a s₁ => wpAny (model prog w) A (call f.val ([] ++ a.pos) a.kw) (PostE hb s σ Q) E s₁) E s := by
      refine Calls.evalArgs_plain (wpAny_mono key (fun vs s₁ hv => ?_) fun _ _ e => e)
      obtain ⟨V, σ₁, hq, hvr, he₁⟩ := hv
      refine wpAny_mono (biP_ok hr he₁.good hq hvr he₁) (fun z s' hz => ?_) fun _ _ e => e
      obtain ⟨V', σ', ⟨r, rfl, hK, rfl⟩, hv', he'⟩ := hz
      exact ⟨_, _, hK, hv', he'⟩
    exact bi_callWith hns f fin
  | .isint a => by
    rename_i sc nm pe ρ σ s A env L E Q
    intro hok he hr g hρ h
    obtain ⟨x, q, e, y, r, p, rfl, hx, hy, ha⟩ := inv_isint hok
    obtain ⟨rfl, h2, h3⟩ := okG_of hx
    obtain ⟨rfl, h4, h5⟩ := okG_of hy
    refine wpAny_Call_NameR (name_built B he g h2 h3 B.isi ?_)
    have e1 : backTo p (starEach [e, .Name (Str.ofString "int") r] env) = [(false, eval e env), (false, eval (.Name (Str.ofString "int") r) env)] := by
      rw [star_of_ok ha]; rfl
    rw [e1]
    refine Calls.callWith_builtin rfl (Calls.evalArgs_plain (Calls.spliced_cons ?_))
    refine postE (sndE B a ha he hr g hρ h) fun v V s₁ σ₁ hq hv he₁ => ?_
    refine Calls.spliced_cons (name_built B he he₁.good h4 h5 (B.bt .int) (Calls.spliced_nil ?_))
    try dsimp only at hq
    split at hq
    · obtain ⟨t, rfl⟩ := RD.int_inv hv
      exact call_isinstance_yes (typeIs_int _ _ _) PyProof.Rows.meta_int (by kernel_rfl) (.mk hq (RD.bool _ _ _) he₁)
    · exact hq.elim
  | .blen a => by
    rename_i sc nm pe ρ σ s A env L E Q
    intro hok he hr g hρ h
    obtain ⟨o, ap, p, rfl, hl, hn, ha⟩ := inv_blen hok
    refine wpAny_Call_method (T := "int") (id := "int.bit_length") (by cases o <;> first | rfl | cases hn) rfl hl F.plainAttrs_int F.slot_int_bit_length F.type_int_bit_length ?_
    refine wpAny_mono (sndE B a ha he hr g hρ h) (fun v s₁ hv => ?_) fun _ _ e => e
    obtain ⟨V, σ₁, hq, hv, he₁⟩ := hv
    try dsimp only at hq
    split at hq
    · obtain ⟨t, rfl⟩ := RD.int_inv hv
      exact ⟨typeIs_int _ _ _, (fun a e => by cases e), callWith_method0 (call_int_bit_length (.mk hq (RD.int _ _ _ _) (he₁.toks _)))⟩
    · exact hq.elim
  | .sub a i => by
    rename_i sc nm pe ρ σ s A env L E Q
    intro hok he hr g hρ h
    obtain ⟨v, k, p, rfl, hn, ha, hi⟩ := inv_sub hok
    refine Subscript_ (postE (sndE B a ha he hr g hρ h) fun v V s₁ σ₁ hq hv he₁ => ?_)
    refine postE (sndE B i hi he hr he₁.good (hρ.step g.rep he₁.kp) hq) fun u U s₂ σ₂ hq2 hu he₂ => ?_
    refine wpAny_mono (subP_ok he₂.good hq2 (he₂.vr he₁.good hv) hu (he₁.trans he₂) hn) (fun z s' hz => ?_) fun _ _ e => e
    obtain ⟨V', σ', ⟨r, rfl, hK, rfl⟩, hv', he'⟩ := hz
    exact ⟨_, _, hK, hv', he'⟩
  | .slto a hi => by
    rename_i sc nm pe ρ σ s A env L E Q
    intro hok he hr g hρ h
    obtain ⟨v, k, q, r, p, rfl, ha⟩ := inv_slto hok
    refine Subscript_ (postE (sndE B a ha he hr g hρ h) fun v V s₁ σ₁ hq hv he₁ => ?_)
    obtain ⟨xs, h1, h2, hK⟩ := hq
    exact slto_ok B he₁ h1 hv h2 hK
  | .slfrom a lo => by
    rename_i sc nm pe ρ σ s A env L E Q
    intro hok he hr g hρ h
    obtain ⟨v, k, q, r, p, rfl, ha⟩ := inv_slfrom hok
    refine Subscript_ (postE (sndE B a ha he hr g hρ h) fun v V s₁ σ₁ hq hv he₁ => ?_)
    obtain ⟨xs, h1, h2, hK⟩ := hq
    exact slfrom_ok B he₁ h1 hv h2 hK
  | .tab a => by
    rename_i sc nm pe ρ σ s A env L E Q
    intro hok he hr g hρ h
    obtain ⟨x, q, k, p, rfl, hx, hn, ha⟩ := inv_tab hok
    obtain ⟨rfl, h2, h3⟩ := okG_of hx
    obtain ⟨b, hb1, hb2⟩ := B.tb
    refine Subscript_ (name_glob B he g h2 h3 hb1 ?_)
    refine postE (sndE B a ha he hr g hρ h) fun u U s₂ σ₂ hq2 hu he₂ => ?_
    try dsimp only at hq2
    split at hq2
    · obtain ⟨t, rfl⟩ := RD.str_inv hu
      obtain ⟨d, hd, hK⟩ := hq2
      exact tab_ok B hd hb2 he₂.good he₂ hn hK
    · exact hq2.elim
  | .tup es => by
    rename_i sc nm pe ρ σ s A env L E Q
    intro hok he hr g hρ h
    obtain ⟨vs, k, p, rfl, ha⟩ := inv_tup hok
    refine PyProof.Rows.Tuple_ (wpAny_mono (sndEs B es ha he hr g hρ h) (fun vs s₁ hv => ?_) fun _ _ e => e)
    obtain ⟨V, σ₁, ⟨xs, h1, h2, hq⟩, hvr, he₁⟩ := hv
    exact newTuple_ok B he₁ (hvr.datas h1) h2 hq
  | .lst es => by
    rename_i sc nm pe ρ σ s A env L E Q
    intro hok he hr g hρ h
    obtain ⟨vs, p, rfl, ha⟩ := inv_lst hok
    refine PyProof.Rows.List_ (wpAny_mono (sndEs B es ha he hr g hρ h) (fun vs s₁ hv => ?_) fun _ _ e => e)
    obtain ⟨V, σ₁, ⟨xs, h1, h2, hq⟩, hvr, he₁⟩ := hv
    exact newList_ok B he₁ (hvr.datas h1) h2 hq
  | .comp1 elt it => by
    rename_i sc nm pe ρ σ s A env L E Q
    intro hok he hr g hρ h
    obtain ⟨e, x, q, pi, sc', p, rfl, hcs, helt, hx, hit⟩ := inv_comp1 hok
    obtain ⟨hk, hf, hc, hl⟩ := compScope_of hcs
    refine wpAny_ListComp hf hk hl (postE (sndE B it hit he hr g hρ h) fun v V s₁ σ₁ hq hv he₁ => ?_) (folded_ok hit env)
    obtain ⟨xs, h1, h2, FF, h3, hK⟩ := hq
    refine comp_whole hr.1 he₁.good hv h1 h2 hc hk (fun C => turn1 (sndE B elt) hr he hk helt hx h3) ?_
    rintro D C s' m hC hD hn hfin
    exact ⟨m, hn, fun h'' hs'' => let ⟨r1, r2⟩ := hfin h'' hs''; .mk hK r1 (he₁.trans r2)⟩
  | .comp2 elt it => by
    rename_i sc nm pe ρ σ s A env L E Q
    intro hok he hr g hρ h
    obtain ⟨e, x, y, q, r, k, t, pi, sc', p, rfl, hcs, helt, hx, hy, hxy, hit⟩ := inv_comp2 hok
    obtain ⟨hk, hf, hc, hl⟩ := compScope_of hcs
    refine wpAny_ListComp hf hk hl (postE (sndE B it hit he hr g hρ h) fun v V s₁ σ₁ hq hv he₁ => ?_) (folded_ok hit env)
    obtain ⟨xs, h1, h2, FF, h3, hK⟩ := hq
    refine comp_whole hr.1 he₁.good hv h1 h2 hc hk (fun C => turn2 (sndE B elt) hr he hk helt hx hy hxy h3) ?_
    rintro D C s' m hC hD hn hfin
    exact ⟨m, hn, fun h'' hs'' => let ⟨r1, r2⟩ := hfin h'' hs''; .mk hK r1 (he₁.trans r2)⟩
theorem sndEs (B : Bs hb mg mb fa) : ∀ e : Exs, SndEs prog w hb fa n e
  | .nil => by
    rename_i sc nm pe ρ σ s A env L E Q pos
    intro hok he hr g hρ h
    cases pe with
    | nil => exact wpAny_pure ⟨[], σ, h, trivial, .refl g⟩
    | cons _ _ => cases hok
  | .cons e es => by
    rename_i sc nm pe ρ σ s A env L E Q pos
    intro hok he hr g hρ h
    cases pe with
    | nil => cases hok
    | cons x xs =>
      have hok' : (okE sc nm e x && okEs sc nm es xs) = true := hok
      simp only [Bool.and_eq_true] at hok'
      rw [star_of_ok hok'.1]
      refine Calls.spliced_cons (postE (sndE B e hok'.1 he hr g hρ h) fun v V s₁ σ₁ hq hv he₁ => ?_)
      refine wpAny_mono (sndEs B es hok'.2 he hr he₁.good (hρ.step g.rep he₁.kp) hq) (fun vs s₂ hv2 => ?_) fun _ _ e => e
      obtain ⟨Vs, σ₂, hq2, hvs, he₂⟩ := hv2
      exact ⟨_, _, hq2, ⟨he₂.vr he₁.good hv, hvs⟩, he₁.trans he₂⟩
theorem sndB (B : Bs hb mg mb fa) : ∀ e : Exs, SndB prog w hb fa n e
  | .nil => by
    rename_i sc nm pe ρ σ s A env L E Q pos op
    intro hok he hr g hρ h
    exact h.elim
  | .cons e .nil => by
    rename_i sc nm pe ρ σ s A env L E Q pos op
    intro hok he hr g hρ h
    match pe, hok with
    | [x], hok =>
      have hok' : (okE sc nm e x && true) = true := hok
      simp only [Bool.and_true] at hok'
      exact sndE B e hok' he hr g hρ h
    | [], hok => cases hok
    | x :: y :: xs, hok =>
      have hok' : (okE sc nm e x && false) = true := hok
      simp at hok'
  | .cons e (.cons e' es) => by
    rename_i sc nm pe ρ σ s A env L E Q pos op
    intro hok he hr g hρ h
    match pe, hok with
    | x :: y :: xs, hok =>
      have hok' : (okE sc nm e x && okEs sc nm (.cons e' es) (y :: xs)) = true := hok
      simp only [Bool.and_eq_true] at hok'
      refine wpAny_bool1 (postE (sndE B e hok'.1 he hr g hρ h) fun v V s₁ σ₁ hq hv he₁ => ?_)
      refine wpAny_mono (truthP_ok hq hv) (fun t s₂ ht => ?_) fun _ _ e => e
      obtain ⟨⟨k1, k2⟩, rfl⟩ := ht
      refine ⟨fun e => ?_, fun e => .mk (k2 e) hv he₁⟩
      exact wpAny_mono (sndB B (.cons e' es) hok'.2 he hr he₁.good (hρ.step g.rep he₁.kp) (k1 e)) (fun _ _ p => PostE.trans he₁ p) fun _ _ e => e
    | [], hok => cases hok
    | [x], hok =>
      have hok' : (okE sc nm e x && false) = true := hok
      simp at hok'
theorem sndT (B : Bs hb mg mb fa) : ∀ e : Ex, SndT prog w hb fa n e
  | .nt a => by
    rename_i sc nm pe ρ σ s A env L E K Q
    intro hok he hr g hρ h hQ
    obtain ⟨x, p, rfl, ha⟩ := inv_nt hok
    exact wpAny_isTrue_Not (sndT B a (K := fun b => K (!b)) ha he hr g hρ h fun v σ₁ hv => TruthP_mono hv fun b hb1 => hQ _ _ hb1)
  | .bool op es => by
    rename_i sc nm pe ρ σ s A env L E K Q
    intro hok he hr g hρ h hQ
    obtain ⟨vs, p, rfl, ha⟩ := inv_bool hok
    exact wpAny_isTrue_BoolOp (sndTs B es ha he hr g hρ h hQ)
  | .ife c a b => by
    rename_i sc nm pe ρ σ s A env L E K Q
    intro hok he hr g hρ h hQ
    obtain ⟨t, x, y, p, rfl, hc, ha, hb'⟩ := inv_ife hok
    rw [arm_isTrue_IfExp]
    refine wpAny_bind (wpAny_mono (sndT B c (K := fun t σ₁ => (t = true → wpE (CallOK prog w hb fa n) ρ a σ₁ Q) ∧ (t = false → wpE (CallOK prog w hb fa n) ρ b σ₁ Q)) hc he hr g hρ h fun _ _ x => x) (fun b s₁ hb1 => ?_) fun _ _ e => e)
    obtain ⟨σ₁, ⟨k1, k2⟩, he₁⟩ := hb1
    have hρ₁ := hρ.step g.rep he₁.kp
    cases b with
    | true => exact wpAny_mono (sndT B a ha he hr he₁.good hρ₁ (k1 rfl) hQ) (fun _ _ ⟨σ', k, e⟩ => ⟨σ', k, he₁.trans e⟩) fun _ _ e => e
    | false => exact wpAny_mono (sndT B _ hb' he hr he₁.good hρ₁ (k2 rfl) hQ) (fun _ _ ⟨σ', k, e⟩ => ⟨σ', k, he₁.trans e⟩) fun _ _ e => e
  | .cmp op a b => by
    rename_i sc nm pe ρ σ s A env L E K Q
    intro hok he hr g hρ h hQ
    obtain ⟨l, r, p, rfl, hm, ha, hb'⟩ := inv_cmp hok
    refine wpAny_isTrue_Compare1 (postE (sndE B a ha he hr g hρ h) fun v V s₁ σ₁ hq hv he₁ => ?_) hm
    refine postE (sndE B b hb' he hr he₁.good (hρ.step g.rep he₁.kp) hq) fun u U s₂ σ₂ hq2 hu he₂ => ?_
    refine wpAny_mono (cmpP_ok hr hq2 (he₂.vr he₁.good hv) hu) (fun z s' hz => ?_) fun _ _ e => e
    obtain ⟨⟨r, rfl, hK⟩, rfl⟩ := hz
    exact wpAny_truthy_bool ⟨σ₂, hQ _ _ hK, he₁.trans he₂⟩
  | .cst c => sndV B (.cst c) (fun h => by obtain ⟨k, j, p, rfl, hc⟩ := inv_cst h; rfl) (sndE B (.cst c))
  | .loc i => sndV B (.loc i) (fun h => by obtain ⟨x, p, rfl, hc⟩ := inv_loc h; rfl) (sndE B (.loc i))
  | .glb i => sndV B (.glb i) (fun h => by obtain ⟨x, p, q, rfl, hi, hc⟩ := inv_glb h; rfl) (sndE B (.glb i))
  | .bin op a b => sndV B (.bin op a b) (fun h => by obtain ⟨l, r, p, rfl, ha, hb'⟩ := inv_bin h; rfl) (sndE B (.bin op a b))
  | .neg a => sndV B (.neg a) (fun h => by obtain ⟨x, p, rfl, ha⟩ := inv_neg h; rfl) (sndE B (.neg a))
  | .call f as => sndV B (.call f as) (fun h => by obtain ⟨x, q, e, es, p, nn, rfl, hf, hg, ha⟩ := inv_call h; rfl) (sndE B (.call f as))
  | .bi f as => sndV B (.bi f as) (fun h => by obtain ⟨x, q, e, es, p, rfl, hg, ha⟩ := inv_bi h; rfl) (sndE B (.bi f as))
  | .isint a => sndV B (.isint a) (fun h => by obtain ⟨x, q, e, y, r, p, rfl, hx, hy, ha⟩ := inv_isint h; rfl) (sndE B (.isint a))
  | .blen a => sndV B (.blen a) (fun h => by obtain ⟨o, ap, p, rfl, hl, hn, ha⟩ := inv_blen h; rfl) (sndE B (.blen a))
  | .sub a i => sndV B (.sub a i) (fun h => by obtain ⟨v, k, p, rfl, hn, ha, hi⟩ := inv_sub h; rfl) (sndE B (.sub a i))
  | .slto a hi => sndV B (.slto a hi) (fun h => by obtain ⟨v, k, q, r, p, rfl, ha⟩ := inv_slto h; rfl) (sndE B (.slto a hi))
  | .slfrom a lo => sndV B (.slfrom a lo) (fun h => by obtain ⟨v, k, q, r, p, rfl, ha⟩ := inv_slfrom h; rfl) (sndE B (.slfrom a lo))
  | .tab a => sndV B (.tab a) (fun h => by obtain ⟨x, q, k, p, rfl, hx, hn, ha⟩ := inv_tab h; rfl) (sndE B (.tab a))
  | .tup es => sndV B (.tup es) (fun h => by obtain ⟨vs, k, p, rfl, ha⟩ := inv_tup h; rfl) (sndE B (.tup es))
  | .lst es => sndV B (.lst es) (fun h => by obtain ⟨vs, p, rfl, ha⟩ := inv_lst h; rfl) (sndE B (.lst es))
  | .comp1 elt it => sndV B (.comp1 elt it) (fun h => by obtain ⟨e, x, q, pi, sc', p, rfl, _⟩ := inv_comp1 h; rfl) (sndE B (.comp1 elt it))
  | .comp2 elt it => sndV B (.comp2 elt it) (fun h => by obtain ⟨e, x, y, q, r, k, t, pi, sc', p, rfl, _⟩ := inv_comp2 h; rfl) (sndE B (.comp2 elt it))
theorem sndTs (B : Bs hb mg mb fa) : ∀ e : Exs, SndTs prog w hb fa n e
  | .nil => by
    rename_i sc nm pe ρ σ s A env L E K Q op
    intro hok he hr g hρ h hQ
    exact h.elim
  | .cons e .nil => by
    rename_i sc nm pe ρ σ s A env L E K Q op
    intro hok he hr g hρ h hQ
    match pe, hok with
    | [x], hok =>
      have hok' : (okE sc nm e x && true) = true := hok
      simp only [Bool.and_true] at hok'
      have key := sndT B e (E := E) (K := K) hok' he hr g hρ h hQ
      cases op with
      | And => exact wpAny_allTrue_And_cons (wpAny_mono key (fun b s₁ ⟨σ', k, e⟩ => by cases b <;> first | exact ⟨σ', k, e⟩ | exact wpAny_allTrue_And_nil ⟨σ', k, e⟩) fun _ _ e => e)
      | Or => exact wpAny_allTrue_Or_cons (wpAny_mono key (fun b s₁ ⟨σ', k, e⟩ => by cases b <;> first | exact ⟨σ', k, e⟩ | exact wpAny_allTrue_Or_nil ⟨σ', k, e⟩) fun _ _ e => e)
    | [], hok => cases hok
    | x :: y :: xs, hok =>
      have hok' : (okE sc nm e x && false) = true := hok
      simp at hok'
  | .cons e (.cons e' es) => by
    rename_i sc nm pe ρ σ s A env L E K Q op
    intro hok he hr g hρ h hQ
    match pe, hok with
    | x :: y :: xs, hok =>
      have hok' : (okE sc nm e x && okEs sc nm (.cons e' es) (y :: xs)) = true := hok
      simp only [Bool.and_eq_true] at hok'
      have key := sndT B e (E := E) (K := fun t σ₁ => (t = (op == .And) → wpB (CallOK prog w hb fa n) ρ op (.cons e' es) σ₁ Q) ∧ (t = (op == .Or) → K t σ₁)) hok'.1 he hr g hρ h
        (fun v σ₁ hv => TruthP_and (TruthP_mono hv fun b hb1 => ⟨hb1.1, fun e => hQ _ _ (hb1.2 e)⟩))
      have go : ∀ s₁ σ₁, Ev hb s σ s₁ σ₁ → wpB (CallOK prog w hb fa n) ρ op (.cons e' es) σ₁ Q → wpAny (model prog w) A (allTrue op (y :: xs) env) (fun b s' => ∃ σ', K b σ' ∧ Ev hb s σ s' σ') E s₁ :=
        fun s₁ σ₁ he₁ hw => wpAny_mono (sndTs B (.cons e' es) hok'.2 he hr he₁.good (hρ.step g.rep he₁.kp) hw hQ) (fun _ _ ⟨σ', k, e⟩ => ⟨σ', k, he₁.trans e⟩) fun _ _ e => e
      cases op with
      | And => exact wpAny_allTrue_And_cons (wpAny_mono key (fun b s₁ ⟨σ₁, ⟨k1, k2⟩, he₁⟩ => by
          cases b with
          | true => exact go s₁ σ₁ he₁ (k1 rfl)
          | false => exact ⟨σ₁, k2 rfl, he₁⟩) fun _ _ e => e)
      | Or => exact wpAny_allTrue_Or_cons (wpAny_mono key (fun b s₁ ⟨σ₁, ⟨k1, k2⟩, he₁⟩ => by
          cases b with
          | true => exact ⟨σ₁, k2 rfl, he₁⟩
          | false => exact go s₁ σ₁ he₁ (k1 rfl)) fun _ _ e => e)
    | [], hok => cases hok
    | [x], hok =>
      have hok' : (okE sc nm e x && false) = true := hok
      simp at hok'
end
end

-- M13
/-! what the checker says of a statement -/
section
variable {sc : Scope} {nm : List Str}
theorem invS_asg {i e} {ps : Stmt} (h : okS sc nm (.asg i e) ps = true) : ∃ x q v p, ps = .Assign [.Name x q] v p ∧ okL sc nm i x = true ∧ notComp v = true ∧ okE sc nm e v = true := by
  cases ps <;> first | cases h | skip
  rename_i ts v p
  match ts, h with
  | [.Name x q], h =>
    have h' : (okL sc nm i x && notComp v && okE sc nm e v) = true := h
    simp only [Bool.and_eq_true] at h'
    exact ⟨x, q, v, p, rfl, h'.1.1, h'.1.2, h'.2⟩
  | [], h => cases h
  | t :: u :: ts, h => exfalso; cases t <;> cases h
  | [t], h =>
    cases t <;> first | cases h | skip
    rename_i x q
    have h' : (okL sc nm i x && notComp v && okE sc nm e v) = true := h
    simp only [Bool.and_eq_true] at h'
    exact ⟨x, q, v, p, rfl, h'.1.1, h'.1.2, h'.2⟩
theorem invS_asg2 {i j e} {ps : Stmt} (h : okS sc nm (.asg2 i j e) ps = true) : ∃ x q y r v p, ps = .Assign [.Name x q, .Name y r] v p ∧ okL sc nm i x = true ∧ okL sc nm j y = true ∧ okE sc nm e v = true := by
  cases ps <;> first | cases h | skip
  rename_i ts v p
  match ts, h with
  | [], h => cases h
  | [t], h => exfalso; cases t <;> cases h
  | [t, u], h =>
    cases t <;> first | cases h | skip
    rename_i x q
    cases u <;> first | cases h | skip
    rename_i y r
    have h' : (okL sc nm i x && okL sc nm j y && okE sc nm e v) = true := h
    simp only [Bool.and_eq_true] at h'
    exact ⟨x, q, y, r, v, p, rfl, h'.1.1, h'.1.2, h'.2⟩
  | t :: u :: w :: ts, h => exfalso; cases t <;> first | cases h | (cases u <;> cases h)
theorem invS_asgc {i elt it} {ps : Stmt} (h : okS sc nm (.asgc i elt it) ps = true) : ∃ y py e x q pi sc' lp p, ps = .Assign [.Name y py] (.ListComp e [⟨.Name x q, pi, [], 0⟩] sc' lp) p ∧ okL sc nm i y = true ∧ (py.line == lp.line) = true ∧
    (sc'.names.any fun p => p.1 == y && (p.2 == .local || p.2 == .cell)) = false ∧ compScope sc' = true ∧ okE sc' [x] elt e = true ∧ sc'.names.lookup x = some .local ∧ okE sc nm it pi = true := by
  cases ps <;> first | cases h | skip
  rename_i ts v p
  match ts, h with
  | [], h => cases h
  | t :: u :: ts, h => exfalso; cases t <;> cases h
  | [t], h =>
    cases t <;> first | cases h | skip
    rename_i y py
    cases v <;> first | cases h | skip
    rename_i e gs sc' lp _
    have h' : (match compGen1 gs with
      | some (x, pi) => okL sc nm i y && py.line == lp.line && !(sc'.names.any fun p => p.1 == y && (p.2 == .local || p.2 == .cell)) &&
        compScope sc' && okE sc' [x] elt e && sc'.names.lookup x == some .local && okE sc nm it pi
      | none => false) = true := h
    split at h'
    · rename_i x pi hg
      obtain ⟨q, rfl⟩ := compGen1_inv hg
      simp only [Bool.and_eq_true, Bool.not_eq_true', beq_iff_eq] at h'
      obtain ⟨⟨⟨⟨⟨⟨h1, h2⟩, h3⟩, h4⟩, h5⟩, h6⟩, h7⟩ := h'
      exact ⟨y, py, e, x, q, pi, sc', lp, p, rfl, h1, by simpa using h2, h3, h4, h5, h6, h7⟩
    · cases h'
theorem invS_unp {js e} {ps : Stmt} (h : okS sc nm (.unp js e) ps = true) : ∃ ts k q v p, ps = .Assign [.Tuple ts k q] v p ∧ notTup v = true ∧ okJs sc nm js ts = true ∧ js.length = ts.length ∧ okE sc nm e v = true := by
  cases ps <;> first | cases h | skip
  rename_i ts v p
  match ts, h with
  | [], h => cases h
  | t :: u :: ts, h => exfalso; cases t <;> cases h
  | [t], h =>
    cases t <;> first | cases h | skip
    rename_i ts k q
    have h' : (notTup v && okJs sc nm js ts && js.length == ts.length && okE sc nm e v) = true := h
    simp only [Bool.and_eq_true, beq_iff_eq] at h'
    exact ⟨ts, k, q, v, p, rfl, h'.1.1.1, h'.1.1.2, h'.1.2, h'.2⟩
theorem invS_unps {js es} {ps : Stmt} (h : okS sc nm (.unps js es) ps = true) : ∃ ts k q vs k' q' p, ps = .Assign [.Tuple ts k q] (.Tuple vs k' q') p ∧ okJs sc nm js ts = true ∧ swapChk sc ts vs = true ∧ okEs sc nm es vs = true := by
  cases ps <;> first | cases h | skip
  rename_i ts v p
  match ts, h with
  | [], h => cases h
  | t :: u :: ts, h => exfalso; cases t <;> cases h
  | [t], h =>
    cases t <;> first | cases h | skip
    rename_i ts k q
    cases v <;> first | cases h | skip
    rename_i vs k' q' _
    have h' : (okJs sc nm js ts && swapChk sc ts vs && okEs sc nm es vs) = true := h
    simp only [Bool.and_eq_true] at h'
    exact ⟨ts, k, q, vs, k', q', p, rfl, h'.1.1, h'.1.2, h'.2⟩
theorem invS_seti {a i e} {ps : Stmt} (h : okS sc nm (.seti a i e) ps = true) : ∃ o k q v p, ps = .Assign [.Subscript o k q] v p ∧ notComp v = true ∧ notSlice k = true ∧ okE sc nm a o = true ∧ okE sc nm i k = true ∧ okE sc nm e v = true := by
  cases ps <;> first | cases h | skip
  rename_i ts v p
  match ts, h with
  | [], h => cases h
  | t :: u :: ts, h => exfalso; cases t <;> cases h
  | [t], h =>
    cases t <;> first | cases h | skip
    rename_i o k q
    have h' : (notComp v && notSlice k && okE sc nm a o && okE sc nm i k && okE sc nm e v) = true := h
    simp only [Bool.and_eq_true] at h'
    exact ⟨o, k, q, v, p, rfl, h'.1.1.1.1, h'.1.1.1.2, h'.1.1.2, h'.1.2, h'.2⟩
theorem invS_aug {i op e} {ps : Stmt} (h : okS sc nm (.aug i op e) ps = true) : ∃ x q v p, ps = .AugAssign (.Name x q) op v p ∧ okL sc nm i x = true ∧ okE sc nm e v = true := by
  cases ps <;> first | cases h | skip
  rename_i t o v p
  cases t <;> first | cases h | skip
  rename_i x q
  have h' : (op == o && okL sc nm i x && okE sc nm e v) = true := h
  simp only [Bool.and_eq_true, beq_iff_eq] at h'
  obtain ⟨⟨rfl, h1⟩, h2⟩ := h'
  exact ⟨x, q, v, p, rfl, h1, h2⟩
theorem invS_app {i e} {ps : Stmt} (h : okS sc nm (.app i e) ps = true) : ∃ x r ap v q p, ps = .Expr (.Call (.Attribute (.Name x r) (Str.ofString "append") ap) [v] [] q) p ∧ (ap.endLine == q.line) = true ∧ okL sc nm i x = true ∧ okE sc nm e v = true := by
  cases ps <;> first | cases h | skip
  rename_i c p
  cases c <;> first | cases h | skip
  rename_i f args kw q
  cases f <;> first | cases h | skip
  rename_i o n ap
  cases o <;> first | cases h | skip
  rename_i x r
  match args, kw, h with
  | [], _, h => cases h
  | _ :: _ :: _, _, h => cases h
  | [v], _ :: _, h => cases h
  | [v], [], h =>
    have h' : (n == Str.ofString "append" && ap.endLine == q.line && okL sc nm i x && okE sc nm e v) = true := h
    simp only [Bool.and_eq_true] at h'
    obtain ⟨⟨⟨h1, h2⟩, h3⟩, h4⟩ := h'
    obtain rfl := eq_of_beq h1
    exact ⟨x, r, ap, v, q, p, rfl, h2, h3, h4⟩
theorem invS_ite {c t f} {ps : Stmt} (h : okS sc nm (.ite c t f) ps = true) : ∃ pc pt pf p, ps = .If pc pt pf p ∧ okE sc nm c pc = true ∧ okSs sc nm t pt = true ∧ okSs sc nm f pf = true := by
  cases ps <;> first | cases h | skip
  rename_i pc pt pf p
  have h' : (okE sc nm c pc && okSs sc nm t pt && okSs sc nm f pf) = true := h
  simp only [Bool.and_eq_true] at h'
  exact ⟨pc, pt, pf, p, rfl, h'.1.1, h'.1.2, h'.2⟩
theorem invS_whl {c b} {ps : Stmt} (h : okS sc nm (.whl c b) ps = true) : ∃ pc pb p, ps = .While pc pb [] p ∧ okE sc nm c pc = true ∧ okSs sc nm b pb = true := by
  cases ps <;> first | cases h | skip
  rename_i pc pb oe p
  cases oe <;> first | cases h | skip
  have h' : (okE sc nm c pc && okSs sc nm b pb) = true := h
  simp only [Bool.and_eq_true] at h'
  exact ⟨pc, pb, p, rfl, h'.1, h'.2⟩
theorem invS_forl {i it b} {ps : Stmt} (h : okS sc nm (.forl i it b) ps = true) : ∃ x q pi pb p, ps = .For (.Name x q) pi pb [] p ∧ okL sc nm i x = true ∧ okE sc nm it pi = true ∧ okSs sc nm b pb = true := by
  cases ps <;> first | cases h | skip
  rename_i t pi pb oe p
  cases t <;> first | cases h | skip
  rename_i x q
  cases oe <;> first | (exfalso; revert h; cases pi <;> intro h <;> cases h; done) | skip
  have h' : (okL sc nm i x && okE sc nm it pi && okSs sc nm b pb) = true := by cases pi <;> exact h
  simp only [Bool.and_eq_true] at h'
  exact ⟨x, q, pi, pb, p, rfl, h'.1.1, h'.1.2, h'.2⟩
theorem invS_forr {i n b} {ps : Stmt} (h : okS sc nm (.forr i n b) ps = true) : ∃ x q r r' e cp pb p, ps = .For (.Name x q) (.Call (.Name r r') [e] [] cp) pb [] p ∧ okG sc (Str.ofString "range") r = true ∧ okL sc nm i x = true ∧ okE sc nm n e = true ∧ okSs sc nm b pb = true := by
  cases ps <;> first | cases h | skip
  rename_i t pi pb oe p
  cases t <;> first | cases h | skip
  rename_i x q
  cases pi <;> first | cases h | skip
  rename_i f args kw cp
  cases f <;> first | cases h | skip
  rename_i r r'
  match args, kw, oe, h with
  | [], _, _, h => cases h
  | _ :: _ :: _, _, _, h => cases h
  | [v], _ :: _, _, h => cases h
  | [e], [], _ :: _, h => cases h
  | [e], [], [], h =>
    have h' : (okG sc (Str.ofString "range") r && okL sc nm i x && okE sc nm n e && okSs sc nm b pb) = true := h
    simp only [Bool.and_eq_true] at h'
    exact ⟨x, q, r, r', e, cp, pb, p, rfl, h'.1.1.1, h'.1.1.2, h'.1.2, h'.2⟩
theorem invS_ret {e} {ps : Stmt} (h : okS sc nm (.ret e) ps = true) : ∃ v p, ps = .Return (some v) p ∧ okE sc nm e v = true := by
  cases ps <;> first | cases h | skip
  rename_i v p
  cases v <;> first | cases h | skip
  exact ⟨_, _, rfl, h⟩
theorem invS_asrt {e} {ps : Stmt} (h : okS sc nm (.asrt e) ps = true) : ∃ t p, ps = .Assert t none p ∧ okE sc nm e t = true := by
  cases ps <;> first | cases h | skip
  rename_i t m p
  cases m <;> first | cases h | skip
  exact ⟨_, _, rfl, h⟩
end

-- M14
structure EvL (hb : Heap) (L : Addr) (s : Shared) (σ : St) (s' : Shared) (σ' : St) : Prop where
  sh : ∃ h' tk, s' = { s with heap := h', toks := tk }
  good : Good hb s'.heap σ'
  kp : Kp (AtX L) s.heap σ s'.heap σ'

theorem EvL.refl {hb : Heap} {L : Addr} {s : Shared} {σ : St} (g : Good hb s.heap σ) : EvL hb L s σ s σ := ⟨⟨s.heap, s.toks, rfl⟩, g, .refl _ _ _⟩
theorem EvL.trans {hb : Heap} {L : Addr} {s₀ s₁ s₂ : Shared} {σ₀ σ₁ σ₂ : St} (x : EvL hb L s₀ σ₀ s₁ σ₁) (y : EvL hb L s₁ σ₁ s₂ σ₂) : EvL hb L s₀ σ₀ s₂ σ₂ := by
  obtain ⟨h1, t1, e1⟩ := x.sh
  obtain ⟨h2, t2, e2⟩ := y.sh
  exact ⟨⟨h2, t2, by rw [e2, e1]⟩, y.good, x.kp.trans y.kp⟩
theorem Ev.toL {hb : Heap} {L : Addr} {s₀ s₁ : Shared} {σ₀ σ₁ : St} (x : Ev hb s₀ σ₀ s₁ σ₁) : EvL hb L s₀ σ₀ s₁ σ₁ := ⟨x.sh, x.good, x.kp.ofNo⟩

def PostS (hb : Heap) (L : Addr) (nm : List Str) (s : Shared) (σ : St) (Q : List (Option V) → St → Prop) (R : V → St → Prop) (f : Flow) (s' : Shared) : Prop := match f with
  | .next => ∃ ρ' σ', Q ρ' σ' ∧ RhoOK s'.heap σ' L nm ρ' ∧ EvL hb L s σ s' σ'
  | .ret v => ∃ V σ', R V σ' ∧ VR s'.heap σ' v V ∧ EvL hb L s σ s' σ'
  | _ => False

theorem PostS.trans {hb : Heap} {L : Addr} {nm : List Str} {s s₁ : Shared} {σ σ₁ : St} {Q : List (Option V) → St → Prop} {R : V → St → Prop} {f : Flow} {s' : Shared} (x : EvL hb L s σ s₁ σ₁) (p : PostS hb L nm s₁ σ₁ Q R f s') : PostS hb L nm s σ Q R f s' := by
  cases f with
  | next => obtain ⟨a, b, c, d, e⟩ := p; exact ⟨a, b, c, d, x.trans e⟩
  | ret v => obtain ⟨a, b, c, d, e⟩ := p; exact ⟨a, b, c, d, x.trans e⟩
  | _ => exact p

section
variable {prog : Program} {w : World} {hb : Heap} {mg mb : Str → Option Value} {fa : Nat → Addr} {n : Nat}
variable {sc : Scope} {nm : List Str} {A : Around} {env : Env} {L : Addr} {E : Value → Shared → Prop}

theorem nodup_get {nm : List Str} (hd : nm.Nodup) {i j : Nat} {x : Str} (h1 : nm[i]? = some x) (h2 : nm[j]? = some x) : i = j := by
  obtain ⟨hi, e1⟩ := List.getElem?_eq_some_iff.mp h1
  obtain ⟨hj, e2⟩ := List.getElem?_eq_some_iff.mp h2
  have P := List.pairwise_iff_getElem.mp hd
  rcases Nat.lt_trichotomy i j with hij | hij | hij
  · exact absurd (e1.trans e2.symm) (P i j hi hj hij)
  · exact hij
  · exact absurd (e2.trans e1.symm) (P j i hj hi hij)

/-- a value is bound to a local name -/
theorem store_ok {s : Shared} {σ : St} {ρ : List (Option V)} {x : Str} {i : Nat} {v : Value} {y : V} (he : EnvOK env sc L) (hd : nm.Nodup) (hL : hb.get? L = none) (g : Good hb s.heap σ) (hρ : RhoOK s.heap σ L nm ρ)
    (hi : nm[i]? = some x) (hx : sc.names.lookup x = some .local) (hv : VR s.heap σ v y) :
    wpAny (model prog w) A (storeName env x v) (fun _ s' => RhoOK s'.heap σ L nm (rs ρ i y) ∧ EvL hb L s σ s' σ) E s := by
  obtain ⟨m, hn, hm⟩ := hρ
  refine wpAny_storeName_local (m := m) (by show env.scope.names.lookup x = _; rw [he.scp]; exact hx) (by rw [he.loc]; exact hn) (fun h' hn' hs' => ?_) (by rw [he.scp, he.kind]; rfl)
  rw [he.loc] at hn' hs'
  obtain ⟨g2, kr2, hσL⟩ := g.ext hs'.extBut (.ns hn) (let ⟨o, _, _, ho, _⟩ := hn; ⟨o, ho⟩) hL
  refine ⟨⟨_, hn', fun j u hj => ?_⟩, ⟨⟨h', s.toks + 1, rfl⟩, g2, kpAt_store hs' hn'⟩⟩
  rcases rg_rs ρ i j y hj with ⟨rfl, rfl⟩ | ⟨hne, hj'⟩
  · exact ⟨x, v, hi, by simp, hv.step kr2 (.ns hn) g.rep.listAt⟩
  · obtain ⟨z, u', h1, h2, h3⟩ := hm j u hj'
    refine ⟨z, u', h1, ?_, h3.step kr2 (.ns hn) g.rep.listAt⟩
    have : z ≠ x := by rintro rfl; exact hne (nodup_get hd h1 hi)
    simp [this, h2]

theorem EvL.vr {s₀ s₁ : Shared} {σ₀ σ₁ : St} (x : EvL hb L s₀ σ₀ s₁ σ₁) (g : Good hb s₀.heap σ₀) {ρ : List (Option V)} (hρ : RhoOK s₀.heap σ₀ L nm ρ) {v : Value} {y : V} (r : VR s₀.heap σ₀ v y) : VR s₁.heap σ₁ v y :=
  r.step x.kp.toKr hρ.ns g.rep.listAt
theorem EvL.vrs {s₀ s₁ : Shared} {σ₀ σ₁ : St} (x : EvL hb L s₀ σ₀ s₁ σ₁) (g : Good hb s₀.heap σ₀) {ρ : List (Option V)} (hρ : RhoOK s₀.heap σ₀ L nm ρ) {v : List Value} {y : List V} (r : VRs s₀.heap σ₀ v y) : VRs s₁.heap σ₁ v y :=
  r.step x.kp.toKr hρ.ns g.rep.listAt

theorem swaps_not {v : Expr} (h : notComp v = true) (t : Option Expr) (l : Nat) (env : Env) : swapsWith v t l env = pure false := by
  cases v <;> first | rfl | cases h
theorem notComp_of_tup {v : Expr} (h : notTup v = true) : notComp v = true := by
  cases v <;> first | rfl | cases h
theorem swapped_none {ts : List Expr} {k : Nat} {q : Pos} {v : Expr} (h : notTup v = true) (env : Env) : swappedStores [.Tuple ts k q] v env = pure none := by
  cases v <;> first | rfl | cases h

/-- the names of a tuple target, in order -/
theorem assigns_ok (he : EnvOK env sc L) (hd : nm.Nodup) (hL : hb.get? L = none) : ∀ (js : List Nat) (ts : List Expr) (vs : List Value) (xs : List PyData) (s : Shared) (σ : St) (ρ : List (Option V)), okJs sc nm js ts = true → js.length = xs.length → Good hb s.heap σ → RhoOK s.heap σ L nm ρ →
    RDs s.heap σ vs xs → wpAny (model prog w) A (assignInOrder ((assignEach ts env).map (·.2)) vs) (fun _ s' => RhoOK s'.heap σ L nm (rsAll ρ js xs) ∧ EvL hb L s σ s' σ) E s
  | [], [], [], [], s, σ, ρ, _, _, g, hρ, _ => wpAny_pure ⟨hρ, .refl g⟩
  | [], [], _ :: _, [], _, _, _, _, _, _, _, r => by obtain ⟨_, r, _⟩ := r; cases r
  | [], [], _, _ :: _, _, _, _, _, h, _, _, _ => by cases h
  | [], _ :: _, _, _, _, _, _, h, _, _, _, _ => by cases h
  | _ :: _, [], _, _, _, _, _, h, _, _, _, _ => by cases h
  | j :: js, t :: ts, _, [], _, _, _, _, h, _, _, _ => by cases h
  | j :: js, t :: ts, [], _ :: _, _, _, _, _, _, _, _, r => by obtain ⟨_, r, _⟩ := r; cases r
  | j :: js, t :: ts, v :: vs, x :: xs, s, σ, ρ, hok, hlen, g, hρ, r => by
    cases t <;> first | cases hok | skip
    rename_i y p
    have hok' : (okL sc nm j y && okJs sc nm js ts) = true := hok
    simp only [Bool.and_eq_true] at hok'
    obtain ⟨h1, h2, h3⟩ := okL_of hok'.1
    show wpAny _ A (do holding vs (assign (.Name y p) env v); assignInOrder ((assignEach ts env).map (·.2)) vs) _ _ _
    refine wpAny_bind (wpAny_holding (wpAny_assign_Name (wpAny_mono (store_ok he hd hL g hρ h1 h2 (y := .d x) r.head) (fun _ s₁ h₁ => ?_) fun _ _ e => e)))
    obtain ⟨hρ₁, he₁⟩ := h₁
    refine wpAny_mono (assigns_ok he hd hL js ts vs xs s₁ σ (rs ρ j (.d x)) hok'.2 (by simpa using hlen) he₁.good hρ₁ (r.tail.step he₁.kp.toKr hρ.ns g.rep.listAt)) (fun _ s₂ h₂ => ?_) fun _ _ e => e
    exact ⟨h₂.1, he₁.trans h₂.2⟩

theorem binds_ok (he : EnvOK env sc L) (hd : nm.Nodup) (hL : hb.get? L = none) : ∀ (js : List Nat) (ns : List Str) (vs : List Value) (xs : List V) (s : Shared) (σ : St) (ρ : List (Option V)),
    (∀ (k : Nat) (x : Str), ns[k]? = some x → ∃ j : Nat, js[k]? = some j ∧ nm[j]? = some x ∧ sc.names.lookup x = some .local) → ns.length = js.length → js.length = xs.length → Good hb s.heap σ → RhoOK s.heap σ L nm ρ →
    VRs s.heap σ vs xs → wpAny (model prog w) A (assignInOrder (ns.map fun n => bindName env n) vs) (fun _ s' => RhoOK s'.heap σ L nm ((js.zip xs).foldl (fun ρ p => rs ρ p.1 p.2) ρ) ∧ EvL hb L s σ s' σ) E s
  | [], [], [], [], s, σ, ρ, _, _, _, g, hρ, _ => wpAny_pure ⟨hρ, .refl g⟩
  | [], [], _ :: _, [], _, _, _, _, _, _, _, _, r => r.elim
  | [], [], _, _ :: _, _, _, _, _, _, h, _, _, _ => by cases h
  | [], _ :: _, _, _, _, _, _, _, h, _, _, _, _ => by cases h
  | _ :: _, [], _, _, _, _, _, _, h, _, _, _, _ => by cases h
  | j :: js, t :: ts, _, [], _, _, _, _, _, h, _, _, _ => by cases h
  | j :: js, t :: ts, [], _ :: _, _, _, _, _, _, _, _, _, r => r.elim
  | j :: js, y :: ns, v :: vs, x :: xs, s, σ, ρ, hok, hl1, hlen, g, hρ, r => by
    obtain ⟨j', e1, h1, h2⟩ := hok 0 y rfl
    cases e1
    show wpAny _ A (do holding vs (bindName env y v); assignInOrder (ns.map fun n => bindName env n) vs) _ _ _
    refine wpAny_bind (wpAny_holding (wpAny_bindName (wpAny_mono (store_ok he hd hL g hρ h1 h2 r.1) (fun _ s₁ h₁ => ?_) fun _ _ e => e)))
    obtain ⟨hρ₁, he₁⟩ := h₁
    refine wpAny_mono (binds_ok he hd hL js ns vs xs s₁ σ (rs ρ j x) (fun k z hz => hok (k + 1) z (by simpa using hz)) (by simpa using hl1) (by simpa using hlen) he₁.good hρ₁ (he₁.vrs g hρ r.2)) (fun _ s₂ h₂ => ?_) fun _ _ e => e
    exact ⟨h₂.1, he₁.trans h₂.2⟩

theorem VRs.append {h : Heap} {σ : St} : ∀ {vs : List Value} {xs : List V} {ws : List Value} {ys : List V}, VRs h σ vs xs → VRs h σ ws ys → VRs h σ (vs ++ ws) (xs ++ ys)
  | [], [], _, _, _, r => r
  | [], _ :: _, _, _, r, _ => r.elim
  | _ :: _, [], _, _, r, _ => r.elim
  | _ :: _, _ :: _, _, _, r, r' => ⟨r.1, VRs.append r.2 r'⟩
theorem VRs.reverse {h : Heap} {σ : St} : ∀ {vs : List Value} {xs : List V}, VRs h σ vs xs → VRs h σ vs.reverse xs.reverse
  | [], [], _ => trivial
  | [], _ :: _, r => r.elim
  | _ :: _, [], r => r.elim
  | v :: vs, x :: xs, r => by
    rw [List.reverse_cons, List.reverse_cons]
    exact VRs.append (VRs.reverse r.2) ⟨r.1, trivial⟩

theorem okJs_ids {ts : List Expr} : ∀ {js : List Nat}, okJs sc nm js ts = true → ∀ (k : Nat) (x : Str), (idsOf ts)[k]? = some x → ∃ j : Nat, js[k]? = some j ∧ nm[j]? = some x ∧ sc.names.lookup x = some .local := by
  induction ts with
  | nil => intro js h k x hx; simp [idsOf] at hx
  | cons t ts ih =>
    intro js h k x hx
    cases js with
    | nil => cases h
    | cons j js =>
      cases t <;> first | cases h | skip
      rename_i y p
      have h' : (okL sc nm j y && okJs sc nm js ts) = true := h
      simp only [Bool.and_eq_true] at h'
      obtain ⟨h1, h2, h3⟩ := okL_of h'.1
      have e : idsOf (.Name y p :: ts) = y :: idsOf ts := rfl
      rw [e] at hx
      cases k with
      | zero => cases hx; exact ⟨j, rfl, h1, h2⟩
      | succ k => exact ih h'.2 k x (by simpa using hx)
theorem okJs_length {ts : List Expr} : ∀ {js : List Nat}, okJs sc nm js ts = true → js.length = ts.length ∧ (idsOf ts).length = ts.length := by
  induction ts with
  | nil => intro js h; cases js <;> first | exact ⟨rfl, rfl⟩ | cases h
  | cons t ts ih =>
    intro js h
    cases js with
    | nil => cases h
    | cons j js =>
      cases t <;> first | cases h | skip
      rename_i y p
      have h' : (okL sc nm j y && okJs sc nm js ts) = true := h
      simp only [Bool.and_eq_true] at h'
      have := ih h'.2
      exact ⟨by simp [this.1], by show (y :: idsOf ts).length = _; simp [this.2]⟩
theorem noStarB {es : Exs} : ∀ {vs : List Expr}, okEs sc nm es vs = true → ∀ v ∈ vs, ∀ x q, v ≠ .Starred x q := by
  intro vs
  induction vs generalizing es with
  | nil => intro _ v h; cases h
  | cons v vs ih =>
    intro h u hu x q e
    cases es with
    | nil => cases h
    | cons e' es =>
      have h' : (okE sc nm e' v && okEs sc nm es vs) = true := h
      simp only [Bool.and_eq_true] at h'
      rcases List.mem_cons.mp hu with rfl | hu
      · subst e; cases e' <;> cases h'.1
      · exact ih h'.2 u hu x q e
theorem fm_eq {f g : Expr → Option Str} : ∀ {ts : List Expr}, (∀ t ∈ ts, f t = g t) → ts.filterMap f = ts.filterMap g
  | [], _ => rfl
  | t :: ts, h => by
    rw [List.filterMap_cons, List.filterMap_cons, h t (List.mem_cons_self ..), fm_eq fun t ht => h t (List.mem_cons_of_mem _ ht)]
theorem any_no {p : Expr → Bool} : ∀ {ts : List Expr}, (∀ t ∈ ts, p t = false) → ts.any p = false
  | [], _ => rfl
  | t :: ts, h => by
    rw [List.any_cons, h t (List.mem_cons_self ..), any_no fun t ht => h t (List.mem_cons_of_mem _ ht)]; rfl
theorem swapped_some {ts vs : List Expr} {k k' : Nat} {q q' : Pos} {js : List Nat} {es : Exs} (he : EnvOK env sc L) (h : swapChk sc ts vs = true) (hj : okJs sc nm js ts = true) (hv : okEs sc nm es vs = true) :
    swappedStores [.Tuple ts k q] (.Tuple vs k' q') env = pure (some (idsOf ts)) := by
  unfold swapChk at h
  simp only [Bool.and_eq_true, Bool.or_eq_true, beq_iff_eq, Bool.not_eq_true'] at h
  obtain ⟨⟨⟨⟨⟨h1, h2⟩, h3⟩, h4⟩, h5⟩, h6⟩ := h
  have hk : env.blockKind = .function := by unfold Env.blockKind; rw [he.scp, he.kind]; rfl
  have hlen := (okJs_length hj).2
  have c1 : (!(ts.length == 2 || ts.length == 3) || vs.length != ts.length || env.blockKind != .function) = false := by
    rw [hk, h2]; rcases h1 with h1 | h1 <;> rw [h1] <;> rfl
  have hst : ∀ p : Expr → Bool, (∀ v, (∀ x q, v ≠ .Starred x q) → p v = false) → vs.any p = false := fun p hp => any_no fun v hm => hp v (noStarB hv v hm)
  have hfm : ∀ f : Expr → Option Str, (∀ id p, sc.names.lookup id = some .local → p.line = (ts.head?.map (·.pos.line)).getD 0 → f (.Name id p) = some id) → ts.filterMap f = idsOf ts := by
    intro f hf
    refine fm_eq fun t ht => ?_
    have h3' := List.all_eq_true.mp h3 t ht
    cases t <;> first | cases h3' | skip
    rename_i id p
    have h3'' : (sc.names.lookup id == some .local && p.line == (ts.head?.map (·.pos.line)).getD 0) = true := h3'
    simp only [Bool.and_eq_true, beq_iff_eq] at h3''
    exact hf id p h3''.1 h3''.2
  unfold swappedStores
  dsimp only
  rw [c1]
  simp only [Bool.false_eq_true, if_false, pure_bind]
  rw [hst _ ?st]
  case st =>
    intro v hv'
    cases v <;> first | rfl | exact absurd rfl (hv' _ _)
  simp only [Bool.false_eq_true, if_false, pure_bind]
  rw [hfm _ ?fm]
  case fm =>
    intro id p e1 e2
    have : env.kindOf id = some .local := by show env.scope.names.lookup id = _; rw [he.scp]; exact e1
    dsimp only
    rw [this, e2]
    simp
  have c2 : ((idsOf ts).length != ts.length || (idsOf ts).eraseDups.length != (idsOf ts).length) = false := by
    rw [h4, hlen]; simp
  rw [c2, h5, h6]
  rfl
end

-- M15
theorem Kp.then_ext' {X : Addr → Prop} {h₀ h₁ h₂ : Heap} {σ₀ σ₁ : St} {b : Addr} (k : Kp X h₀ σ₀ h₁ σ₁) (hs : Heap.ExtBut b h₁ h₂) (hn : h₀.get? b = none) : Kp X h₀ σ₀ h₂ σ₁ where
  keep := fun a o e hx h => hs a o (by rintro rfl; rw [hn] at e; cases e) (k.keep a o e hx h)
  stay := k.stay
  live := fun a o e => let ⟨o', e'⟩ := k.live a o e; ⟨o', hs a o' (by rintro rfl; rw [hn] at e; cases e) e'⟩

theorem RhoOK.other {h h' : Heap} {σ : St} {L b : Addr} {nm : List Str} {ρ : List (Option V)} (r : RhoOK h σ L nm ρ) (hs : Heap.ExtBut b h h') (k : Kr (AtX b) h σ h' σ) (hX : NotSeq (AtX b) h) (hl : ListAt h σ) (hne : L ≠ b) : RhoOK h' σ L nm ρ := by
  obtain ⟨m, hn, hv⟩ := r
  refine ⟨m, hn.extBut hs hne, fun i w e => ?_⟩
  obtain ⟨x, v, h1, h2, h3⟩ := hv i w e
  exact ⟨x, v, h1, h2, h3.step k hX hl⟩

theorem none_of_not_base {hb h : Heap} {σ : St} (g : Good hb h σ) {b : Addr} (hn : h.get? b = none) : hb.get? b = none := by
  cases e : hb.get? b with
  | none => rfl
  | some o => rw [g.keep b o e] at hn; cases hn

theorem zip_reverse' {α β : Type} : ∀ {js : List α} {vs : List β}, js.length = vs.length → (js.zip vs).reverse = js.reverse.zip vs.reverse
  | [], [], _ => rfl
  | [], _ :: _, h => by cases h
  | _ :: _, [], h => by cases h
  | j :: js, v :: vs, h => by
    have h' : js.length = vs.length := by simpa using h
    rw [List.zip_cons_cons, List.reverse_cons, List.reverse_cons, List.reverse_cons, zip_reverse' h', List.zip_append (by simpa using h')]
    rfl

section
variable {prog : Program} {w : World} {hb : Heap} {mg mb : Str → Option Value} {fa : Nat → Addr} {n : Nat}

def SndS (prog : Program) (w : World) (hb : Heap) (fa : Nat → Addr) (n : Nat) (e : Sm) : Prop :=
  ∀ {sc : Scope} {nm : List Str} {ps : Stmt} {ρ : List (Option V)} {σ : St} {s : Shared} {A : Around} {env : Env} {L : Addr} {E : Value → Shared → Prop} {Q : List (Option V) → St → Prop} {R : V → St → Prop},
    okS sc nm e ps = true → EnvOK env sc L → nm.Nodup → hb.get? L = none → Room n A → Good hb s.heap σ → RhoOK s.heap σ L nm ρ → wpS (CallOK prog w hb fa n) e ρ σ Q R →
      wpAny (model prog w) A (exec ps env) (PostS hb L nm s σ Q R) E s
def SndSs (prog : Program) (w : World) (hb : Heap) (fa : Nat → Addr) (n : Nat) (e : Sms) : Prop :=
  ∀ {sc : Scope} {nm : List Str} {ps : List Stmt} {ρ : List (Option V)} {σ : St} {s : Shared} {A : Around} {env : Env} {L : Addr} {E : Value → Shared → Prop} {Q : List (Option V) → St → Prop} {R : V → St → Prop},
    okSs sc nm e ps = true → EnvOK env sc L → nm.Nodup → hb.get? L = none → Room n A → Good hb s.heap σ → RhoOK s.heap σ L nm ρ → wpSs (CallOK prog w hb fa n) e ρ σ Q R →
      wpAny (model prog w) A (execs ps env) (PostS hb L nm s σ Q R) E s

theorem okJs_each {sc : Scope} {nm : List Str} {env : Env} {ts : List Expr} : ∀ {js : List Nat}, okJs sc nm js ts = true → (assignEach ts env).length = ts.length ∧ (assignEach ts env).findIdx? (·.1) = none := by
  induction ts with
  | nil => intro js h; exact ⟨rfl, rfl⟩
  | cons t ts ih =>
    intro js h
    cases js with
    | nil => cases h
    | cons j js =>
      cases t <;> first | cases h | skip
      rename_i y p
      have h' : (okL sc nm j y && okJs sc nm js ts) = true := h
      simp only [Bool.and_eq_true] at h'
      obtain ⟨h1, h2⟩ := ih h'.2
      have e : assignEach (.Name y p :: ts) env = (false, assign (.Name y p) env) :: assignEach ts env := rfl
      rw [e]
      exact ⟨by simp [h1], by rw [List.findIdx?_cons, h2]; rfl⟩

/-- the value goes to a name, and the statement is done -/
theorem done_store {sc : Scope} {nm : List Str} {A : Around} {env : Env} {L : Addr} {E : Value → Shared → Prop} {s s₁ : Shared} {σ σ₁ : St} {ρ : List (Option V)} {Q : List (Option V) → St → Prop} {R : V → St → Prop} {x : Str} {i : Nat} {v : Value} {y : V}
    (he : EnvOK env sc L) (hd : nm.Nodup) (hL : hb.get? L = none) (g : Good hb s.heap σ) (hρ : RhoOK s.heap σ L nm ρ) (hi : nm[i]? = some x) (hx : sc.names.lookup x = some .local)
    (he₁ : Ev hb s σ s₁ σ₁) (hv : VR s₁.heap σ₁ v y) (hq : Q (rs ρ i y) σ₁) : wpAny (model prog w) A (storeName env x v) (fun _ => PostS hb L nm s σ Q R .next) E s₁ :=
  wpAny_mono (store_ok he hd hL he₁.good (hρ.step g.rep he₁.kp) hi hx hv) (fun _ s₂ h₂ => ⟨_, _, hq, h₂.1, he₁.toL.trans h₂.2⟩) fun _ _ e => e

theorem for_list (B : Bs hb mg mb fa) {sc : Scope} {nm : List Str} {A : Around} {env : Env} {L : Addr} {E : Value → Shared → Prop} {s₁ : Shared} {σ₁ : St} {ρ : List (Option V)} {Q : List (Option V) → St → Prop} {R : V → St → Prop} {RR : Result → Shared → Prop}
    {x : Str} {q : Pos} {pb : List Stmt} {i : Nat} {b : Sms} {v : V} {a : Value} {xs : List PyData} {I : Nat → List (Option V) → St → Prop}
    (ih : SndSs prog w hb fa n b) (hb' : okSs sc nm b pb = true) (he : EnvOK env sc L) (hd : nm.Nodup) (hL : hb.get? L = none) (hr : Room n A) (g : Good hb s₁.heap σ₁) (hρ : RhoOK s₁.heap σ₁ L nm ρ) (hi : nm[i]? = some x) (hx : sc.names.lookup x = some .local)
    (hv : VR s₁.heap σ₁ a v) (h1 : lstOf σ₁ v = some xs) (h2 : xs.length < 1000000) (h3 : I 0 ρ σ₁) (h4 : ∀ k ρ' σ', I k ρ' σ' → lstOf σ' v = some xs)
    (h5 : ∀ k x ρ' σ', xs[k]? = some x → I k ρ' σ' → wpSs (CallOK prog w hb fa n) b (rs ρ' i (.d x)) σ' (fun ρ₂ σ₂ => I (k + 1) ρ₂ σ₂) R)
    (h6 : ∀ ρ' σ', I xs.length ρ' σ' → Q ρ' σ') (hRR : ∀ f s', PostS hb L nm s₁ σ₁ Q R f s' → RR (.ok f) s') :
    wpAny (model prog w) A (pyIter a) (fun it s₂ => codeAny (model prog w) A (.forLoop (.Name x q) it pb [] env) RR s₂) E s₁ := by
  obtain ⟨l, items₀, rfl, hl₀, _⟩ := lstOf_ok g h1 hv
  refine wpAny_pyIter_list hl₀ ?_
  have nI : s₁.heap.get? s₁.heap.objs.size = none := get_none_of_size (Nat.le_refl _)
  have bI := none_of_not_base g nI
  have hLI : L ≠ s₁.heap.objs.size := by
    obtain ⟨m, ⟨o, _, _, ho, _⟩, _⟩ := hρ
    exact Nat.ne_of_lt (Heap.lt_size ho)
  have hk : ∀ b o, s₁.heap.get? b = some o → (s₁.heap.push { cls := .type "list_iterator", data := .fields #[.ref l, .int 0 0] }).get? b = some o := fun b o e => Heap.get?_push_of_some _ e
  have e0 : Ev hb s₁ σ₁ { s₁ with heap := s₁.heap.push { cls := .type "list_iterator", data := .fields #[.ref l, .int 0 0] } } σ₁ := (Ev.refl g).grow s₁.toks hk
  generalize hI : s₁.heap.objs.size = J at *
  have hit0 : (s₁.heap.push { cls := .type "list_iterator", data := .fields #[.ref l, .int 0 0] }).IsListIter J l 0 := ⟨_, hI ▸ Heap.get?_push_size _ rfl, rfl, rfl⟩
  refine codeAny_forLoop (fun k s' => ∃ i ρ' σ', i ≤ xs.length ∧ k = xs.length + 1 - i ∧ s'.heap.IsListIter J l i ∧ I i ρ' σ' ∧ RhoOK s'.heap σ' L nm ρ' ∧ EvL hb L s₁ σ₁ s' σ') ?_ (xs.length + 1)
    ⟨0, ρ, σ₁, Nat.zero_le _, rfl, hit0, h3, hρ.step g.rep e0.kp, e0.toL⟩
  rintro k s' ⟨j, ρ', σ', hj, rfl, hit, hI', hρ', he'⟩
  obtain ⟨l', items, el, hls, hrs⟩ := lstOf_ok he'.good (h4 _ _ _ hI') (he'.vr g hρ hv)
  cases el
  have hlen : items.size = xs.length := by simpa using hrs.length
  cases hvj : items[j]? with
  | none =>
    have hjx : j = xs.length := by
      have : items.size ≤ j := by simpa using hvj
      omega
    subst hjx
    refine wpAny_pyNext_list_end hr.1 hit hls hvj fun h₁ hs₁ => wpAny_execs_nil (hRR _ _ ?_)
    obtain ⟨g2, kr2, hσI⟩ := he'.good.ext hs₁ (.iter hit) (let ⟨o, ho, _⟩ := hit; ⟨o, ho⟩) bI
    obtain ⟨h0, t0, ee⟩ := he'.sh
    exact ⟨ρ', σ', h6 _ _ hI', hρ'.other hs₁ kr2 (.iter hit) he'.good.rep.listAt hLI, ⟨h₁, t0, by rw [ee]⟩, g2, he'.kp.then_ext' hs₁ nI⟩
  | some u =>
    have hlt : j < items.size := (Array.getElem?_eq_some_iff.mp hvj).1
    have hltx : j < xs.length := by omega
    have hx' : xs[j]? = some xs[j] := List.getElem?_eq_getElem hltx
    obtain ⟨u', hu', hru⟩ := hrs.get hx'
    have ev : u' = u := by
      have : items.toList[j]? = some u := by simpa using hvj
      rw [this] at hu'; cases hu'; rfl
    subst ev
    refine wpAny_pyNext_list_item hit hls hvj fun h₁ hit₁ hs₁ => ?_
    obtain ⟨g2, kr2, hσI⟩ := he'.good.ext hs₁.extBut (.iter hit) (let ⟨o, ho, _⟩ := hit; ⟨o, ho⟩) bI
    have hρ₁ := hρ'.other hs₁.extBut kr2 (.iter hit) he'.good.rep.listAt hLI
    have hr₁ := hru.step kr2 (.iter hit) he'.good.rep.listAt
    obtain ⟨h0, t0, ee⟩ := he'.sh
    have he₁ : EvL hb L s₁ σ₁ { s' with heap := h₁ } σ' := ⟨⟨h₁, t0, by rw [ee]⟩, g2, he'.kp.then_ext' hs₁.extBut nI⟩
    refine wpAny_assign_Name (wpAny_mono (store_ok (s := { s' with heap := h₁ }) (y := .d xs[j]) he hd hL g2 hρ₁ hi hx hr₁) (fun _ s₂ h₂ => ?_) fun _ _ e => e)
    obtain ⟨hρ₂, he₂⟩ := h₂
    refine wpAny_mono (ih hb' he hd hL hr he₂.good hρ₂ (h5 j xs[j] ρ' σ' hx' hI')) (fun f s₃ h₃ => ?_) fun _ _ e => e
    have he₃ := he₁.trans he₂
    cases f with
    | next =>
      obtain ⟨ρ₃, σ₃, hI₃, hρ₃, e₃⟩ := h₃
      have hit₃ : s₃.heap.IsListIter J l (j + 1) := by
        obtain ⟨o, ho, r⟩ := hit₁
        have e2 := he₂.kp.keep J o ho (fun x => hLI x.symm) hσI
        exact ⟨o, e₃.kp.keep J o e2 (fun x => hLI x.symm) (he₂.kp.stay J o ho hσI), r⟩
      exact ⟨xs.length + 1 - (j + 1), by omega, j + 1, ρ₃, σ₃, hltx, rfl, hit₃, hI₃, hρ₃, he₃.trans e₃⟩
    | ret z => exact hRR _ _ (PostS.trans (f := .ret z) he₃ h₃)
    | cont => exact h₃.elim
    | brk => exact h₃.elim

theorem NotSeq.riter {h : Heap} {I : Addr} {a b c : Int} (hi : IsRangeIter h I a b c) : NotSeq (AtX I) h := by
  rintro x rfl o ho vs n hd
  rw [hi] at ho; cases ho; cases hd

theorem for_range (B : Bs hb mg mb fa) {sc : Scope} {nm : List Str} {A : Around} {env : Env} {L : Addr} {s₁ s₂ : Shared} {σ₁ : St} {ρ : List (Option V)} {Q : List (Option V) → St → Prop} {R : V → St → Prop} {RR : Result → Shared → Prop}
    {x : Str} {q : Pos} {pb : List Stmt} {i : Nat} {b : Sms} {N : Int} {J : Addr} {I : Nat → List (Option V) → St → Prop}
    (ih : SndSs prog w hb fa n b) (hb' : okSs sc nm b pb = true) (he : EnvOK env sc L) (hd : nm.Nodup) (hL : hb.get? L = none) (hr : Room n A) (g : Good hb s₁.heap σ₁) (hρ : RhoOK s₁.heap σ₁ L nm ρ) (hi : nm[i]? = some x) (hx : sc.names.lookup x = some .local)
    (nI : s₁.heap.get? J = none) (e0 : Ev hb s₁ σ₁ s₂ σ₁) (hit0 : IsRangeIter s₂.heap J 0 (N.toNat : Int) 1)
    (h3 : I 0 ρ σ₁)
    (h5 : ∀ (k : Nat) ρ' σ', (k : Int) < N → I k ρ' σ' → wpSs (CallOK prog w hb fa n) b (rs ρ' i (.d (.int k))) σ' (fun ρ₂ σ₂ => I (k + 1) ρ₂ σ₂) R)
    (h6 : ∀ ρ' σ', I N.toNat ρ' σ' → Q ρ' σ') (hRR : ∀ f s', PostS hb L nm s₁ σ₁ Q R f s' → RR (.ok f) s') :
    codeAny (model prog w) A (.forLoop (.Name x q) (.ref J) pb [] env) RR s₂ := by
  have bI := none_of_not_base g nI
  have hLI : L ≠ J := by
    obtain ⟨m, ⟨o, _, _, ho, _⟩, _⟩ := hρ
    rintro rfl; rw [nI] at ho; cases ho
  refine codeAny_forLoop (fun k s' => ∃ i ρ' σ', i ≤ N.toNat ∧ k = N.toNat + 1 - i ∧ IsRangeIter s'.heap J (i : Nat) ((N.toNat : Int) - (i : Nat)) 1 ∧ I i ρ' σ' ∧ RhoOK s'.heap σ' L nm ρ' ∧ EvL hb L s₁ σ₁ s' σ') ?_ (N.toNat + 1)
    ⟨0, ρ, σ₁, Nat.zero_le _, rfl, by simpa using hit0, h3, hρ.step g.rep e0.kp, e0.toL⟩
  rintro k s' ⟨j, ρ', σ', hj, rfl, hit, hI', hρ', he'⟩
  obtain ⟨h0, t0, ee⟩ := he'.sh
  by_cases hlt : j < N.toNat
  · refine wpAny_pyNext_range_item hit (by omega) fun h₁ hit₁ hs₁ => ?_
    obtain ⟨g2, kr2, hσI⟩ := he'.good.ext hs₁.extBut (.riter hit) ⟨_, hit⟩ bI
    have hρ₁ := hρ'.other hs₁.extBut kr2 (.riter hit) he'.good.rep.listAt hLI
    have he₁ : EvL hb L s₁ σ₁ { s' with heap := h₁, toks := s'.toks + 1 } σ' := ⟨⟨h₁, s'.toks + 1, by rw [ee]⟩, g2, he'.kp.then_ext' hs₁.extBut nI⟩
    refine wpAny_assign_Name (wpAny_mono (store_ok (s := { s' with heap := h₁, toks := s'.toks + 1 }) (y := .d (.int (j : Nat))) he hd hL g2 hρ₁ hi hx (RD.int _ _ _ _)) (fun _ s₂ h₂ => ?_) fun _ _ e => e)
    obtain ⟨hρ₂, he₂⟩ := h₂
    refine wpAny_mono (ih hb' he hd hL hr he₂.good hρ₂ (h5 j ρ' σ' (by omega) hI')) (fun f s₃ h₃ => ?_) fun _ _ e => e
    have he₃ := he₁.trans he₂
    cases f with
    | next =>
      obtain ⟨ρ₃, σ₃, hI₃, hρ₃, e₃⟩ := h₃
      have hit₃ : IsRangeIter s₃.heap J ((j + 1 : Nat) : Int) ((N.toNat : Int) - ((j + 1 : Nat) : Int)) 1 := by
        have e2 := he₂.kp.keep J _ hit₁ (fun x => hLI x.symm) hσI
        have e4 := e₃.kp.keep J _ e2 (fun x => hLI x.symm) (he₂.kp.stay J _ hit₁ hσI)
        have e5 : ((j + 1 : Nat) : Int) = (j : Int) + 1 := by push_cast; rfl
        have e6 : (N.toNat : Int) - ((j + 1 : Nat) : Int) = (N.toNat : Int) - (j : Int) - 1 := by push_cast; omega
        rw [e6, e5]
        exact e4
      exact ⟨N.toNat + 1 - (j + 1), by omega, j + 1, ρ₃, σ₃, hlt, rfl, hit₃, hI₃, hρ₃, he₃.trans e₃⟩
    | ret z => exact hRR _ _ (PostS.trans (f := .ret z) he₃ h₃)
    | cont => exact h₃.elim
    | brk => exact h₃.elim
  · have hjn : j = N.toNat := by omega
    subst hjn
    refine wpAny_pyNext_range_end hr.1 hit (by omega) fun h₁ hs₁ => wpAny_execs_nil (hRR _ _ ?_)
    obtain ⟨g2, kr2, hσI⟩ := he'.good.ext hs₁ (.riter hit) ⟨_, hit⟩ bI
    exact ⟨ρ', σ', h6 _ _ hI', hρ'.other hs₁ kr2 (.riter hit) he'.good.rep.listAt hLI, ⟨h₁, t0, by rw [ee]⟩, g2, he'.kp.then_ext' hs₁ nI⟩
end

-- M16
section
variable {prog : Program} {w : World} {hb : Heap} {mg mb : Str → Option Value} {fa : Nat → Addr} {n : Nat}

theorem isTrue_ok (B : Bs hb mg mb fa) {c : Ex} {sc : Scope} {nm : List Str} {pc : Expr} {ρ : List (Option V)} {σ : St} {s : Shared} {A : Around} {env : Env} {L : Addr} {E : Value → Shared → Prop} {K : Bool → St → Prop}
    (hc : okE sc nm c pc = true) (he : EnvOK env sc L) (hr : Room n A) (g : Good hb s.heap σ) (hρ : RhoOK s.heap σ L nm ρ) (h : wpE (CallOK prog w hb fa n) ρ c σ fun v σ₁ => TruthP v fun b => K b σ₁) :
    wpAny (model prog w) A (isTrue pc env (eval pc env)) (fun b s' => ∃ σ', K b σ' ∧ Ev hb s σ s' σ') E s :=
  sndT B c hc he hr g hρ h fun _ _ x => x

mutual
theorem sndS (B : Bs hb mg mb fa) : ∀ e : Sm, SndS prog w hb fa n e
  | .asg i e => by
    rename_i sc nm ps ρ σ s A env L E Q R
    intro hok he hd hL hr g hρ h
    obtain ⟨x, q, v, p, rfl, h1, h2, h3⟩ := invS_asg hok
    obtain ⟨hi, hx, _⟩ := okL_of h1
    refine wpAny_Assign_Name (postE (sndE B e h3 he hr g hρ h) fun v V s₁ σ₁ hq hv he₁ => ?_) (swaps_not h2 _ _ _)
    exact done_store he hd hL g hρ hi hx he₁ hv hq
  | .asg2 i j e => by
    rename_i sc nm ps ρ σ s A env L E Q R
    intro hok he hd hL hr g hρ h
    obtain ⟨x, q, y, r, v, p, rfl, h1, h2, h3⟩ := invS_asg2 hok
    obtain ⟨hi, hx, _⟩ := okL_of h1
    obtain ⟨hj, hy, _⟩ := okL_of h2
    refine wpAny_Assign_two (postE (sndE B e h3 he hr g hρ h) fun v V s₁ σ₁ hq hv he₁ => ?_)
    refine wpAny_assign_Name (wpAny_mono (store_ok he hd hL he₁.good (hρ.step g.rep he₁.kp) hi hx hv) (fun _ s₂ h₂ => ?_) fun _ _ e => e)
    refine wpAny_assign_Name (wpAny_mono (store_ok he hd hL h₂.2.good h₂.1 hj hy (h₂.2.vr he₁.good (hρ.step g.rep he₁.kp) hv)) (fun _ s₃ h₃ => ?_) fun _ _ e => e)
    exact ⟨_, _, hq, h₃.1, he₁.toL.trans (h₂.2.trans h₃.2)⟩
  | .asgc i elt it => by
    rename_i sc nm ps ρ σ s A env L E Q R
    intro hok he hd hL hr g hρ h
    obtain ⟨y, py, e, x, q, pi, sc', lp, p, rfl, h1, h2, h3, hcs, helt, hx, hit⟩ := invS_asgc hok
    obtain ⟨hi, hy, _⟩ := okL_of h1
    obtain ⟨hk, hf, hc, hl⟩ := compScope_of hcs
    have hsw : swapsWith (.ListComp e [⟨.Name x q, pi, [], 0⟩] sc' lp) (some (.Name y py)) p.line env = pure true := by
      have e1 : env.blockKind = .function := by unfold Env.blockKind; rw [he.scp, he.kind]; rfl
      have e2 : env.kindOf y = some .local := by show env.scope.names.lookup y = _; rw [he.scp]; exact hy
      show pure (env.blockKind == .function && env.kindOf y == some .local && py.line == lp.line && !(sc'.names.any fun p => p.1 == y && (p.2 == .local || p.2 == .cell))) = _
      rw [e1, e2, h2, h3]; rfl
    rw [exec_Assign_Name_used _ _ _ _ hsw]
    refine wpAny_bind (wpAny_standAt (wpAny_bind ?_))
    show wpAny _ A (do let _ ← comprehension (.ListComp e [⟨.Name x q, pi, [], 0⟩] sc' lp) sc' env _ (newList []) false (eval pi env) (some (assign (.Name y py) env))) _ _ s
    refine wpAny_bind (wpAny_mono (PySem.wpAny_comprehension_use (Q := fun _ s' => PostS hb L nm s σ Q R .next s') rfl (folded_ok hit env) hf hk hl ?_)
      (fun _ s' hq => wpAny_pure (wpAny_pure hq)) fun _ _ e => e)
    refine postE (sndE B it hit he hr g hρ h) fun v V s₁ σ₁ hq hv he₁ => ?_
    obtain ⟨xs, h1, h2, FF, h3, hK⟩ := hq
    have hρ₁ := hρ.step g.rep he₁.kp
    refine comp_whole hr.1 he₁.good hv h1 h2 hc hk (fun C => turn1 (sndE B elt) hr he hk helt hx h3) ?_
    rintro D cenv s' m hC hD hn hfin
    obtain ⟨r0, ev0⟩ := hfin s'.heap (Heap.SameBut.refl ..)
    have hLC : L ≠ cenv.locals := by
      obtain ⟨m', ⟨o, _, _, ho, _⟩, _⟩ := hρ₁
      rintro rfl; rw [hC] at ho; cases ho
    refine wpAny_assign_Name (wpAny_mono (store_ok (s := s') (y := .d (.list (xs.map FF))) he hd hL ev0.good (hρ₁.step he₁.good.rep ev0.kp) hi hy r0) (fun _ s₂ h₂ => ?_) fun _ _ e => e)
    obtain ⟨hρ₂, ev₂⟩ := h₂
    have bC := none_of_not_base he₁.good hC
    have σC : σ₁ cenv.locals = none := by
      cases e : σ₁ cenv.locals with
      | none => rfl
      | some ys =>
        exfalso
        obtain ⟨items, ⟨o, ho, _, n, hd⟩, _⟩ := ev0.good.rep _ ys e
        exact NotSeq.ns hn _ rfl o ho _ _ hd
    have hn₂ : s₂.heap.Ns cenv.locals m := by
      obtain ⟨o, es, ep, ho, r⟩ := hn
      exact ⟨o, es, ep, ev₂.kp.keep _ o ho (fun x => hLC x.symm) σC, r⟩
    refine ⟨m, hn₂, fun h' hs' => ?_⟩
    obtain ⟨g3, kr3, _⟩ := ev₂.good.ext hs'.extBut (.ns hn₂) (let ⟨o, _, _, ho, _⟩ := hn₂; ⟨o, ho⟩) bC
    have hρ₃ := hρ₂.other hs'.extBut kr3 (.ns hn₂) ev₂.good.rep.listAt hLC
    have all : EvL hb L s₁ σ₁ s₂ σ₁ := ev0.toL.trans ev₂
    obtain ⟨h0, t0, ee⟩ := all.sh
    exact ⟨_, σ₁, hK, hρ₃, he₁.toL.trans ⟨⟨h', t0, by rw [ee]⟩, g3, all.kp.then_ext' hs'.extBut hC⟩⟩
  | .unp js e => by
    rename_i sc nm ps ρ σ s A env L E Q R
    intro hok he hd hL hr g hρ h
    obtain ⟨ts, k, q, v, p, rfl, h1, h2, h3, h4⟩ := invS_unp hok
    refine PyProof.Rows.Assign_Tuple (postE (sndE B e h4 he hr g hρ h) fun v V s₁ σ₁ hq hv he₁ => ?_) (show swapsWithSole [.Tuple ts k q] v p.line env = pure false from swaps_not (notComp_of_tup h1) (some (.Tuple ts k q)) p.line env) (swapped_none h1 _)
    split at hq
    · rename_i xs
      obtain ⟨hlen, hq⟩ := hq
      obtain ⟨a, o, vs, kk, rfl, e1, e2, e3, e4⟩ := RD.tuple_inv hv
      have hvl : vs.size = xs.length := by simpa using e4.length
      obtain ⟨c1, c2⟩ := okJs_each (env := env) h2
      refine wpAny_assign_Tuple hr.1 ⟨o, e1, e2, kk, e3⟩ (by rw [c1, hvl, hlen, h3]) c2 (fun h₁ hx₁ => ?_)
      have kx : ∀ b o, s₁.heap.get? b = some o → h₁.get? b = some o := fun b o e => hx₁ b o (Nat.ne_of_lt (Heap.lt_size e)) e
      have ev1 : Ev hb s σ { s₁ with heap := h₁, toks := s₁.toks } σ₁ := he₁.grow s₁.toks kx
      refine wpAny_mono (assigns_ok he hd hL js ts vs.toList xs { s₁ with heap := h₁, toks := s₁.toks } σ₁ ρ h2 hlen.symm ev1.good (hρ.step g.rep ev1.kp) (e4.step (Kp.grow (X := NoX) kx).toKr (.no _) he₁.good.rep.listAt)) (fun _ s₂ h₂ => ?_) fun _ _ e => e
      exact ⟨_, _, hq, h₂.1, ev1.toL.trans h₂.2⟩
    · exact hq.elim
  | .unps js es => by
    rename_i sc nm ps ρ σ s A env L E Q R
    intro hok he hd hL hr g hρ h
    obtain ⟨ts, k, q, vs, k', q', p, rfl, h1, h2, h3⟩ := invS_unps hok
    obtain ⟨l1, l2⟩ := okJs_length h1
    refine PyProof.Rows.Assign_Tuple_swapped (names := idsOf ts) ?_ rfl (swapped_some he h2 h1 h3)
    refine PyProof.Rows.Tuple_ (wpAny_mono (sndEs B es h3 he hr g hρ h) (fun us s₁ hv => ?_) fun _ _ e => e)
    obtain ⟨Vs, σ₁, ⟨hlen, hq⟩, hvr, he₁⟩ := hv
    have hul := hvr.length
    have hts : ts.length = 2 ∨ ts.length = 3 := by
      unfold swapChk at h2
      simp only [Bool.and_eq_true, Bool.or_eq_true, beq_iff_eq] at h2
      exact h2.1.1.1.1.1
    refine wpAny_newObj_type ?_ (by show us.toArray.size ≤ sizeLine; rw [List.size_toArray, hul, hlen, l1]; unfold sizeLine; omega)
    have hk : ∀ a o, s₁.heap.get? a = some o → (s₁.heap.push { cls := .type "tuple", data := .seq us.toArray }).get? a = some o := fun a o e => Heap.get?_push_of_some _ e
    have ev1 := he₁.grow s₁.toks hk
    have ex : (idsOf ts).length = us.toArray.size := by rw [List.size_toArray, hul, hlen, l1, l2]
    rw [ex]
    refine PyProof.Rows.unpackItems_tuple hr.1 ⟨_, Heap.get?_push_size _ rfl, rfl, _, rfl⟩ fun h₁ hx₁ => ?_
    have kx : ∀ b o, (s₁.heap.push { cls := .type "tuple", data := .seq us.toArray }).get? b = some o → h₁.get? b = some o := fun b o e => hx₁ b o (Nat.ne_of_lt (Heap.lt_size e)) e
    have ev2 : Ev hb s σ { s₁ with heap := h₁, toks := s₁.toks } σ₁ := ev1.grow s₁.toks kx
    have hv2 : VRs h₁ σ₁ us Vs := (hvr.step (Kp.grow (X := NoX) hk).toKr (.no _) he₁.good.rep.listAt).step (Kp.grow (X := NoX) kx).toKr (.no _) ev1.good.rep.listAt
    have ids := okJs_ids h1
    refine wpAny_mono (binds_ok he hd hL js.reverse (idsOf ts).reverse us.toArray.toList.reverse Vs.reverse { s₁ with heap := h₁, toks := s₁.toks } σ₁ ρ ?_ (by simp [l1, l2]) (by simp [hlen]) ev2.good (hρ.step g.rep ev2.kp) (by simpa using hv2.reverse)) (fun _ s₂ h₂ => ?_) fun _ _ e => e
    · intro k x hk
      have hlt : k < (idsOf ts).length := by
        have := (List.getElem?_eq_some_iff.mp hk).1
        simpa using this
      rw [List.getElem?_reverse hlt] at hk
      obtain ⟨j, j1, j2, j3⟩ := ids _ x hk
      refine ⟨j, ?_, j2, j3⟩
      rw [List.getElem?_reverse (by rw [l1, ← l2]; exact hlt), l1, ← l2]
      exact j1
    · refine ⟨_, _, hq, ?_, ev2.toL.trans h₂.2⟩
      rw [zip_reverse' hlen.symm]
      exact h₂.1
  | .seti a i e => by
    rename_i sc nm ps ρ σ s A env L E Q R
    intro hok he hd hL hr g hρ h
    obtain ⟨o, k, q, v, p, rfl, h1, h2, h3, h4, h5⟩ := invS_seti hok
    refine wpAny_Assign_Subscript (postE (sndE B e h5 he hr g hρ h) fun v V s₁ σ₁ hq hv he₁ => ?_) (swaps_not h1 _ _ _)
    have hρ₁ := hρ.step g.rep he₁.kp
    refine postE (sndE B a h3 he hr he₁.good hρ₁ hq) fun u U s₂ σ₂ hq2 hu he₂ => ?_
    have hρ₂ := hρ₁.step he₁.good.rep he₂.kp
    refine postE (sndE B i h4 he hr he₂.good hρ₂ hq2) fun z Z s₃ σ₃ hq3 hz he₃ => ?_
    try dsimp only at hq3
    split at hq3
    · rename_i l k x
      obtain ⟨xs, hl, k0, k1, k2, hq⟩ := hq3
      obtain rfl : u = .ref l := hu
      obtain ⟨t, rfl⟩ := RD.int_inv hz
      have hv3 := he₃.vr he₂.good (he₂.vr he₁.good hv)
      refine wpAny_mono (setitem_ok he₃.good hl hv3 k0 k1 k2) (fun _ s₄ h₄ => ?_) fun _ _ e => e
      have all := (he₁.trans he₂).trans (he₃.trans h₄)
      exact ⟨_, _, hq, hρ.step g.rep all.kp, all.toL⟩
    · exact hq3.elim
  | .aug i op e => by
    rename_i sc nm ps ρ σ s A env L E Q R
    intro hok he hd hL hr g hρ h
    obtain ⟨x, q, v, p, rfl, h1, h2⟩ := invS_aug hok
    obtain ⟨hi, hx, hdb⟩ := okL_of h1
    unfold wpS at h
    cases hv0 : rg ρ i with
    | none => rw [hv0] at h; exact h.elim
    | some V0 =>
      rw [hv0] at h
      refine wpAny_AugAssign_Name (name_loc (p := q) B he hρ hi hx hdb hv0 fun a ha => ?_)
      refine postE (sndE B e h2 he hr g hρ h) fun v V s₁ σ₁ hq hv he₁ => ?_
      refine wpAny_mono (augP_ok hq (he₁.vr g ha) hv he₁) (fun z s₂ hz => ?_) fun _ _ e => e
      obtain ⟨Z, σ₂, ⟨r, rfl, hK, rfl⟩, hz, he₂⟩ := hz
      exact done_store he hd hL g hρ hi hx he₂ hz hK
  | .app i e => by
    rename_i sc nm ps ρ σ s A env L E Q R
    intro hok he hd hL hr g hρ h
    obtain ⟨x, r, ap, v, q, p, rfl, h1, h2, h3⟩ := invS_app hok
    obtain ⟨hi, hx, hdb⟩ := okL_of h2
    unfold wpS at h
    cases hv0 : rg ρ i with
    | none => rw [hv0] at h; exact h.elim
    | some V0 =>
      rw [hv0] at h
      cases V0 with
      | d y => exact h.elim
      | ref l =>
        obtain ⟨⟨ys, hys⟩, h⟩ := h
        have hint : interactive env = false := by unfold interactive; rw [he.scp, he.kind]; rfl
        refine wpAny_Expr ?_ hint rfl
        have est : backTo q (starEach [v] env) = [(false, eval v env)] := by rw [star_of_ok h3]; rfl
        refine wpAny_Call_append rfl (by rw [est]; rfl) h1 est ?_
        refine wpAny_Name (name_loc (p := r) B he hρ hi hx hdb hv0 fun a ha => ?_) hdb
        obtain rfl : a = .ref l := ha
        obtain ⟨items, hil, hir, hdl⟩ := g.rep l ys hys
        refine ⟨l, items, rfl, plainL_of hil hdl, ?_⟩
        refine postE (sndE B e h3 he hr g hρ h) fun z Z s₁ σ₁ hq hz he₁ => ?_
        try dsimp only at hq
        split at hq
        · obtain ⟨xs, e1, e2, hK⟩ := hq
          refine wpAny_mono (append_ok he₁.good e1 hz e2) (fun u s₂ h₂ => ?_) fun _ _ e => e
          obtain ⟨rfl, he₂⟩ := h₂
          have all := he₁.trans he₂
          exact ⟨_, _, hK, hρ.step g.rep all.kp, all.toL⟩
        · exact hq.elim
  | .ite c t f => by
    rename_i sc nm ps ρ σ s A env L E Q R
    intro hok he hd hL hr g hρ h
    obtain ⟨pc, pt, pf, p, rfl, h1, h2, h3⟩ := invS_ite hok
    refine wpAny_If (wpAny_mono (isTrue_ok B (K := fun b σ₁ => (b = true → wpSs (CallOK prog w hb fa n) t ρ σ₁ Q R) ∧ (b = false → wpSs (CallOK prog w hb fa n) f ρ σ₁ Q R)) h1 he hr g hρ h) (fun b s₁ hb1 => ?_) fun _ _ e => e)
    obtain ⟨σ₁, ⟨k1, k2⟩, he₁⟩ := hb1
    have hρ₁ := hρ.step g.rep he₁.kp
    cases b with
    | true => exact wpAny_mono (sndSs B t h2 he hd hL hr he₁.good hρ₁ (k1 rfl)) (fun _ _ p => PostS.trans he₁.toL p) fun _ _ e => e
    | false => exact wpAny_mono (sndSs B f h3 he hd hL hr he₁.good hρ₁ (k2 rfl)) (fun _ _ p => PostS.trans he₁.toL p) fun _ _ e => e
  | .whl c b => by
    rename_i sc nm ps ρ σ s A env L E Q R
    intro hok he hd hL hr g hρ h
    obtain ⟨pc, pb, p, rfl, h1, h2⟩ := invS_whl hok
    obtain ⟨I, ⟨k, hI⟩, hstep⟩ := h
    refine wpAny_While (codeAny_whileLoop (fun k s' => ∃ ρ' σ', I k ρ' σ' ∧ RhoOK s'.heap σ' L nm ρ' ∧ EvL hb L s σ s' σ') ?_ k ⟨ρ, σ, hI, hρ, .refl g⟩)
    rintro k s' ⟨ρ', σ', hI', hρ', he'⟩
    refine wpAny_mono (isTrue_ok B (K := fun t σ₁ => (t = true → wpSs (CallOK prog w hb fa n) b ρ' σ₁ (fun ρ₂ σ₂ => ∃ m, m < k ∧ I m ρ₂ σ₂) R) ∧ (t = false → Q ρ' σ₁)) h1 he hr he'.good hρ' (hstep k ρ' σ' hI')) (fun t s₁ ht => ?_) fun _ _ e => e
    obtain ⟨σ₁, ⟨k1, k2⟩, he₁⟩ := ht
    have hρ₁ := hρ'.step he'.good.rep he₁.kp
    have e1 := he'.trans he₁.toL
    cases t with
    | true =>
      refine wpAny_mono (sndSs B b h2 he hd hL hr he₁.good hρ₁ (k1 rfl)) (fun f s₂ h₂ => ?_) fun _ _ e => e
      cases f with
      | next =>
        obtain ⟨ρ₂, σ₂, ⟨m, hm, hI₂⟩, hρ₂, e₂⟩ := h₂
        exact ⟨m, hm, ρ₂, σ₂, hI₂, hρ₂, e1.trans e₂⟩
      | ret z => exact PostS.trans (f := .ret z) e1 h₂
      | cont => exact h₂.elim
      | brk => exact h₂.elim
    | false => exact wpAny_execs_nil ⟨ρ', σ₁, k2 rfl, hρ₁, e1⟩
  | .forl i it b => by
    rename_i sc nm ps ρ σ s A env L E Q R
    intro hok he hd hL hr g hρ h
    obtain ⟨x, q, pi, pb, p, rfl, h1, h2, h3⟩ := invS_forl hok
    obtain ⟨hi, hx, _⟩ := okL_of h1
    refine wpAny_For (postE (sndE B it h2 he hr g hρ h) fun v V s₁ σ₁ hq hv he₁ => ?_) (folded_ok h2 env)
    obtain ⟨xs, k1, k2, I, k3, k4, k5, k6⟩ := hq
    exact for_list B (sndSs B b) h3 he hd hL hr he₁.good (hρ.step g.rep he₁.kp) hi hx hv k1 k2 k3 k4 k5 k6 fun f s' hp => PostS.trans he₁.toL hp
  | .forr i nn b => by
    rename_i sc nm ps ρ σ s A env L E Q R
    intro hok he hd hL hr g hρ h
    obtain ⟨x, q, r, r', e, cp, pb, p, rfl, h1, h2, h3, h4⟩ := invS_forr hok
    obtain ⟨rfl, g2, g3⟩ := okG_of h1
    obtain ⟨hi, hx, _⟩ := okL_of h2
    refine wpAny_For (wpAny_Call_NameR (name_built B he g g2 g3 B.rng ?_)) (fun _ => rfl)
    have est : backTo cp (starEach [e] env) = [(false, eval e env)] := by rw [star_of_ok h3]; rfl
    rw [est]
    refine PySem.callWith_type rfl (Calls.evalArgs_plain (Calls.spliced_cons (postE (sndE B nn h3 he hr g hρ h) fun v V s₁ σ₁ hq hv he₁ => Calls.spliced_nil ?_)))
    try dsimp only at hq
    split at hq
    · rename_i N
      obtain ⟨t, rfl⟩ := RD.int_inv hv
      obtain ⟨n1, n2, I, k3, k5, k6⟩ := hq
      refine call_range_1 ?_
      refine wpAny_pyIter_range (IsRange.new ..) (small_one (by decide) (by decide) (by omega) (by omega)) ?_
      have hsz : Builtin.Range.rangeSize 0 N 1 = (N.toNat : Int) := by rw [rangeSize_one]; split <;> omega
      have kx : ∀ b o, s₁.heap.get? b = some o → ((s₁.heap.push { cls := .type "range", data := .fields #[.int 0 s₁.toks, .int N t, .int 1 (s₁.toks + 1)] }).push { cls := .type "range_iterator", data := .fields #[rawInt 0, rawInt (Builtin.Range.rangeSize 0 N 1), rawInt 1] }).get? b = some o :=
        fun b o e => Heap.get?_push_of_some _ (Heap.get?_push_of_some _ e)
      refine for_range B (I := I) (σ₁ := σ₁) (s₁ := s₁) (N := N) (sndSs B b) h4 he hd hL hr he₁.good (hρ.step g.rep he₁.kp) hi hx ?_ ((Ev.refl he₁.good).grow (s₁.toks + 1 + 1) kx) ?_ k3 k5 k6 fun f s' hp => PostS.trans he₁.toL hp
      · exact get_none_of_size (by simp [Heap.size_push])
      · rw [← hsz]; exact Heap.get?_push_size _ rfl
    · exact hq.elim
  | .ret e => by
    rename_i sc nm ps ρ σ s A env L E Q R
    intro hok he hd hL hr g hρ h
    obtain ⟨v, p, rfl, h1⟩ := invS_ret hok
    exact wpAny_Return_some (postE (sndE B e h1 he hr g hρ h) fun v V s₁ σ₁ hq hv he₁ => ⟨V, σ₁, hq, hv, he₁.toL⟩)
  | .asrt e => by
    rename_i sc nm ps ρ σ s A env L E Q R
    intro hok he hd hL hr g hρ h
    obtain ⟨t, p, rfl, h1⟩ := invS_asrt hok
    refine wpAny_Assert_holds (wpAny_mono (isTrue_ok B (K := fun t σ₁ => t = true ∧ Q ρ σ₁) h1 he hr g hρ h) (fun b s₁ hb1 => ?_) fun _ _ e => e)
    obtain ⟨σ₁, ⟨k1, k2⟩, he₁⟩ := hb1
    exact ⟨k1, ρ, σ₁, k2, hρ.step g.rep he₁.kp, he₁.toL⟩
  | .rse => by
    rename_i sc nm ps ρ σ s A env L E Q R
    intro hok he hd hL hr g hρ h
    exact h.elim
theorem sndSs (B : Bs hb mg mb fa) : ∀ e : Sms, SndSs prog w hb fa n e
  | .nil => by
    rename_i sc nm ps ρ σ s A env L E Q R
    intro hok he hd hL hr g hρ h
    cases ps with
    | nil => exact wpAny_execs_nil ⟨ρ, σ, h, hρ, .refl g⟩
    | cons _ _ => cases hok
  | .cons e es => by
    rename_i sc nm ps ρ σ s A env L E Q R
    intro hok he hd hL hr g hρ h
    cases ps with
    | nil => cases hok
    | cons p ps =>
      have hok' : (okS sc nm e p && okSs sc nm es ps) = true := hok
      simp only [Bool.and_eq_true] at hok'
      refine wpAny_execs_cons (wpAny_mono (sndS B e hok'.1 he hd hL hr g hρ h) (fun f s₁ h₁ => ?_) fun _ _ e => e)
      cases f with
      | next =>
        obtain ⟨ρ₁, σ₁, hq, hρ₁, he₁⟩ := h₁
        exact wpAny_mono (sndSs B es hok'.2 he hd hL hr he₁.good hρ₁ hq) (fun _ _ p => PostS.trans he₁ p) fun _ _ e => e
      | ret z => exact h₁
      | cont => exact h₁.elim
      | brk => exact h₁.elim
end
end

-- M17
/-- the def at a: so many arguments given, these defaults, the names by slot, the body in the own language -/
def FnAt (hb : Heap) (a : Addr) (k : Nat) (dfl : List PyData) (nm : List Str) (bd : Sms) : Prop :=
  ∃ o fd body dvs, hb.get? a = some o ∧ o.data = .func fd ∧ hb.CodeRec fd.code fd.qualname ∧ fd.body = .stmts body ∧ okSs fd.scope nm bd body = true ∧ nm.Nodup ∧ fd.scope.kind = .function ∧
    fd.scope.isCoroutine = false ∧ fd.scope.isGenerator = false ∧ (∀ x ∈ fd.scope.names, x.2 ≠ .cell) ∧ fd.globals = mainGlobals ∧ fd.builtins = builtinsNs ∧
    (∀ x ∈ nm.take (k + dfl.length), fd.scope.names.lookup x = some .local) ∧ RDs hb (fun _ => none) dvs dfl ∧ k + dfl.length ≤ nm.length ∧
    ∀ (args : List Value), args.length = k → ∀ s : Shared, (∀ b o, hb.get? b = some o → s.heap.get? b = some o) → BindsTo s fd ⟨args, []⟩ ((nm.take (k + dfl.length)).zip (args ++ dvs))

def startR (nm : List Str) (vs : List V) (dfl : List PyData) : List (Option V) :=
  (vs ++ dfl.map V.d).map some ++ List.replicate (nm.length - (vs.length + dfl.length)) none

theorem rg_append {xs : List V} {k : Nat} : ∀ {i : Nat} {w : V}, rg (xs.map some ++ List.replicate k none) i = some w → xs[i]? = some w := by
  induction xs with
  | nil =>
    intro i w h
    exfalso
    have : ∀ (k i : Nat), rg (List.replicate k none) i = none := by
      intro k
      induction k with
      | zero => intro i; rfl
      | succ k ih => intro i; cases i <;> first | rfl | exact ih _
    rw [List.map_nil, List.nil_append, this] at h; cases h
  | cons x xs ih =>
    intro i w h
    cases i with
    | zero => exact h
    | succ i => exact ih h

theorem VRs.get {h : Heap} {σ : St} : ∀ {vs : List Value} {xs : List V} {i : Nat} {x : V}, VRs h σ vs xs → xs[i]? = some x → ∃ v, vs[i]? = some v ∧ VR h σ v x
  | [], [], _, _, _, e => by simp at e
  | [], _ :: _, _, _, r, _ => r.elim
  | _ :: _, [], _, _, r, _ => r.elim
  | v :: vs, y :: xs, 0, x, r, e => by
    simp at e; subst e
    exact ⟨v, rfl, r.1⟩
  | v :: vs, y :: xs, i + 1, x, r, e => by
    simpa using VRs.get r.2 (by simpa using e)
theorem VRs.ofRDs {h : Heap} {σ : St} : ∀ {vs : List Value} {xs : List PyData}, RDs h σ vs xs → VRs h σ vs (xs.map V.d)
  | [], [], _ => trivial
  | [], _ :: _, ⟨_, r, _⟩ => by cases r
  | _ :: _, [], ⟨_, r, _⟩ => by cases r
  | _ :: _, _ :: _, r => ⟨r.head, VRs.ofRDs r.tail⟩

theorem lookup_zip_rev : ∀ {nm : List Str} {vs : List Value} {i : Nat} {x : Str} {v : Value}, nm.Nodup → nm.length = vs.length → nm[i]? = some x → vs[i]? = some v → (nm.zip vs).reverse.lookup x = some v := by
  intro nm
  induction nm with
  | nil => intro vs i x v _ _ h; simp at h
  | cons y nm ih =>
    intro vs i x v hd hl h1 h2
    cases vs with
    | nil => cases hl
    | cons u vs =>
      rw [List.zip_cons_cons, List.reverse_cons]
      have hd' := List.nodup_cons.mp hd
      have look : ∀ (l : List (Str × Value)) (p : Str × Value), (l ++ [p]).lookup x = (match l.lookup x with | some z => some z | none => if x == p.1 then some p.2 else none) := by
        intro l p
        induction l with
        | nil => show (match x == p.1 with | true => some p.2 | false => none) = _; cases x == p.1 <;> rfl
        | cons q l ihl =>
          show (match x == q.1 with | true => some q.2 | false => (l ++ [p]).lookup x) = match (match x == q.1 with | true => some q.2 | false => l.lookup x) with | some z => some z | none => _
          cases x == q.1
          · exact ihl
          · rfl
      rw [look]
      cases i with
      | zero =>
        simp at h1 h2
        subst h1; subst h2
        have : (nm.zip vs).reverse.lookup y = none := by
          have none_of : ∀ (l : List (Str × Value)), (∀ q ∈ l, q.1 ≠ y) → l.lookup y = none := by
            intro l
            induction l with
            | nil => intro _; rfl
            | cons q l ihl =>
              intro h
              have h1 : (y == q.1) = false := beq_eq_false_iff_ne.mpr fun e => h q (List.mem_cons_self ..) e.symm
              show (match y == q.1 with | true => some q.2 | false => l.lookup y) = none
              rw [h1]
              exact ihl fun q' hq' => h q' (List.mem_cons_of_mem _ hq')
          refine none_of _ fun q hq e => hd'.1 ?_
          have := (List.of_mem_zip (List.mem_reverse.mp hq)).1
          rw [e] at this; exact this
        rw [this]
        simp
      | succ i =>
        have e := ih hd'.2 (by simpa using hl) (i := i) (x := x) (v := v) (by simpa using h1) (by simpa using h2)
        rw [e]

section
variable {prog : Program} {w : World} {hb : Heap} {mg mb : Str → Option Value} {fa : Nat → Addr} {n : Nat}

theorem call_ok (B : Bs hb mg mb fa) {f k : Nat} {dfl : List PyData} {nm : List Str} {bd : Sms} (F : FnAt hb (fa f) k dfl nm bd) {vs : List V} (hvs : vs.length = k) {σ : St} {Q : V → St → Prop}
    (h : wpSs (CallOK prog w hb fa n) bd (startR nm vs dfl) σ (fun _ σ' => Q (.d .none) σ') Q) : CallOK prog w hb fa (n + 1) f vs σ Q := by
  intro A s args E hr g hargs
  obtain ⟨o, fd, body, dvs, ho, hd, hcd, hbody, hok, hnd, hk, hco, hgn, hcell, hglo, hbui, hloc, hdv, hlen, hbind⟩ := F
  have hal : args.length = k := hargs.length.trans hvs
  have hvl : (args ++ dvs).length = k + dfl.length := by rw [List.length_append, hal, hdv.length]
  have htl : (nm.take (k + dfl.length)).length = k + dfl.length := by rw [List.length_take]; omega
  refine wpAny_call (codeAny_call_def (by have := hr.2.1; unfold recursionLimit; omega) (g.keep _ _ ho) hd (B.lim.keeps g.keep) (hcd.keeps g.keep) hbody (hbind args hal s g.keep) hcell ?_ ?_ hco hgn hk)
  · intro x hx
    exact hloc _ (List.of_mem_zip hx).1
  · intro h₀ hns hkeep
    have nL : s.heap.get? s.heap.objs.size = none := get_none_of_size (Nat.le_refl _)
    have hL := none_of_not_base g nL
    have he : EnvOK (callEnv fd s.heap.objs.size (fa f)) fd.scope s.heap.objs.size := ⟨rfl, hk, rfl, hglo, hbui⟩
    have hr' : Room n (A.deeper (callEnv fd s.heap.objs.size (fa f))) := by
      obtain ⟨r1, r2, r3⟩ := hr
      refine ⟨r1, ?_, ?_⟩
      · show A.depth + 1 + n < 990; omega
      · show A.units + 3 + 100 * (n + 1) < 9800; omega
    have ev0 : Ev hb s σ { s with heap := h₀, toks := s.toks + ((nm.take (k + dfl.length)).zip (args ++ dvs)).length } σ := (Ev.refl g).grow _ hkeep
    have hdv' : RDs s.heap σ dvs dfl := by
      obtain ⟨as, r1, r2⟩ := hdv
      exact ⟨as, PyProof.Rows.ReadsAll.keeps g.keep r1, fun a ha => let ⟨_, o, vs, k, ho, hd⟩ := r2 a ha; ⟨g.fix a o ho, o, vs, k, g.keep a o ho, hd⟩⟩
    have hall : VRs h₀ σ (args ++ dvs) (vs ++ dfl.map V.d) := (VRs.append hargs (VRs.ofRDs hdv')).step ev0.kp.toKr (.no _) g.rep.listAt
    have hρ : RhoOK h₀ σ s.heap.objs.size nm (startR nm vs dfl) := by
      refine ⟨_, hns, fun i w hi => ?_⟩
      have hi' := rg_append hi
      obtain ⟨v, hv, hvr⟩ := hall.get hi'
      have hlt : i < k + dfl.length := by
        have := (List.getElem?_eq_some_iff.mp hv).1
        omega
      have hx : nm[i]? = some nm[i] := List.getElem?_eq_getElem (by omega)
      refine ⟨nm[i], v, hx, ?_, hvr⟩
      exact lookup_zip_rev (hnd.sublist (List.take_sublist ..)) (by rw [htl, hvl]) (by rw [List.getElem?_take, if_pos hlt]; exact hx) hv
    refine wpAny_mono (sndSs B bd hok he hnd hL hr' ev0.good hρ h) (fun fl s' h' => ?_) fun _ _ e => e
    · cases fl with
      | next =>
        obtain ⟨ρ', σ', hq, hρ', e'⟩ := h'
        obtain ⟨h1, t1, ee⟩ := e'.sh
        exact ⟨_, σ', hq, RD.none _ _, ⟨h1, t1, by rw [ee]⟩, e'.good, ev0.kp.then_at e'.kp nL⟩
      | ret z =>
        obtain ⟨V, σ', hq, hv, e'⟩ := h'
        obtain ⟨h1, t1, ee⟩ := e'.sh
        exact ⟨V, σ', hq, hv, ⟨h1, t1, by rw [ee]⟩, e'.good, ev0.kp.then_at e'.kp nL⟩
      | cont => exact h'.elim
      | brk => exact h'.elim
end

-- M18
/-! plain numbers -/
def zt : PyData := .tuple [.int 0, .int 0, .int 0, .int 0]
def bl (m : Nat) : Nat := if m = 0 then 0 else m.log2 + 1
def mk (s : Int) (m : Nat) (e : Int) : PyData := .tuple [.int s, .int m, .int e, .int (bl m)]
def cn (s : Int) (m : Nat) (e : Int) : PyData := if h : m = 0 then zt else if m % 2 = 0 then cn s (m / 2) (e + 1) else mk s m e
termination_by m
decreasing_by omega

theorem p2pos (k : Nat) : 0 < 2 ^ k := Nat.two_pow_pos k

theorem bl_zero : bl 0 = 0 := rfl
theorem bl_lt (m : Nat) : m < 2 ^ bl m := by
  unfold bl
  by_cases h : m = 0
  · subst h; simp
  · rw [if_neg h]; exact Nat.lt_log2_self
theorem bl_le {m : Nat} (h : m ≠ 0) : 2 ^ (bl m - 1) ≤ m := by
  unfold bl
  rw [if_neg h]; exact Nat.log2_self_le h
theorem bl_pos {m : Nat} (h : m ≠ 0) : 0 < bl m := by unfold bl; rw [if_neg h]; omega
theorem pow_lt_imp {a b : Nat} (h : 2 ^ a < 2 ^ b) : a < b := (Nat.pow_lt_pow_iff_right (by decide)).mp h
theorem pow_le {a b : Nat} (h : a ≤ b) : 2 ^ a ≤ 2 ^ b := Nat.pow_le_pow_right (by decide) h
theorem bl_le_iff {m k : Nat} : bl m ≤ k ↔ m < 2 ^ k := by
  constructor
  · intro h; exact Nat.lt_of_lt_of_le (bl_lt m) (pow_le h)
  · intro h
    by_cases hm : m = 0
    · subst hm; simp [bl]
    · have := pow_lt_imp (Nat.lt_of_le_of_lt (bl_le hm) h)
      omega
theorem bl_unique {m k : Nat} (h1 : 2 ^ k ≤ m) (h2 : m < 2 ^ (k + 1)) : bl m = k + 1 := by
  have hm : m ≠ 0 := by have := p2pos k; omega
  have a := bl_le_iff.mpr h2
  have b := pow_lt_imp (Nat.lt_of_le_of_lt h1 (bl_lt m))
  omega
theorem bl_mul {m : Nat} (k : Nat) (h : m ≠ 0) : bl (m * 2 ^ k) = bl m + k := by
  have h1 := bl_le h
  have h2 := bl_lt m
  have h3 := bl_pos h
  have e : bl m + k = (bl m - 1 + k) + 1 := by omega
  rw [e]
  refine bl_unique ?_ ?_
  · rw [Nat.pow_add]; exact Nat.mul_le_mul_right _ h1
  · rw [← e, Nat.pow_add]; exact Nat.mul_lt_mul_of_pos_right h2 (p2pos k)
theorem bl_pow (k : Nat) : bl (2 ^ k) = k + 1 := by
  have := bl_mul (m := 1) k (by decide)
  rw [Nat.one_mul] at this
  rw [this]; show 1 + k = k + 1; omega
theorem intBits_nat (m : Nat) : Builtin.Int.intBits (m : Int) = bl m := by
  unfold Builtin.Int.intBits bl
  by_cases h : m = 0
  · subst h; rfl
  · rw [if_neg h, if_neg (by simpa using h)]; rfl
theorem intBits_abs (i : Int) : Builtin.Int.intBits i = bl i.natAbs := by
  unfold Builtin.Int.intBits bl
  by_cases h : i = 0
  · subst h; rfl
  · rw [if_neg (by simpa using h), if_neg (by omega)]
theorem smal_of {i : Int} {k : Nat} (h : i.natAbs < 2 ^ k) (hk : k ≤ 2000) : Smal i := by
  unfold Smal
  rw [intBits_abs]
  exact Nat.le_trans (bl_le_iff.mpr h) hk

theorem odd_dec : ∀ (m : Nat), m ≠ 0 → ∃ o k, o % 2 = 1 ∧ m = o * 2 ^ k := by
  intro m
  induction m using Nat.strongRecOn with
  | _ m ih =>
    intro hm
    by_cases h : m % 2 = 0
    · obtain ⟨o, k, ho, e⟩ := ih (m / 2) (by omega) (by omega)
      exact ⟨o, k + 1, ho, by rw [Nat.pow_succ, ← Nat.mul_assoc, ← e]; omega⟩
    · exact ⟨m, 0, by omega, by simp⟩

theorem cn_zero (s e : Int) : cn s 0 e = zt := by unfold cn; rfl
theorem cn_odd {s : Int} {m : Nat} {e : Int} (h : m % 2 = 1) : cn s m e = mk s m e := by
  unfold cn
  rw [dif_neg (by omega), if_neg (by omega)]
theorem cn_two (s : Int) (m : Nat) (e : Int) : cn s (m * 2) e = cn s m (e + 1) := by
  by_cases h : m = 0
  · subst h; rw [Nat.zero_mul, cn_zero, cn_zero]
  · rw [cn, dif_neg (by omega), if_pos (by omega)]
    congr 1; omega
theorem cn_shift (s : Int) (m : Nat) (e : Int) (k : Nat) : cn s (m * 2 ^ k) e = cn s m (e + k) := by
  induction k generalizing e with
  | zero => simp
  | succ k ih =>
    rw [Nat.pow_succ, ← Nat.mul_assoc, cn_two, ih]
    congr 1; push_cast; omega
theorem cn_dec {s : Int} {o k : Nat} {e : Int} (h : o % 2 = 1) : cn s (o * 2 ^ k) e = mk s o (e + k) := by rw [cn_shift, cn_odd h]

/-! rounding -/
def wn : Str := Str.ofString "n"
def wf : Str := Str.ofString "f"
def wc : Str := Str.ofString "c"
def wu : Str := Str.ofString "u"
def wd : Str := Str.ofString "d"
def Way (x : Str) : Prop := x = wn ∨ x = wf ∨ x = wc ∨ x = wu ∨ x = wd
def rup (s : Int) (way : Str) (q r D : Nat) : Bool :=
  if way = wn then decide (D < 2 * r) || (decide (2 * r = D) && decide (q % 2 = 1))
  else decide (0 < r) && (decide (way = wu) || (decide (way = wc) && decide (s = 0)) || (decide (way = wf) && decide (s = 1)))
def rd (s : Int) (m D : Nat) (way : Str) : Nat := m / D + (if rup s way (m / D) (m % D) D = true then 1 else 0)
def RN (s : Int) (m : Nat) (e : Int) (prec : Nat) (way : Str) : PyData := cn s (rd s m (2 ^ (bl m - prec)) way) (e + (bl m - prec : Nat))

theorem rup_zero (s : Int) (way : Str) (q D : Nat) (h : 0 < D) : rup s way q 0 D = false := by
  have h1 : ¬ D = 0 := by omega
  have h2 : ¬ D < 2 * 0 := by omega
  have h3 : ¬ 2 * 0 = D := by omega
  unfold rup
  split
  · simp only [h2, h3, decide_false, Bool.false_and, Bool.or_false]
  · simp
theorem rd_one (s : Int) (m : Nat) (way : Str) : rd s m 1 way = m := by
  unfold rd
  rw [Nat.mod_one, rup_zero _ _ _ _ (by decide), Nat.div_one]; rfl
theorem rup_scale (s : Int) (way : Str) (q r D c : Nat) (h : 0 < c) : rup s way q (r * c) (D * c) = rup s way q r D := by
  have h1 : decide (D * c < 2 * (r * c)) = decide (D < 2 * r) := by
    rw [← Nat.mul_assoc]
    exact decide_eq_decide.mpr (Nat.mul_lt_mul_right h)
  have h2 : decide (2 * (r * c) = D * c) = decide (2 * r = D) := by
    rw [← Nat.mul_assoc]
    refine decide_eq_decide.mpr ⟨fun e => Nat.eq_of_mul_eq_mul_right h e, fun e => by rw [e]⟩
  have h3 : decide (0 < r * c) = decide (0 < r) := decide_eq_decide.mpr ⟨fun e => Nat.pos_of_mul_pos_right e, fun e => Nat.mul_pos e h⟩
  unfold rup
  rw [h1, h2, h3]
theorem rd_scale (s : Int) (m D c : Nat) (way : Str) (h : 0 < c) : rd s (m * c) (D * c) way = rd s m D way := by
  unfold rd
  rw [Nat.mul_div_mul_right _ _ h, Nat.mul_mod_mul_right, rup_scale _ _ _ _ _ _ h]
theorem rd_exact (s : Int) (m D : Nat) (way : Str) (h : 0 < D) : rd s (m * D) D way = m := by
  have := rd_scale s m 1 D way h
  rw [Nat.one_mul] at this
  rw [this, rd_one]
theorem rd_ge (s : Int) (m D : Nat) (way : Str) : m / D ≤ rd s m D way := Nat.le_add_right _ _
theorem rd_le (s : Int) (m D : Nat) (way : Str) : rd s m D way ≤ m / D + 1 := by unfold rd; split <;> omega
theorem RN_small {s : Int} {m : Nat} {e : Int} {prec : Nat} {way : Str} (h : bl m ≤ prec) : RN s m e prec way = cn s m e := by
  unfold RN
  rw [Nat.sub_eq_zero_of_le h, Nat.pow_zero, rd_one]; simp
theorem RN_zero {s : Int} {e : Int} {prec : Nat} {way : Str} : RN s 0 e prec way = zt := by
  rw [RN_small (by rw [bl_zero]; omega), cn_zero]
theorem RN_shift {s : Int} {m : Nat} {e : Int} {prec : Nat} {way : Str} (k : Nat) : RN s (m * 2 ^ k) e prec way = RN s m (e + k) prec way := by
  by_cases hm : m = 0
  · subst hm; rw [Nat.zero_mul, RN_zero, RN_zero]
  have hb := bl_mul k hm
  unfold RN
  rw [hb]
  by_cases h : prec ≤ bl m
  · have e1 : bl m + k - prec = (bl m - prec) + k := by omega
    rw [e1, Nat.pow_add, rd_scale _ _ _ _ _ (p2pos k)]
    congr 1; push_cast; omega
  · have e0 : bl m - prec = 0 := by omega
    rw [e0, Nat.pow_zero, rd_one]
    generalize hn : bl m + k - prec = n
    have hnk : n ≤ k := by omega
    have e1 : m * 2 ^ k = m * 2 ^ (k - n) * 2 ^ n := by rw [Nat.mul_assoc, ← Nat.pow_add]; congr 2; omega
    rw [e1, rd_exact _ _ _ _ (p2pos n), cn_shift]
    congr 1; omega

-- M19
def nm_trailing : List Str := [Str.ofString "n"]
def bd_trailing : Sms := (.cons (.ite (.nt (.loc 0)) (.cons (.ret (.cst (.int 0))) .nil) .nil) (.cons (.ret (.bin .Sub (.blen (.bin .BitAnd (.loc 0) (.neg (.loc 0)))) (.cst (.int 1)))) .nil))
def nm_normalize0 : List Str := [Str.ofString "sign", Str.ofString "man", Str.ofString "exp", Str.ofString "bc", Str.ofString "prec", Str.ofString "rnd", Str.ofString "n", Str.ofString "t"]
def bd_normalize0 : Sms := (.cons (.ite (.nt (.loc 1)) (.cons (.ret (.glb 7)) .nil) .nil) (.cons (.asg 6 (.bin .Sub (.loc 3) (.loc 4))) (.cons (.ite (.cmp .Gt (.loc 6) (.cst (.int 0))) (.cons (.ite (.cmp .Eq (.loc 5) (.glb 2)) (.cons (.asg 7 (.bin .RShift (.loc 1) (.bin .Sub (.loc 6) (.cst (.int 1))))) (.cons (.ite (.bool .And (.cons (.bin .BitAnd (.loc 7) (.cst (.int 1))) (.cons (.bool .Or (.cons (.bin .BitAnd (.loc 7) (.cst (.int 2))) (.cons (.bin .BitAnd (.loc 1) (.bin .Sub (.bin .LShift (.glb 1) (.bin .Sub (.loc 6) (.cst (.int 1)))) (.cst (.int 1)))) .nil))) .nil))) (.cons (.asg 1 (.bin .Add (.bin .RShift (.loc 7) (.cst (.int 1))) (.cst (.int 1)))) .nil) (.cons (.asg 1 (.bin .RShift (.loc 7) (.cst (.int 1)))) .nil)) .nil)) (.cons (.ite (.sub (.tab (.loc 5)) (.loc 0)) (.cons (.aug 1 .RShift (.loc 6)) .nil) (.cons (.asg 1 (.neg (.bin .RShift (.neg (.loc 1)) (.loc 6)))) .nil)) .nil)) (.cons (.aug 2 .Add (.loc 6)) (.cons (.asg 3 (.loc 4)) .nil))) .nil) (.cons (.ite (.nt (.bin .BitAnd (.loc 1) (.cst (.int 1)))) (.cons (.asg 7 (.call 0 (.cons (.loc 1) .nil))) (.cons (.aug 1 .RShift (.loc 7)) (.cons (.aug 2 .Add (.loc 7)) (.cons (.aug 3 .Sub (.loc 7)) .nil)))) .nil) (.cons (.ite (.cmp .Eq (.loc 1) (.cst (.int 1))) (.cons (.asg 3 (.cst (.int 1))) .nil) .nil) (.cons (.ret (.tup (.cons (.loc 0) (.cons (.loc 1) (.cons (.loc 2) (.cons (.loc 3) .nil)))))) .nil))))))
def nm_normalize : List Str := [Str.ofString "sign", Str.ofString "man", Str.ofString "exp", Str.ofString "bc", Str.ofString "prec", Str.ofString "rnd"]
def bd_normalize : Sms := (.cons (.asrt (.cmp .Eq (.loc 3) (.blen (.loc 1)))) (.cons (.asrt (.cmp .GtE (.loc 1) (.cst (.int 0)))) (.cons (.ret (.call 1 (.cons (.loc 0) (.cons (.loc 1) (.cons (.loc 2) (.cons (.loc 3) (.cons (.loc 4) (.cons (.loc 5) .nil)))))))) .nil)))
def nm_from_man_exp : List Str := [Str.ofString "man", Str.ofString "exp", Str.ofString "prec", Str.ofString "rnd", Str.ofString "sign", Str.ofString "bc", Str.ofString "t"]
def bd_from_man_exp : Sms := (.cons (.ite (.nt (.isint (.loc 0))) (.cons .rse .nil) .nil) (.cons (.asg 4 (.cst (.int 0))) (.cons (.ite (.cmp .Lt (.loc 0) (.cst (.int 0))) (.cons (.asg 4 (.cst (.int 1))) (.cons (.asg 0 (.neg (.loc 0))) .nil)) .nil) (.cons (.asg 5 (.blen (.loc 0))) (.cons (.ite (.nt (.loc 2)) (.cons (.ite (.nt (.loc 0)) (.cons (.ret (.glb 7)) .nil) .nil) (.cons (.ite (.nt (.bin .BitAnd (.loc 0) (.cst (.int 1)))) (.cons (.ite (.bin .BitAnd (.loc 0) (.cst (.int 2))) (.cons (.ret (.tup (.cons (.loc 4) (.cons (.bin .RShift (.loc 0) (.cst (.int 1))) (.cons (.bin .Add (.loc 1) (.cst (.int 1))) (.cons (.bin .Sub (.loc 5) (.cst (.int 1))) .nil)))))) .nil) .nil) (.cons (.asg 6 (.call 0 (.cons (.loc 0) .nil))) (.cons (.aug 0 .RShift (.loc 6)) (.cons (.aug 1 .Add (.loc 6)) (.cons (.aug 5 .Sub (.loc 6)) .nil))))) .nil) (.cons (.ret (.tup (.cons (.loc 4) (.cons (.loc 0) (.cons (.loc 1) (.cons (.loc 5) .nil)))))) .nil))) .nil) (.cons (.ret (.call 2 (.cons (.loc 4) (.cons (.loc 0) (.cons (.loc 1) (.cons (.loc 5) (.cons (.loc 2) (.cons (.loc 3) .nil)))))))) .nil))))))
def nm_to_man_exp : List Str := [Str.ofString "s", Str.ofString "signed", Str.ofString "sign", Str.ofString "man", Str.ofString "exp", Str.ofString "bc"]
def bd_to_man_exp : Sms := (.cons (.ite (.cmp .Is (.loc 1) (.cst .none)) (.cons (.asg 1 (.cst (.bool false))) .nil) .nil) (.cons (.unp [2, 3, 4, 5] (.loc 0)) (.cons (.ite (.bool .And (.cons (.nt (.loc 3)) (.cons (.loc 4) .nil))) (.cons .rse .nil) .nil) (.cons (.ite (.bool .And (.cons (.loc 1) (.cons (.loc 2) .nil))) (.cons (.asg 3 (.neg (.loc 3))) .nil) .nil) (.cons (.ret (.tup (.cons (.loc 3) (.cons (.loc 4) .nil)))) .nil)))))
def nm_mpf_cmp : List Str := [Str.ofString "s", Str.ofString "t", Str.ofString "ssign", Str.ofString "sman", Str.ofString "sexp", Str.ofString "sbc", Str.ofString "tsign", Str.ofString "tman", Str.ofString "texp", Str.ofString "tbc", Str.ofString "a", Str.ofString "b", Str.ofString "delta"]
def bd_mpf_cmp : Sms := (.cons (.unp [2, 3, 4, 5] (.loc 0)) (.cons (.unp [6, 7, 8, 9] (.loc 1)) (.cons (.ite (.bool .Or (.cons (.nt (.loc 3)) (.cons (.nt (.loc 7)) .nil))) (.cons (.ite (.cmp .Eq (.loc 0) (.glb 7)) (.cons (.ret (.neg (.call 12 (.cons (.loc 1) .nil)))) .nil) .nil) (.cons (.ite (.cmp .Eq (.loc 1) (.glb 7)) (.cons (.ret (.call 12 (.cons (.loc 0) .nil))) .nil) .nil) (.cons (.ite (.cmp .Eq (.loc 0) (.loc 1)) (.cons (.ret (.cst (.int 0))) .nil) .nil) (.cons (.ite (.cmp .Eq (.loc 1) (.glb 8)) (.cons (.ret (.cst (.int 1))) .nil) .nil) (.cons (.ite (.cmp .Eq (.loc 0) (.glb 9)) (.cons (.ret (.cst (.int 1))) .nil) .nil) (.cons (.ite (.cmp .Eq (.loc 1) (.glb 10)) (.cons (.ret (.cst (.int 1))) .nil) .nil) (.cons (.ret (.neg (.cst (.int 1)))) .nil))))))) .nil) (.cons (.ite (.cmp .NotEq (.loc 2) (.loc 6)) (.cons (.ite (.nt (.loc 2)) (.cons (.ret (.cst (.int 1))) .nil) .nil) (.cons (.ret (.neg (.cst (.int 1)))) .nil)) .nil) (.cons (.ite (.cmp .Eq (.loc 4) (.loc 8)) (.cons (.ite (.cmp .Eq (.loc 3) (.loc 7)) (.cons (.ret (.cst (.int 0))) .nil) .nil) (.cons (.ite (.cmp .Gt (.loc 3) (.loc 7)) (.cons (.ite (.loc 2) (.cons (.ret (.neg (.cst (.int 1)))) .nil) (.cons (.ret (.cst (.int 1))) .nil)) .nil) (.cons (.ite (.loc 2) (.cons (.ret (.cst (.int 1))) .nil) (.cons (.ret (.neg (.cst (.int 1)))) .nil)) .nil)) .nil)) .nil) (.cons (.asg 10 (.bin .Add (.loc 5) (.loc 4))) (.cons (.asg 11 (.bin .Add (.loc 9) (.loc 8))) (.cons (.ite (.loc 2) (.cons (.ite (.cmp .Lt (.loc 10) (.loc 11)) (.cons (.ret (.cst (.int 1))) .nil) .nil) (.cons (.ite (.cmp .Gt (.loc 10) (.loc 11)) (.cons (.ret (.neg (.cst (.int 1)))) .nil) .nil) .nil)) (.cons (.ite (.cmp .Lt (.loc 10) (.loc 11)) (.cons (.ret (.neg (.cst (.int 1)))) .nil) .nil) (.cons (.ite (.cmp .Gt (.loc 10) (.loc 11)) (.cons (.ret (.cst (.int 1))) .nil) .nil) .nil))) (.cons (.asg 12 (.call 14 (.cons (.loc 0) (.cons (.loc 1) (.cons (.cst (.int 5)) (.cons (.glb 3) .nil)))))) (.cons (.ite (.sub (.loc 12) (.cst (.int 0))) (.cons (.ret (.neg (.cst (.int 1)))) .nil) .nil) (.cons (.ret (.cst (.int 1))) .nil)))))))))))
def nm_mpf_lt : List Str := [Str.ofString "s", Str.ofString "t"]
def bd_mpf_lt : Sms := (.cons (.ite (.bool .Or (.cons (.cmp .Eq (.loc 0) (.glb 8)) (.cons (.cmp .Eq (.loc 1) (.glb 8)) .nil))) (.cons (.ret (.cst (.bool false))) .nil) .nil) (.cons (.ret (.cmp .Lt (.call 5 (.cons (.loc 0) (.cons (.loc 1) .nil))) (.cst (.int 0)))) .nil))
def nm_mpf_gt : List Str := [Str.ofString "s", Str.ofString "t"]
def bd_mpf_gt : Sms := (.cons (.ite (.bool .Or (.cons (.cmp .Eq (.loc 0) (.glb 8)) (.cons (.cmp .Eq (.loc 1) (.glb 8)) .nil))) (.cons (.ret (.cst (.bool false))) .nil) .nil) (.cons (.ret (.cmp .Gt (.call 5 (.cons (.loc 0) (.cons (.loc 1) .nil))) (.cst (.int 0)))) .nil))
def nm_mpf_min_max : List Str := [Str.ofString "seq", Str.ofString "min", Str.ofString "max", Str.ofString "x"]
def bd_mpf_min_max : Sms := (.cons (.asg2 1 2 (.sub (.loc 0) (.cst (.int 0)))) (.cons (.forl 3 (.slfrom (.loc 0) 1) (.cons (.ite (.call 6 (.cons (.loc 3) (.cons (.loc 1) .nil))) (.cons (.asg 1 (.loc 3)) .nil) .nil) (.cons (.ite (.call 7 (.cons (.loc 3) (.cons (.loc 2) .nil))) (.cons (.asg 2 (.loc 3)) .nil) .nil) .nil))) (.cons (.ret (.tup (.cons (.loc 1) (.cons (.loc 2) .nil)))) .nil)))
def nm_mpf_pos : List Str := [Str.ofString "s", Str.ofString "prec", Str.ofString "rnd", Str.ofString "sign", Str.ofString "man", Str.ofString "exp", Str.ofString "bc"]
def bd_mpf_pos : Sms := (.cons (.ite (.loc 1) (.cons (.unp [3, 4, 5, 6] (.loc 0)) (.cons (.ite (.bool .And (.cons (.nt (.loc 4)) (.cons (.loc 5) .nil))) (.cons (.ret (.loc 0)) .nil) .nil) (.cons (.ret (.call 2 (.cons (.loc 3) (.cons (.loc 4) (.cons (.loc 5) (.cons (.loc 6) (.cons (.loc 1) (.cons (.loc 2) .nil)))))))) .nil))) .nil) (.cons (.ret (.loc 0)) .nil))
def nm_mpf_neg : List Str := [Str.ofString "s", Str.ofString "prec", Str.ofString "rnd", Str.ofString "sign", Str.ofString "man", Str.ofString "exp", Str.ofString "bc"]
def bd_mpf_neg : Sms := (.cons (.unp [3, 4, 5, 6] (.loc 0)) (.cons (.ite (.nt (.loc 4)) (.cons (.ite (.loc 5) (.cons (.ite (.cmp .Eq (.loc 0) (.glb 9)) (.cons (.ret (.glb 10)) .nil) .nil) (.cons (.ite (.cmp .Eq (.loc 0) (.glb 10)) (.cons (.ret (.glb 9)) .nil) .nil) .nil)) .nil) (.cons (.ret (.loc 0)) .nil)) .nil) (.cons (.ite (.nt (.loc 1)) (.cons (.ret (.tup (.cons (.bin .Sub (.cst (.int 1)) (.loc 3)) (.cons (.loc 4) (.cons (.loc 5) (.cons (.loc 6) .nil)))))) .nil) .nil) (.cons (.ret (.call 2 (.cons (.bin .Sub (.cst (.int 1)) (.loc 3)) (.cons (.loc 4) (.cons (.loc 5) (.cons (.loc 6) (.cons (.loc 1) (.cons (.loc 2) .nil)))))))) .nil))))
def nm_mpf_abs : List Str := [Str.ofString "s", Str.ofString "prec", Str.ofString "rnd", Str.ofString "sign", Str.ofString "man", Str.ofString "exp", Str.ofString "bc"]
def bd_mpf_abs : Sms := (.cons (.unp [3, 4, 5, 6] (.loc 0)) (.cons (.ite (.bool .And (.cons (.nt (.loc 4)) (.cons (.loc 5) .nil))) (.cons (.ite (.cmp .Eq (.loc 0) (.glb 10)) (.cons (.ret (.glb 9)) .nil) .nil) (.cons (.ret (.loc 0)) .nil)) .nil) (.cons (.ite (.nt (.loc 1)) (.cons (.ite (.loc 3) (.cons (.ret (.tup (.cons (.cst (.int 0)) (.cons (.loc 4) (.cons (.loc 5) (.cons (.loc 6) .nil)))))) .nil) .nil) (.cons (.ret (.loc 0)) .nil)) .nil) (.cons (.ret (.call 2 (.cons (.cst (.int 0)) (.cons (.loc 4) (.cons (.loc 5) (.cons (.loc 6) (.cons (.loc 1) (.cons (.loc 2) .nil)))))))) .nil))))
def nm_mpf_sign : List Str := [Str.ofString "s", Str.ofString "sign", Str.ofString "man", Str.ofString "exp", Str.ofString "bc"]
def bd_mpf_sign : Sms := (.cons (.unp [1, 2, 3, 4] (.loc 0)) (.cons (.ite (.nt (.loc 2)) (.cons (.ite (.cmp .Eq (.loc 0) (.glb 9)) (.cons (.ret (.cst (.int 1))) .nil) .nil) (.cons (.ite (.cmp .Eq (.loc 0) (.glb 10)) (.cons (.ret (.neg (.cst (.int 1)))) .nil) .nil) (.cons (.ret (.cst (.int 0))) .nil))) .nil) (.cons (.ret (.bin .Pow (.neg (.cst (.int 1))) (.loc 1))) .nil)))
def nm_mpf_add : List Str := [Str.ofString "s", Str.ofString "t", Str.ofString "prec", Str.ofString "rnd", Str.ofString "_sub", Str.ofString "ssign", Str.ofString "sman", Str.ofString "sexp", Str.ofString "sbc", Str.ofString "tsign", Str.ofString "tman", Str.ofString "texp", Str.ofString "tbc", Str.ofString "offset", Str.ofString "delta", Str.ofString "man", Str.ofString "bc"]
def bd_mpf_add : Sms := (.cons (.unp [5, 6, 7, 8] (.loc 0)) (.cons (.unp [9, 10, 11, 12] (.loc 1)) (.cons (.aug 9 .BitXor (.loc 4)) (.cons (.ite (.bool .And (.cons (.loc 6) (.cons (.loc 10) .nil))) (.cons (.asg 13 (.bin .Sub (.loc 7) (.loc 11))) (.cons (.ite (.loc 13) (.cons (.ite (.cmp .Gt (.loc 13) (.cst (.int 0))) (.cons (.ite (.bool .And (.cons (.cmp .Gt (.loc 13) (.cst (.int 100))) (.cons (.loc 2) .nil))) (.cons (.asg 14 (.bin .Sub (.bin .Sub (.bin .Add (.loc 8) (.loc 7)) (.loc 12)) (.loc 11))) (.cons (.ite (.cmp .Gt (.loc 14) (.bin .Add (.loc 2) (.cst (.int 4)))) (.cons (.asg 13 (.bin .Add (.loc 2) (.cst (.int 4)))) (.cons (.aug 6 .LShift (.loc 13)) (.cons (.ite (.cmp .Eq (.loc 9) (.loc 5)) (.cons (.aug 6 .Add (.cst (.int 1))) .nil) (.cons (.aug 6 .Sub (.cst (.int 1))) .nil)) (.cons (.ret (.call 2 (.cons (.loc 5) (.cons (.loc 6) (.cons (.bin .Sub (.loc 7) (.loc 13)) (.cons (.blen (.loc 6)) (.cons (.loc 2) (.cons (.loc 3) .nil)))))))) .nil)))) .nil) .nil)) .nil) (.cons (.ite (.cmp .Eq (.loc 5) (.loc 9)) (.cons (.asg 15 (.bin .Add (.loc 10) (.bin .LShift (.loc 6) (.loc 13)))) .nil) (.cons (.ite (.loc 5) (.cons (.asg 15 (.bin .Sub (.loc 10) (.bin .LShift (.loc 6) (.loc 13)))) .nil) (.cons (.asg 15 (.bin .Sub (.bin .LShift (.loc 6) (.loc 13)) (.loc 10))) .nil)) (.cons (.ite (.cmp .GtE (.loc 15) (.cst (.int 0))) (.cons (.asg 5 (.cst (.int 0))) .nil) (.cons (.asg 15 (.neg (.loc 15))) (.cons (.asg 5 (.cst (.int 1))) .nil))) .nil))) (.cons (.asg 16 (.blen (.loc 15))) (.cons (.ret (.call 2 (.cons (.loc 5) (.cons (.loc 15) (.cons (.loc 11) (.cons (.loc 16) (.cons (.bool .Or (.cons (.loc 2) (.cons (.loc 16) .nil))) (.cons (.loc 3) .nil)))))))) .nil)))) (.cons (.ite (.cmp .Lt (.loc 13) (.cst (.int 0))) (.cons (.ite (.bool .And (.cons (.cmp .Lt (.loc 13) (.neg (.cst (.int 100)))) (.cons (.loc 2) .nil))) (.cons (.asg 14 (.bin .Sub (.bin .Sub (.bin .Add (.loc 12) (.loc 11)) (.loc 8)) (.loc 7))) (.cons (.ite (.cmp .Gt (.loc 14) (.bin .Add (.loc 2) (.cst (.int 4)))) (.cons (.asg 13 (.bin .Add (.loc 2) (.cst (.int 4)))) (.cons (.aug 10 .LShift (.loc 13)) (.cons (.ite (.cmp .Eq (.loc 5) (.loc 9)) (.cons (.aug 10 .Add (.cst (.int 1))) .nil) (.cons (.aug 10 .Sub (.cst (.int 1))) .nil)) (.cons (.ret (.call 2 (.cons (.loc 9) (.cons (.loc 10) (.cons (.bin .Sub (.loc 11) (.loc 13)) (.cons (.blen (.loc 10)) (.cons (.loc 2) (.cons (.loc 3) .nil)))))))) .nil)))) .nil) .nil)) .nil) (.cons (.ite (.cmp .Eq (.loc 5) (.loc 9)) (.cons (.asg 15 (.bin .Add (.loc 6) (.bin .LShift (.loc 10) (.neg (.loc 13))))) .nil) (.cons (.ite (.loc 9) (.cons (.asg 15 (.bin .Sub (.loc 6) (.bin .LShift (.loc 10) (.neg (.loc 13))))) .nil) (.cons (.asg 15 (.bin .Sub (.bin .LShift (.loc 10) (.neg (.loc 13))) (.loc 6))) .nil)) (.cons (.ite (.cmp .GtE (.loc 15) (.cst (.int 0))) (.cons (.asg 5 (.cst (.int 0))) .nil) (.cons (.asg 15 (.neg (.loc 15))) (.cons (.asg 5 (.cst (.int 1))) .nil))) .nil))) (.cons (.asg 16 (.blen (.loc 15))) (.cons (.ret (.call 2 (.cons (.loc 5) (.cons (.loc 15) (.cons (.loc 7) (.cons (.loc 16) (.cons (.bool .Or (.cons (.loc 2) (.cons (.loc 16) .nil))) (.cons (.loc 3) .nil)))))))) .nil)))) .nil) .nil)) .nil) .nil) (.cons (.ite (.cmp .Eq (.loc 5) (.loc 9)) (.cons (.asg 15 (.bin .Add (.loc 10) (.loc 6))) .nil) (.cons (.ite (.loc 5) (.cons (.asg 15 (.bin .Sub (.loc 10) (.loc 6))) .nil) (.cons (.asg 15 (.bin .Sub (.loc 6) (.loc 10))) .nil)) (.cons (.ite (.cmp .GtE (.loc 15) (.cst (.int 0))) (.cons (.asg 5 (.cst (.int 0))) .nil) (.cons (.asg 15 (.neg (.loc 15))) (.cons (.asg 5 (.cst (.int 1))) .nil))) .nil))) (.cons (.asg 16 (.blen (.loc 15))) (.cons (.ret (.call 2 (.cons (.loc 5) (.cons (.loc 15) (.cons (.loc 11) (.cons (.loc 16) (.cons (.bool .Or (.cons (.loc 2) (.cons (.loc 16) .nil))) (.cons (.loc 3) .nil)))))))) .nil))))) .nil) (.cons (.ite (.loc 4) (.cons (.asg 1 (.call 10 (.cons (.loc 1) .nil))) .nil) .nil) (.cons (.ite (.nt (.loc 6)) (.cons (.ite (.loc 7) (.cons (.ite (.bool .Or (.cons (.cmp .Eq (.loc 0) (.loc 1)) (.cons (.loc 10) (.cons (.nt (.loc 11)) .nil)))) (.cons (.ret (.loc 0)) .nil) .nil) (.cons (.ret (.glb 8)) .nil)) .nil) (.cons (.ite (.loc 10) (.cons (.ret (.call 2 (.cons (.loc 9) (.cons (.loc 10) (.cons (.loc 11) (.cons (.loc 12) (.cons (.bool .Or (.cons (.loc 2) (.cons (.loc 12) .nil))) (.cons (.loc 3) .nil)))))))) .nil) .nil) (.cons (.ret (.loc 1)) .nil))) .nil) (.cons (.ite (.loc 11) (.cons (.ret (.loc 1)) .nil) .nil) (.cons (.ite (.loc 6) (.cons (.ret (.call 2 (.cons (.loc 5) (.cons (.loc 6) (.cons (.loc 7) (.cons (.loc 8) (.cons (.bool .Or (.cons (.loc 2) (.cons (.loc 8) .nil))) (.cons (.loc 3) .nil)))))))) .nil) .nil) (.cons (.ret (.loc 0)) .nil)))))))))
def nm_mpf_sub : List Str := [Str.ofString "s", Str.ofString "t", Str.ofString "prec", Str.ofString "rnd"]
def bd_mpf_sub : Sms := (.cons (.ret (.call 13 (.cons (.loc 0) (.cons (.loc 1) (.cons (.loc 2) (.cons (.loc 3) (.cons (.cst (.int 1)) .nil))))))) .nil)
def nm_mpf_sum : List Str := [Str.ofString "xs", Str.ofString "prec", Str.ofString "rnd", Str.ofString "absolute", Str.ofString "man", Str.ofString "exp", Str.ofString "max_extra_prec", Str.ofString "special", Str.ofString "x", Str.ofString "xsign", Str.ofString "xman", Str.ofString "xexp", Str.ofString "xbc", Str.ofString "delta"]
def bd_mpf_sum : Sms := (.cons (.asg 4 (.bi .int (.cons (.cst (.int 0)) .nil))) (.cons (.asg 5 (.cst (.int 0))) (.cons (.asg 6 (.bool .Or (.cons (.bin .Mult (.loc 1) (.cst (.int 2))) (.cons (.cst (.int 1000000)) .nil)))) (.cons (.asg 7 (.cst .none)) (.cons (.forl 8 (.loc 0) (.cons (.unp [9, 10, 11, 12] (.loc 8)) (.cons (.ite (.loc 10) (.cons (.ite (.bool .And (.cons (.loc 9) (.cons (.nt (.loc 3)) .nil))) (.cons (.asg 10 (.neg (.loc 10))) .nil) .nil) (.cons (.asg 13 (.bin .Sub (.loc 11) (.loc 5))) (.cons (.ite (.cmp .GtE (.loc 11) (.loc 5)) (.cons (.ite (.bool .And (.cons (.cmp .Gt (.loc 13) (.loc 6)) (.cons (.bool .Or (.cons (.nt (.loc 4)) (.cons (.cmp .Gt (.bin .Sub (.loc 13) (.blen (.loc 4))) (.loc 6)) .nil))) .nil))) (.cons (.asg 4 (.loc 10)) (.cons (.asg 5 (.loc 11)) .nil)) (.cons (.aug 4 .Add (.bin .LShift (.loc 10) (.loc 13))) .nil)) .nil) (.cons (.asg 13 (.neg (.loc 13))) (.cons (.ite (.cmp .Gt (.bin .Sub (.loc 13) (.loc 12)) (.loc 6)) (.cons (.ite (.nt (.loc 4)) (.cons (.unps [4, 5] (.cons (.loc 10) (.cons (.loc 11) .nil))) .nil) .nil) .nil) (.cons (.asg 4 (.bin .Add (.bin .LShift (.loc 4) (.loc 13)) (.loc 10))) (.cons (.asg 5 (.loc 11)) .nil))) .nil))) .nil))) (.cons (.ite (.loc 11) (.cons (.ite (.loc 3) (.cons (.asg 8 (.call 11 (.cons (.loc 8) .nil))) .nil) .nil) (.cons (.asg 7 (.call 13 (.cons (.bool .Or (.cons (.loc 7) (.cons (.glb 7) .nil))) (.cons (.loc 8) (.cons (.cst (.int 1)) .nil))))) .nil)) .nil) .nil)) .nil))) (.cons (.ite (.loc 7) (.cons (.ret (.loc 7)) .nil) .nil) (.cons (.ret (.call 3 (.cons (.loc 4) (.cons (.loc 5) (.cons (.loc 1) (.cons (.loc 2) .nil)))))) .nil)))))))
def nm_mpf_shift : List Str := [Str.ofString "s", Str.ofString "n", Str.ofString "sign", Str.ofString "man", Str.ofString "exp", Str.ofString "bc"]
def bd_mpf_shift : Sms := (.cons (.unp [2, 3, 4, 5] (.loc 0)) (.cons (.ite (.nt (.loc 3)) (.cons (.ret (.loc 0)) .nil) .nil) (.cons (.ret (.tup (.cons (.loc 2) (.cons (.loc 3) (.cons (.bin .Add (.loc 4) (.loc 1)) (.cons (.loc 5) .nil)))))) .nil)))
def nm_mpf_frexp : List Str := [Str.ofString "x", Str.ofString "sign", Str.ofString "man", Str.ofString "exp", Str.ofString "bc"]
def bd_mpf_frexp : Sms := (.cons (.unp [1, 2, 3, 4] (.loc 0)) (.cons (.ite (.nt (.loc 2)) (.cons (.ite (.cmp .Eq (.loc 0) (.glb 7)) (.cons (.ret (.tup (.cons (.glb 7) (.cons (.cst (.int 0)) .nil)))) .nil) (.cons .rse .nil)) .nil) .nil) (.cons (.ret (.tup (.cons (.call 16 (.cons (.loc 0) (.cons (.bin .Sub (.neg (.loc 4)) (.loc 3)) .nil))) (.cons (.bin .Add (.loc 4) (.loc 3)) .nil)))) .nil)))
def nm_mpf_mod : List Str := [Str.ofString "s", Str.ofString "t", Str.ofString "prec", Str.ofString "rnd", Str.ofString "ssign", Str.ofString "sman", Str.ofString "sexp", Str.ofString "sbc", Str.ofString "tsign", Str.ofString "tman", Str.ofString "texp", Str.ofString "tbc", Str.ofString "base", Str.ofString "man", Str.ofString "sign"]
def bd_mpf_mod : Sms := (.cons (.unp [4, 5, 6, 7] (.loc 0)) (.cons (.unp [8, 9, 10, 11] (.loc 1)) (.cons (.ite (.bool .Or (.cons (.bool .And (.cons (.nt (.loc 5)) (.cons (.loc 6) .nil))) (.cons (.bool .And (.cons (.nt (.loc 9)) (.cons (.loc 10) .nil))) .nil))) (.cons (.ite (.bool .Or (.cons (.cmp .Eq (.loc 1) (.glb 9)) (.cons (.cmp .Eq (.loc 1) (.glb 10)) .nil))) (.cons (.ret (.loc 0)) .nil) .nil) (.cons (.ret (.glb 8)) .nil)) .nil) (.cons (.ite (.bool .And (.cons (.cmp .Eq (.loc 4) (.loc 8)) (.cons (.cmp .Gt (.loc 10) (.bin .Add (.loc 6) (.loc 7))) .nil))) (.cons (.ret (.loc 0)) .nil) .nil) (.cons (.ite (.bool .And (.cons (.cmp .Eq (.loc 9) (.cst (.int 1))) (.cons (.cmp .Gt (.loc 6) (.bin .Add (.loc 10) (.loc 11))) .nil))) (.cons (.ret (.glb 7)) .nil) .nil) (.cons (.asg 12 (.bi .min2 (.cons (.loc 6) (.cons (.loc 10) .nil)))) (.cons (.asg 5 (.bin .Mult (.bin .Pow (.neg (.cst (.int 1))) (.loc 4)) (.loc 5))) (.cons (.asg 9 (.bin .Mult (.bin .Pow (.neg (.cst (.int 1))) (.loc 8)) (.loc 9))) (.cons (.asg 13 (.bin .Mod (.bin .LShift (.loc 5) (.bin .Sub (.loc 6) (.loc 12))) (.bin .LShift (.loc 9) (.bin .Sub (.loc 10) (.loc 12))))) (.cons (.ite (.cmp .GtE (.loc 13) (.cst (.int 0))) (.cons (.asg 14 (.cst (.int 0))) .nil) (.cons (.asg 13 (.neg (.loc 13))) (.cons (.asg 14 (.cst (.int 1))) .nil))) (.cons (.ret (.call 2 (.cons (.loc 14) (.cons (.loc 13) (.cons (.loc 12) (.cons (.blen (.loc 13)) (.cons (.loc 2) (.cons (.loc 3) .nil)))))))) .nil)))))))))))
def nm_mpf_perturb : List Str := [Str.ofString "x", Str.ofString "eps_sign", Str.ofString "prec", Str.ofString "rnd", Str.ofString "sign", Str.ofString "man", Str.ofString "exp", Str.ofString "bc", Str.ofString "eps", Str.ofString "away"]
def bd_mpf_perturb : Sms := (.cons (.ite (.cmp .Eq (.loc 3) (.glb 2)) (.cons (.ret (.call 9 (.cons (.loc 0) (.cons (.loc 2) (.cons (.loc 3) .nil))))) .nil) .nil) (.cons (.unp [4, 5, 6, 7] (.loc 0)) (.cons (.asg 8 (.tup (.cons (.loc 1) (.cons (.glb 1) (.cons (.bin .Sub (.bin .Sub (.bin .Add (.loc 6) (.loc 7)) (.loc 2)) (.cst (.int 1))) (.cons (.cst (.int 1)) .nil)))))) (.cons (.ite (.loc 4) (.cons (.asg 9 (.bin .BitXor (.cmp .In (.loc 3) (.tup (.cons (.glb 6) (.cons (.glb 4) .nil)))) (.loc 1))) .nil) (.cons (.asg 9 (.bin .BitXor (.cmp .In (.loc 3) (.tup (.cons (.glb 5) (.cons (.glb 4) .nil)))) (.loc 1))) .nil)) (.cons (.ite (.loc 9) (.cons (.ret (.call 13 (.cons (.loc 0) (.cons (.loc 8) (.cons (.loc 2) (.cons (.loc 3) .nil)))))) .nil) (.cons (.ret (.call 9 (.cons (.loc 0) (.cons (.loc 2) (.cons (.loc 3) .nil))))) .nil)) .nil)))))
def nm_law_state : List Str := [Str.ofString "script", Str.ofString "numbers"]
def bd_law_state : Sms := (.cons (.asgc 1 (.bin .Mod (.loc 0) (.cst (.int 1000003))) (.slto (.loc 0) 24)) (.cons (.ret (.lst (.cons (.cst (.int 0)) (.cons (.loc 1) (.cons (.bin .Mod (.bin .Add (.bin .Add (.bin .Mult (.bi .sum (.cons (.loc 1) .nil)) (.cst (.int 37))) (.bin .Mult (.bi .len (.cons (.loc 1) .nil)) (.cst (.int 19)))) (.cst (.int 17))) (.cst (.int 7877))) .nil))))) .nil))
def nm_law_draw : List Str := [Str.ofString "state", Str.ofString "many", Str.ofString "at"]
def bd_law_draw : Sms := (.cons (.asg 2 (.sub (.loc 0) (.cst (.int 0)))) (.cons (.seti (.loc 0) (.cst (.int 0)) (.bin .Add (.loc 2) (.cst (.int 1)))) (.cons (.ite (.cmp .Lt (.loc 2) (.bi .len (.cons (.sub (.loc 0) (.cst (.int 1))) .nil))) (.cons (.ret (.bin .Mod (.sub (.sub (.loc 0) (.cst (.int 1))) (.loc 2)) (.loc 1))) .nil) .nil) (.cons (.seti (.loc 0) (.cst (.int 2)) (.bin .Mod (.bin .Add (.bin .Mult (.sub (.loc 0) (.cst (.int 2))) (.cst (.int 311))) (.cst (.int 1429))) (.cst (.int 7877)))) (.cons (.ret (.bin .Mod (.bin .FloorDiv (.sub (.loc 0) (.cst (.int 2))) (.cst (.int 3))) (.loc 1))) .nil)))))
def nm_law_rounded : List Str := [Str.ofString "over", Str.ofString "under", Str.ofString "bits", Str.ofString "way", Str.ofString "minus", Str.ofString "whole", Str.ofString "deep", Str.ofString "found", Str.ofString "rest", Str.ofString "is_more", Str.ofString "size"]
def bd_law_rounded : Sms := (.cons (.ite (.cmp .Eq (.loc 0) (.cst (.int 0))) (.cons (.ret (.tup (.cons (.cst (.int 0)) (.cons (.cst (.int 0)) (.cons (.cst (.int 0)) (.cons (.cst (.int 0)) .nil)))))) .nil) .nil) (.cons (.unps [4, 5, 6] (.cons (.ife (.cmp .Lt (.loc 0) (.cst (.int 0))) (.cst (.int 1)) (.cst (.int 0))) (.cons (.bi .abs (.cons (.loc 0) .nil)) (.cons (.cst (.int 0)) .nil)))) (.cons (.whl (.cmp .GtE (.bin .FloorDiv (.loc 5) (.loc 1)) (.bin .LShift (.cst (.int 1)) (.loc 2))) (.cons (.unps [1, 6] (.cons (.bin .Mult (.loc 1) (.cst (.int 2))) (.cons (.bin .Add (.loc 6) (.cst (.int 1))) .nil))) .nil)) (.cons (.whl (.cmp .Lt (.bin .FloorDiv (.loc 5) (.loc 1)) (.bin .LShift (.cst (.int 1)) (.bin .Sub (.loc 2) (.cst (.int 1))))) (.cons (.unps [5, 6] (.cons (.bin .Mult (.loc 5) (.cst (.int 2))) (.cons (.bin .Sub (.loc 6) (.cst (.int 1))) .nil))) .nil)) (.cons (.unps [7, 8] (.cons (.bin .FloorDiv (.loc 5) (.loc 1)) (.cons (.bin .Mod (.loc 5) (.loc 1)) .nil))) (.cons (.ite (.cmp .Eq (.loc 3) (.cst (.str (Str.ofString "n")))) (.cons (.asg 9 (.bool .Or (.cons (.cmp .Gt (.bin .Mult (.cst (.int 2)) (.loc 8)) (.loc 1)) (.cons (.bool .And (.cons (.cmp .Eq (.bin .Mult (.cst (.int 2)) (.loc 8)) (.loc 1)) (.cons (.cmp .Eq (.bin .Mod (.loc 7) (.cst (.int 2))) (.cst (.int 1))) .nil))) .nil)))) .nil) (.cons (.asg 9 (.bool .And (.cons (.cmp .Gt (.loc 8) (.cst (.int 0))) (.cons (.bool .Or (.cons (.cmp .Eq (.loc 3) (.cst (.str (Str.ofString "u")))) (.cons (.bool .And (.cons (.cmp .Eq (.loc 3) (.cst (.str (Str.ofString "c")))) (.cons (.cmp .Eq (.loc 4) (.cst (.int 0))) .nil))) (.cons (.bool .And (.cons (.cmp .Eq (.loc 3) (.cst (.str (Str.ofString "f")))) (.cons (.cmp .Eq (.loc 4) (.cst (.int 1))) .nil))) .nil)))) .nil)))) .nil)) (.cons (.asg 7 (.ife (.loc 9) (.bin .Add (.loc 7) (.cst (.int 1))) (.loc 7))) (.cons (.whl (.cmp .Eq (.bin .Mod (.loc 7) (.cst (.int 2))) (.cst (.int 0))) (.cons (.unps [7, 6] (.cons (.bin .FloorDiv (.loc 7) (.cst (.int 2))) (.cons (.bin .Add (.loc 6) (.cst (.int 1))) .nil))) .nil)) (.cons (.asg 10 (.cst (.int 0))) (.cons (.whl (.cmp .Gt (.bin .RShift (.loc 7) (.loc 10)) (.cst (.int 0))) (.cons (.asg 10 (.bin .Add (.loc 10) (.cst (.int 1)))) .nil)) (.cons (.ret (.tup (.cons (.loc 4) (.cons (.loc 7) (.cons (.loc 6) (.cons (.loc 10) .nil)))))) .nil)))))))))))
def nm_law_power : List Str := [Str.ofString "many", Str.ofString "found", Str.ofString "turn"]
def bd_law_power : Sms := (.cons (.asg 1 (.cst (.int 1))) (.cons (.forr 2 (.loc 0) (.cons (.asg 1 (.bin .Mult (.loc 1) (.cst (.int 2)))) .nil)) (.cons (.ret (.loc 1)) .nil)))
def nm_law_tuple : List Str := [Str.ofString "whole", Str.ofString "deep", Str.ofString "minus", Str.ofString "size"]
def bd_law_tuple : Sms := (.cons (.ite (.cmp .Eq (.loc 0) (.cst (.int 0))) (.cons (.ret (.tup (.cons (.cst (.int 0)) (.cons (.cst (.int 0)) (.cons (.cst (.int 0)) (.cons (.cst (.int 0)) .nil)))))) .nil) .nil) (.cons (.unps [2, 0, 3] (.cons (.ife (.cmp .Lt (.loc 0) (.cst (.int 0))) (.cst (.int 1)) (.cst (.int 0))) (.cons (.bi .abs (.cons (.loc 0) .nil)) (.cons (.cst (.int 0)) .nil)))) (.cons (.whl (.cmp .Eq (.bin .Mod (.loc 0) (.cst (.int 2))) (.cst (.int 0))) (.cons (.unps [0, 1] (.cons (.bin .FloorDiv (.loc 0) (.cst (.int 2))) (.cons (.bin .Add (.loc 1) (.cst (.int 1))) .nil))) .nil)) (.cons (.whl (.cmp .Gt (.bin .RShift (.loc 0) (.loc 3)) (.cst (.int 0))) (.cons (.asg 3 (.bin .Add (.loc 3) (.cst (.int 1)))) .nil)) (.cons (.ret (.tup (.cons (.loc 2) (.cons (.loc 0) (.cons (.loc 1) (.cons (.loc 3) .nil)))))) .nil)))))
def nm_law_fixed : List Str := [Str.ofString "row"]
def bd_law_fixed : Sms := (.cons (.ret (.comp2 (.bin .Mult (.loc 0) (.call 23 (.cons (.bin .Add (.loc 1) (.cst (.int 20))) .nil))) (.loc 0))) .nil)
def nm_law_made : List Str := [Str.ofString "whole", Str.ofString "bits", Str.ofString "way"]
def bd_law_made : Sms := (.cons (.ret (.ife (.cmp .Gt (.loc 1) (.cst (.int 0))) (.call 22 (.cons (.loc 0) (.cons (.call 23 (.cons (.cst (.int 20)) .nil)) (.cons (.loc 1) (.cons (.loc 2) .nil))))) (.call 24 (.cons (.loc 0) (.cons (.neg (.cst (.int 20))) .nil))))) .nil)
def nm_law_rest_right : List Str := [Str.ofString "row", Str.ofString "bits", Str.ofString "way", Str.ofString "values", Str.ofString "at", Str.ofString "told", Str.ofString "over", Str.ofString "under", Str.ofString "rest"]
def bd_law_rest_right : Sms := (.cons (.asg 3 (.call 25 (.cons (.loc 0) .nil))) (.cons (.forr 4 (.bin .Sub (.bi .len (.cons (.loc 0) .nil)) (.cst (.int 1))) (.cons (.ite (.cmp .NotEq (.sub (.loc 3) (.bin .Add (.loc 4) (.cst (.int 1)))) (.cst (.int 0))) (.cons (.asg 5 (.call 18 (.cons (.call 24 (.cons (.sub (.sub (.loc 0) (.loc 4)) (.cst (.int 0))) (.cons (.sub (.sub (.loc 0) (.loc 4)) (.cst (.int 1))) .nil))) (.cons (.call 24 (.cons (.sub (.sub (.loc 0) (.bin .Add (.loc 4) (.cst (.int 1)))) (.cst (.int 0))) (.cons (.sub (.sub (.loc 0) (.bin .Add (.loc 4) (.cst (.int 1)))) (.cst (.int 1))) .nil))) (.cons (.loc 1) (.cons (.loc 2) .nil)))))) (.cons (.unps [6, 7] (.cons (.bi .abs (.cons (.sub (.loc 3) (.loc 4)) .nil)) (.cons (.bi .abs (.cons (.sub (.loc 3) (.bin .Add (.loc 4) (.cst (.int 1)))) .nil)) .nil))) (.cons (.asg 8 (.bin .Sub (.loc 6) (.bin .Mult (.bin .FloorDiv (.loc 6) (.loc 7)) (.loc 7)))) (.cons (.ite (.bool .And (.cons (.cmp .NotEq (.loc 8) (.cst (.int 0))) (.cons (.cmp .NotEq (.cmp .Lt (.sub (.loc 3) (.loc 4)) (.cst (.int 0))) (.cmp .Lt (.sub (.loc 3) (.bin .Add (.loc 4) (.cst (.int 1)))) (.cst (.int 0)))) .nil))) (.cons (.asg 8 (.bin .Sub (.loc 7) (.loc 8))) .nil) .nil) (.cons (.ite (.cmp .NotEq (.loc 5) (.call 22 (.cons (.ife (.cmp .Lt (.sub (.loc 3) (.bin .Add (.loc 4) (.cst (.int 1)))) (.cst (.int 0))) (.neg (.loc 8)) (.loc 8)) (.cons (.call 23 (.cons (.cst (.int 20)) .nil)) (.cons (.loc 1) (.cons (.loc 2) .nil)))))) (.cons (.ret (.cst (.bool false))) .nil) .nil) .nil))))) .nil) .nil)) (.cons (.ret (.cst (.bool true))) .nil)))
def nm_law_parts_right : List Str := [Str.ofString "state", Str.ofString "whole", Str.ofString "deep", Str.ofString "number", Str.ofString "more", Str.ofString "part", Str.ofString "place"]
def bd_law_parts_right : Sms := (.cons (.unps [3, 4] (.cons (.call 24 (.cons (.loc 1) (.cons (.loc 2) .nil))) (.cons (.bin .Sub (.call 21 (.cons (.loc 0) (.cons (.cst (.int 401)) .nil))) (.cst (.int 200))) .nil))) (.cons (.ite (.bool .Or (.cons (.cmp .NotEq (.call 3 (.cons (.loc 1) (.cons (.loc 2) .nil))) (.loc 3)) (.cons (.cmp .NotEq (.call 4 (.cons (.loc 3) .nil)) (.tup (.cons (.sub (.loc 3) (.cst (.int 1))) (.cons (.sub (.loc 3) (.cst (.int 2))) .nil)))) .nil))) (.cons (.ret (.cst (.bool false))) .nil) .nil) (.cons (.ite (.bool .Or (.cons (.cmp .NotEq (.call 4 (.cons (.loc 3) (.cons (.cst (.bool true)) .nil))) (.tup (.cons (.ife (.cmp .Lt (.loc 1) (.cst (.int 0))) (.neg (.sub (.loc 3) (.cst (.int 1)))) (.sub (.loc 3) (.cst (.int 1)))) (.cons (.sub (.loc 3) (.cst (.int 2))) .nil)))) (.cons (.cmp .NotEq (.call 16 (.cons (.loc 3) (.cons (.loc 4) .nil))) (.call 24 (.cons (.loc 1) (.cons (.bin .Add (.loc 2) (.loc 4)) .nil)))) .nil))) (.cons (.ret (.cst (.bool false))) .nil) .nil) (.cons (.unp [5, 6] (.call 17 (.cons (.loc 3) .nil))) (.cons (.ite (.cmp .Eq (.loc 1) (.cst (.int 0))) (.cons (.ret (.cmp .Eq (.tup (.cons (.loc 5) (.cons (.loc 6) .nil))) (.tup (.cons (.glb 7) (.cons (.cst (.int 0)) .nil))))) .nil) .nil) (.cons (.ret (.bool .And (.cons (.cmp .Eq (.loc 5) (.tup (.cons (.sub (.loc 3) (.cst (.int 0))) (.cons (.sub (.loc 3) (.cst (.int 1))) (.cons (.neg (.sub (.loc 3) (.cst (.int 3)))) (.cons (.sub (.loc 3) (.cst (.int 3))) .nil)))))) (.cons (.cmp .Eq (.loc 6) (.bin .Add (.sub (.loc 3) (.cst (.int 2))) (.sub (.loc 3) (.cst (.int 3))))) .nil)))) .nil))))))
def nm_law_hair_right : List Str := [Str.ofString "state", Str.ofString "whole", Str.ofString "deep", Str.ofString "way", Str.ofString "number", Str.ofString "is_less", Str.ofString "bits", Str.ofString "told", Str.ofString "step", Str.ofString "own", Str.ofString "inner", Str.ofString "grows", Str.ofString "due", Str.ofString "is_out"]
def bd_law_hair_right : Sms := (.cons (.unps [4, 5] (.cons (.call 24 (.cons (.loc 1) (.cons (.loc 2) .nil))) (.cons (.call 21 (.cons (.loc 0) (.cons (.cst (.int 2)) .nil))) .nil))) (.cons (.asg 6 (.bin .Add (.sub (.loc 4) (.cst (.int 3))) (.call 21 (.cons (.loc 0) (.cons (.cst (.int 20)) .nil))))) (.cons (.asg 7 (.call 19 (.cons (.loc 4) (.cons (.loc 5) (.cons (.loc 6) (.cons (.loc 3) .nil)))))) (.cons (.asg 8 (.call 23 (.cons (.bin .Add (.bin .Sub (.loc 6) (.sub (.loc 4) (.cst (.int 3)))) (.cst (.int 1))) .nil))) (.cons (.unps [9, 10] (.cons (.bin .Mult (.sub (.loc 4) (.cst (.int 1))) (.loc 8)) (.cons (.ife (.cmp .Eq (.sub (.loc 4) (.cst (.int 1))) (.cst (.int 1))) (.cst (.int 1)) (.cst (.int 2))) .nil))) (.cons (.asg 11 (.cmp .Eq (.cmp .Eq (.loc 5) (.cst (.int 1))) (.cmp .Lt (.loc 1) (.cst (.int 0))))) (.cons (.ite (.cmp .Eq (.loc 3) (.cst (.str (Str.ofString "n")))) (.cons (.asg 12 (.loc 9)) .nil) (.cons (.asg 13 (.bool .Or (.cons (.cmp .Eq (.loc 3) (.cst (.str (Str.ofString "u")))) (.cons (.bool .And (.cons (.cmp .Eq (.loc 3) (.cst (.str (Str.ofString "c")))) (.cons (.cmp .Gt (.loc 1) (.cst (.int 0))) .nil))) (.cons (.bool .And (.cons (.cmp .Eq (.loc 3) (.cst (.str (Str.ofString "f")))) (.cons (.cmp .Lt (.loc 1) (.cst (.int 0))) .nil))) .nil))))) (.cons (.asg 12 (.ife (.bool .And (.cons (.loc 11) (.cons (.loc 13) .nil))) (.bin .Add (.loc 9) (.cst (.int 2))) (.ife (.bool .And (.cons (.nt (.loc 11)) (.cons (.nt (.loc 13)) .nil))) (.bin .Sub (.loc 9) (.loc 10)) (.loc 9)))) .nil))) (.cons (.ret (.cmp .Eq (.loc 7) (.call 24 (.cons (.ife (.cmp .Lt (.loc 1) (.cst (.int 0))) (.neg (.loc 12)) (.loc 12)) (.cons (.bin .Sub (.sub (.loc 4) (.cst (.int 2))) (.bin .Add (.bin .Sub (.loc 6) (.sub (.loc 4) (.cst (.int 3)))) (.cst (.int 1)))) .nil))))) .nil))))))))
def nm_law : List Str := [Str.ofString "script", Str.ofString "state", Str.ofString "bits", Str.ofString "way", Str.ofString "row", Str.ofString "turn", Str.ofString "whole", Str.ofString "values", Str.ofString "numbers", Str.ofString "deep"]
def bd_law : Sms := (.cons (.asg 1 (.call 20 (.cons (.loc 0) .nil))) (.cons (.unps [2, 3, 4] (.cons (.sub (.lst (.cons (.cst (.int 0)) (.cons (.bin .Add (.cst (.int 45)) (.call 21 (.cons (.loc 1) (.cons (.cst (.int 36)) .nil)))) .nil))) (.call 21 (.cons (.loc 1) (.cons (.cst (.int 2)) .nil)))) (.cons (.sub (.cst (.str (Str.ofString "nfcud"))) (.call 21 (.cons (.loc 1) (.cons (.cst (.int 5)) .nil)))) (.cons (.lst .nil) .nil)))) (.cons (.forr 5 (.bin .Add (.cst (.int 1)) (.call 21 (.cons (.loc 1) (.cons (.cst (.int 8)) .nil)))) (.cons (.asg 6 (.sub (.lst (.cons (.cst (.int 0)) (.cons (.cst (.int 1)) (.cons (.call 21 (.cons (.loc 1) (.cons (.cst (.int 1000)) .nil))) (.cons (.bin .Add (.bin .Mult (.call 21 (.cons (.loc 1) (.cons (.cst (.int 1000003)) .nil))) (.cst (.int 1000003))) (.call 21 (.cons (.loc 1) (.cons (.cst (.int 1000003)) .nil)))) .nil))))) (.call 21 (.cons (.loc 1) (.cons (.cst (.int 4)) .nil))))) (.cons (.app 4 (.tup (.cons (.ife (.cmp .Eq (.call 21 (.cons (.loc 1) (.cons (.cst (.int 2)) .nil))) (.cst (.int 1))) (.neg (.loc 6)) (.loc 6)) (.cons (.bin .Sub (.call 21 (.cons (.loc 1) (.cons (.cst (.int 41)) .nil))) (.cst (.int 20))) .nil)))) .nil))) (.cons (.unps [7, 8] (.cons (.call 25 (.cons (.loc 4) .nil)) (.cons (.comp2 (.call 24 (.cons (.loc 0) (.cons (.loc 1) .nil))) (.loc 4)) .nil))) (.cons (.ite (.cmp .NotEq (.call 15 (.cons (.loc 8) (.cons (.loc 2) (.cons (.loc 3) .nil)))) (.call 26 (.cons (.bi .sum (.cons (.loc 7) .nil)) (.cons (.loc 2) (.cons (.loc 3) .nil))))) (.cons (.ret (.cst (.bool false))) .nil) .nil) (.cons (.ite (.cmp .NotEq (.call 15 (.cons (.loc 8) (.cons (.loc 2) (.cons (.loc 3) (.cons (.cst (.bool true)) .nil))))) (.call 26 (.cons (.bi .sum (.cons (.comp1 (.bi .abs (.cons (.loc 0) .nil)) (.loc 7)) .nil)) (.cons (.loc 2) (.cons (.loc 3) .nil))))) (.cons (.ret (.cst (.bool false))) .nil) .nil) (.cons (.ite (.cmp .NotEq (.call 8 (.cons (.loc 8) .nil)) (.tup (.cons (.call 24 (.cons (.bi .min1 (.cons (.loc 7) .nil)) (.cons (.neg (.cst (.int 20))) .nil))) (.cons (.call 24 (.cons (.bi .max1 (.cons (.loc 7) .nil)) (.cons (.neg (.cst (.int 20))) .nil))) .nil)))) (.cons (.ret (.cst (.bool false))) .nil) .nil) (.cons (.unp [6, 9] (.sub (.loc 4) (.call 21 (.cons (.loc 1) (.cons (.bi .len (.cons (.loc 4) .nil)) .nil))))) (.cons (.ite (.bool .Or (.cons (.nt (.call 27 (.cons (.loc 4) (.cons (.bin .Add (.cst (.int 45)) (.call 21 (.cons (.loc 1) (.cons (.cst (.int 36)) .nil)))) (.cons (.loc 3) .nil))))) (.cons (.nt (.call 28 (.cons (.loc 1) (.cons (.loc 6) (.cons (.loc 9) .nil))))) .nil))) (.cons (.ret (.cst (.bool false))) .nil) .nil) (.cons (.ite (.bool .And (.cons (.cmp .NotEq (.loc 6) (.cst (.int 0))) (.cons (.nt (.call 29 (.cons (.loc 1) (.cons (.loc 6) (.cons (.loc 9) (.cons (.loc 3) .nil)))))) .nil))) (.cons (.ret (.cst (.bool false))) .nil) .nil) (.cons (.ret (.call 30 (.cons (.sub (.lst (.cons (.glb 9) (.cons (.glb 10) (.cons (.glb 8) .nil)))) (.call 21 (.cons (.loc 1) (.cons (.cst (.int 3)) .nil)))) .nil))) .nil)))))))))))

structure Fns (hb : Heap) (fa : Nat → Addr) : Prop where
  f0 : FnAt hb (fa 0) 1 [] nm_trailing bd_trailing
  f1 : FnAt hb (fa 1) 6 [] nm_normalize0 bd_normalize0
  f2 : FnAt hb (fa 2) 6 [] nm_normalize bd_normalize
  f3 : FnAt hb (fa 3) 2 [.int 0, .str wd] nm_from_man_exp bd_from_man_exp
  f3b : FnAt hb (fa 3) 4 [] nm_from_man_exp bd_from_man_exp
  f4 : FnAt hb (fa 4) 1 [.none] nm_to_man_exp bd_to_man_exp
  f4b : FnAt hb (fa 4) 2 [] nm_to_man_exp bd_to_man_exp
  f5 : FnAt hb (fa 5) 2 [] nm_mpf_cmp bd_mpf_cmp
  f6 : FnAt hb (fa 6) 2 [] nm_mpf_lt bd_mpf_lt
  f7 : FnAt hb (fa 7) 2 [] nm_mpf_gt bd_mpf_gt
  f8 : FnAt hb (fa 8) 1 [] nm_mpf_min_max bd_mpf_min_max
  f9 : FnAt hb (fa 9) 3 [] nm_mpf_pos bd_mpf_pos
  f12 : FnAt hb (fa 12) 1 [] nm_mpf_sign bd_mpf_sign
  f13 : FnAt hb (fa 13) 4 [.int 0] nm_mpf_add bd_mpf_add
  f13b : FnAt hb (fa 13) 5 [] nm_mpf_add bd_mpf_add
  f14 : FnAt hb (fa 14) 4 [] nm_mpf_sub bd_mpf_sub
  f15 : FnAt hb (fa 15) 3 [.bool false] nm_mpf_sum bd_mpf_sum
  f15b : FnAt hb (fa 15) 4 [] nm_mpf_sum bd_mpf_sum
  f16 : FnAt hb (fa 16) 2 [] nm_mpf_shift bd_mpf_shift
  f17 : FnAt hb (fa 17) 1 [] nm_mpf_frexp bd_mpf_frexp
  f18 : FnAt hb (fa 18) 4 [] nm_mpf_mod bd_mpf_mod
  f19 : FnAt hb (fa 19) 4 [] nm_mpf_perturb bd_mpf_perturb
  f20 : FnAt hb (fa 20) 1 [] nm_law_state bd_law_state
  f21 : FnAt hb (fa 21) 2 [] nm_law_draw bd_law_draw
  f22 : FnAt hb (fa 22) 4 [] nm_law_rounded bd_law_rounded
  f23 : FnAt hb (fa 23) 1 [] nm_law_power bd_law_power
  f24 : FnAt hb (fa 24) 2 [] nm_law_tuple bd_law_tuple
  f25 : FnAt hb (fa 25) 1 [] nm_law_fixed bd_law_fixed
  f26 : FnAt hb (fa 26) 3 [] nm_law_made bd_law_made
  f27 : FnAt hb (fa 27) 3 [] nm_law_rest_right bd_law_rest_right
  f28 : FnAt hb (fa 28) 3 [] nm_law_parts_right bd_law_parts_right
  f29 : FnAt hb (fa 29) 4 [] nm_law_hair_right bd_law_hair_right
  f31 : FnAt hb (fa 31) 1 [] nm_law bd_law

-- M20
theorem BinP_mono {op : Operator} {x y : V} {K K' : PyData → Prop} (h : BinP op x y K) (hk : ∀ r, K r → K' r) : BinP op x y K' := by
  unfold BinP at h ⊢
  split at h <;> first | exact h.elim | exact ⟨h.1, hk _ h.2⟩ | exact hk _ h
theorem AugP_mono {op : Operator} {x y : V} {K K' : PyData → Prop} (h : AugP op x y K) (hk : ∀ r, K r → K' r) : AugP op x y K' := by
  unfold AugP at h ⊢
  split at h <;> first | exact h.elim | exact ⟨h.1, hk _ h.2⟩ | exact hk _ h
theorem CmpP_mono {op : CmpOp} {x y : V} {K K' : Bool → Prop} (h : CmpP op x y K) (hk : ∀ r, K r → K' r) : CmpP op x y K' := by
  unfold CmpP at h ⊢
  split at h <;> first | exact h.elim | exact ⟨h.1, hk _ h.2⟩ | exact hk _ h | (obtain ⟨z, h1, h2⟩ := h; exact ⟨z, h1, hk _ h2⟩)
theorem SubP_mono {σ : St} {x y : V} {K K' : PyData → Prop} (h : SubP σ x y K) (hk : ∀ r, K r → K' r) : SubP σ x y K' := by
  unfold SubP at h ⊢
  split at h
  · obtain ⟨z, h1, h2⟩ := h; exact ⟨z, h1, hk _ h2⟩
  · obtain ⟨z, h1, h2⟩ := h; exact ⟨z, h1, hk _ h2⟩
  · obtain ⟨z, u, h1, h2⟩ := h; exact ⟨z, u, h1, hk _ h2⟩
  · exact h.elim
theorem BiP_mono {f : BI} {vs : List V} {σ : St} {K K' : PyData → Prop} (h : BiP f vs σ K) (hk : ∀ r, K r → K' r) : BiP f vs σ K' := by
  unfold BiP at h ⊢
  split at h
  · obtain ⟨z, h1, h2, h3⟩ := h; exact ⟨z, h1, h2, hk _ h3⟩
  · exact hk _ h
  · exact hk _ h
  · obtain ⟨z, u, h1, h2, h3, h4⟩ := h; exact ⟨z, u, h1, h2, h3, fun m a b => hk _ (h4 m a b)⟩
  · obtain ⟨z, u, h1, h2, h3, h4⟩ := h; exact ⟨z, u, h1, h2, h3, fun m a b => hk _ (h4 m a b)⟩
  · obtain ⟨z, u, h1, h2, h3⟩ := h; exact ⟨z, u, h1, h2, hk _ h3⟩
  · exact hk _ h
  · exact h.elim

section
variable {C : Nat → List V → St → (V → St → Prop) → Prop} (hC : ∀ f vs σ Q Q', C f vs σ Q → (∀ v σ, Q v σ → Q' v σ) → C f vs σ Q')
include hC
mutual
theorem wpE_mono : ∀ (e : Ex) {ρ : List (Option V)} {σ : St} {Q Q' : V → St → Prop}, wpE C ρ e σ Q → (∀ v σ, Q v σ → Q' v σ) → wpE C ρ e σ Q'
  | .cst c, ρ, σ, Q, Q', h, k => k _ _ h
  | .loc i, ρ, σ, Q, Q', h, k => by
    unfold wpE at h ⊢
    cases hv : rg ρ i with
    | none => rw [hv] at h; exact h.elim
    | some v => rw [hv] at h; exact k _ _ h
  | .glb i, ρ, σ, Q, Q', h, k => by
    unfold wpE at h ⊢
    cases hv : cval i with
    | none => rw [hv] at h; exact h.elim
    | some v => rw [hv] at h; exact k _ _ h
  | .bin op a b, ρ, σ, Q, Q', h, k => wpE_mono a h fun v σ₁ h₁ => wpE_mono b h₁ fun u σ₂ h₂ => BinP_mono h₂ fun r => k _ _
  | .neg a, ρ, σ, Q, Q', h, k => wpE_mono a h fun v σ₁ h₁ => by
    try dsimp only at h₁ ⊢
    split at h₁ <;> first | exact h₁.elim | exact k _ _ h₁
  | .nt a, ρ, σ, Q, Q', h, k => wpE_mono a h fun v σ₁ h₁ => TruthP_mono h₁ fun b => k _ _
  | .cmp op a b, ρ, σ, Q, Q', h, k => wpE_mono a h fun v σ₁ h₁ => wpE_mono b h₁ fun u σ₂ h₂ => CmpP_mono h₂ fun r => k _ _
  | .bool op es, ρ, σ, Q, Q', h, k => wpB_mono es h k
  | .ife c a b, ρ, σ, Q, Q', h, k => wpE_mono c h fun v σ₁ h₁ => TruthP_mono h₁ fun t ht => ⟨fun e => wpE_mono a (ht.1 e) k, fun e => wpE_mono b (ht.2 e) k⟩
  | .call f as, ρ, σ, Q, Q', h, k => wpEs_mono as h fun vs σ₁ h₁ => hC _ _ _ _ _ h₁ k
  | .bi f as, ρ, σ, Q, Q', h, k => wpEs_mono as h fun vs σ₁ h₁ => BiP_mono h₁ fun r => k _ _
  | .isint a, ρ, σ, Q, Q', h, k => wpE_mono a h fun v σ₁ h₁ => by
    try dsimp only at h₁ ⊢
    split at h₁ <;> first | exact h₁.elim | exact k _ _ h₁
  | .blen a, ρ, σ, Q, Q', h, k => wpE_mono a h fun v σ₁ h₁ => by
    try dsimp only at h₁ ⊢
    split at h₁ <;> first | exact h₁.elim | exact k _ _ h₁
  | .sub a i, ρ, σ, Q, Q', h, k => wpE_mono a h fun v σ₁ h₁ => wpE_mono i h₁ fun u σ₂ h₂ => SubP_mono h₂ fun r => k _ _
  | .slto a hi, ρ, σ, Q, Q', h, k => wpE_mono a h fun v σ₁ ⟨xs, h1, h2, h3⟩ => ⟨xs, h1, h2, k _ _ h3⟩
  | .slfrom a hi, ρ, σ, Q, Q', h, k => wpE_mono a h fun v σ₁ ⟨xs, h1, h2, h3⟩ => ⟨xs, h1, h2, k _ _ h3⟩
  | .tab a, ρ, σ, Q, Q', h, k => wpE_mono a h fun v σ₁ h₁ => by
    try dsimp only at h₁ ⊢
    split at h₁ <;> first | exact h₁.elim | (obtain ⟨t, h1, h2⟩ := h₁; exact ⟨t, h1, k _ _ h2⟩)
  | .tup es, ρ, σ, Q, Q', h, k => wpEs_mono es h fun vs σ₁ ⟨xs, h1, h2, h3⟩ => ⟨xs, h1, h2, k _ _ h3⟩
  | .lst es, ρ, σ, Q, Q', h, k => wpEs_mono es h fun vs σ₁ ⟨xs, h1, h2, h3⟩ => ⟨xs, h1, h2, fun a ha => k _ _ (h3 a ha)⟩
  | .comp1 elt it, ρ, σ, Q, Q', h, k => wpE_mono it h fun v σ₁ ⟨xs, h1, h2, FF, h3, h4⟩ => ⟨xs, h1, h2, FF, h3, k _ _ h4⟩
  | .comp2 elt it, ρ, σ, Q, Q', h, k => wpE_mono it h fun v σ₁ ⟨xs, h1, h2, FF, h3, h4⟩ => ⟨xs, h1, h2, FF, h3, k _ _ h4⟩
theorem wpEs_mono : ∀ (e : Exs) {ρ : List (Option V)} {σ : St} {Q Q' : List V → St → Prop}, wpEs C ρ e σ Q → (∀ v σ, Q v σ → Q' v σ) → wpEs C ρ e σ Q'
  | .nil, ρ, σ, Q, Q', h, k => k _ _ h
  | .cons e es, ρ, σ, Q, Q', h, k => wpE_mono e h fun v σ₁ h₁ => wpEs_mono es h₁ fun vs σ₂ h₂ => k _ _ h₂
theorem wpB_mono : ∀ (e : Exs) {op : BoolOp} {ρ : List (Option V)} {σ : St} {Q Q' : V → St → Prop}, wpB C ρ op e σ Q → (∀ v σ, Q v σ → Q' v σ) → wpB C ρ op e σ Q'
  | .nil, op, ρ, σ, Q, Q', h, k => h
  | .cons e .nil, op, ρ, σ, Q, Q', h, k => wpE_mono e h k
  | .cons e (.cons e' es), op, ρ, σ, Q, Q', h, k => wpE_mono e h fun v σ₁ h₁ => TruthP_mono h₁ fun t ht => ⟨fun e => wpB_mono (.cons e' es) (ht.1 e) k, fun e => k _ _ (ht.2 e)⟩
end
mutual
theorem wpS_mono : ∀ (s : Sm) {ρ : List (Option V)} {σ : St} {Q Q' : List (Option V) → St → Prop} {R R' : V → St → Prop}, wpS C s ρ σ Q R → (∀ v σ, Q v σ → Q' v σ) → (∀ v σ, R v σ → R' v σ) → wpS C s ρ σ Q' R'
  | .asg i e, ρ, σ, Q, Q', R, R', h, k, r => wpE_mono hC e h fun v σ₁ h₁ => k _ _ h₁
  | .asg2 i j e, ρ, σ, Q, Q', R, R', h, k, r => wpE_mono hC e h fun v σ₁ h₁ => k _ _ h₁
  | .asgc i elt it, ρ, σ, Q, Q', R, R', h, k, r => by
    have h' : wpE C ρ (.comp1 elt it) σ (fun v σ₁ => Q (rs ρ i v) σ₁) := by unfold wpS at h; exact h
    unfold wpS
    exact wpE_mono hC (.comp1 elt it) h' fun v σ₁ h₁ => k _ _ h₁
  | .unp js e, ρ, σ, Q, Q', R, R', h, k, r => wpE_mono hC e h fun v σ₁ h₁ => by
    try dsimp only at h₁ ⊢
    split at h₁ <;> first | exact h₁.elim | exact ⟨h₁.1, k _ _ h₁.2⟩
  | .unps js es, ρ, σ, Q, Q', R, R', h, k, r => wpEs_mono hC es h fun v σ₁ h₁ => ⟨h₁.1, k _ _ h₁.2⟩
  | .seti a i e, ρ, σ, Q, Q', R, R', h, k, r => wpE_mono hC e h fun v σ₁ h₁ => wpE_mono hC a h₁ fun l σ₂ h₂ => wpE_mono hC i h₂ fun z σ₃ h₃ => by
    try dsimp only at h₃ ⊢
    split at h₃ <;> first | exact h₃.elim | (obtain ⟨xs, a1, a2, a3, a4, a5⟩ := h₃; exact ⟨xs, a1, a2, a3, a4, k _ _ a5⟩)
  | .aug i op e, ρ, σ, Q, Q', R, R', h, k, r => by
    unfold wpS at h ⊢
    cases hv : rg ρ i with
    | none => rw [hv] at h; exact h.elim
    | some v => rw [hv] at h; exact wpE_mono hC e h fun v σ₁ h₁ => AugP_mono h₁ fun r => k _ _
  | .app i e, ρ, σ, Q, Q', R, R', h, k, r => by
    unfold wpS at h ⊢
    cases hv : rg ρ i with
    | none => rw [hv] at h; exact h.elim
    | some v =>
      rw [hv] at h
      cases v with
      | d x => exact h.elim
      | ref l =>
        refine ⟨h.1, wpE_mono hC e h.2 fun v σ₁ h₁ => ?_⟩
        try dsimp only at h₁ ⊢
        split at h₁ <;> first | exact h₁.elim | (obtain ⟨xs, a1, a2, a3⟩ := h₁; exact ⟨xs, a1, a2, k _ _ a3⟩)
  | .ite c t f, ρ, σ, Q, Q', R, R', h, k, r => wpE_mono hC c h fun v σ₁ h₁ => TruthP_mono h₁ fun b hb => ⟨fun e => wpSs_mono t (hb.1 e) k r, fun e => wpSs_mono f (hb.2 e) k r⟩
  | .whl c b, ρ, σ, Q, Q', R, R', h, k, r => by
    obtain ⟨I, h0, h1⟩ := h
    exact ⟨I, h0, fun n ρ' σ' hi => wpE_mono hC c (h1 n ρ' σ' hi) fun v σ₁ h₁ => TruthP_mono h₁ fun t ht => ⟨fun e => wpSs_mono b (ht.1 e) (fun _ _ x => x) r, fun e => k _ _ (ht.2 e)⟩⟩
  | .forl i it b, ρ, σ, Q, Q', R, R', h, k, r => wpE_mono hC it h fun v σ₁ ⟨xs, h1, h2, I, h3, h4, h5, h6⟩ =>
      ⟨xs, h1, h2, I, h3, h4, fun a x ρ' σ' e hi => wpSs_mono b (h5 a x ρ' σ' e hi) (fun _ _ x => x) r, fun ρ' σ' hi => k _ _ (h6 ρ' σ' hi)⟩
  | .forr i n b, ρ, σ, Q, Q', R, R', h, k, r => wpE_mono hC n h fun v σ₁ h₁ => by
    try dsimp only at h₁ ⊢
    split at h₁
    · obtain ⟨n1, n2, I, h3, h5, h6⟩ := h₁
      exact ⟨n1, n2, I, h3, fun a ρ' σ' e hi => wpSs_mono b (h5 a ρ' σ' e hi) (fun _ _ x => x) r, fun ρ' σ' hi => k _ _ (h6 ρ' σ' hi)⟩
    · exact h₁.elim
  | .ret e, ρ, σ, Q, Q', R, R', h, k, r => wpE_mono hC e h fun v σ₁ h₁ => r _ _ h₁
  | .asrt e, ρ, σ, Q, Q', R, R', h, k, r => wpE_mono hC e h fun v σ₁ h₁ => TruthP_mono h₁ fun b hb => ⟨hb.1, k _ _ hb.2⟩
  | .rse, ρ, σ, Q, Q', R, R', h, k, r => h
theorem wpSs_mono : ∀ (s : Sms) {ρ : List (Option V)} {σ : St} {Q Q' : List (Option V) → St → Prop} {R R' : V → St → Prop}, wpSs C s ρ σ Q R → (∀ v σ, Q v σ → Q' v σ) → (∀ v σ, R v σ → R' v σ) → wpSs C s ρ σ Q' R'
  | .nil, ρ, σ, Q, Q', R, R', h, k, r => k _ _ h
  | .cons s ss, ρ, σ, Q, Q', R, R', h, k, r => wpS_mono s h (fun ρ₁ σ₁ h₁ => wpSs_mono ss h₁ k r) r
end
end

theorem callOK_mono {prog : Program} {w : World} {hb : Heap} {fa : Nat → Addr} {n : Nat} : ∀ f vs σ Q Q', CallOK prog w hb fa n f vs σ Q → (∀ v σ, Q v σ → Q' v σ) → CallOK prog w hb fa n f vs σ Q' :=
  fun f vs σ Q Q' h k A s args E hr g ha => wpAny_mono (h A s args E hr g ha) (fun v s' ⟨V, σ', h1, h2, h3⟩ => ⟨V, σ', k _ _ h1, h2, h3⟩) fun _ _ e => e

section
variable {prog : Program} {w : World} {hb : Heap} {fa : Nat → Addr} {n : Nat} {ρ : List (Option V)} {σ : St} {Q : List (Option V) → St → Prop} {R : V → St → Prop} {ss : Sms}

theorem s_nil (h : Q ρ σ) : wpSs (CallOK prog w hb fa n) .nil ρ σ Q R := h
theorem s_seq {s : Sm} (Q' : List (Option V) → St → Prop) (h : wpS (CallOK prog w hb fa n) s ρ σ Q' R) (k : ∀ ρ₁ σ₁, Q' ρ₁ σ₁ → wpSs (CallOK prog w hb fa n) ss ρ₁ σ₁ Q R) : wpSs (CallOK prog w hb fa n) (.cons s ss) ρ σ Q R :=
  wpS_mono callOK_mono s h (fun _ _ => k _ _) fun _ _ x => x
theorem s_one {s : Sm} (h : wpSs (CallOK prog w hb fa n) (.cons s .nil) ρ σ Q R) : wpS (CallOK prog w hb fa n) s ρ σ Q R := h
/-- the statement's value is x, and the state stays -/
theorem s_asg {i : Nat} {e : Ex} (x : V) (h : wpE (CallOK prog w hb fa n) ρ e σ fun v σ₁ => v = x ∧ σ₁ = σ) (k : wpSs (CallOK prog w hb fa n) ss (rs ρ i x) σ Q R) : wpSs (CallOK prog w hb fa n) (.cons (.asg i e) ss) ρ σ Q R :=
  wpE_mono callOK_mono e h fun v σ₁ ⟨e1, e2⟩ => by subst e1; subst e2; exact k
theorem s_asgk {i : Nat} {e : Ex} (h : wpE (CallOK prog w hb fa n) ρ e σ fun v σ₁ => wpSs (CallOK prog w hb fa n) ss (rs ρ i v) σ₁ Q R) : wpSs (CallOK prog w hb fa n) (.cons (.asg i e) ss) ρ σ Q R := h
theorem s_ret {e : Ex} (h : wpE (CallOK prog w hb fa n) ρ e σ R) : wpSs (CallOK prog w hb fa n) (.cons (.ret e) ss) ρ σ Q R := h
theorem s_if {c : Ex} {t f : Sms} (p : Prop) [Decidable p] (h : wpE (CallOK prog w hb fa n) ρ c σ fun v σ₁ => TruthP v (fun b => b = decide p) ∧ σ₁ = σ)
    (ht : p → wpSs (CallOK prog w hb fa n) t ρ σ (fun ρ₁ σ₁ => wpSs (CallOK prog w hb fa n) ss ρ₁ σ₁ Q R) R) (hf : ¬ p → wpSs (CallOK prog w hb fa n) f ρ σ (fun ρ₁ σ₁ => wpSs (CallOK prog w hb fa n) ss ρ₁ σ₁ Q R) R) :
    wpSs (CallOK prog w hb fa n) (.cons (.ite c t f) ss) ρ σ Q R :=
  wpE_mono callOK_mono c h fun v σ₁ ⟨e1, e2⟩ => by
    subst e2
    exact TruthP_mono e1 fun b hb => ⟨fun e => ht (by rw [hb] at e; exact of_decide_eq_true e), fun e => hf (by rw [hb] at e; exact of_decide_eq_false e)⟩
theorem s_asrt {c : Ex} (h : wpE (CallOK prog w hb fa n) ρ c σ fun v σ₁ => TruthP v (fun b => b = true) ∧ σ₁ = σ) (k : wpSs (CallOK prog w hb fa n) ss ρ σ Q R) : wpSs (CallOK prog w hb fa n) (.cons (.asrt c) ss) ρ σ Q R :=
  wpE_mono callOK_mono c h fun v σ₁ ⟨e1, e2⟩ => by
    subst e2
    exact TruthP_mono e1 fun b hb => ⟨hb, k⟩
theorem s_aug {i : Nat} {op : Operator} {e : Ex} {v : V} (hv : rg ρ i = some v) (x : PyData) (h : wpE (CallOK prog w hb fa n) ρ e σ fun y σ₁ => AugP op v y (fun r => r = x) ∧ σ₁ = σ) (k : wpSs (CallOK prog w hb fa n) ss (rs ρ i (.d x)) σ Q R) :
    wpSs (CallOK prog w hb fa n) (.cons (.aug i op e) ss) ρ σ Q R := by
  show (match rg ρ i with
      | some v => wpE (CallOK prog w hb fa n) ρ e σ fun y σ₁ => AugP op v y fun r => wpSs (CallOK prog w hb fa n) ss (rs ρ i (.d r)) σ₁ Q R
      | none => False)
  rw [hv]
  exact wpE_mono callOK_mono e h fun v σ₁ ⟨e1, e2⟩ => by
    subst e2
    exact AugP_mono e1 fun r hr => by subst hr; exact k
theorem s_unp {js : List Nat} {e : Ex} (xs : List PyData) (h : wpE (CallOK prog w hb fa n) ρ e σ fun v σ₁ => v = .d (.tuple xs) ∧ σ₁ = σ) (hl : xs.length = js.length) (k : wpSs (CallOK prog w hb fa n) ss (rsAll ρ js xs) σ Q R) :
    wpSs (CallOK prog w hb fa n) (.cons (.unp js e) ss) ρ σ Q R :=
  wpE_mono callOK_mono e h fun v σ₁ ⟨e1, e2⟩ => by
    subst e1; subst e2
    exact ⟨hl, k⟩
theorem e_mono {e : Ex} {Q Q' : V → St → Prop} (h : wpE (CallOK prog w hb fa n) ρ e σ Q) (k : ∀ v σ, Q v σ → Q' v σ) : wpE (CallOK prog w hb fa n) ρ e σ Q' := wpE_mono callOK_mono e h k
end

-- M21
theorem cval0 : cval 0 = some (.int 0) := rfl
theorem cval1 : cval 1 = some (.int 1) := rfl
theorem cval2 : cval 2 = some (.str wn) := rfl
theorem cval3 : cval 3 = some (.str wf) := rfl
theorem cval4 : cval 4 = some (.str wc) := rfl
theorem cval5 : cval 5 = some (.str wu) := rfl
theorem cval6 : cval 6 = some (.str wd) := rfl
theorem cval7 : cval 7 = some zt := rfl
theorem cval8 : cval 8 = some (.tuple [.int 0, .int 0, .int (-123), .int (-1)]) := rfl
theorem cval9 : cval 9 = some (.tuple [.int 0, .int 0, .int (-456), .int (-2)]) := rfl
theorem cval10 : cval 10 = some (.tuple [.int 1, .int 0, .int (-789), .int (-3)]) := rfl
theorem baa : (BoolOp.And == BoolOp.And) = true := rfl
theorem bao : (BoolOp.And == BoolOp.Or) = false := rfl
theorem boa : (BoolOp.Or == BoolOp.And) = false := rfl
theorem boo : (BoolOp.Or == BoolOp.Or) = true := rfl
theorem b_nz (i : Int) : (i != 0) = decide (i ≠ 0) := by by_cases h : i = 0 <;> simp [h]
theorem b_z (i : Int) : (!(i != 0)) = decide (i = 0) := by by_cases h : i = 0 <;> simp [h]
theorem eqv_int (a b : Int) : PyData.eqv (.int a) (.int b) = decide (a = b) := by
  unfold PyData.eqv; by_cases h : a = b <;> simp [h]
theorem eqv_str (a b : Str) : PyData.eqv (.str a) (.str b) = decide (a = b) := by
  unfold PyData.eqv; by_cases h : a = b <;> simp [h]
theorem sh_int (a : Int) : SeqAt.shaped (.int a) = true := rfl
theorem fdiv_pow (m k : Nat) : ((m : Int)).fdiv (2 ^ k) = ((m / 2 ^ k : Nat) : Int) := by
  rw [Int.fdiv_eq_ediv_of_nonneg _ (Int.le_of_lt (kbt_pos k)), ← kbt_cast, Int.natCast_ediv]
theorem tnat_sub (a b : Nat) : ((a : Int) - b).toNat = a - b := by omega

section
variable {prog : Program} {w : World} {hb : Heap} {mg mb : Str → Option Value} {fa : Nat → Addr}
theorem trailing_ok (B : Bs hb mg mb fa) (F : Fns hb fa) {n : Nat} {o k : Nat} {i : Int} (hi : i = ((o * 2 ^ k : Nat) : Int)) (ho : o % 2 = 1) {σ : St} {Q : V → St → Prop} (hq : Q (.d (.int k)) σ) : CallOK prog w hb fa (n + 1) 0 [.d (.int i)] σ Q := by
  subst hi
  refine call_ok B F.f0 rfl ?_
  simp only [nm_trailing, startR, List.map_cons, List.map_nil, List.length_cons, List.length_nil, List.append_nil, List.cons_append, List.nil_append, List.replicate]
  have h0 : o * 2 ^ k ≠ 0 := Nat.mul_ne_zero (by omega) (Nat.ne_of_gt (p2pos k))
  refine s_if (((o * 2 ^ k : Nat) : Int) = 0) (by simp only [wpE, wpEs, wpB, rg, rs, rsAll, TruthP, BinP, AugP, CmpP, SubP, BiP, lstOf, datas, cval0, cval1, cval2, cval3, cval4, cval5, cval6, cval7, cval8, cval9, cval10, Option.map, baa, bao, boa, boo, eqv_int, sh_int, and_self, true_and, and_true]; exact b_z _) (fun h => absurd h (by omega)) (fun _ => s_nil (s_ret ?_))
  simp only [wpE, wpEs, wpB, rg, rs, rsAll, TruthP, BinP, AugP, CmpP, SubP, BiP, lstOf, datas, cval0, cval1, cval2, cval3, cval4, cval5, cval6, cval7, cval8, cval9, cval10, Option.map, baa, bao, boa, boo, eqv_int, sh_int, and_self, true_and, and_true]
  have e : ((o * 2 ^ k : Nat) : Int) = 2 ^ k * (2 * ((o / 2 : Nat) : Int) + 1) := by
    have : (o : Int) = 2 * ((o / 2 : Nat) : Int) + 1 := by omega
    rw [← this, Int.natCast_mul, kbt_cast, Int.mul_comm]
  rw [show (@Nat.cast Int _ (o * 2 ^ k)) = 2 ^ k * (2 * ((o / 2 : Nat) : Int) + 1) from e, kbt_low, ← kbt_cast, intBits_nat, bl_pow]
  have : ((k + 1 : Nat) : Int) - 1 = k := by omega
  rw [this]; exact hq
end

-- M22
theorem and1 (m : Nat) : Builtin.bitAnd (m : Int) 1 = ((m % 2 : Nat) : Int) := by
  have := kbt_mask (m : Int) 1
  have e : (2 : Int) ^ 1 - 1 = 1 := by decide
  have e2 : (2 : Int) ^ 1 = 2 := by decide
  rw [e, e2] at this
  rw [this]; omega
theorem and2 (m : Nat) : Builtin.bitAnd (m : Int) 2 = ((m / 2 % 2 * 2 : Nat) : Int) := by
  have := kbt_bit (m : Int) 1
  have e2 : (2 : Int) ^ 1 = 2 := by decide
  rw [e2] at this
  rw [this]; omega
theorem andmask (m k : Nat) : Builtin.bitAnd (m : Int) (2 ^ k - 1) = ((m % 2 ^ k : Nat) : Int) := by
  rw [kbt_mask, ← kbt_cast, Int.natCast_emod]
theorem nz1 (x : Nat) : (((x % 2 : Nat) : Int) != 0) = decide (x % 2 = 1) := by
  rw [b_nz, decide_eq_decide]; omega
theorem nz2 (x : Nat) : (((x % 2 * 2 : Nat) : Int) != 0) = decide (x % 2 = 1) := by
  rw [b_nz, decide_eq_decide]; omega
theorem nz3 (x : Nat) : ((x : Int) != 0) = decide (x ≠ 0) := by
  rw [b_nz, decide_eq_decide]; omega
theorem ceil_div (m k : Nat) : -((-(m : Int)).fdiv (2 ^ k)) = ((m / 2 ^ k + (if 0 < m % 2 ^ k then 1 else 0) : Nat) : Int) := by
  rw [Int.fdiv_eq_ediv_of_nonneg _ (Int.le_of_lt (kbt_pos k)), ← kbt_cast]
  generalize hP : 2 ^ k = P
  have hp : 0 < P := by rw [← hP]; exact p2pos k
  have h1 := Nat.div_add_mod m P
  have h2 := Nat.mod_lt m hp
  generalize hq : m / P = q at *
  generalize hr : m % P = r at *
  by_cases h : 0 < r
  · rw [if_pos h]
    have := (kbt_unique (a := -(m : Int)) (b := (P : Int)) (q := -((q : Int) + 1)) (r := (P : Int) - r) (by omega) (by rw [← h1]; push_cast; rw [Int.mul_neg, Int.mul_add]; omega) (by omega) (by omega)).1
    rw [this]; push_cast; omega
  · have hr0 : r = 0 := by omega
    rw [if_neg h]
    have := (kbt_unique (a := -(m : Int)) (b := (P : Int)) (q := -(q : Int)) (r := 0) (by omega) (by rw [← h1, hr0]; push_cast; rw [Int.mul_neg]; omega) (by omega) (by omega)).1
    rw [this]; push_cast; omega

theorem Way.sh {way : Str} (h : Way way) : SeqAt.shaped (.str way) = true := by
  rcases h with rfl | rfl | rfl | rfl | rfl <;> decide +kernel
theorem wne1 : wf ≠ wn := by decide +kernel
theorem wne2 : wc ≠ wn := by decide +kernel
theorem wne3 : wu ≠ wn := by decide +kernel
theorem wne4 : wd ≠ wn := by decide +kernel
theorem wne5 : wf ≠ wu := by decide +kernel
theorem wne6 : wf ≠ wc := by decide +kernel
theorem wne7 : wc ≠ wu := by decide +kernel
theorem wne8 : wd ≠ wu := by decide +kernel
theorem wne9 : wd ≠ wc := by decide +kernel
theorem wne10 : wd ≠ wf := by decide +kernel
theorem wne11 : wu ≠ wc := by decide +kernel
theorem wne12 : wu ≠ wf := by decide +kernel
theorem wne13 : wc ≠ wf := by decide +kernel
theorem tab_f : tabOf wf = some (.tuple [.int 1, .int 0]) := if_pos rfl
theorem tab_c : tabOf wc = some (.tuple [.int 0, .int 1]) := (if_neg wne13.symm.symm).trans (if_pos rfl)
theorem tab_d : tabOf wd = some (.tuple [.int 1, .int 1]) := (if_neg wne10).trans ((if_neg wne9).trans (if_pos rfl))
theorem tab_u : tabOf wu = some (.tuple [.int 0, .int 0]) := (if_neg wne12).trans ((if_neg wne11).trans ((if_neg wne8.symm).trans (if_pos rfl)))

/-- is the shift down a floor -/
def flo (s : Int) (way : Str) : Bool := decide (way = wd) || (decide (way = wf) && decide (s = 0)) || (decide (way = wc) && decide (s = 1))
theorem tab_flo {s : Int} (hs : s = 0 ∨ s = 1) {way : Str} (hw : Way way) (hn : way ≠ wn) : ∃ a b, tabOf way = some (.tuple [.int a, .int b]) ∧ ([PyData.int a, PyData.int b][s.toNat]? = some (.int (if flo s way = true then 1 else 0))) := by
  rcases hw with rfl | rfl | rfl | rfl | rfl
  · exact absurd rfl hn
  · refine ⟨1, 0, tab_f, ?_⟩
    rcases hs with rfl | rfl <;> simp [flo, wne10.symm, wne6, wne13]
  · refine ⟨0, 1, tab_c, ?_⟩
    rcases hs with rfl | rfl <;> simp [flo, wne9.symm, wne13]
  · refine ⟨0, 0, tab_u, ?_⟩
    rcases hs with rfl | rfl <;> simp [flo, wne8.symm, wne12, wne11]
  · refine ⟨1, 1, tab_d, ?_⟩
    rcases hs with rfl | rfl <;> simp [flo]
theorem rup_flo {s : Int} (hs : s = 0 ∨ s = 1) {way : Str} (hw : Way way) (hn : way ≠ wn) (q r D : Nat) : rup s way q r D = (!flo s way && decide (0 < r)) := by
  unfold rup
  rw [if_neg hn]
  rcases hw with rfl | rfl | rfl | rfl | rfl
  · exact absurd rfl hn
  all_goals rcases hs with rfl | rfl <;> simp [flo, wne5, wne6, wne7, wne8, wne9, wne10, wne11, wne12, wne13, wne10.symm, wne9.symm, wne8.symm, wne13.symm, wne7.symm, wne5.symm, wne6.symm]
theorem rup_n (s : Int) (m N : Nat) (hN : 0 < N) : rup s wn (m / 2 ^ N) (m % 2 ^ N) (2 ^ N) = (decide (m / 2 ^ (N - 1) % 2 = 1) && (decide (m / 2 ^ (N - 1) / 2 % 2 = 1) || decide (m % 2 ^ (N - 1) ≠ 0))) ∧ m / 2 ^ N = m / 2 ^ (N - 1) / 2 := by
  obtain ⟨k, rfl⟩ : ∃ k, N = k + 1 := ⟨N - 1, by omega⟩
  have e1 : k + 1 - 1 = k := by omega
  rw [e1, Nat.pow_succ]
  have hp := p2pos k
  generalize 2 ^ k = P at *
  have hdiv : m / (P * 2) = m / P / 2 := by rw [Nat.div_div_eq_div_mul]
  have hmod : m % (P * 2) = m % P + P * (m / P % 2) := by rw [Nat.mod_mul]
  refine ⟨?_, hdiv⟩
  unfold rup
  rw [if_pos rfl, hdiv, hmod]
  have hr := Nat.mod_lt m hp
  generalize m % P = r at *
  generalize m / P = t at *
  have hb : t % 2 = 0 ∨ t % 2 = 1 := by omega
  rcases hb with hb | hb
  · rw [hb, Nat.mul_zero, Nat.add_zero]
    have h1 : ¬ P * 2 < 2 * r := by omega
    have h2 : ¬ 2 * r = P * 2 := by omega
    simp [h1, h2]
  · rw [hb, Nat.mul_one]
    by_cases h0 : r = 0
    · have h1 : ¬ P * 2 < 2 * (r + P) := by omega
      have h2 : 2 * (r + P) = P * 2 := by omega
      rw [decide_eq_false h1, decide_eq_true h2]; simp [h0]
    · have h1 : P * 2 < 2 * (r + P) := by omega
      have h2 : ¬ 2 * (r + P) = P * 2 := by omega
      simp [h1, h2, h0]

theorem odd_pow {o k p : Nat} (ho : o % 2 = 1) (h : o * 2 ^ k = 2 ^ p) : o = 1 := by
  by_cases hk : k ≤ p
  · have e : 2 ^ p = 2 ^ (p - k) * 2 ^ k := by rw [← Nat.pow_add]; congr 1; omega
    rw [e] at h
    have h1 := Nat.eq_of_mul_eq_mul_right (p2pos k) h
    cases hj : p - k with
    | zero => rw [hj] at h1; exact h1
    | succ j => rw [hj, Nat.pow_succ] at h1; omega
  · exfalso
    have h1 : 2 ^ p < 2 ^ k := Nat.pow_lt_pow_right (by decide) (by omega)
    have h2 : 1 * 2 ^ k ≤ o * 2 ^ k := Nat.mul_le_mul_right _ (by omega)
    omega
theorem rd_bl {s : Int} {m prec : Nat} {way : Str} (hm : m ≠ 0) (hp : 1 ≤ prec) : rd s m (2 ^ (bl m - prec)) way ≠ 0 ∧ (bl (rd s m (2 ^ (bl m - prec)) way) = min (bl m) prec ∨ (rd s m (2 ^ (bl m - prec)) way = 2 ^ prec ∧ min (bl m) prec = prec)) := by
  by_cases h : bl m ≤ prec
  · rw [Nat.sub_eq_zero_of_le h, Nat.pow_zero, rd_one]
    exact ⟨hm, .inl (by omega)⟩
  · have h1 := bl_le hm
    have h2 := bl_lt m
    have e1 : bl m - 1 = (prec - 1) + (bl m - prec) := by omega
    have e2 : bl m = prec + (bl m - prec) := by omega
    rw [e1, Nat.pow_add] at h1
    generalize hN : bl m - prec = N at *
    rw [e2, Nat.pow_add] at h2
    have q1 : 2 ^ (prec - 1) ≤ m / 2 ^ N := (Nat.le_div_iff_mul_le (p2pos N)).mpr h1
    have q2 : m / 2 ^ N < 2 ^ prec := (Nat.div_lt_iff_lt_mul (p2pos N)).mpr h2
    have r1 := rd_ge s m (2 ^ N) way
    have r2 := rd_le s m (2 ^ N) way
    generalize rd s m (2 ^ N) way = M at *
    have p1 := p2pos (prec - 1)
    refine ⟨by omega, ?_⟩
    by_cases hM : M < 2 ^ prec
    · left
      have e3 : prec = prec - 1 + 1 := by omega
      have := bl_unique (k := prec - 1) (m := M) (by omega) (by rw [← e3]; exact hM)
      omega
    · right
      exact ⟨by omega, by omega⟩

section
variable {prog : Program} {w : World} {hb : Heap} {mg mb : Str → Option Value} {fa : Nat → Addr}
theorem normalize0_ok (B : Bs hb mg mb fa) (F : Fns hb fa) {n : Nat} {s e : Int} {m prec : Nat} {way : Str} {im ibc ip : Int} (h1 : im = (m : Int)) (h2 : ibc = (bl m : Int)) (h3 : ip = (prec : Int)) (hs : s = 0 ∨ s = 1) (hw : Way way) (hp : 1 ≤ prec) (hsm : bl m ≤ 2000)
    {σ : St} {Q : V → St → Prop} (hq : Q (.d (RN s m e prec way)) σ) : CallOK prog w hb fa (n + 2) 1 [.d (.int s), .d (.int im), .d (.int e), .d (.int ibc), .d (.int ip), .d (.str way)] σ Q := by
  subst h1; subst h2; subst h3
  refine call_ok B F.f1 rfl ?_
  simp only [nm_normalize0, startR, List.map_cons, List.map_nil, List.length_cons, List.length_nil, List.append_nil, List.cons_append, List.nil_append, List.replicate]
  by_cases hm : m = 0
  · subst hm
    refine s_if (((0 : Nat) : Int) = 0) (by simp only [wpE, wpEs, wpB, rg, rs, rsAll, TruthP, BinP, AugP, CmpP, SubP, BiP, lstOf, datas, cval0, cval1, cval2, cval3, cval4, cval5, cval6, cval7, cval8, cval9, cval10, Option.map, baa, bao, boa, boo, eqv_int, sh_int, and_self, true_and, and_true]; exact b_z _) (fun _ => s_ret ?_) (fun h => absurd rfl h)
    simp only [wpE, wpEs, wpB, rg, rs, rsAll, TruthP, BinP, AugP, CmpP, SubP, BiP, lstOf, datas, cval0, cval1, cval2, cval3, cval4, cval5, cval6, cval7, cval8, cval9, cval10, Option.map, baa, bao, boa, boo, eqv_int, sh_int, and_self, true_and, and_true]
    rw [RN_zero] at hq; exact hq
  refine s_if ((m : Int) = 0) (by simp only [wpE, wpEs, wpB, rg, rs, rsAll, TruthP, BinP, AugP, CmpP, SubP, BiP, lstOf, datas, cval0, cval1, cval2, cval3, cval4, cval5, cval6, cval7, cval8, cval9, cval10, Option.map, baa, bao, boa, boo, eqv_int, sh_int, and_self, true_and, and_true]; exact b_z _) (fun h => absurd h (by omega)) (fun _ => s_nil ?_)
  refine s_asg (.d (.int ((bl m : Int) - prec))) (by simp only [wpE, wpEs, wpB, rg, rs, rsAll, TruthP, BinP, AugP, CmpP, SubP, BiP, lstOf, datas, cval0, cval1, cval2, cval3, cval4, cval5, cval6, cval7, cval8, cval9, cval10, Option.map, baa, bao, boa, boo, eqv_int, sh_int, and_self, true_and, and_true]) ?_
  simp only [rs]
  -- the rounding
  refine s_seq (fun ρ₁ σ₁ => σ₁ = σ ∧ ∃ z y, ρ₁ = [some (.d (.int s)), some (.d (.int ((rd s m (2 ^ (bl m - prec)) way : Nat) : Int))), some (.d (.int (e + (bl m - prec : Nat)))), some (.d (.int ((min (bl m) prec : Nat) : Int))), some (.d (.int prec)), some (.d (.str way)), z, y]) ?_ ?_
  · refine s_one (s_if ((bl m : Int) - prec > 0) (by simp only [wpE, wpEs, wpB, rg, rs, rsAll, TruthP, BinP, AugP, CmpP, SubP, BiP, lstOf, datas, cval0, cval1, cval2, cval3, cval4, cval5, cval6, cval7, cval8, cval9, cval10, Option.map, baa, bao, boa, boo, eqv_int, sh_int, and_self, true_and, and_true]) (fun hN => ?_) (fun hN => s_nil (s_nil ?_)))
    · generalize hNN : bl m - prec = N
      have hN1 : 0 < N := by omega
      have e1 : (bl m : Int) - prec = (N : Int) := by omega
      have e2 : min (bl m) prec = prec := by omega
      rw [e1, e2]
      refine s_seq (fun ρ₁ σ₁ => σ₁ = σ ∧ ∃ y, ρ₁ = [some (.d (.int s)), some (.d (.int ((rd s m (2 ^ N) way : Nat) : Int))), some (.d (.int e)), some (.d (.int (bl m))), some (.d (.int prec)), some (.d (.str way)), some (.d (.int N)), y]) ?_ ?_
      · refine s_one (s_if (way = wn) (by simp only [wpE, wpEs, wpB, rg, rs, rsAll, TruthP, BinP, AugP, CmpP, SubP, BiP, lstOf, datas, cval0, cval1, cval2, cval3, cval4, cval5, cval6, cval7, cval8, cval9, cval10, Option.map, baa, bao, boa, boo, eqv_int, sh_int, and_self, true_and, and_true]; exact ⟨⟨hw.sh, by decide +kernel⟩, eqv_str _ _⟩) (fun h => ?_) (fun h => ?_))
        · subst h
          obtain ⟨r1, r2⟩ := rup_n s m N hN1
          have e3 : ((N : Int) - 1).toNat = N - 1 := by omega
          refine s_asg (.d (.int ((m / 2 ^ (N - 1) : Nat) : Int))) (by simp only [wpE, wpEs, wpB, rg, rs, rsAll, TruthP, BinP, AugP, CmpP, SubP, BiP, lstOf, datas, cval0, cval1, cval2, cval3, cval4, cval5, cval6, cval7, cval8, cval9, cval10, Option.map, baa, bao, boa, boo, eqv_int, sh_int, and_self, true_and, and_true]; rw [e3, fdiv_pow]; exact ⟨by omega, rfl⟩) ?_
          simp only [rs]
          refine s_if (rup s wn (m / 2 ^ N) (m % 2 ^ N) (2 ^ N) = true) ?_ (fun hr => ?_) (fun hr => ?_)
          · simp only [wpE, wpEs, wpB, rg, rs, rsAll, TruthP, BinP, AugP, CmpP, SubP, BiP, lstOf, datas, cval0, cval1, cval2, cval3, cval4, cval5, cval6, cval7, cval8, cval9, cval10, Option.map, baa, bao, boa, boo, eqv_int, sh_int, and_self, true_and, and_true]
            rw [r1, and1, and2, e3, Int.one_mul, andmask, nz1, nz2, nz3]
            have a1 : (0 ≤ (N : Int) - 1 ∧ Smal 1 ∧ (N : Int) - 1 ≤ 2000) = True := eq_true ⟨by omega, smal_of (k := 1) (by decide) (by decide), by omega⟩
            rw [a1]
            generalize decide (m / 2 ^ (N - 1) % 2 = 1) = a
            generalize decide (m / 2 ^ (N - 1) / 2 % 2 = 1) = b
            generalize decide (m % 2 ^ (N - 1) ≠ 0) = c
            cases a <;> cases b <;> cases c <;> simp
          · refine s_asg (.d (.int ((rd s m (2 ^ N) wn : Nat) : Int))) ?_ ?_
            · simp only [wpE, wpEs, wpB, rg, rs, rsAll, TruthP, BinP, AugP, CmpP, SubP, BiP, lstOf, datas, cval0, cval1, cval2, cval3, cval4, cval5, cval6, cval7, cval8, cval9, cval10, Option.map, baa, bao, boa, boo, eqv_int, sh_int, and_self, true_and, and_true]
              refine ⟨by decide, ?_⟩
              rw [show Int.toNat 1 = 1 from rfl, fdiv_pow, ← Int.natCast_one, ← Int.natCast_add]
              unfold rd
              rw [if_pos hr, r2]
            simp only [rs]
            exact s_nil (s_nil ⟨rfl, _, rfl⟩)
          · refine s_asg (.d (.int ((rd s m (2 ^ N) wn : Nat) : Int))) ?_ ?_
            · simp only [wpE, wpEs, wpB, rg, rs, rsAll, TruthP, BinP, AugP, CmpP, SubP, BiP, lstOf, datas, cval0, cval1, cval2, cval3, cval4, cval5, cval6, cval7, cval8, cval9, cval10, Option.map, baa, bao, boa, boo, eqv_int, sh_int, and_self, true_and, and_true]
              refine ⟨by decide, ?_⟩
              rw [show Int.toNat 1 = 1 from rfl, fdiv_pow]
              unfold rd
              rw [if_neg hr, r2]
              rfl
            simp only [rs]
            exact s_nil (s_nil ⟨rfl, _, rfl⟩)
        · obtain ⟨ta, tb, t1, t2⟩ := tab_flo hs hw h
          have hrup := rup_flo hs hw h (m / 2 ^ N) (m % 2 ^ N) (2 ^ N)
          have hs2 : 0 ≤ s ∧ s < 1000000 := by omega
          refine s_if (flo s way = true) ?_ (fun hr => ?_) (fun hr => ?_)
          · simp only [wpE, wpEs, wpB, rg, rs, rsAll, TruthP, BinP, AugP, CmpP, SubP, BiP, lstOf, datas, cval0, cval1, cval2, cval3, cval4, cval5, cval6, cval7, cval8, cval9, cval10, Option.map, baa, bao, boa, boo, eqv_int, sh_int, and_self, true_and, and_true]
            refine ⟨_, t1, _, ⟨hs2.1, hs2.2, t2⟩, ?_⟩
            cases flo s way <;> rfl
          · refine s_aug rfl (.int ((rd s m (2 ^ N) way : Nat) : Int)) ?_ ?_
            · simp only [wpE, wpEs, wpB, rg, rs, rsAll, TruthP, BinP, AugP, CmpP, SubP, BiP, lstOf, datas, cval0, cval1, cval2, cval3, cval4, cval5, cval6, cval7, cval8, cval9, cval10, Option.map, baa, bao, boa, boo, eqv_int, sh_int, and_self, true_and, and_true]
              refine ⟨by omega, ?_⟩
              rw [Int.toNat_natCast, fdiv_pow]
              unfold rd
              rw [hrup, hr]; rfl
            simp only [rs]
            exact s_nil (s_nil ⟨rfl, _, rfl⟩)
          · refine s_asg (.d (.int ((rd s m (2 ^ N) way : Nat) : Int))) ?_ ?_
            · simp only [wpE, wpEs, wpB, rg, rs, rsAll, TruthP, BinP, AugP, CmpP, SubP, BiP, lstOf, datas, cval0, cval1, cval2, cval3, cval4, cval5, cval6, cval7, cval8, cval9, cval10, Option.map, baa, bao, boa, boo, eqv_int, sh_int, and_self, true_and, and_true]
              refine ⟨by omega, ?_⟩
              rw [Int.toNat_natCast, ceil_div]
              unfold rd
              rw [hrup, Bool.eq_false_iff.mpr hr]
              simp
            simp only [rs]
            exact s_nil (s_nil ⟨rfl, _, rfl⟩)
      · rintro ρ₁ σ₁ ⟨rfl, y, rfl⟩
        refine s_aug rfl (.int (e + N)) (by simp only [wpE, wpEs, wpB, rg, rs, rsAll, TruthP, BinP, AugP, CmpP, SubP, BiP, lstOf, datas, cval0, cval1, cval2, cval3, cval4, cval5, cval6, cval7, cval8, cval9, cval10, Option.map, baa, bao, boa, boo, eqv_int, sh_int, and_self, true_and, and_true]) ?_
        simp only [rs]
        refine s_asg (.d (.int prec)) (by simp only [wpE, wpEs, wpB, rg, rs, rsAll, TruthP, BinP, AugP, CmpP, SubP, BiP, lstOf, datas, cval0, cval1, cval2, cval3, cval4, cval5, cval6, cval7, cval8, cval9, cval10, Option.map, baa, bao, boa, boo, eqv_int, sh_int, and_self, true_and, and_true]) ?_
        simp only [rs]
        exact s_nil ⟨rfl, _, _, rfl⟩
    · have e0 : bl m - prec = 0 := by omega
      have e2 : min (bl m) prec = bl m := by omega
      refine ⟨rfl, some (.d (.int ((bl m : Int) - prec))), none, ?_⟩
      rw [e0, e2, Nat.pow_zero, rd_one]; simp
  · rintro ρ₁ σ₁ ⟨rfl, z, y, rfl⟩
    obtain ⟨hM0, hM⟩ := rd_bl (s := s) (way := way) hm hp
    unfold RN at hq
    generalize rd s m (2 ^ (bl m - prec)) way = M at *
    generalize e + ((bl m - prec : Nat) : Int) = e' at *
    generalize min (bl m) prec = BC at *
    obtain ⟨o, k, ho, rfl⟩ := odd_dec M hM0
    refine s_seq (fun ρ₂ σ₂ => σ₂ = σ₁ ∧ ∃ y, ρ₂ = [some (.d (.int s)), some (.d (.int (o : Int))), some (.d (.int (e' + k))), some (.d (.int ((BC : Int) - k))), some (.d (.int prec)), some (.d (.str way)), z, y]) ?_ ?_
    · refine s_one (s_if (o * 2 ^ k % 2 = 0) ?_ (fun h => ?_) (fun h => s_nil (s_nil ?_)))
      · simp only [wpE, wpEs, wpB, rg, rs, rsAll, TruthP, BinP, AugP, CmpP, SubP, BiP, lstOf, datas, cval0, cval1, cval2, cval3, cval4, cval5, cval6, cval7, cval8, cval9, cval10, Option.map, baa, bao, boa, boo, eqv_int, sh_int, and_self, true_and, and_true]
        rw [and1, nz1, Bool.eq_iff_iff]
        simp
      · refine s_asgk ?_
        simp only [wpE, wpEs, wpB, rg, rs, rsAll, TruthP, BinP, AugP, CmpP, SubP, BiP, lstOf, datas, cval0, cval1, cval2, cval3, cval4, cval5, cval6, cval7, cval8, cval9, cval10, Option.map, baa, bao, boa, boo, eqv_int, sh_int, and_self, true_and, and_true]
        refine trailing_ok B F rfl ho ?_
        refine s_aug rfl (.int (o : Int)) ?_ ?_
        · simp only [wpE, wpEs, wpB, rg, rs, rsAll, TruthP, BinP, AugP, CmpP, SubP, BiP, lstOf, datas, cval0, cval1, cval2, cval3, cval4, cval5, cval6, cval7, cval8, cval9, cval10, Option.map, baa, bao, boa, boo, eqv_int, sh_int, and_self, true_and, and_true]
          refine ⟨by omega, ?_⟩
          rw [Int.toNat_natCast, fdiv_pow, Nat.mul_div_cancel _ (p2pos k)]
        simp only [rs]
        refine s_aug rfl (.int (e' + k)) (by simp only [wpE, wpEs, wpB, rg, rs, rsAll, TruthP, BinP, AugP, CmpP, SubP, BiP, lstOf, datas, cval0, cval1, cval2, cval3, cval4, cval5, cval6, cval7, cval8, cval9, cval10, Option.map, baa, bao, boa, boo, eqv_int, sh_int, and_self, true_and, and_true]) ?_
        simp only [rs]
        refine s_aug rfl (.int ((BC : Int) - k)) (by simp only [wpE, wpEs, wpB, rg, rs, rsAll, TruthP, BinP, AugP, CmpP, SubP, BiP, lstOf, datas, cval0, cval1, cval2, cval3, cval4, cval5, cval6, cval7, cval8, cval9, cval10, Option.map, baa, bao, boa, boo, eqv_int, sh_int, and_self, true_and, and_true]) ?_
        simp only [rs]
        exact s_nil (s_nil ⟨rfl, _, rfl⟩)
      · have hk : k = 0 := by
          cases k with
          | zero => rfl
          | succ k => exfalso; rw [Nat.pow_succ, ← Nat.mul_assoc] at h; omega
        subst hk
        exact ⟨rfl, y, by simp⟩
    · rintro ρ₁ σ₁ ⟨rfl, y, rfl⟩
      have hbl : o ≠ 1 → (BC : Int) - k = bl o := by
        intro h1
        rcases hM with h2 | ⟨h2, h3⟩
        · rw [bl_mul k (by omega)] at h2; omega
        · exact absurd (odd_pow ho h2) h1
      rw [cn_dec ho] at hq
      refine s_if ((o : Int) = 1) (by simp only [wpE, wpEs, wpB, rg, rs, rsAll, TruthP, BinP, AugP, CmpP, SubP, BiP, lstOf, datas, cval0, cval1, cval2, cval3, cval4, cval5, cval6, cval7, cval8, cval9, cval10, Option.map, baa, bao, boa, boo, eqv_int, sh_int, and_self, true_and, and_true]) (fun h => ?_) (fun h => s_nil (s_ret ?_))
      · refine s_asg (.d (.int 1)) (by simp only [wpE, wpEs, wpB, rg, rs, rsAll, TruthP, BinP, AugP, CmpP, SubP, BiP, lstOf, datas, cval0, cval1, cval2, cval3, cval4, cval5, cval6, cval7, cval8, cval9, cval10, Option.map, baa, bao, boa, boo, eqv_int, sh_int, and_self, true_and, and_true]) (s_nil ?_)
        simp only [rs]
        refine s_ret ?_
        have : o = 1 := by omega
        subst this
        simp only [wpE, wpEs, wpB, rg, rs, rsAll, TruthP, BinP, AugP, CmpP, SubP, BiP, lstOf, datas, cval0, cval1, cval2, cval3, cval4, cval5, cval6, cval7, cval8, cval9, cval10, Option.map, baa, bao, boa, boo, eqv_int, sh_int, and_self, true_and, and_true]
        exact ⟨_, rfl, by simp, hq⟩
      · simp only [wpE, wpEs, wpB, rg, rs, rsAll, TruthP, BinP, AugP, CmpP, SubP, BiP, lstOf, datas, cval0, cval1, cval2, cval3, cval4, cval5, cval6, cval7, cval8, cval9, cval10, Option.map, baa, bao, boa, boo, eqv_int, sh_int, and_self, true_and, and_true]
        rw [hbl (by omega)]
        exact ⟨_, rfl, by simp, hq⟩
end

-- M23
def sg (i : Int) : Int := if i < 0 then 1 else 0
def TW (i e : Int) : PyData := cn (sg i) i.natAbs e
def RNI (i e : Int) (prec : Nat) (way : Str) : PyData := RN (sg i) i.natAbs e prec way
theorem sg_01 (i : Int) : sg i = 0 ∨ sg i = 1 := by unfold sg; split <;> simp
theorem b_not (b : Bool) (p : Prop) [Decidable p] : (!b) = decide (¬ p) ↔ b = decide p := by
  by_cases h : p <;> cases b <;> simp [h]

section
variable {prog : Program} {w : World} {hb : Heap} {mg mb : Str → Option Value} {fa : Nat → Addr}
theorem normalize_ok (B : Bs hb mg mb fa) (F : Fns hb fa) {n : Nat} {s e : Int} {m prec : Nat} {way : Str} {im ibc ip : Int} (h1 : im = (m : Int)) (h2 : ibc = (bl m : Int)) (h3 : ip = (prec : Int)) (hs : s = 0 ∨ s = 1) (hw : Way way) (hp : 1 ≤ prec) (hsm : bl m ≤ 2000)
    {σ : St} {Q : V → St → Prop} (hq : Q (.d (RN s m e prec way)) σ) : CallOK prog w hb fa (n + 3) 2 [.d (.int s), .d (.int im), .d (.int e), .d (.int ibc), .d (.int ip), .d (.str way)] σ Q := by
  subst h1; subst h2; subst h3
  refine call_ok B F.f2 rfl ?_
  simp only [nm_normalize, startR, List.map_cons, List.map_nil, List.length_cons, List.length_nil, List.append_nil, List.cons_append, List.nil_append, List.replicate]
  refine s_asrt (by simp only [wpE, wpEs, wpB, rg, rs, rsAll, TruthP, BinP, AugP, CmpP, SubP, BiP, lstOf, datas, cval0, cval1, cval2, cval3, cval4, cval5, cval6, cval7, cval8, cval9, cval10, Option.map, baa, bao, boa, boo, eqv_int, sh_int, and_self, true_and, and_true]; rw [intBits_nat]; simp) ?_
  refine s_asrt (by simp only [wpE, wpEs, wpB, rg, rs, rsAll, TruthP, BinP, AugP, CmpP, SubP, BiP, lstOf, datas, cval0, cval1, cval2, cval3, cval4, cval5, cval6, cval7, cval8, cval9, cval10, Option.map, baa, bao, boa, boo, eqv_int, sh_int, and_self, true_and, and_true]; simp) ?_
  refine s_ret ?_
  simp only [wpE, wpEs, wpB, rg, rs, rsAll, TruthP, BinP, AugP, CmpP, SubP, BiP, lstOf, datas, cval0, cval1, cval2, cval3, cval4, cval5, cval6, cval7, cval8, cval9, cval10, Option.map, baa, bao, boa, boo, eqv_int, sh_int, and_self, true_and, and_true]
  exact normalize0_ok B F rfl rfl rfl hs hw hp hsm hq

theorem from_man_exp_core (B : Bs hb mg mb fa) (F : Fns hb fa) {n : Nat} {i e : Int} {prec : Nat} {way : Str} (hw : Way way) (hsm : bl i.natAbs ≤ 2000)
    {σ : St} {Q : V → St → Prop} (hq : Q (.d (if prec = 0 then TW i e else RNI i e prec way)) σ) :
    wpSs (CallOK prog w hb fa (n + 3)) bd_from_man_exp [some (.d (.int i)), some (.d (.int e)), some (.d (.int prec)), some (.d (.str way)), none, none, none] σ (fun _ σ' => Q (.d .none) σ') Q := by
  refine s_if False (by simp only [wpE, wpEs, wpB, rg, rs, rsAll, TruthP, BinP, AugP, CmpP, SubP, BiP, lstOf, datas, cval0, cval1, cval2, cval3, cval4, cval5, cval6, cval7, cval8, cval9, cval10, Option.map, baa, bao, boa, boo, eqv_int, sh_int, and_self, true_and, and_true]; rfl) (fun h => h.elim) (fun _ => s_nil ?_)
  refine s_asg (.d (.int 0)) (by simp only [wpE, wpEs, wpB, rg, rs, rsAll, TruthP, BinP, AugP, CmpP, SubP, BiP, lstOf, datas, cval0, cval1, cval2, cval3, cval4, cval5, cval6, cval7, cval8, cval9, cval10, Option.map, baa, bao, boa, boo, eqv_int, sh_int, and_self, true_and, and_true]) ?_
  simp only [rs]
  refine s_seq (fun ρ₁ σ₁ => σ₁ = σ ∧ ρ₁ = [some (.d (.int (i.natAbs : Int))), some (.d (.int e)), some (.d (.int prec)), some (.d (.str way)), some (.d (.int (sg i))), none, none]) ?_ ?_
  · refine s_one (s_if (i < 0) (by simp only [wpE, wpEs, wpB, rg, rs, rsAll, TruthP, BinP, AugP, CmpP, SubP, BiP, lstOf, datas, cval0, cval1, cval2, cval3, cval4, cval5, cval6, cval7, cval8, cval9, cval10, Option.map, baa, bao, boa, boo, eqv_int, sh_int, and_self, true_and, and_true]) (fun h => ?_) (fun h => s_nil (s_nil ?_)))
    · refine s_asg (.d (.int 1)) (by simp only [wpE, wpEs, wpB, rg, rs, rsAll, TruthP, BinP, AugP, CmpP, SubP, BiP, lstOf, datas, cval0, cval1, cval2, cval3, cval4, cval5, cval6, cval7, cval8, cval9, cval10, Option.map, baa, bao, boa, boo, eqv_int, sh_int, and_self, true_and, and_true]) ?_
      simp only [rs]
      refine s_asg (.d (.int (i.natAbs : Int))) (by simp only [wpE, wpEs, wpB, rg, rs, rsAll, TruthP, BinP, AugP, CmpP, SubP, BiP, lstOf, datas, cval0, cval1, cval2, cval3, cval4, cval5, cval6, cval7, cval8, cval9, cval10, Option.map, baa, bao, boa, boo, eqv_int, sh_int, and_self, true_and, and_true]; congr 2; omega) ?_
      simp only [rs]
      refine s_nil (s_nil ⟨rfl, ?_⟩)
      unfold sg; rw [if_pos h]
    · refine ⟨rfl, ?_⟩
      unfold sg; rw [if_neg h, show (i.natAbs : Int) = i by omega]
  · rintro ρ₁ σ₁ ⟨rfl, rfl⟩
    unfold TW RNI at hq
    have hs := sg_01 i
    generalize sg i = s at *
    generalize i.natAbs = m at *
    refine s_asg (.d (.int (bl m))) (by simp only [wpE, wpEs, wpB, rg, rs, rsAll, TruthP, BinP, AugP, CmpP, SubP, BiP, lstOf, datas, cval0, cval1, cval2, cval3, cval4, cval5, cval6, cval7, cval8, cval9, cval10, Option.map, baa, bao, boa, boo, eqv_int, sh_int, and_self, true_and, and_true]; rw [intBits_nat]) ?_
    simp only [rs]
    refine s_if ((prec : Int) = 0) (by simp only [wpE, wpEs, wpB, rg, rs, rsAll, TruthP, BinP, AugP, CmpP, SubP, BiP, lstOf, datas, cval0, cval1, cval2, cval3, cval4, cval5, cval6, cval7, cval8, cval9, cval10, Option.map, baa, bao, boa, boo, eqv_int, sh_int, and_self, true_and, and_true]; exact b_z _) (fun h => ?_) (fun h => s_nil ?_)
    · have hp : prec = 0 := by omega
      rw [if_pos hp] at hq
      by_cases hm : m = 0
      · subst hm
        refine s_if (((0 : Nat) : Int) = 0) (by simp only [wpE, wpEs, wpB, rg, rs, rsAll, TruthP, BinP, AugP, CmpP, SubP, BiP, lstOf, datas, cval0, cval1, cval2, cval3, cval4, cval5, cval6, cval7, cval8, cval9, cval10, Option.map, baa, bao, boa, boo, eqv_int, sh_int, and_self, true_and, and_true]; exact b_z _) (fun _ => s_ret ?_) (fun h => absurd rfl h)
        simp only [wpE, wpEs, wpB, rg, rs, rsAll, TruthP, BinP, AugP, CmpP, SubP, BiP, lstOf, datas, cval0, cval1, cval2, cval3, cval4, cval5, cval6, cval7, cval8, cval9, cval10, Option.map, baa, bao, boa, boo, eqv_int, sh_int, and_self, true_and, and_true]
        rw [cn_zero] at hq; exact hq
      refine s_if ((m : Int) = 0) (by simp only [wpE, wpEs, wpB, rg, rs, rsAll, TruthP, BinP, AugP, CmpP, SubP, BiP, lstOf, datas, cval0, cval1, cval2, cval3, cval4, cval5, cval6, cval7, cval8, cval9, cval10, Option.map, baa, bao, boa, boo, eqv_int, sh_int, and_self, true_and, and_true]; exact b_z _) (fun h => absurd h (by omega)) (fun _ => s_nil ?_)
      obtain ⟨o, k, ho, rfl⟩ := odd_dec m hm
      have hb := bl_mul k (m := o) (by omega)
      rw [cn_dec ho] at hq
      unfold mk at hq
      refine s_if (o * 2 ^ k % 2 = 0) ?_ (fun h => ?_) (fun h => s_nil ?_)
      · simp only [wpE, wpEs, wpB, rg, rs, rsAll, TruthP, BinP, AugP, CmpP, SubP, BiP, lstOf, datas, cval0, cval1, cval2, cval3, cval4, cval5, cval6, cval7, cval8, cval9, cval10, Option.map, baa, bao, boa, boo, eqv_int, sh_int, and_self, true_and, and_true]
        rw [and1, nz1, Bool.eq_iff_iff]
        simp
      · refine s_if (k = 1) ?_ (fun h => s_ret ?_) (fun h => s_nil ?_)
        · simp only [wpE, wpEs, wpB, rg, rs, rsAll, TruthP, BinP, AugP, CmpP, SubP, BiP, lstOf, datas, cval0, cval1, cval2, cval3, cval4, cval5, cval6, cval7, cval8, cval9, cval10, Option.map, baa, bao, boa, boo, eqv_int, sh_int, and_self, true_and, and_true]
          rw [and2, nz2, decide_eq_decide]
          match k, h with
          | 0, h => rw [Nat.pow_zero, Nat.mul_one] at h; omega
          | 1, h => simp [ho]
          | k + 2, h =>
            rw [Nat.pow_succ, Nat.pow_succ, ← Nat.mul_assoc, ← Nat.mul_assoc]
            omega
        · subst h
          simp only [wpE, wpEs, wpB, rg, rs, rsAll, TruthP, BinP, AugP, CmpP, SubP, BiP, lstOf, datas, cval0, cval1, cval2, cval3, cval4, cval5, cval6, cval7, cval8, cval9, cval10, Option.map, baa, bao, boa, boo, eqv_int, sh_int, and_self, true_and, and_true]
          refine ⟨by decide, _, rfl, by simp, ?_⟩
          rw [show Int.toNat 1 = 1 from rfl, fdiv_pow, Nat.mul_div_cancel _ (p2pos 1), hb]
          rw [show ((bl o + 1 : Nat) : Int) - 1 = bl o by omega]
          exact hq
        · refine s_asgk ?_
          simp only [wpE, wpEs, wpB, rg, rs, rsAll, TruthP, BinP, AugP, CmpP, SubP, BiP, lstOf, datas, cval0, cval1, cval2, cval3, cval4, cval5, cval6, cval7, cval8, cval9, cval10, Option.map, baa, bao, boa, boo, eqv_int, sh_int, and_self, true_and, and_true]
          refine trailing_ok B F rfl ho ?_
          refine s_aug rfl (.int (o : Int)) ?_ ?_
          · simp only [wpE, wpEs, wpB, rg, rs, rsAll, TruthP, BinP, AugP, CmpP, SubP, BiP, lstOf, datas, cval0, cval1, cval2, cval3, cval4, cval5, cval6, cval7, cval8, cval9, cval10, Option.map, baa, bao, boa, boo, eqv_int, sh_int, and_self, true_and, and_true]
            refine ⟨by omega, ?_⟩
            rw [Int.toNat_natCast, fdiv_pow, Nat.mul_div_cancel _ (p2pos k)]
          simp only [rs]
          refine s_aug rfl (.int (e + k)) (by simp only [wpE, wpEs, wpB, rg, rs, rsAll, TruthP, BinP, AugP, CmpP, SubP, BiP, lstOf, datas, cval0, cval1, cval2, cval3, cval4, cval5, cval6, cval7, cval8, cval9, cval10, Option.map, baa, bao, boa, boo, eqv_int, sh_int, and_self, true_and, and_true]) ?_
          simp only [rs]
          refine s_aug rfl (.int (bl o)) (by simp only [wpE, wpEs, wpB, rg, rs, rsAll, TruthP, BinP, AugP, CmpP, SubP, BiP, lstOf, datas, cval0, cval1, cval2, cval3, cval4, cval5, cval6, cval7, cval8, cval9, cval10, Option.map, baa, bao, boa, boo, eqv_int, sh_int, and_self, true_and, and_true]; congr 1; omega) ?_
          simp only [rs]
          refine s_nil (s_ret ?_)
          simp only [wpE, wpEs, wpB, rg, rs, rsAll, TruthP, BinP, AugP, CmpP, SubP, BiP, lstOf, datas, cval0, cval1, cval2, cval3, cval4, cval5, cval6, cval7, cval8, cval9, cval10, Option.map, baa, bao, boa, boo, eqv_int, sh_int, and_self, true_and, and_true]
          exact ⟨_, rfl, by simp, hq⟩
      · have hk : k = 0 := by
          cases k with
          | zero => rfl
          | succ k => exfalso; rw [Nat.pow_succ, ← Nat.mul_assoc] at h; omega
        subst hk
        refine s_ret ?_
        simp only [wpE, wpEs, wpB, rg, rs, rsAll, TruthP, BinP, AugP, CmpP, SubP, BiP, lstOf, datas, cval0, cval1, cval2, cval3, cval4, cval5, cval6, cval7, cval8, cval9, cval10, Option.map, baa, bao, boa, boo, eqv_int, sh_int, and_self, true_and, and_true]
        simp only [Nat.pow_zero, Nat.mul_one]
        exact ⟨_, rfl, by simp, by simpa using hq⟩
    · have hp : prec ≠ 0 := by omega
      rw [if_neg hp] at hq
      refine s_ret ?_
      simp only [wpE, wpEs, wpB, rg, rs, rsAll, TruthP, BinP, AugP, CmpP, SubP, BiP, lstOf, datas, cval0, cval1, cval2, cval3, cval4, cval5, cval6, cval7, cval8, cval9, cval10, Option.map, baa, bao, boa, boo, eqv_int, sh_int, and_self, true_and, and_true]
      exact normalize_ok B F rfl rfl rfl hs hw (by omega) hsm hq

theorem from_man_exp2_ok (B : Bs hb mg mb fa) (F : Fns hb fa) {n : Nat} {i e : Int} (hsm : bl i.natAbs ≤ 2000)
    {σ : St} {Q : V → St → Prop} (hq : Q (.d (TW i e)) σ) : CallOK prog w hb fa (n + 4) 3 [.d (.int i), .d (.int e)] σ Q :=
  call_ok B F.f3 rfl (from_man_exp_core B F (prec := 0) (way := wd) (.inr (.inr (.inr (.inr rfl)))) hsm hq)
theorem from_man_exp4_ok (B : Bs hb mg mb fa) (F : Fns hb fa) {n : Nat} {i e : Int} {prec : Nat} {way : Str} (hw : Way way) (hsm : bl i.natAbs ≤ 2000)
    {σ : St} {Q : V → St → Prop} (hq : Q (.d (if prec = 0 then TW i e else RNI i e prec way)) σ) : CallOK prog w hb fa (n + 4) 3 [.d (.int i), .d (.int e), .d (.int prec), .d (.str way)] σ Q :=
  call_ok B F.f3b rfl (from_man_exp_core B F hw hsm hq)
end

-- M24
theorem sh_t4 (a b c d : Int) : SeqAt.shaped (.tuple [.int a, .int b, .int c, .int d]) = true := rfl
theorem eqv_t4 (a b c d a' b' c' d' : Int) : PyData.eqv (.tuple [.int a, .int b, .int c, .int d]) (.tuple [.int a', .int b', .int c', .int d']) = (decide (a = a') && (decide (b = b') && (decide (c = c') && decide (d = d')))) := by
  simp only [PyData.eqv, PyData.eqvAll, Bool.and_true]
  rfl
def sv (s : Int) (m : Nat) : Int := if s = 1 then -(m : Int) else m
def xr (a b : Int) : Int := if a = b then 0 else 1
theorem xr_01 (a b : Int) : xr a b = 0 ∨ xr a b = 1 := by unfold xr; split <;> simp
theorem xor_01 {a b : Int} (ha : a = 0 ∨ a = 1) (hb : b = 0 ∨ b = 1) : Builtin.bitXor a b = xr a b := by
  rcases ha with rfl | rfl <;> rcases hb with rfl | rfl <;> decide +kernel
theorem sv_abs {s : Int} {m : Nat} : (sv s m).natAbs = m := by unfold sv; split <;> omega
theorem sg_sv {s : Int} {m : Nat} (hs : s = 0 ∨ s = 1) (hm : m ≠ 0) : sg (sv s m) = s := by
  rcases hs with rfl | rfl
  · show (if (if (0 : Int) = 1 then -(m : Int) else (m : Int)) < 0 then (1 : Int) else 0) = 0
    rw [if_neg (show ¬ (0 : Int) = 1 by decide), if_neg (show ¬ (m : Int) < 0 by omega)]
  · show (if (if (1 : Int) = 1 then -(m : Int) else (m : Int)) < 0 then (1 : Int) else 0) = 1
    rw [if_pos (show (1 : Int) = 1 by decide), if_pos (show -(m : Int) < 0 by omega)]

theorem vcase {a b X Y v : Int} (ha : a = 0 ∨ a = 1) (hb : b = 0 ∨ b = 1) (hX : 0 < X) (hY : 0 < Y) (hv : v = (if a = 1 then -X else X) + (if b = 1 then -Y else Y)) :
    (a = b → sg v = a ∧ Y + X = (v.natAbs : Int)) ∧ (a ≠ b → a = 1 → Y - X = v) ∧ (a ≠ b → a ≠ 1 → X - Y = v) := by
  have z : ¬ (0 : Int) = 1 := by decide
  rcases ha with rfl | rfl <;> rcases hb with rfl | rfl
  · rw [if_neg z, if_neg z] at hv
    exact ⟨fun _ => ⟨if_neg (by omega), by omega⟩, fun _ h => absurd h z, fun h => absurd rfl h⟩
  · rw [if_neg z, if_pos rfl] at hv
    exact ⟨fun h => absurd h z, fun _ h => absurd h z, fun _ _ => by omega⟩
  · rw [if_pos rfl, if_neg z] at hv
    exact ⟨fun h => absurd h (by decide), fun _ _ => by omega, fun _ h => absurd rfl h⟩
  · rw [if_pos rfl, if_pos rfl] at hv
    exact ⟨fun _ => ⟨if_pos (by omega), by omega⟩, fun h => absurd rfl h, fun h => absurd rfl h⟩

section
variable {prog : Program} {w : World} {hb : Heap} {mg mb : Str → Option Value} {fa : Nat → Addr}
theorem mpf_sign0_ok (B : Bs hb mg mb fa) (F : Fns hb fa) {n : Nat} {σ : St} {Q : V → St → Prop} (hq : Q (.d (.int 0)) σ) : CallOK prog w hb fa (n + 1) 12 [.d zt] σ Q := by
  refine call_ok B F.f12 rfl ?_
  simp only [nm_mpf_sign, startR, List.map_cons, List.map_nil, List.length_cons, List.length_nil, List.append_nil, List.cons_append, List.nil_append, List.replicate]
  refine s_unp [.int 0, .int 0, .int 0, .int 0] (by simp only [wpE, wpEs, wpB, rg, rs, rsAll, TruthP, BinP, AugP, CmpP, SubP, BiP, lstOf, datas, cval0, cval1, cval2, cval3, cval4, cval5, cval6, cval7, cval8, cval9, cval10, Option.map, baa, bao, boa, boo, eqv_int, sh_int, and_self, true_and, and_true]; rfl) rfl ?_
  simp only [rsAll, rs]
  refine s_if True (by simp only [wpE, wpEs, wpB, rg, rs, rsAll, TruthP, BinP, AugP, CmpP, SubP, BiP, lstOf, datas, cval0, cval1, cval2, cval3, cval4, cval5, cval6, cval7, cval8, cval9, cval10, Option.map, baa, bao, boa, boo, eqv_int, sh_int, and_self, true_and, and_true]; rfl) (fun _ => ?_) (fun h => absurd trivial h)
  refine s_if False (by simp only [wpE, wpEs, wpB, rg, rs, rsAll, TruthP, BinP, AugP, CmpP, SubP, BiP, lstOf, datas, cval0, cval1, cval2, cval3, cval4, cval5, cval6, cval7, cval8, cval9, cval10, Option.map, baa, bao, boa, boo, eqv_int, sh_int, and_self, true_and, and_true]; simp only [zt, sh_t4, eqv_t4, true_and]; rfl) (fun h => h.elim) (fun _ => s_nil ?_)
  refine s_if False (by simp only [wpE, wpEs, wpB, rg, rs, rsAll, TruthP, BinP, AugP, CmpP, SubP, BiP, lstOf, datas, cval0, cval1, cval2, cval3, cval4, cval5, cval6, cval7, cval8, cval9, cval10, Option.map, baa, bao, boa, boo, eqv_int, sh_int, and_self, true_and, and_true]; simp only [zt, sh_t4, eqv_t4, true_and]; rfl) (fun h => h.elim) (fun _ => s_nil ?_)
  exact s_ret hq
theorem mpf_sign_ok (B : Bs hb mg mb fa) (F : Fns hb fa) {n : Nat} {s m e b : Int} (hm : m ≠ 0) (hs : s = 0 ∨ s = 1) {σ : St} {Q : V → St → Prop} (hq : Q (.d (.int (if s = 1 then -1 else 1))) σ) : CallOK prog w hb fa (n + 1) 12 [.d (.tuple [.int s, .int m, .int e, .int b])] σ Q := by
  refine call_ok B F.f12 rfl ?_
  simp only [nm_mpf_sign, startR, List.map_cons, List.map_nil, List.length_cons, List.length_nil, List.append_nil, List.cons_append, List.nil_append, List.replicate]
  refine s_unp [.int s, .int m, .int e, .int b] (by simp only [wpE, wpEs, wpB, rg, rs, rsAll, TruthP, BinP, AugP, CmpP, SubP, BiP, lstOf, datas, cval0, cval1, cval2, cval3, cval4, cval5, cval6, cval7, cval8, cval9, cval10, Option.map, baa, bao, boa, boo, eqv_int, sh_int, and_self, true_and, and_true]) rfl ?_
  simp only [rsAll, rs]
  refine s_if (m = 0) (by simp only [wpE, wpEs, wpB, rg, rs, rsAll, TruthP, BinP, AugP, CmpP, SubP, BiP, lstOf, datas, cval0, cval1, cval2, cval3, cval4, cval5, cval6, cval7, cval8, cval9, cval10, Option.map, baa, bao, boa, boo, eqv_int, sh_int, and_self, true_and, and_true]; exact b_z _) (fun h => absurd h hm) (fun _ => s_nil (s_ret ?_))
  simp only [wpE, wpEs, wpB, rg, rs, rsAll, TruthP, BinP, AugP, CmpP, SubP, BiP, lstOf, datas, cval0, cval1, cval2, cval3, cval4, cval5, cval6, cval7, cval8, cval9, cval10, Option.map, baa, bao, boa, boo, eqv_int, sh_int, and_self, true_and, and_true]
  refine ⟨⟨by omega, smal_of (k := 1) (by decide) (by decide), by omega⟩, ?_⟩
  rcases hs with rfl | rfl
  · exact hq
  · exact hq
theorem mpf_shift_ok (B : Bs hb mg mb fa) (F : Fns hb fa) {n : Nat} {s m e b k : Int} {σ : St} {Q : V → St → Prop} (hq : Q (.d (if m = 0 then .tuple [.int s, .int m, .int e, .int b] else .tuple [.int s, .int m, .int (e + k), .int b])) σ) : CallOK prog w hb fa (n + 1) 16 [.d (.tuple [.int s, .int m, .int e, .int b]), .d (.int k)] σ Q := by
  refine call_ok B F.f16 rfl ?_
  simp only [nm_mpf_shift, startR, List.map_cons, List.map_nil, List.length_cons, List.length_nil, List.append_nil, List.cons_append, List.nil_append, List.replicate]
  refine s_unp [.int s, .int m, .int e, .int b] (by simp only [wpE, wpEs, wpB, rg, rs, rsAll, TruthP, BinP, AugP, CmpP, SubP, BiP, lstOf, datas, cval0, cval1, cval2, cval3, cval4, cval5, cval6, cval7, cval8, cval9, cval10, Option.map, baa, bao, boa, boo, eqv_int, sh_int, and_self, true_and, and_true]) rfl ?_
  simp only [rsAll, rs]
  refine s_if (m = 0) (by simp only [wpE, wpEs, wpB, rg, rs, rsAll, TruthP, BinP, AugP, CmpP, SubP, BiP, lstOf, datas, cval0, cval1, cval2, cval3, cval4, cval5, cval6, cval7, cval8, cval9, cval10, Option.map, baa, bao, boa, boo, eqv_int, sh_int, and_self, true_and, and_true]; exact b_z _) (fun h => s_ret ?_) (fun h => s_nil (s_ret ?_))
  · rw [if_pos h] at hq
    simp only [wpE, wpEs, wpB, rg, rs, rsAll, TruthP, BinP, AugP, CmpP, SubP, BiP, lstOf, datas, cval0, cval1, cval2, cval3, cval4, cval5, cval6, cval7, cval8, cval9, cval10, Option.map, baa, bao, boa, boo, eqv_int, sh_int, and_self, true_and, and_true]
    exact hq
  · rw [if_neg h] at hq
    simp only [wpE, wpEs, wpB, rg, rs, rsAll, TruthP, BinP, AugP, CmpP, SubP, BiP, lstOf, datas, cval0, cval1, cval2, cval3, cval4, cval5, cval6, cval7, cval8, cval9, cval10, Option.map, baa, bao, boa, boo, eqv_int, sh_int, and_self, true_and, and_true]
    exact ⟨_, rfl, by simp, hq⟩
theorem mpf_frexp0_ok (B : Bs hb mg mb fa) (F : Fns hb fa) {n : Nat} {σ : St} {Q : V → St → Prop} (hq : Q (.d (.tuple [zt, .int 0])) σ) : CallOK prog w hb fa (n + 2) 17 [.d zt] σ Q := by
  refine call_ok B F.f17 rfl ?_
  simp only [nm_mpf_frexp, startR, List.map_cons, List.map_nil, List.length_cons, List.length_nil, List.append_nil, List.cons_append, List.nil_append, List.replicate]
  refine s_unp [.int 0, .int 0, .int 0, .int 0] (by simp only [wpE, wpEs, wpB, rg, rs, rsAll, TruthP, BinP, AugP, CmpP, SubP, BiP, lstOf, datas, cval0, cval1, cval2, cval3, cval4, cval5, cval6, cval7, cval8, cval9, cval10, Option.map, baa, bao, boa, boo, eqv_int, sh_int, and_self, true_and, and_true]; rfl) rfl ?_
  simp only [rsAll, rs]
  refine s_if True (by simp only [wpE, wpEs, wpB, rg, rs, rsAll, TruthP, BinP, AugP, CmpP, SubP, BiP, lstOf, datas, cval0, cval1, cval2, cval3, cval4, cval5, cval6, cval7, cval8, cval9, cval10, Option.map, baa, bao, boa, boo, eqv_int, sh_int, and_self, true_and, and_true]; rfl) (fun _ => ?_) (fun h => absurd trivial h)
  refine s_if True (by simp only [wpE, wpEs, wpB, rg, rs, rsAll, TruthP, BinP, AugP, CmpP, SubP, BiP, lstOf, datas, cval0, cval1, cval2, cval3, cval4, cval5, cval6, cval7, cval8, cval9, cval10, Option.map, baa, bao, boa, boo, eqv_int, sh_int, and_self, true_and, and_true]; simp only [zt, sh_t4, eqv_t4, true_and]; rfl) (fun _ => s_ret ?_) (fun h => absurd trivial h)
  simp only [wpE, wpEs, wpB, rg, rs, rsAll, TruthP, BinP, AugP, CmpP, SubP, BiP, lstOf, datas, cval0, cval1, cval2, cval3, cval4, cval5, cval6, cval7, cval8, cval9, cval10, Option.map, baa, bao, boa, boo, eqv_int, sh_int, and_self, true_and, and_true]
  exact ⟨_, rfl, by simp, hq⟩
theorem mpf_frexp_ok (B : Bs hb mg mb fa) (F : Fns hb fa) {n : Nat} {s m e b : Int} (hm : m ≠ 0) {σ : St} {Q : V → St → Prop} (hq : Q (.d (.tuple [.tuple [.int s, .int m, .int (-b), .int b], .int (b + e)])) σ) : CallOK prog w hb fa (n + 2) 17 [.d (.tuple [.int s, .int m, .int e, .int b])] σ Q := by
  refine call_ok B F.f17 rfl ?_
  simp only [nm_mpf_frexp, startR, List.map_cons, List.map_nil, List.length_cons, List.length_nil, List.append_nil, List.cons_append, List.nil_append, List.replicate]
  refine s_unp [.int s, .int m, .int e, .int b] (by simp only [wpE, wpEs, wpB, rg, rs, rsAll, TruthP, BinP, AugP, CmpP, SubP, BiP, lstOf, datas, cval0, cval1, cval2, cval3, cval4, cval5, cval6, cval7, cval8, cval9, cval10, Option.map, baa, bao, boa, boo, eqv_int, sh_int, and_self, true_and, and_true]) rfl ?_
  simp only [rsAll, rs]
  refine s_if (m = 0) (by simp only [wpE, wpEs, wpB, rg, rs, rsAll, TruthP, BinP, AugP, CmpP, SubP, BiP, lstOf, datas, cval0, cval1, cval2, cval3, cval4, cval5, cval6, cval7, cval8, cval9, cval10, Option.map, baa, bao, boa, boo, eqv_int, sh_int, and_self, true_and, and_true]; exact b_z _) (fun h => absurd h hm) (fun _ => s_nil (s_ret ?_))
  simp only [wpE, wpEs, wpB, rg, rs, rsAll, TruthP, BinP, AugP, CmpP, SubP, BiP, lstOf, datas, cval0, cval1, cval2, cval3, cval4, cval5, cval6, cval7, cval8, cval9, cval10, Option.map, baa, bao, boa, boo, eqv_int, sh_int, and_self, true_and, and_true]
  refine mpf_shift_ok B F ?_
  rw [if_neg hm]
  refine ⟨_, rfl, by simp, ?_⟩
  have e1 : e + (-b - e) = -b := by omega
  rw [e1]; exact hq
theorem to_man_exp_core (B : Bs hb mg mb fa) (F : Fns hb fa) {n : Nat} {s m e b : Int} {sd : Bool} (hm : m = 0 → e = 0) (hs : s = 0 ∨ s = 1) {σ : St} {Q : V → St → Prop} {g : V}
    (hg : g = .d (.bool sd) ∨ (g = .d .none ∧ sd = false)) (hq : Q (.d (.tuple [.int (if sd = true ∧ s = 1 then -m else m), .int e])) σ) : wpSs (CallOK prog w hb fa n) bd_to_man_exp [some (.d (.tuple [.int s, .int m, .int e, .int b])), some g, none, none, none, none] σ (fun _ σ' => Q (.d .none) σ') Q := by
  refine s_seq (fun ρ₁ σ₁ => σ₁ = σ ∧ ρ₁ = [some (.d (.tuple [.int s, .int m, .int e, .int b])), some (.d (.bool sd)), none, none, none, none]) ?_ ?_
  · rcases hg with rfl | ⟨rfl, rfl⟩
    · refine s_one (s_if False (by simp only [wpE, wpEs, wpB, rg, rs, rsAll, TruthP, BinP, AugP, CmpP, SubP, BiP, lstOf, datas, cval0, cval1, cval2, cval3, cval4, cval5, cval6, cval7, cval8, cval9, cval10, Option.map, baa, bao, boa, boo, eqv_int, sh_int, and_self, true_and, and_true]; rfl) (fun h => h.elim) (fun _ => s_nil (s_nil ⟨rfl, rfl⟩)))
    · refine s_one (s_if True (by simp only [wpE, wpEs, wpB, rg, rs, rsAll, TruthP, BinP, AugP, CmpP, SubP, BiP, lstOf, datas, cval0, cval1, cval2, cval3, cval4, cval5, cval6, cval7, cval8, cval9, cval10, Option.map, baa, bao, boa, boo, eqv_int, sh_int, and_self, true_and, and_true]; rfl) (fun h => ?_) (fun h => absurd trivial h))
      refine s_asg (.d (.bool false)) (by simp only [wpE, wpEs, wpB, rg, rs, rsAll, TruthP, BinP, AugP, CmpP, SubP, BiP, lstOf, datas, cval0, cval1, cval2, cval3, cval4, cval5, cval6, cval7, cval8, cval9, cval10, Option.map, baa, bao, boa, boo, eqv_int, sh_int, and_self, true_and, and_true]) ?_
      exact s_nil (s_nil ⟨rfl, rfl⟩)
  rintro ρ₁ σ₁ ⟨rfl, rfl⟩
  refine s_unp [.int s, .int m, .int e, .int b] (by simp only [wpE, wpEs, wpB, rg, rs, rsAll, TruthP, BinP, AugP, CmpP, SubP, BiP, lstOf, datas, cval0, cval1, cval2, cval3, cval4, cval5, cval6, cval7, cval8, cval9, cval10, Option.map, baa, bao, boa, boo, eqv_int, sh_int, and_self, true_and, and_true]) rfl ?_
  simp only [rsAll, rs]
  refine s_if False ?_ (fun h => h.elim) (fun _ => s_nil ?_)
  · simp only [wpE, wpEs, wpB, rg, rs, rsAll, TruthP, BinP, AugP, CmpP, SubP, BiP, lstOf, datas, cval0, cval1, cval2, cval3, cval4, cval5, cval6, cval7, cval8, cval9, cval10, Option.map, baa, bao, boa, boo, eqv_int, sh_int, and_self, true_and, and_true]
    by_cases h : m = 0
    · rw [hm h, h]; simp
    · simp [h]
  refine s_seq (fun ρ₁ σ₂ => σ₂ = σ₁ ∧ ρ₁ = [some (.d (.tuple [.int s, .int m, .int e, .int b])), some (.d (.bool sd)), some (.d (.int s)), some (.d (.int (if sd = true ∧ s = 1 then -m else m))), some (.d (.int e)), some (.d (.int b))]) ?_ ?_
  · refine s_one (s_if (sd = true ∧ s = 1) ?_ (fun h => ?_) (fun h => s_nil (s_nil ?_)))
    · simp only [wpE, wpEs, wpB, rg, rs, rsAll, TruthP, BinP, AugP, CmpP, SubP, BiP, lstOf, datas, cval0, cval1, cval2, cval3, cval4, cval5, cval6, cval7, cval8, cval9, cval10, Option.map, baa, bao, boa, boo, eqv_int, sh_int, and_self, true_and, and_true]
      rcases hs with rfl | rfl <;> cases sd <;> simp
    · rw [if_pos h]
      refine s_asg (.d (.int (-m))) (by simp only [wpE, wpEs, wpB, rg, rs, rsAll, TruthP, BinP, AugP, CmpP, SubP, BiP, lstOf, datas, cval0, cval1, cval2, cval3, cval4, cval5, cval6, cval7, cval8, cval9, cval10, Option.map, baa, bao, boa, boo, eqv_int, sh_int, and_self, true_and, and_true]) ?_
      exact s_nil (s_nil ⟨rfl, rfl⟩)
    · rw [if_neg h]
      exact ⟨rfl, rfl⟩
  rintro ρ₁ σ₂ ⟨rfl, rfl⟩
  refine s_ret ?_
  simp only [wpE, wpEs, wpB, rg, rs, rsAll, TruthP, BinP, AugP, CmpP, SubP, BiP, lstOf, datas, cval0, cval1, cval2, cval3, cval4, cval5, cval6, cval7, cval8, cval9, cval10, Option.map, baa, bao, boa, boo, eqv_int, sh_int, and_self, true_and, and_true]
  exact ⟨_, rfl, by simp, hq⟩
theorem to_man_exp1_ok (B : Bs hb mg mb fa) (F : Fns hb fa) {n : Nat} {s m e b : Int} (hm : m = 0 → e = 0) (hs : s = 0 ∨ s = 1) {σ : St} {Q : V → St → Prop}
    (hq : Q (.d (.tuple [.int m, .int e])) σ) : CallOK prog w hb fa (n + 1) 4 [.d (.tuple [.int s, .int m, .int e, .int b])] σ Q :=
  call_ok B F.f4 rfl (to_man_exp_core B F hm hs (sd := false) (.inr ⟨rfl, rfl⟩) (by simpa using hq))
theorem to_man_exp2_ok (B : Bs hb mg mb fa) (F : Fns hb fa) {n : Nat} {s m e b : Int} (hm : m = 0 → e = 0) (hs : s = 0 ∨ s = 1) {σ : St} {Q : V → St → Prop}
    (hq : Q (.d (.tuple [.int (if s = 1 then -m else m), .int e])) σ) : CallOK prog w hb fa (n + 1) 4 [.d (.tuple [.int s, .int m, .int e, .int b]), .d (.bool true)] σ Q :=
  call_ok B F.f4b rfl (to_man_exp_core B F hm hs (sd := true) (.inl rfl) (by simpa using hq))
theorem mpf_pos_ok (B : Bs hb mg mb fa) (F : Fns hb fa) {n : Nat} {s e : Int} {m prec : Nat} {way : Str} (hm : m ≠ 0) (hs : s = 0 ∨ s = 1) (hw : Way way) (hp : 1 ≤ prec) (hsm : bl m ≤ 2000) {σ : St} {Q : V → St → Prop}
    (hq : Q (.d (RN s m e prec way)) σ) : CallOK prog w hb fa (n + 4) 9 [.d (mk s m e), .d (.int prec), .d (.str way)] σ Q := by
  refine call_ok B F.f9 rfl ?_
  simp only [nm_mpf_pos, startR, List.map_cons, List.map_nil, List.length_cons, List.length_nil, List.append_nil, List.cons_append, List.nil_append, List.replicate]
  refine s_if ((prec : Int) ≠ 0) (by simp only [wpE, wpEs, wpB, rg, rs, rsAll, TruthP, BinP, AugP, CmpP, SubP, BiP, lstOf, datas, cval0, cval1, cval2, cval3, cval4, cval5, cval6, cval7, cval8, cval9, cval10, Option.map, baa, bao, boa, boo, eqv_int, sh_int, and_self, true_and, and_true]; exact b_nz _) (fun _ => ?_) (fun h => absurd (by omega) h)
  refine s_unp [.int s, .int m, .int e, .int (bl m)] (by simp only [wpE, wpEs, wpB, rg, rs, rsAll, TruthP, BinP, AugP, CmpP, SubP, BiP, lstOf, datas, cval0, cval1, cval2, cval3, cval4, cval5, cval6, cval7, cval8, cval9, cval10, Option.map, baa, bao, boa, boo, eqv_int, sh_int, and_self, true_and, and_true]; rfl) rfl ?_
  simp only [rsAll, rs]
  refine s_if False ?_ (fun h => h.elim) (fun _ => s_nil (s_ret ?_))
  · simp only [wpE, wpEs, wpB, rg, rs, rsAll, TruthP, BinP, AugP, CmpP, SubP, BiP, lstOf, datas, cval0, cval1, cval2, cval3, cval4, cval5, cval6, cval7, cval8, cval9, cval10, Option.map, baa, bao, boa, boo, eqv_int, sh_int, and_self, true_and, and_true]
    simp [hm]
  · simp only [wpE, wpEs, wpB, rg, rs, rsAll, TruthP, BinP, AugP, CmpP, SubP, BiP, lstOf, datas, cval0, cval1, cval2, cval3, cval4, cval5, cval6, cval7, cval8, cval9, cval10, Option.map, baa, bao, boa, boo, eqv_int, sh_int, and_self, true_and, and_true]
    exact normalize_ok B F rfl rfl rfl hs hw hp hsm hq

theorem add_core (B : Bs hb mg mb fa) (F : Fns hb fa) {n : Nat} {ss ts sub se te c v : Int} {so to prec : Nat} {way : Str} (hs : ss = 0 ∨ ss = 1) (ht : ts = 0 ∨ ts = 1) (hsub : sub = 0 ∨ sub = 1) (hso : so ≠ 0) (hto : to ≠ 0) (hne : se ≠ te) (hlo : se - te ≤ 100) (hhi : te - se ≤ 100)
    (hbs : bl so ≤ 500) (hbt : bl to ≤ 500) (hw : Way way) (hp : 1 ≤ prec) (hc : c = min se te) (hv : v = sv ss so * 2 ^ (se - c).toNat + sv (xr ts sub) to * 2 ^ (te - c).toNat)
    {σ : St} {Q : V → St → Prop} (hq : Q (.d (RNI v c prec way)) σ) :
    wpSs (CallOK prog w hb fa (n + 3)) bd_mpf_add [some (.d (mk ss so se)), some (.d (mk ts to te)), some (.d (.int prec)), some (.d (.str way)), some (.d (.int sub)), none, none, none, none, none, none, none, none, none, none, none, none] σ (fun _ σ' => Q (.d .none) σ') Q := by
  refine s_unp [.int ss, .int so, .int se, .int (bl so)] (by simp only [wpE, wpEs, wpB, rg, rs, rsAll, TruthP, BinP, AugP, CmpP, SubP, BiP, lstOf, datas, cval0, cval1, cval2, cval3, cval4, cval5, cval6, cval7, cval8, cval9, cval10, Option.map, baa, bao, boa, boo, eqv_int, sh_int, and_self, true_and, and_true]; rfl) rfl ?_
  simp only [rsAll, rs]
  refine s_unp [.int ts, .int to, .int te, .int (bl to)] (by simp only [wpE, wpEs, wpB, rg, rs, rsAll, TruthP, BinP, AugP, CmpP, SubP, BiP, lstOf, datas, cval0, cval1, cval2, cval3, cval4, cval5, cval6, cval7, cval8, cval9, cval10, Option.map, baa, bao, boa, boo, eqv_int, sh_int, and_self, true_and, and_true]; rfl) rfl ?_
  simp only [rsAll, rs]
  refine s_aug rfl (.int (xr ts sub)) (by simp only [wpE, wpEs, wpB, rg, rs, rsAll, TruthP, BinP, AugP, CmpP, SubP, BiP, lstOf, datas, cval0, cval1, cval2, cval3, cval4, cval5, cval6, cval7, cval8, cval9, cval10, Option.map, baa, bao, boa, boo, eqv_int, sh_int, and_self, true_and, and_true]; rw [xor_01 ht hsub]) ?_
  simp only [rs]
  have hx := xr_01 ts sub
  generalize xr ts sub = tt at *
  refine s_if True ?_ (fun _ => ?_) (fun h => absurd trivial h)
  · simp only [wpE, wpEs, wpB, rg, rs, rsAll, TruthP, BinP, AugP, CmpP, SubP, BiP, lstOf, datas, cval0, cval1, cval2, cval3, cval4, cval5, cval6, cval7, cval8, cval9, cval10, Option.map, baa, bao, boa, boo, eqv_int, sh_int, and_self, true_and, and_true]
    simp [hso, hto]
  refine s_asg (.d (.int (se - te))) (by simp only [wpE, wpEs, wpB, rg, rs, rsAll, TruthP, BinP, AugP, CmpP, SubP, BiP, lstOf, datas, cval0, cval1, cval2, cval3, cval4, cval5, cval6, cval7, cval8, cval9, cval10, Option.map, baa, bao, boa, boo, eqv_int, sh_int, and_self, true_and, and_true]) ?_
  simp only [rs]
  refine s_if (se - te ≠ 0) (by simp only [wpE, wpEs, wpB, rg, rs, rsAll, TruthP, BinP, AugP, CmpP, SubP, BiP, lstOf, datas, cval0, cval1, cval2, cval3, cval4, cval5, cval6, cval7, cval8, cval9, cval10, Option.map, baa, bao, boa, boo, eqv_int, sh_int, and_self, true_and, and_true]; exact b_nz _) (fun _ => ?_) (fun h => absurd (by omega) h)
  refine s_if (se - te > 0) (by simp only [wpE, wpEs, wpB, rg, rs, rsAll, TruthP, BinP, AugP, CmpP, SubP, BiP, lstOf, datas, cval0, cval1, cval2, cval3, cval4, cval5, cval6, cval7, cval8, cval9, cval10, Option.map, baa, bao, boa, boo, eqv_int, sh_int, and_self, true_and, and_true]) (fun hoff => ?_) (fun hoff => ?_)
  · skip
    have hcc : c = te := by omega
    rw [hcc] at hv hq
    have e0 : (te - te).toNat = 0 ∧ (se - se).toNat = 0 := by omega
    generalize hX : (so : Int) * 2 ^ (se - te).toNat = X
    have hX0 : 0 < X := by rw [← hX]; exact Int.mul_pos (by omega) (kbt_pos _)
    have hv1 : v = (if ss = 1 then -X else X) + (if tt = 1 then -(to : Int) else (to : Int)) := by
      rw [hv, e0.1, ← hX]
      unfold sv
      rw [Int.pow_zero, Int.mul_one]
      congr 1
      split
      · exact Int.neg_mul _ _
      · rfl
    obtain ⟨vc1, vc2, vc3⟩ := vcase (Y := (to : Int)) hs hx hX0 (by omega) hv1
    have hshift : (0 ≤ se - te ∧ Smal (so : Int) ∧ se - te ≤ 2000) := ⟨by omega, smal_of (k := 500) (by simpa using bl_le_iff.mp hbs) (by decide), by omega⟩
    
    refine s_if False (by simp only [wpE, wpEs, wpB, rg, rs, rsAll, TruthP, BinP, AugP, CmpP, SubP, BiP, lstOf, datas, cval0, cval1, cval2, cval3, cval4, cval5, cval6, cval7, cval8, cval9, cval10, Option.map, baa, bao, boa, boo, eqv_int, sh_int, and_self, true_and, and_true]; simp; omega) (fun h => h.elim) (fun _ => s_nil ?_)
    refine s_seq (fun ρ₁ σ₁ => σ₁ = σ ∧ ρ₁ = [some (.d (mk ss so se)), some (.d (mk ts to te)), some (.d (.int prec)), some (.d (.str way)), some (.d (.int sub)), some (.d (.int (sg v))), some (.d (.int so)), some (.d (.int se)), some (.d (.int (bl so))),
      some (.d (.int tt)), some (.d (.int to)), some (.d (.int te)), some (.d (.int (bl to))), some (.d (.int (se - te))), none, some (.d (.int (v.natAbs : Int))), none]) ?_ ?_
    · refine s_one (s_if (ss = tt) (by simp only [wpE, wpEs, wpB, rg, rs, rsAll, TruthP, BinP, AugP, CmpP, SubP, BiP, lstOf, datas, cval0, cval1, cval2, cval3, cval4, cval5, cval6, cval7, cval8, cval9, cval10, Option.map, baa, bao, boa, boo, eqv_int, sh_int, and_self, true_and, and_true]) (fun h => ?_) (fun h => ?_))
      · obtain ⟨e1, e2⟩ := vc1 h
        refine s_asg (.d (.int (v.natAbs : Int))) (by simp only [wpE, wpEs, wpB, rg, rs, rsAll, TruthP, BinP, AugP, CmpP, SubP, BiP, lstOf, datas, cval0, cval1, cval2, cval3, cval4, cval5, cval6, cval7, cval8, cval9, cval10, Option.map, baa, bao, boa, boo, eqv_int, sh_int, and_self, true_and, and_true]; exact ⟨hshift, by rw [hX, e2]⟩) ?_
        simp only [rs]
        refine s_nil (s_nil ⟨rfl, ?_⟩)
        rw [e1]
      · refine s_seq (fun ρ₁ σ₁ => σ₁ = σ ∧ ρ₁ = [some (.d (mk ss so se)), some (.d (mk ts to te)), some (.d (.int prec)), some (.d (.str way)), some (.d (.int sub)), some (.d (.int ss)), some (.d (.int so)), some (.d (.int se)), some (.d (.int (bl so))),
          some (.d (.int tt)), some (.d (.int to)), some (.d (.int te)), some (.d (.int (bl to))), some (.d (.int (se - te))), none, some (.d (.int v)), none]) ?_ ?_
        · refine s_one (s_if (ss = 1) (by simp only [wpE, wpEs, wpB, rg, rs, rsAll, TruthP, BinP, AugP, CmpP, SubP, BiP, lstOf, datas, cval0, cval1, cval2, cval3, cval4, cval5, cval6, cval7, cval8, cval9, cval10, Option.map, baa, bao, boa, boo, eqv_int, sh_int, and_self, true_and, and_true]; rw [b_nz, decide_eq_decide]; omega) (fun h1 => ?_) (fun h1 => ?_))
          · refine s_asg (.d (.int v)) (by simp only [wpE, wpEs, wpB, rg, rs, rsAll, TruthP, BinP, AugP, CmpP, SubP, BiP, lstOf, datas, cval0, cval1, cval2, cval3, cval4, cval5, cval6, cval7, cval8, cval9, cval10, Option.map, baa, bao, boa, boo, eqv_int, sh_int, and_self, true_and, and_true]; refine ⟨hshift, ?_⟩; rw [hX, vc2 h h1]) ?_
            simp only [rs]
            exact s_nil (s_nil ⟨rfl, rfl⟩)
          · refine s_asg (.d (.int v)) (by simp only [wpE, wpEs, wpB, rg, rs, rsAll, TruthP, BinP, AugP, CmpP, SubP, BiP, lstOf, datas, cval0, cval1, cval2, cval3, cval4, cval5, cval6, cval7, cval8, cval9, cval10, Option.map, baa, bao, boa, boo, eqv_int, sh_int, and_self, true_and, and_true]; refine ⟨hshift, ?_⟩; rw [hX, vc3 h h1]) ?_
            simp only [rs]
            exact s_nil (s_nil ⟨rfl, rfl⟩)
        · rintro ρ₁ σ₁ ⟨rfl, rfl⟩
          refine s_if (v ≥ 0) (by simp only [wpE, wpEs, wpB, rg, rs, rsAll, TruthP, BinP, AugP, CmpP, SubP, BiP, lstOf, datas, cval0, cval1, cval2, cval3, cval4, cval5, cval6, cval7, cval8, cval9, cval10, Option.map, baa, bao, boa, boo, eqv_int, sh_int, and_self, true_and, and_true]) (fun h1 => ?_) (fun h1 => ?_)
          · refine s_asg (.d (.int 0)) (by simp only [wpE, wpEs, wpB, rg, rs, rsAll, TruthP, BinP, AugP, CmpP, SubP, BiP, lstOf, datas, cval0, cval1, cval2, cval3, cval4, cval5, cval6, cval7, cval8, cval9, cval10, Option.map, baa, bao, boa, boo, eqv_int, sh_int, and_self, true_and, and_true]) ?_
            simp only [rs]
            refine s_nil (s_nil (s_nil ⟨rfl, ?_⟩))
            unfold sg
            rw [if_neg (by omega), show (v.natAbs : Int) = v by omega]
          · refine s_asg (.d (.int (v.natAbs : Int))) (by simp only [wpE, wpEs, wpB, rg, rs, rsAll, TruthP, BinP, AugP, CmpP, SubP, BiP, lstOf, datas, cval0, cval1, cval2, cval3, cval4, cval5, cval6, cval7, cval8, cval9, cval10, Option.map, baa, bao, boa, boo, eqv_int, sh_int, and_self, true_and, and_true]; congr 2; omega) ?_
            simp only [rs]
            refine s_asg (.d (.int 1)) (by simp only [wpE, wpEs, wpB, rg, rs, rsAll, TruthP, BinP, AugP, CmpP, SubP, BiP, lstOf, datas, cval0, cval1, cval2, cval3, cval4, cval5, cval6, cval7, cval8, cval9, cval10, Option.map, baa, bao, boa, boo, eqv_int, sh_int, and_self, true_and, and_true]) ?_
            simp only [rs]
            refine s_nil (s_nil (s_nil ⟨rfl, ?_⟩))
            unfold sg
            rw [if_pos (by omega)]
    · rintro ρ₁ σ₁ ⟨rfl, rfl⟩
      refine s_asg (.d (.int (bl v.natAbs))) (by simp only [wpE, wpEs, wpB, rg, rs, rsAll, TruthP, BinP, AugP, CmpP, SubP, BiP, lstOf, datas, cval0, cval1, cval2, cval3, cval4, cval5, cval6, cval7, cval8, cval9, cval10, Option.map, baa, bao, boa, boo, eqv_int, sh_int, and_self, true_and, and_true]; rw [intBits_nat]) ?_
      simp only [rs]
      refine s_ret ?_
      simp only [wpE, wpEs, wpB, rg, rs, rsAll, TruthP, BinP, AugP, CmpP, SubP, BiP, lstOf, datas, cval0, cval1, cval2, cval3, cval4, cval5, cval6, cval7, cval8, cval9, cval10, Option.map, baa, bao, boa, boo, eqv_int, sh_int, and_self, true_and, and_true]
      refine ⟨fun h => absurd h (by simp; omega), fun h => ?_⟩
      refine normalize_ok B F rfl rfl rfl (sg_01 v) hw hp ?_ hq
      have h1 := bl_lt so
      have h2 := bl_lt to
      refine bl_le_iff.mpr (Nat.lt_of_le_of_lt (m := so * 2 ^ (se - te).toNat + to) ?_ ?_)
      · have : X = ((so * 2 ^ (se - te).toNat : Nat) : Int) := by rw [← hX, Int.natCast_mul, kbt_cast]
        rw [hv1]
        omega
      · have h3 : so * 2 ^ (se - te).toNat < 2 ^ 500 * 2 ^ 100 := by
          have a1 : so < 2 ^ 500 := bl_le_iff.mp hbs
          have a2 : 2 ^ (se - te).toNat ≤ 2 ^ 100 := pow_le (by omega)
          exact Nat.lt_of_le_of_lt (Nat.mul_le_mul_left _ a2) (Nat.mul_lt_mul_of_pos_right a1 (p2pos 100))
        have h4 : to < 2 ^ 500 := bl_le_iff.mp hbt
        have h5 : 2 ^ 500 * 2 ^ 100 + 2 ^ 500 < 2 ^ 2000 := by decide +kernel
        omega
  · refine s_if (se - te < 0) (by simp only [wpE, wpEs, wpB, rg, rs, rsAll, TruthP, BinP, AugP, CmpP, SubP, BiP, lstOf, datas, cval0, cval1, cval2, cval3, cval4, cval5, cval6, cval7, cval8, cval9, cval10, Option.map, baa, bao, boa, boo, eqv_int, sh_int, and_self, true_and, and_true]) (fun hoff2 => ?_) (fun h => absurd (by omega) h)
    have hcc : c = se := by omega
    rw [hcc] at hv hq
    have e0 : (te - te).toNat = 0 ∧ (se - se).toNat = 0 := by omega
    generalize hX : (to : Int) * 2 ^ (te - se).toNat = X
    have hX0 : 0 < X := by rw [← hX]; exact Int.mul_pos (by omega) (kbt_pos _)
    have hv1 : v = (if tt = 1 then -X else X) + (if ss = 1 then -(so : Int) else (so : Int)) := by
      rw [hv, e0.2, ← hX, Int.add_comm]
      unfold sv
      rw [Int.pow_zero, Int.mul_one]
      congr 1
      split
      · exact Int.neg_mul _ _
      · rfl
    obtain ⟨vc1, vc2, vc3⟩ := vcase (Y := (so : Int)) hx hs hX0 (by omega) hv1
    have hshift : (0 ≤ -(se - te) ∧ Smal (to : Int) ∧ -(se - te) ≤ 2000) := ⟨by omega, smal_of (k := 500) (by simpa using bl_le_iff.mp hbt) (by decide), by omega⟩
    have ek : (-(se - te)).toNat = (te - se).toNat := by omega
    refine s_if False (by simp only [wpE, wpEs, wpB, rg, rs, rsAll, TruthP, BinP, AugP, CmpP, SubP, BiP, lstOf, datas, cval0, cval1, cval2, cval3, cval4, cval5, cval6, cval7, cval8, cval9, cval10, Option.map, baa, bao, boa, boo, eqv_int, sh_int, and_self, true_and, and_true]; simp; omega) (fun h => h.elim) (fun _ => s_nil ?_)
    refine s_seq (fun ρ₁ σ₁ => σ₁ = σ ∧ ρ₁ = [some (.d (mk ss so se)), some (.d (mk ts to te)), some (.d (.int prec)), some (.d (.str way)), some (.d (.int sub)), some (.d (.int (sg v))), some (.d (.int so)), some (.d (.int se)), some (.d (.int (bl so))),
      some (.d (.int tt)), some (.d (.int to)), some (.d (.int te)), some (.d (.int (bl to))), some (.d (.int (se - te))), none, some (.d (.int (v.natAbs : Int))), none]) ?_ ?_
    · refine s_one (s_if (ss = tt) (by simp only [wpE, wpEs, wpB, rg, rs, rsAll, TruthP, BinP, AugP, CmpP, SubP, BiP, lstOf, datas, cval0, cval1, cval2, cval3, cval4, cval5, cval6, cval7, cval8, cval9, cval10, Option.map, baa, bao, boa, boo, eqv_int, sh_int, and_self, true_and, and_true]) (fun h => ?_) (fun h => ?_))
      · obtain ⟨e1, e2⟩ := vc1 h.symm
        refine s_asg (.d (.int (v.natAbs : Int))) (by simp only [wpE, wpEs, wpB, rg, rs, rsAll, TruthP, BinP, AugP, CmpP, SubP, BiP, lstOf, datas, cval0, cval1, cval2, cval3, cval4, cval5, cval6, cval7, cval8, cval9, cval10, Option.map, baa, bao, boa, boo, eqv_int, sh_int, and_self, true_and, and_true]; exact ⟨hshift, by rw [ek, hX, e2]⟩) ?_
        simp only [rs]
        refine s_nil (s_nil ⟨rfl, ?_⟩)
        rw [e1, h]
      · refine s_seq (fun ρ₁ σ₁ => σ₁ = σ ∧ ρ₁ = [some (.d (mk ss so se)), some (.d (mk ts to te)), some (.d (.int prec)), some (.d (.str way)), some (.d (.int sub)), some (.d (.int ss)), some (.d (.int so)), some (.d (.int se)), some (.d (.int (bl so))),
          some (.d (.int tt)), some (.d (.int to)), some (.d (.int te)), some (.d (.int (bl to))), some (.d (.int (se - te))), none, some (.d (.int v)), none]) ?_ ?_
        · refine s_one (s_if (tt = 1) (by simp only [wpE, wpEs, wpB, rg, rs, rsAll, TruthP, BinP, AugP, CmpP, SubP, BiP, lstOf, datas, cval0, cval1, cval2, cval3, cval4, cval5, cval6, cval7, cval8, cval9, cval10, Option.map, baa, bao, boa, boo, eqv_int, sh_int, and_self, true_and, and_true]; rw [b_nz, decide_eq_decide]; omega) (fun h1 => ?_) (fun h1 => ?_))
          · refine s_asg (.d (.int v)) (by simp only [wpE, wpEs, wpB, rg, rs, rsAll, TruthP, BinP, AugP, CmpP, SubP, BiP, lstOf, datas, cval0, cval1, cval2, cval3, cval4, cval5, cval6, cval7, cval8, cval9, cval10, Option.map, baa, bao, boa, boo, eqv_int, sh_int, and_self, true_and, and_true]; refine ⟨hshift, ?_⟩; rw [ek, hX, vc2 (fun e => h e.symm) h1]) ?_
            simp only [rs]
            exact s_nil (s_nil ⟨rfl, rfl⟩)
          · refine s_asg (.d (.int v)) (by simp only [wpE, wpEs, wpB, rg, rs, rsAll, TruthP, BinP, AugP, CmpP, SubP, BiP, lstOf, datas, cval0, cval1, cval2, cval3, cval4, cval5, cval6, cval7, cval8, cval9, cval10, Option.map, baa, bao, boa, boo, eqv_int, sh_int, and_self, true_and, and_true]; refine ⟨hshift, ?_⟩; rw [ek, hX, vc3 (fun e => h e.symm) h1]) ?_
            simp only [rs]
            exact s_nil (s_nil ⟨rfl, rfl⟩)
        · rintro ρ₁ σ₁ ⟨rfl, rfl⟩
          refine s_if (v ≥ 0) (by simp only [wpE, wpEs, wpB, rg, rs, rsAll, TruthP, BinP, AugP, CmpP, SubP, BiP, lstOf, datas, cval0, cval1, cval2, cval3, cval4, cval5, cval6, cval7, cval8, cval9, cval10, Option.map, baa, bao, boa, boo, eqv_int, sh_int, and_self, true_and, and_true]) (fun h1 => ?_) (fun h1 => ?_)
          · refine s_asg (.d (.int 0)) (by simp only [wpE, wpEs, wpB, rg, rs, rsAll, TruthP, BinP, AugP, CmpP, SubP, BiP, lstOf, datas, cval0, cval1, cval2, cval3, cval4, cval5, cval6, cval7, cval8, cval9, cval10, Option.map, baa, bao, boa, boo, eqv_int, sh_int, and_self, true_and, and_true]) ?_
            simp only [rs]
            refine s_nil (s_nil (s_nil ⟨rfl, ?_⟩))
            unfold sg
            rw [if_neg (by omega), show (v.natAbs : Int) = v by omega]
          · refine s_asg (.d (.int (v.natAbs : Int))) (by simp only [wpE, wpEs, wpB, rg, rs, rsAll, TruthP, BinP, AugP, CmpP, SubP, BiP, lstOf, datas, cval0, cval1, cval2, cval3, cval4, cval5, cval6, cval7, cval8, cval9, cval10, Option.map, baa, bao, boa, boo, eqv_int, sh_int, and_self, true_and, and_true]; congr 2; omega) ?_
            simp only [rs]
            refine s_asg (.d (.int 1)) (by simp only [wpE, wpEs, wpB, rg, rs, rsAll, TruthP, BinP, AugP, CmpP, SubP, BiP, lstOf, datas, cval0, cval1, cval2, cval3, cval4, cval5, cval6, cval7, cval8, cval9, cval10, Option.map, baa, bao, boa, boo, eqv_int, sh_int, and_self, true_and, and_true]) ?_
            simp only [rs]
            refine s_nil (s_nil (s_nil ⟨rfl, ?_⟩))
            unfold sg
            rw [if_pos (by omega)]
    · rintro ρ₁ σ₁ ⟨rfl, rfl⟩
      refine s_asg (.d (.int (bl v.natAbs))) (by simp only [wpE, wpEs, wpB, rg, rs, rsAll, TruthP, BinP, AugP, CmpP, SubP, BiP, lstOf, datas, cval0, cval1, cval2, cval3, cval4, cval5, cval6, cval7, cval8, cval9, cval10, Option.map, baa, bao, boa, boo, eqv_int, sh_int, and_self, true_and, and_true]; rw [intBits_nat]) ?_
      simp only [rs]
      refine s_ret ?_
      simp only [wpE, wpEs, wpB, rg, rs, rsAll, TruthP, BinP, AugP, CmpP, SubP, BiP, lstOf, datas, cval0, cval1, cval2, cval3, cval4, cval5, cval6, cval7, cval8, cval9, cval10, Option.map, baa, bao, boa, boo, eqv_int, sh_int, and_self, true_and, and_true]
      refine ⟨fun h => absurd h (by simp; omega), fun h => ?_⟩
      refine normalize_ok B F rfl rfl rfl (sg_01 v) hw hp ?_ hq
      have h1 := bl_lt so
      have h2 := bl_lt to
      refine bl_le_iff.mpr (Nat.lt_of_le_of_lt (m := to * 2 ^ (te - se).toNat + so) ?_ ?_)
      · have : X = ((to * 2 ^ (te - se).toNat : Nat) : Int) := by rw [← hX, Int.natCast_mul, kbt_cast]
        rw [hv1]
        omega
      · have h3 : to * 2 ^ (te - se).toNat < 2 ^ 500 * 2 ^ 100 := by
          have a1 : to < 2 ^ 500 := bl_le_iff.mp hbt
          have a2 : 2 ^ (te - se).toNat ≤ 2 ^ 100 := pow_le (by omega)
          exact Nat.lt_of_le_of_lt (Nat.mul_le_mul_left _ a2) (Nat.mul_lt_mul_of_pos_right a1 (p2pos 100))
        have h4 : so < 2 ^ 500 := bl_le_iff.mp hbs
        have h5 : 2 ^ 500 * 2 ^ 100 + 2 ^ 500 < 2 ^ 2000 := by decide +kernel
        omega
end

-- M25
def cmpI (v u : Int) : Int := if v < u then -1 else if v = u then 0 else 1
theorem odd_inj {o k o' j : Nat} (h1 : o % 2 = 1) (h2 : o' % 2 = 1) (h : o * 2 ^ k = o' * 2 ^ j) : o = o' ∧ k = j := by
  have e : mk 0 o (0 + k) = mk 0 o' (0 + j) := by rw [← cn_dec h1, ← cn_dec h2, h]
  unfold mk at e
  simp only [PyData.tuple.injEq, List.cons.injEq, PyData.int.injEq] at e
  omega
theorem cn_mk {s : Int} {m : Nat} {e : Int} (hm : m ≠ 0) : ∃ o k : Nat, o % 2 = 1 ∧ m = o * 2 ^ k ∧ cn s m e = mk s o (e + k) := by
  obtain ⟨o, k, h1, h2⟩ := odd_dec m hm
  exact ⟨o, k, h1, h2, by rw [h2, cn_dec h1]⟩
theorem RN_mk {s : Int} {m : Nat} {e : Int} {prec : Nat} {way : Str} (hm : m ≠ 0) (hp : 1 ≤ prec) : ∃ (o : Nat) (e' : Int), o ≠ 0 ∧ RN s m e prec way = mk s o e' := by
  unfold RN
  obtain ⟨o, k, h1, _, h2⟩ := cn_mk (s := s) (e := e + (bl m - prec : Nat)) (rd_bl (s := s) (way := way) hm hp).1
  exact ⟨o, _, by omega, h2⟩
theorem sv_sg (v : Int) : sv (sg v) v.natAbs = v := by
  unfold sv sg
  by_cases h : v < 0
  · rw [if_pos h, if_pos rfl]; omega
  · rw [if_neg h, if_neg (by decide)]; omega
theorem sv_mul (s : Int) (m n : Nat) : sv s (m * n) = sv s m * n := by
  unfold sv
  split
  · push_cast; rw [Int.neg_mul]
  · push_cast; rfl
theorem sv_flip {s : Int} (hs : s = 0 ∨ s = 1) (m : Nat) : sv (xr s 1) m = -sv s m := by
  rcases hs with rfl | rfl
  · show sv 1 m = -sv 0 m
    unfold sv; simp
  · show sv 0 m = -sv 1 m
    unfold sv; simp
theorem sg_pos_mul (v : Int) {c : Int} (hc : 0 < c) : sg (v * c) = sg v := by
  unfold sg
  by_cases h : v < 0
  · rw [if_pos h, if_pos (Int.mul_neg_of_neg_of_pos h hc)]
  · rw [if_neg h, if_neg (by have := Int.mul_nonneg (show 0 ≤ v by omega) (Int.le_of_lt hc); omega)]

section
variable {prog : Program} {w : World} {hb : Heap} {mg mb : Str → Option Value} {fa : Nat → Addr}
theorem s_join {n : Nat} {ρ : List (Option V)} {σ : St} {Q : List (Option V) → St → Prop} {R : V → St → Prop} {ss : Sms} {s : Sm} (x : List (Option V)) (h : wpS (CallOK prog w hb fa n) s ρ σ (fun ρ₁ σ₁ => σ₁ = σ ∧ ρ₁ = x) R) (k : wpSs (CallOK prog w hb fa n) ss x σ Q R) : wpSs (CallOK prog w hb fa n) (.cons s ss) ρ σ Q R :=
  s_seq _ h fun ρ₁ σ₁ e => by obtain ⟨rfl, rfl⟩ := e; exact k
theorem s_keep {n : Nat} {ρ : List (Option V)} {σ : St} {Q : List (Option V) → St → Prop} {R : V → St → Prop} {ss : Sms} {s : Sm} (h : wpS (CallOK prog w hb fa n) s ρ σ (fun ρ₁ σ₁ => σ₁ = σ ∧ ρ₁ = ρ) R) (k : wpSs (CallOK prog w hb fa n) ss ρ σ Q R) : wpSs (CallOK prog w hb fa n) (.cons s ss) ρ σ Q R :=
  s_join ρ h k
theorem add5_ok (B : Bs hb mg mb fa) (F : Fns hb fa) {n : Nat} {ss ts sub se te c v : Int} {so to prec : Nat} {way : Str} (hs : ss = 0 ∨ ss = 1) (ht : ts = 0 ∨ ts = 1) (hsub : sub = 0 ∨ sub = 1) (hso : so ≠ 0) (hto : to ≠ 0) (hne : se ≠ te) (hlo : se - te ≤ 100) (hhi : te - se ≤ 100)
    (hbs : bl so ≤ 500) (hbt : bl to ≤ 500) (hw : Way way) (hp : 1 ≤ prec) (hc : c = min se te) (hv : v = sv ss so * 2 ^ (se - c).toNat + sv (xr ts sub) to * 2 ^ (te - c).toNat)
    {σ : St} {Q : V → St → Prop} (hq : Q (.d (RNI v c prec way)) σ) : CallOK prog w hb fa (n + 4) 13 [.d (mk ss so se), .d (mk ts to te), .d (.int prec), .d (.str way), .d (.int sub)] σ Q :=
  call_ok B F.f13b rfl (add_core B F hs ht hsub hso hto hne hlo hhi hbs hbt hw hp hc hv hq)
theorem add4_ok (B : Bs hb mg mb fa) (F : Fns hb fa) {n : Nat} {ss ts se te c v : Int} {so to prec : Nat} {way : Str} (hs : ss = 0 ∨ ss = 1) (ht : ts = 0 ∨ ts = 1) (hso : so ≠ 0) (hto : to ≠ 0) (hne : se ≠ te) (hlo : se - te ≤ 100) (hhi : te - se ≤ 100)
    (hbs : bl so ≤ 500) (hbt : bl to ≤ 500) (hw : Way way) (hp : 1 ≤ prec) (hc : c = min se te) (hv : v = sv ss so * 2 ^ (se - c).toNat + sv (xr ts 0) to * 2 ^ (te - c).toNat)
    {σ : St} {Q : V → St → Prop} (hq : Q (.d (RNI v c prec way)) σ) : CallOK prog w hb fa (n + 4) 13 [.d (mk ss so se), .d (mk ts to te), .d (.int prec), .d (.str way)] σ Q :=
  call_ok B F.f13 rfl (add_core B F hs ht (.inl rfl) hso hto hne hlo hhi hbs hbt hw hp hc hv hq)
theorem sub_ok (B : Bs hb mg mb fa) (F : Fns hb fa) {n : Nat} {ss ts se te c v : Int} {so to prec : Nat} {way : Str} (hs : ss = 0 ∨ ss = 1) (ht : ts = 0 ∨ ts = 1) (hso : so ≠ 0) (hto : to ≠ 0) (hne : se ≠ te) (hlo : se - te ≤ 100) (hhi : te - se ≤ 100)
    (hbs : bl so ≤ 500) (hbt : bl to ≤ 500) (hw : Way way) (hp : 1 ≤ prec) (hc : c = min se te) (hv : v = sv ss so * 2 ^ (se - c).toNat + sv (xr ts 1) to * 2 ^ (te - c).toNat)
    {σ : St} {Q : V → St → Prop} (hq : Q (.d (RNI v c prec way)) σ) : CallOK prog w hb fa (n + 5) 14 [.d (mk ss so se), .d (mk ts to te), .d (.int prec), .d (.str way)] σ Q := by
  refine call_ok B F.f14 rfl ?_
  simp only [nm_mpf_sub, startR, List.map_cons, List.map_nil, List.length_cons, List.length_nil, List.append_nil, List.cons_append, List.nil_append, List.replicate]
  refine s_ret ?_
  simp only [wpE, wpEs, wpB, rg, rs, rsAll, TruthP, BinP, AugP, CmpP, SubP, BiP, lstOf, datas, cval0, cval1, cval2, cval3, cval4, cval5, cval6, cval7, cval8, cval9, cval10, Option.map, baa, bao, boa, boo, eqv_int, sh_int, and_self, true_and, and_true]
  exact add5_ok B F hs ht (.inr rfl) hso hto hne hlo hhi hbs hbt hw hp hc hv hq

theorem cmp_ok (B : Bs hb mg mb fa) (F : Fns hb fa) {n : Nat} {v u : Int} (hv : v.natAbs < 2 ^ 81) (hu : u.natAbs < 2 ^ 81)
    {σ : St} {Q : V → St → Prop} (hq : Q (.d (.int (cmpI v u))) σ) : CallOK prog w hb fa (n + 6) 5 [.d (TW v (-20)), .d (TW u (-20))] σ Q := by
  refine call_ok B F.f5 rfl ?_
  simp only [nm_mpf_cmp, startR, List.map_cons, List.map_nil, List.length_cons, List.length_nil, List.append_nil, List.cons_append, List.nil_append, List.replicate]
  by_cases hv0 : v = 0
  · subst hv0
    have e1 : TW 0 (-20) = zt := cn_zero _ _
    by_cases hu0 : u = 0
    · subst hu0
      rw [e1]
      refine s_unp [.int 0, .int 0, .int 0, .int 0] (by simp only [wpE, wpEs, wpB, rg, rs, rsAll, TruthP, BinP, AugP, CmpP, SubP, BiP, lstOf, datas, cval0, cval1, cval2, cval3, cval4, cval5, cval6, cval7, cval8, cval9, cval10, Option.map, baa, bao, boa, boo, eqv_int, sh_int, and_self, true_and, and_true]; rfl) rfl ?_
      simp only [rsAll, rs]
      refine s_unp [.int 0, .int 0, .int 0, .int 0] (by simp only [wpE, wpEs, wpB, rg, rs, rsAll, TruthP, BinP, AugP, CmpP, SubP, BiP, lstOf, datas, cval0, cval1, cval2, cval3, cval4, cval5, cval6, cval7, cval8, cval9, cval10, Option.map, baa, bao, boa, boo, eqv_int, sh_int, and_self, true_and, and_true]; rfl) rfl ?_
      simp only [rsAll, rs]
      refine s_if True (by simp only [wpE, wpEs, wpB, rg, rs, rsAll, TruthP, BinP, AugP, CmpP, SubP, BiP, lstOf, datas, cval0, cval1, cval2, cval3, cval4, cval5, cval6, cval7, cval8, cval9, cval10, Option.map, baa, bao, boa, boo, eqv_int, sh_int, and_self, true_and, and_true]; simp) (fun _ => ?_) (fun h => absurd trivial h)
      refine s_if True (by simp only [wpE, wpEs, wpB, rg, rs, rsAll, TruthP, BinP, AugP, CmpP, SubP, BiP, lstOf, datas, cval0, cval1, cval2, cval3, cval4, cval5, cval6, cval7, cval8, cval9, cval10, Option.map, baa, bao, boa, boo, eqv_int, sh_int, and_self, true_and, and_true]; simp only [zt, sh_t4, eqv_t4, true_and]; rfl) (fun _ => s_ret ?_) (fun h => absurd trivial h)
      simp only [wpE, wpEs, wpB, rg, rs, rsAll, TruthP, BinP, AugP, CmpP, SubP, BiP, lstOf, datas, cval0, cval1, cval2, cval3, cval4, cval5, cval6, cval7, cval8, cval9, cval10, Option.map, baa, bao, boa, boo, eqv_int, sh_int, and_self, true_and, and_true]
      exact mpf_sign0_ok B F hq
    · obtain ⟨o, k, ho, ek, e2⟩ := cn_mk (s := sg u) (m := u.natAbs) (e := -20) (by omega)
      have e3 : TW u (-20) = mk (sg u) o (-20 + k) := e2
      rw [e1, e3]
      refine s_unp [.int 0, .int 0, .int 0, .int 0] (by simp only [wpE, wpEs, wpB, rg, rs, rsAll, TruthP, BinP, AugP, CmpP, SubP, BiP, lstOf, datas, cval0, cval1, cval2, cval3, cval4, cval5, cval6, cval7, cval8, cval9, cval10, Option.map, baa, bao, boa, boo, eqv_int, sh_int, and_self, true_and, and_true]; rfl) rfl ?_
      simp only [rsAll, rs]
      refine s_unp [.int (sg u), .int o, .int (-20 + k), .int (bl o)] (by simp only [wpE, wpEs, wpB, rg, rs, rsAll, TruthP, BinP, AugP, CmpP, SubP, BiP, lstOf, datas, cval0, cval1, cval2, cval3, cval4, cval5, cval6, cval7, cval8, cval9, cval10, Option.map, baa, bao, boa, boo, eqv_int, sh_int, and_self, true_and, and_true]; rfl) rfl ?_
      simp only [rsAll, rs]
      refine s_if True (by simp only [wpE, wpEs, wpB, rg, rs, rsAll, TruthP, BinP, AugP, CmpP, SubP, BiP, lstOf, datas, cval0, cval1, cval2, cval3, cval4, cval5, cval6, cval7, cval8, cval9, cval10, Option.map, baa, bao, boa, boo, eqv_int, sh_int, and_self, true_and, and_true]; simp) (fun _ => ?_) (fun h => absurd trivial h)
      refine s_if True (by simp only [wpE, wpEs, wpB, rg, rs, rsAll, TruthP, BinP, AugP, CmpP, SubP, BiP, lstOf, datas, cval0, cval1, cval2, cval3, cval4, cval5, cval6, cval7, cval8, cval9, cval10, Option.map, baa, bao, boa, boo, eqv_int, sh_int, and_self, true_and, and_true]; simp only [zt, sh_t4, eqv_t4, true_and]; rfl) (fun _ => s_ret ?_) (fun h => absurd trivial h)
      simp only [wpE, wpEs, wpB, rg, rs, rsAll, TruthP, BinP, AugP, CmpP, SubP, BiP, lstOf, datas, cval0, cval1, cval2, cval3, cval4, cval5, cval6, cval7, cval8, cval9, cval10, Option.map, baa, bao, boa, boo, eqv_int, sh_int, and_self, true_and, and_true]
      refine mpf_sign_ok B F (by omega) (sg_01 u) ?_
      have : -(if sg u = 1 then -1 else 1 : Int) = cmpI 0 u := by
        unfold sg cmpI
        by_cases h : u < 0
        · rw [if_pos h, if_pos rfl, if_neg (by omega), if_neg (by omega)]; rfl
        · rw [if_neg h, if_neg (by decide), if_pos (by omega)]
      show Q (.d (.int (-(if sg u = 1 then -1 else 1 : Int)))) σ
      rw [this]; exact hq
  obtain ⟨o, k, ho, ek, e2⟩ := cn_mk (s := sg v) (m := v.natAbs) (e := -20) (by omega)
  have e3 : TW v (-20) = mk (sg v) o (-20 + k) := e2
  by_cases hu0 : u = 0
  · subst hu0
    have e1 : TW 0 (-20) = zt := cn_zero _ _
    rw [e1, e3]
    refine s_unp [.int (sg v), .int o, .int (-20 + k), .int (bl o)] (by simp only [wpE, wpEs, wpB, rg, rs, rsAll, TruthP, BinP, AugP, CmpP, SubP, BiP, lstOf, datas, cval0, cval1, cval2, cval3, cval4, cval5, cval6, cval7, cval8, cval9, cval10, Option.map, baa, bao, boa, boo, eqv_int, sh_int, and_self, true_and, and_true]; rfl) rfl ?_
    simp only [rsAll, rs]
    refine s_unp [.int 0, .int 0, .int 0, .int 0] (by simp only [wpE, wpEs, wpB, rg, rs, rsAll, TruthP, BinP, AugP, CmpP, SubP, BiP, lstOf, datas, cval0, cval1, cval2, cval3, cval4, cval5, cval6, cval7, cval8, cval9, cval10, Option.map, baa, bao, boa, boo, eqv_int, sh_int, and_self, true_and, and_true]; rfl) rfl ?_
    simp only [rsAll, rs]
    have ho0 : ¬ o = 0 := by omega
    refine s_if True (by simp only [wpE, wpEs, wpB, rg, rs, rsAll, TruthP, BinP, AugP, CmpP, SubP, BiP, lstOf, datas, cval0, cval1, cval2, cval3, cval4, cval5, cval6, cval7, cval8, cval9, cval10, Option.map, baa, bao, boa, boo, eqv_int, sh_int, and_self, true_and, and_true]; simp) (fun _ => ?_) (fun h => absurd trivial h)
    refine s_if False (by simp only [wpE, wpEs, wpB, rg, rs, rsAll, TruthP, BinP, AugP, CmpP, SubP, BiP, lstOf, datas, cval0, cval1, cval2, cval3, cval4, cval5, cval6, cval7, cval8, cval9, cval10, Option.map, baa, bao, boa, boo, eqv_int, sh_int, and_self, true_and, and_true]; simp only [zt, mk, sh_t4, eqv_t4, true_and]; simp [ho0]) (fun h => h.elim) (fun _ => s_nil ?_)
    refine s_if True (by simp only [wpE, wpEs, wpB, rg, rs, rsAll, TruthP, BinP, AugP, CmpP, SubP, BiP, lstOf, datas, cval0, cval1, cval2, cval3, cval4, cval5, cval6, cval7, cval8, cval9, cval10, Option.map, baa, bao, boa, boo, eqv_int, sh_int, and_self, true_and, and_true]; simp only [zt, sh_t4, eqv_t4, true_and]; rfl) (fun _ => s_ret ?_) (fun h => absurd trivial h)
    simp only [wpE, wpEs, wpB, rg, rs, rsAll, TruthP, BinP, AugP, CmpP, SubP, BiP, lstOf, datas, cval0, cval1, cval2, cval3, cval4, cval5, cval6, cval7, cval8, cval9, cval10, Option.map, baa, bao, boa, boo, eqv_int, sh_int, and_self, true_and, and_true]
    refine mpf_sign_ok B F (by omega) (sg_01 v) ?_
    have : (if sg v = 1 then -1 else 1 : Int) = cmpI v 0 := by
      unfold sg cmpI
      by_cases h : v < 0
      · rw [if_pos h, if_pos rfl, if_pos h]
      · rw [if_neg h, if_neg (by decide), if_neg (by omega), if_neg (by omega)]
    rw [this]; exact hq
  obtain ⟨o', j, ho', ej, e2'⟩ := cn_mk (s := sg u) (m := u.natAbs) (e := -20) (by omega)
  have e3' : TW u (-20) = mk (sg u) o' (-20 + j) := e2'
  rw [e3, e3']
  have ho0 : ¬ o = 0 := by omega
  have ho0' : ¬ o' = 0 := by omega
  refine s_unp [.int (sg v), .int o, .int (-20 + k), .int (bl o)] (by simp only [wpE, wpEs, wpB, rg, rs, rsAll, TruthP, BinP, AugP, CmpP, SubP, BiP, lstOf, datas, cval0, cval1, cval2, cval3, cval4, cval5, cval6, cval7, cval8, cval9, cval10, Option.map, baa, bao, boa, boo, eqv_int, sh_int, and_self, true_and, and_true]; rfl) rfl ?_
  simp only [rsAll, rs]
  refine s_unp [.int (sg u), .int o', .int (-20 + j), .int (bl o')] (by simp only [wpE, wpEs, wpB, rg, rs, rsAll, TruthP, BinP, AugP, CmpP, SubP, BiP, lstOf, datas, cval0, cval1, cval2, cval3, cval4, cval5, cval6, cval7, cval8, cval9, cval10, Option.map, baa, bao, boa, boo, eqv_int, sh_int, and_self, true_and, and_true]; rfl) rfl ?_
  simp only [rsAll, rs]
  refine s_if False (by simp only [wpE, wpEs, wpB, rg, rs, rsAll, TruthP, BinP, AugP, CmpP, SubP, BiP, lstOf, datas, cval0, cval1, cval2, cval3, cval4, cval5, cval6, cval7, cval8, cval9, cval10, Option.map, baa, bao, boa, boo, eqv_int, sh_int, and_self, true_and, and_true]; simp [ho0, ho0']) (fun h => h.elim) (fun _ => s_nil ?_)
  have hsv := sg_01 v
  have hsu := sg_01 u
  have sgv : sg v = 1 ↔ v < 0 := by unfold sg; split <;> omega
  have sgu : sg u = 1 ↔ u < 0 := by unfold sg; split <;> omega
  refine s_if (sg v ≠ sg u) (by simp only [wpE, wpEs, wpB, rg, rs, rsAll, TruthP, BinP, AugP, CmpP, SubP, BiP, lstOf, datas, cval0, cval1, cval2, cval3, cval4, cval5, cval6, cval7, cval8, cval9, cval10, Option.map, baa, bao, boa, boo, eqv_int, sh_int, and_self, true_and, and_true]; simp) (fun h => ?_) (fun h => s_nil ?_)
  · refine s_if (sg v = 0) (by simp only [wpE, wpEs, wpB, rg, rs, rsAll, TruthP, BinP, AugP, CmpP, SubP, BiP, lstOf, datas, cval0, cval1, cval2, cval3, cval4, cval5, cval6, cval7, cval8, cval9, cval10, Option.map, baa, bao, boa, boo, eqv_int, sh_int, and_self, true_and, and_true]; exact b_z _) (fun h1 => s_ret ?_) (fun h1 => s_nil (s_ret ?_))
    · simp only [wpE, wpEs, wpB, rg, rs, rsAll, TruthP, BinP, AugP, CmpP, SubP, BiP, lstOf, datas, cval0, cval1, cval2, cval3, cval4, cval5, cval6, cval7, cval8, cval9, cval10, Option.map, baa, bao, boa, boo, eqv_int, sh_int, and_self, true_and, and_true]
      have : cmpI v u = 1 := by unfold cmpI; rw [if_neg (by omega), if_neg (by omega)]
      rw [← this]; exact hq
    · simp only [wpE, wpEs, wpB, rg, rs, rsAll, TruthP, BinP, AugP, CmpP, SubP, BiP, lstOf, datas, cval0, cval1, cval2, cval3, cval4, cval5, cval6, cval7, cval8, cval9, cval10, Option.map, baa, bao, boa, boo, eqv_int, sh_int, and_self, true_and, and_true]
      have : cmpI v u = -1 := by unfold cmpI; rw [if_pos (by omega)]
      rw [← this]; exact hq
  have hsame : sg v = sg u := by omega
  have habs : ∀ (_ : v.natAbs < u.natAbs), (sg v = 1 → cmpI v u = 1) ∧ (sg v ≠ 1 → cmpI v u = -1) := by
    intro hlt
    unfold cmpI
    refine ⟨fun h1 => ?_, fun h1 => ?_⟩
    · rw [if_neg (by omega), if_neg (by omega)]
    · rw [if_pos (by omega)]
  have habs2 : ∀ (_ : u.natAbs < v.natAbs), (sg v = 1 → cmpI v u = -1) ∧ (sg v ≠ 1 → cmpI v u = 1) := by
    intro hlt
    unfold cmpI
    refine ⟨fun h1 => ?_, fun h1 => ?_⟩
    · rw [if_pos (by omega)]
    · rw [if_neg (by omega), if_neg (by omega)]
  have bneg : (sg v != 0) = decide (sg v = 1) := by rw [b_nz, decide_eq_decide]; omega
  refine s_if (k = j) (by simp only [wpE, wpEs, wpB, rg, rs, rsAll, TruthP, BinP, AugP, CmpP, SubP, BiP, lstOf, datas, cval0, cval1, cval2, cval3, cval4, cval5, cval6, cval7, cval8, cval9, cval10, Option.map, baa, bao, boa, boo, eqv_int, sh_int, and_self, true_and, and_true]; rw [decide_eq_decide]; omega) (fun h => ?_) (fun hkj => s_nil ?_)
  · subst h
    have hp := p2pos k
    refine s_if (o = o') (by simp only [wpE, wpEs, wpB, rg, rs, rsAll, TruthP, BinP, AugP, CmpP, SubP, BiP, lstOf, datas, cval0, cval1, cval2, cval3, cval4, cval5, cval6, cval7, cval8, cval9, cval10, Option.map, baa, bao, boa, boo, eqv_int, sh_int, and_self, true_and, and_true]; rw [decide_eq_decide]; omega) (fun h => s_ret ?_) (fun hoo => s_nil ?_)
    · simp only [wpE, wpEs, wpB, rg, rs, rsAll, TruthP, BinP, AugP, CmpP, SubP, BiP, lstOf, datas, cval0, cval1, cval2, cval3, cval4, cval5, cval6, cval7, cval8, cval9, cval10, Option.map, baa, bao, boa, boo, eqv_int, sh_int, and_self, true_and, and_true]
      have : cmpI v u = 0 := by
        unfold cmpI
        subst h
        rw [if_neg (by omega), if_pos (by omega)]
      rw [← this]; exact hq
    · refine s_if (o' < o) (by simp only [wpE, wpEs, wpB, rg, rs, rsAll, TruthP, BinP, AugP, CmpP, SubP, BiP, lstOf, datas, cval0, cval1, cval2, cval3, cval4, cval5, cval6, cval7, cval8, cval9, cval10, Option.map, baa, bao, boa, boo, eqv_int, sh_int, and_self, true_and, and_true]; rw [decide_eq_decide]; omega) (fun h => ?_) (fun h => ?_)
      · have hl : u.natAbs < v.natAbs := by rw [ek, ej]; exact Nat.mul_lt_mul_of_pos_right h hp
        obtain ⟨q1, q2⟩ := habs2 hl
        refine s_if (sg v = 1) (by simp only [wpE, wpEs, wpB, rg, rs, rsAll, TruthP, BinP, AugP, CmpP, SubP, BiP, lstOf, datas, cval0, cval1, cval2, cval3, cval4, cval5, cval6, cval7, cval8, cval9, cval10, Option.map, baa, bao, boa, boo, eqv_int, sh_int, and_self, true_and, and_true]; exact bneg) (fun h => s_ret ?_) (fun h => s_ret ?_)
        · simp only [wpE, wpEs, wpB, rg, rs, rsAll, TruthP, BinP, AugP, CmpP, SubP, BiP, lstOf, datas, cval0, cval1, cval2, cval3, cval4, cval5, cval6, cval7, cval8, cval9, cval10, Option.map, baa, bao, boa, boo, eqv_int, sh_int, and_self, true_and, and_true]; rw [← q1 h]; exact hq
        · simp only [wpE, wpEs, wpB, rg, rs, rsAll, TruthP, BinP, AugP, CmpP, SubP, BiP, lstOf, datas, cval0, cval1, cval2, cval3, cval4, cval5, cval6, cval7, cval8, cval9, cval10, Option.map, baa, bao, boa, boo, eqv_int, sh_int, and_self, true_and, and_true]; rw [← q2 h]; exact hq
      · have hl : v.natAbs < u.natAbs := by rw [ek, ej]; exact Nat.mul_lt_mul_of_pos_right (by omega) hp
        obtain ⟨q1, q2⟩ := habs hl
        refine s_if (sg v = 1) (by simp only [wpE, wpEs, wpB, rg, rs, rsAll, TruthP, BinP, AugP, CmpP, SubP, BiP, lstOf, datas, cval0, cval1, cval2, cval3, cval4, cval5, cval6, cval7, cval8, cval9, cval10, Option.map, baa, bao, boa, boo, eqv_int, sh_int, and_self, true_and, and_true]; exact bneg) (fun h => s_ret ?_) (fun h => s_ret ?_)
        · simp only [wpE, wpEs, wpB, rg, rs, rsAll, TruthP, BinP, AugP, CmpP, SubP, BiP, lstOf, datas, cval0, cval1, cval2, cval3, cval4, cval5, cval6, cval7, cval8, cval9, cval10, Option.map, baa, bao, boa, boo, eqv_int, sh_int, and_self, true_and, and_true]; rw [← q1 h]; exact hq
        · simp only [wpE, wpEs, wpB, rg, rs, rsAll, TruthP, BinP, AugP, CmpP, SubP, BiP, lstOf, datas, cval0, cval1, cval2, cval3, cval4, cval5, cval6, cval7, cval8, cval9, cval10, Option.map, baa, bao, boa, boo, eqv_int, sh_int, and_self, true_and, and_true]; rw [← q2 h]; exact hq
  have hbv : bl v.natAbs = bl o + k := by rw [ek, bl_mul k (by omega)]
  have hbu : bl u.natAbs = bl o' + j := by rw [ej, bl_mul j (by omega)]
  have hblt : bl v.natAbs < bl u.natAbs → v.natAbs < u.natAbs := fun h => Nat.lt_of_not_le fun hle => by
    have := bl_le_iff.mpr (Nat.lt_of_le_of_lt hle (bl_lt v.natAbs)); omega
  have hblt2 : bl u.natAbs < bl v.natAbs → u.natAbs < v.natAbs := fun h => Nat.lt_of_not_le fun hle => by
    have := bl_le_iff.mpr (Nat.lt_of_le_of_lt hle (bl_lt u.natAbs)); omega
  refine s_asg (.d (.int ((bl o : Int) + (-20 + k)))) (by simp only [wpE, wpEs, wpB, rg, rs, rsAll, TruthP, BinP, AugP, CmpP, SubP, BiP, lstOf, datas, cval0, cval1, cval2, cval3, cval4, cval5, cval6, cval7, cval8, cval9, cval10, Option.map, baa, bao, boa, boo, eqv_int, sh_int, and_self, true_and, and_true]) ?_
  simp only [rs]
  refine s_asg (.d (.int ((bl o' : Int) + (-20 + j)))) (by simp only [wpE, wpEs, wpB, rg, rs, rsAll, TruthP, BinP, AugP, CmpP, SubP, BiP, lstOf, datas, cval0, cval1, cval2, cval3, cval4, cval5, cval6, cval7, cval8, cval9, cval10, Option.map, baa, bao, boa, boo, eqv_int, sh_int, and_self, true_and, and_true]) ?_
  simp only [rs]
  refine s_keep (s_one (s_if (sg v = 1) (by simp only [wpE, wpEs, wpB, rg, rs, rsAll, TruthP, BinP, AugP, CmpP, SubP, BiP, lstOf, datas, cval0, cval1, cval2, cval3, cval4, cval5, cval6, cval7, cval8, cval9, cval10, Option.map, baa, bao, boa, boo, eqv_int, sh_int, and_self, true_and, and_true]; exact bneg) (fun h => ?_) (fun h => ?_))) ?_
  · refine s_if ((bl o : Int) + (-20 + k) < (bl o' : Int) + (-20 + j)) (by simp only [wpE, wpEs, wpB, rg, rs, rsAll, TruthP, BinP, AugP, CmpP, SubP, BiP, lstOf, datas, cval0, cval1, cval2, cval3, cval4, cval5, cval6, cval7, cval8, cval9, cval10, Option.map, baa, bao, boa, boo, eqv_int, sh_int, and_self, true_and, and_true]) (fun h1 => s_ret ?_) (fun h1 => s_nil ?_)
    · obtain ⟨q1, q2⟩ := habs (hblt (by omega))
      simp only [wpE, wpEs, wpB, rg, rs, rsAll, TruthP, BinP, AugP, CmpP, SubP, BiP, lstOf, datas, cval0, cval1, cval2, cval3, cval4, cval5, cval6, cval7, cval8, cval9, cval10, Option.map, baa, bao, boa, boo, eqv_int, sh_int, and_self, true_and, and_true]; rw [← q1 h]; exact hq
    refine s_if ((bl o : Int) + (-20 + k) > (bl o' : Int) + (-20 + j)) (by simp only [wpE, wpEs, wpB, rg, rs, rsAll, TruthP, BinP, AugP, CmpP, SubP, BiP, lstOf, datas, cval0, cval1, cval2, cval3, cval4, cval5, cval6, cval7, cval8, cval9, cval10, Option.map, baa, bao, boa, boo, eqv_int, sh_int, and_self, true_and, and_true]) (fun h1 => s_ret ?_) (fun h1 => s_nil (s_nil (s_nil ⟨rfl, rfl⟩)))
    obtain ⟨q1, q2⟩ := habs2 (hblt2 (by omega))
    simp only [wpE, wpEs, wpB, rg, rs, rsAll, TruthP, BinP, AugP, CmpP, SubP, BiP, lstOf, datas, cval0, cval1, cval2, cval3, cval4, cval5, cval6, cval7, cval8, cval9, cval10, Option.map, baa, bao, boa, boo, eqv_int, sh_int, and_self, true_and, and_true]; rw [← q1 h]; exact hq
  · refine s_if ((bl o : Int) + (-20 + k) < (bl o' : Int) + (-20 + j)) (by simp only [wpE, wpEs, wpB, rg, rs, rsAll, TruthP, BinP, AugP, CmpP, SubP, BiP, lstOf, datas, cval0, cval1, cval2, cval3, cval4, cval5, cval6, cval7, cval8, cval9, cval10, Option.map, baa, bao, boa, boo, eqv_int, sh_int, and_self, true_and, and_true]) (fun h1 => s_ret ?_) (fun h1 => s_nil ?_)
    · obtain ⟨q1, q2⟩ := habs (hblt (by omega))
      simp only [wpE, wpEs, wpB, rg, rs, rsAll, TruthP, BinP, AugP, CmpP, SubP, BiP, lstOf, datas, cval0, cval1, cval2, cval3, cval4, cval5, cval6, cval7, cval8, cval9, cval10, Option.map, baa, bao, boa, boo, eqv_int, sh_int, and_self, true_and, and_true]; rw [← q2 h]; exact hq
    refine s_if ((bl o : Int) + (-20 + k) > (bl o' : Int) + (-20 + j)) (by simp only [wpE, wpEs, wpB, rg, rs, rsAll, TruthP, BinP, AugP, CmpP, SubP, BiP, lstOf, datas, cval0, cval1, cval2, cval3, cval4, cval5, cval6, cval7, cval8, cval9, cval10, Option.map, baa, bao, boa, boo, eqv_int, sh_int, and_self, true_and, and_true]) (fun h1 => s_ret ?_) (fun h1 => s_nil (s_nil (s_nil ⟨rfl, rfl⟩)))
    obtain ⟨q1, q2⟩ := habs2 (hblt2 (by omega))
    simp only [wpE, wpEs, wpB, rg, rs, rsAll, TruthP, BinP, AugP, CmpP, SubP, BiP, lstOf, datas, cval0, cval1, cval2, cval3, cval4, cval5, cval6, cval7, cval8, cval9, cval10, Option.map, baa, bao, boa, boo, eqv_int, sh_int, and_self, true_and, and_true]; rw [← q2 h]; exact hq
  · have hk81 : k ≤ 81 := by
      have := bl_le_iff.mpr hv; omega
    have hj81 : j ≤ 81 := by
      have := bl_le_iff.mpr hu; omega
    have hbo : bl o ≤ 500 := by have := bl_le_iff.mpr hv; omega
    have hbo' : bl o' ≤ 500 := by have := bl_le_iff.mpr hu; omega
    have hc : (-20 : Int) + ((min k j : Nat) : Int) = min (-20 + (k : Int)) (-20 + (j : Int)) := by omega
    have t1 : ((-20 + (k : Int)) - (-20 + ((min k j : Nat) : Int))).toNat = k - min k j := by omega
    have t2 : ((-20 + (j : Int)) - (-20 + ((min k j : Nat) : Int))).toNat = j - min k j := by omega
    generalize hV : sv (sg v) o * 2 ^ ((-20 + (k : Int)) - (-20 + ((min k j : Nat) : Int))).toNat + sv (xr (sg u) 1) o' * 2 ^ ((-20 + (j : Int)) - (-20 + ((min k j : Nat) : Int))).toNat = V
    have hV2 : V * 2 ^ (min k j) = v - u := by
      rw [← hV, t1, t2, sv_flip hsu, Int.add_mul, Int.mul_assoc, ← Int.pow_add, Int.mul_assoc, ← Int.pow_add]
      have a1 : k - min k j + min k j = k := by omega
      have a2 : j - min k j + min k j = j := by omega
      rw [a1, a2, ← kbt_cast, ← kbt_cast, ← sv_mul, Int.neg_mul, ← sv_mul, ← ek, ← ej, sv_sg, sv_sg]
      omega
    have hvu : v ≠ u := by
      rintro rfl
      have := odd_inj ho ho' (ek.symm.trans ej)
      omega
    have hV0 : V ≠ 0 := by
      rintro rfl
      rw [Int.zero_mul] at hV2; omega
    have hsg : sg V = sg (v - u) := by rw [← hV2, sg_pos_mul _ (kbt_pos _)]
    obtain ⟨o3, e4, ho3, hR⟩ := RN_mk (s := sg V) (m := V.natAbs) (e := -20 + ((min k j : Nat) : Int)) (prec := 5) (way := wf) (by omega) (by decide)
    refine s_asgk ?_
    simp only [wpE, wpEs, wpB, rg, rs, rsAll, TruthP, BinP, AugP, CmpP, SubP, BiP, lstOf, datas, cval0, cval1, cval2, cval3, cval4, cval5, cval6, cval7, cval8, cval9, cval10, Option.map, baa, bao, boa, boo, eqv_int, sh_int, and_self, true_and, and_true]
    refine sub_ok B F (prec := 5) hsv hsu (by omega) (by omega) (by omega) (by omega) (by omega) hbo hbo' (.inr (.inl rfl)) (by decide) hc hV.symm ?_
    unfold RNI
    rw [hR]
    refine s_if (v < u) ?_ (fun h => s_ret ?_) (fun h => s_nil (s_ret ?_))
    · simp only [wpE, wpEs, wpB, rg, rs, rsAll, TruthP, BinP, AugP, CmpP, SubP, BiP, lstOf, datas, cval0, cval1, cval2, cval3, cval4, cval5, cval6, cval7, cval8, cval9, cval10, Option.map, baa, bao, boa, boo, eqv_int, sh_int, and_self, true_and, and_true]
      simp only [mk]
      refine ⟨.int (sg V), ⟨by decide, by decide, rfl⟩, ?_⟩
      have hz := sg_01 V
      have : sg V = 1 ↔ v - u < 0 := by rw [hsg]; unfold sg; split <;> omega
      show (sg V != 0) = decide (v < u)
      rw [b_nz, decide_eq_decide]; omega
    · simp only [wpE, wpEs, wpB, rg, rs, rsAll, TruthP, BinP, AugP, CmpP, SubP, BiP, lstOf, datas, cval0, cval1, cval2, cval3, cval4, cval5, cval6, cval7, cval8, cval9, cval10, Option.map, baa, bao, boa, boo, eqv_int, sh_int, and_self, true_and, and_true]
      have : cmpI v u = -1 := by unfold cmpI; rw [if_pos h]
      rw [← this]; exact hq
    · simp only [wpE, wpEs, wpB, rg, rs, rsAll, TruthP, BinP, AugP, CmpP, SubP, BiP, lstOf, datas, cval0, cval1, cval2, cval3, cval4, cval5, cval6, cval7, cval8, cval9, cval10, Option.map, baa, bao, boa, boo, eqv_int, sh_int, and_self, true_and, and_true]
      have : cmpI v u = 1 := by unfold cmpI; rw [if_neg h, if_neg hvu]
      rw [← this]; exact hq
end

-- M26
theorem TW_form (v e : Int) : ∃ (s : Int) (m : Nat) (e' : Int) (b : Nat), TW v e = .tuple [.int s, .int m, .int e', .int b] ∧ (s = 0 ∨ s = 1) ∧ (m = 0 → e' = 0) ∧ (m ≠ 0 → TW v e = mk s m e' ∧ b = bl m ∧ m % 2 = 1 ∧ s = sg v ∧ v ≠ 0) ∧ (m = 0 → v = 0 ∧ TW v e = zt) := by
  by_cases hv : v = 0
  · subst hv
    exact ⟨0, 0, 0, 0, cn_zero _ _, .inl rfl, fun _ => rfl, fun h => absurd rfl h, fun _ => ⟨rfl, cn_zero _ _⟩⟩
  · obtain ⟨o, k, ho, ek, e2⟩ := cn_mk (s := sg v) (m := v.natAbs) (e := e) (by omega)
    exact ⟨sg v, o, e + k, bl o, e2, sg_01 v, fun h => absurd h (by omega), fun h => ⟨e2, rfl, ho, rfl, hv⟩, fun h => absurd h (by omega)⟩
theorem sh_TW (v e : Int) : SeqAt.shaped (TW v e) = true := by
  obtain ⟨s, m, e', b, h, _⟩ := TW_form v e
  rw [h]; exact sh_t4 _ _ _ _
theorem ne_fnan (v e : Int) : PyData.eqv (TW v e) (.tuple [.int 0, .int 0, .int (-123), .int (-1)]) = false := by
  obtain ⟨s, m, e', b, h, _⟩ := TW_form v e
  rw [h, eqv_t4]
  have : ¬ (b : Int) = -1 := by omega
  simp [this]

section
variable {prog : Program} {w : World} {hb : Heap} {mg mb : Str → Option Value} {fa : Nat → Addr}
theorem lt_ok (B : Bs hb mg mb fa) (F : Fns hb fa) {n : Nat} {v u : Int} (hv : v.natAbs < 2 ^ 81) (hu : u.natAbs < 2 ^ 81)
    {σ : St} {Q : V → St → Prop} (hq : Q (.d (.bool (decide (v < u)))) σ) : CallOK prog w hb fa (n + 7) 6 [.d (TW v (-20)), .d (TW u (-20))] σ Q := by
  refine call_ok B F.f6 rfl ?_
  simp only [nm_mpf_lt, startR, List.map_cons, List.map_nil, List.length_cons, List.length_nil, List.append_nil, List.cons_append, List.nil_append, List.replicate]
  refine s_if False (by simp only [wpE, wpEs, wpB, rg, rs, rsAll, TruthP, BinP, AugP, CmpP, SubP, BiP, lstOf, datas, cval0, cval1, cval2, cval3, cval4, cval5, cval6, cval7, cval8, cval9, cval10, Option.map, baa, bao, boa, boo, eqv_int, sh_int, and_self, true_and, and_true]; simp only [sh_TW, sh_t4, ne_fnan, true_and]; simp) (fun h => h.elim) (fun _ => s_nil (s_ret ?_))
  simp only [wpE, wpEs, wpB, rg, rs, rsAll, TruthP, BinP, AugP, CmpP, SubP, BiP, lstOf, datas, cval0, cval1, cval2, cval3, cval4, cval5, cval6, cval7, cval8, cval9, cval10, Option.map, baa, bao, boa, boo, eqv_int, sh_int, and_self, true_and, and_true]
  refine cmp_ok B F hv hu ?_
  have : decide (cmpI v u < 0) = decide (v < u) := by
    rw [decide_eq_decide]; unfold cmpI
    split
    · constructor <;> intros <;> first | assumption | decide
    · split <;> constructor <;> intros <;> omega
  rw [← this] at hq; exact hq
theorem gt_ok (B : Bs hb mg mb fa) (F : Fns hb fa) {n : Nat} {v u : Int} (hv : v.natAbs < 2 ^ 81) (hu : u.natAbs < 2 ^ 81)
    {σ : St} {Q : V → St → Prop} (hq : Q (.d (.bool (decide (v > u)))) σ) : CallOK prog w hb fa (n + 7) 7 [.d (TW v (-20)), .d (TW u (-20))] σ Q := by
  refine call_ok B F.f7 rfl ?_
  simp only [nm_mpf_gt, startR, List.map_cons, List.map_nil, List.length_cons, List.length_nil, List.append_nil, List.cons_append, List.nil_append, List.replicate]
  refine s_if False (by simp only [wpE, wpEs, wpB, rg, rs, rsAll, TruthP, BinP, AugP, CmpP, SubP, BiP, lstOf, datas, cval0, cval1, cval2, cval3, cval4, cval5, cval6, cval7, cval8, cval9, cval10, Option.map, baa, bao, boa, boo, eqv_int, sh_int, and_self, true_and, and_true]; simp only [sh_TW, sh_t4, ne_fnan, true_and]; simp) (fun h => h.elim) (fun _ => s_nil (s_ret ?_))
  simp only [wpE, wpEs, wpB, rg, rs, rsAll, TruthP, BinP, AugP, CmpP, SubP, BiP, lstOf, datas, cval0, cval1, cval2, cval3, cval4, cval5, cval6, cval7, cval8, cval9, cval10, Option.map, baa, bao, boa, boo, eqv_int, sh_int, and_self, true_and, and_true]
  refine cmp_ok B F hv hu ?_
  have : decide (cmpI v u > 0) = decide (v > u) := by
    rw [decide_eq_decide]; unfold cmpI
    split
    · constructor <;> intros <;> omega
    · split <;> constructor <;> intros <;> omega
  rw [← this] at hq; exact hq

theorem min_max_ok (B : Bs hb mg mb fa) (F : Fns hb fa) {n : Nat} {v0 : Int} {vt : List Int} (hvs : ∀ v ∈ v0 :: vt, v.natAbs < 2 ^ 81) (hlen : vt.length < 1000)
    {σ : St} {Q : V → St → Prop} (hq : ∀ a b, a ∈ v0 :: vt → (∀ c ∈ v0 :: vt, a ≤ c) → b ∈ v0 :: vt → (∀ c ∈ v0 :: vt, c ≤ b) → Q (.d (.tuple [TW a (-20), TW b (-20)])) σ) :
    CallOK prog w hb fa (n + 8) 8 [.d (.list ((v0 :: vt).map fun v => TW v (-20)))] σ Q := by
  refine call_ok B F.f8 rfl ?_
  simp only [nm_mpf_min_max, startR, List.map_cons, List.map_nil, List.length_cons, List.length_nil, List.append_nil, List.cons_append, List.nil_append, List.replicate]
  refine s_seq (fun ρ₁ σ₁ => σ₁ = σ ∧ ρ₁ = [some (.d (.list ((v0 :: vt).map fun v => TW v (-20)))), some (.d (TW v0 (-20))), some (.d (TW v0 (-20))), none]) ?_ ?_
  · show wpE _ _ _ _ _
    simp only [wpE, wpEs, wpB, rg, rs, rsAll, TruthP, BinP, AugP, CmpP, SubP, BiP, lstOf, datas, cval0, cval1, cval2, cval3, cval4, cval5, cval6, cval7, cval8, cval9, cval10, Option.map, baa, bao, boa, boo, eqv_int, sh_int, and_self, true_and, and_true]
    refine ⟨_, _, ⟨by decide, by decide, rfl, rfl⟩, ?_⟩
    simp
  rintro ρ₁ σ₁ ⟨rfl, rfl⟩
  refine s_seq (fun ρ₁ σ₂ => σ₂ = σ₁ ∧ ∃ a b y, ρ₁ = [some (.d (.list ((v0 :: vt).map fun v => TW v (-20)))), some (.d (TW a (-20))), some (.d (TW b (-20))), y] ∧ a ∈ v0 :: vt ∧ (∀ c ∈ v0 :: vt, a ≤ c) ∧ b ∈ v0 :: vt ∧ (∀ c ∈ v0 :: vt, c ≤ b)) ?_ ?_
  · show wpE _ _ _ _ _
    simp only [wpE, wpEs, wpB, rg, rs, rsAll, TruthP, BinP, AugP, CmpP, SubP, BiP, lstOf, datas, cval0, cval1, cval2, cval3, cval4, cval5, cval6, cval7, cval8, cval9, cval10, Option.map, baa, bao, boa, boo, eqv_int, sh_int, and_self, true_and, and_true]
    refine ⟨_, rfl, by simp; omega, _, rfl, by simp; omega, fun k ρ₁ σ₂ => σ₂ = σ₁ ∧ ∃ a b y, ρ₁ = [some (.d (.list ((v0 :: vt).map fun v => TW v (-20)))), some (.d (TW a (-20))), some (.d (TW b (-20))), y] ∧ a ∈ v0 :: vt ∧ (∀ c ∈ v0 :: vt.take k, a ≤ c) ∧ b ∈ v0 :: vt ∧ (∀ c ∈ v0 :: vt.take k, c ≤ b),
      ⟨rfl, v0, v0, none, rfl, by simp, by simp, by simp, by simp⟩, fun _ _ _ _ => rfl, ?_, ?_⟩
    · rintro k x ρ' σ' hx ⟨rfl, a, b, y, rfl, ha1, ha2, hb1, hb2⟩
      have hx' : (vt.map fun v => TW v (-20))[k]? = some x := by simpa using hx
      rw [List.getElem?_map] at hx'
      cases hvk : vt[k]? with
      | none => rw [hvk] at hx'; cases hx'
      | some c =>
        rw [hvk] at hx'
        have hxc : x = TW c (-20) := by simpa using hx'.symm
        subst hxc
        have hcm : c ∈ v0 :: vt := List.mem_cons_of_mem _ (List.mem_of_getElem? hvk)
        have htk : vt.take (k + 1) = vt.take k ++ [c] := by rw [List.take_add_one, hvk]; rfl
        simp only [rs]
        refine s_join [some (.d (.list ((v0 :: vt).map fun v => TW v (-20)))), some (.d (TW (if c < a then c else a) (-20))), some (.d (TW b (-20))), some (.d (TW c (-20)))] (s_one (s_if (c < a) ?_ (fun h => ?_) (fun h => s_nil (s_nil ⟨rfl, ?_⟩)))) ?_
        · simp only [wpE, wpEs, wpB, rg, rs, rsAll, TruthP, BinP, AugP, CmpP, SubP, BiP, lstOf, datas, cval0, cval1, cval2, cval3, cval4, cval5, cval6, cval7, cval8, cval9, cval10, Option.map, baa, bao, boa, boo, eqv_int, sh_int, and_self, true_and, and_true]
          exact lt_ok B F (hvs c hcm) (hvs a ha1) ⟨rfl, rfl⟩
        · refine s_asg (.d (TW c (-20))) (by simp only [wpE, wpEs, wpB, rg, rs, rsAll, TruthP, BinP, AugP, CmpP, SubP, BiP, lstOf, datas, cval0, cval1, cval2, cval3, cval4, cval5, cval6, cval7, cval8, cval9, cval10, Option.map, baa, bao, boa, boo, eqv_int, sh_int, and_self, true_and, and_true]) ?_
          simp only [rs]
          exact s_nil (s_nil ⟨rfl, by rw [if_pos h]⟩)
        · rw [if_neg h]
        refine s_join [some (.d (.list ((v0 :: vt).map fun v => TW v (-20)))), some (.d (TW (if c < a then c else a) (-20))), some (.d (TW (if c > b then c else b) (-20))), some (.d (TW c (-20)))] (s_one (s_if (c > b) ?_ (fun h => ?_) (fun h => s_nil (s_nil ⟨rfl, ?_⟩)))) ?_
        · simp only [wpE, wpEs, wpB, rg, rs, rsAll, TruthP, BinP, AugP, CmpP, SubP, BiP, lstOf, datas, cval0, cval1, cval2, cval3, cval4, cval5, cval6, cval7, cval8, cval9, cval10, Option.map, baa, bao, boa, boo, eqv_int, sh_int, and_self, true_and, and_true]
          exact gt_ok B F (hvs c hcm) (hvs b hb1) ⟨rfl, rfl⟩
        · refine s_asg (.d (TW c (-20))) (by simp only [wpE, wpEs, wpB, rg, rs, rsAll, TruthP, BinP, AugP, CmpP, SubP, BiP, lstOf, datas, cval0, cval1, cval2, cval3, cval4, cval5, cval6, cval7, cval8, cval9, cval10, Option.map, baa, bao, boa, boo, eqv_int, sh_int, and_self, true_and, and_true]) ?_
          simp only [rs]
          exact s_nil (s_nil ⟨rfl, by rw [if_pos h]⟩)
        · rw [if_neg h]
        refine s_nil ⟨rfl, _, _, _, rfl, ?_, ?_, ?_, ?_⟩
        · split <;> assumption
        · intro d hd
          rw [htk] at hd
          rcases List.mem_cons.mp hd with rfl | hd
          · have := ha2 d (by simp); split <;> omega
          · rcases List.mem_append.mp hd with hd | hd
            · have := ha2 d (List.mem_cons_of_mem _ hd); split <;> omega
            · have : d = c := by simpa using hd
              subst this; split <;> omega
        · split <;> assumption
        · intro d hd
          rw [htk] at hd
          rcases List.mem_cons.mp hd with rfl | hd
          · have := hb2 d (by simp); split <;> omega
          · rcases List.mem_append.mp hd with hd | hd
            · have := hb2 d (List.mem_cons_of_mem _ hd); split <;> omega
            · have : d = c := by simpa using hd
              subst this; split <;> omega
    · rintro ρ' σ' ⟨rfl, a, b, y, rfl, ha1, ha2, hb1, hb2⟩
      refine ⟨rfl, a, b, y, rfl, ha1, ?_, hb1, ?_⟩
      · simpa using ha2
      · simpa using hb2
  · rintro ρ₁ σ₂ ⟨rfl, a, b, y, rfl, h1, h2, h3, h4⟩
    refine s_ret ?_
    simp only [wpE, wpEs, wpB, rg, rs, rsAll, TruthP, BinP, AugP, CmpP, SubP, BiP, lstOf, datas, cval0, cval1, cval2, cval3, cval4, cval5, cval6, cval7, cval8, cval9, cval10, Option.map, baa, bao, boa, boo, eqv_int, sh_int, and_self, true_and, and_true]
    exact ⟨_, rfl, by simp, hq a b h1 h2 h3 h4⟩
end

-- M27
theorem wn' : Str.ofString "n" = wn := rfl
theorem wf' : Str.ofString "f" = wf := rfl
theorem wc' : Str.ofString "c" = wc := rfl
theorem wu' : Str.ofString "u" = wu := rfl
theorem wd' : Str.ofString "d" = wd := rfl
theorem Wn : Way wn := .inl rfl
theorem Wf : Way wf := .inr (.inl rfl)
theorem Wc : Way wc := .inr (.inr (.inl rfl))
theorem Wu : Way wu := .inr (.inr (.inr (.inl rfl)))
theorem Wd : Way wd := .inr (.inr (.inr (.inr rfl)))
theorem div_pos_bl {m k : Nat} : 0 < m / 2 ^ k ↔ k < bl m := by
  rw [Nat.div_pos_iff]
  constructor
  · rintro ⟨_, h⟩
    exact Nat.lt_of_not_le fun hle => by have := bl_le_iff.mp hle; omega
  · intro h
    exact ⟨p2pos k, Nat.le_of_not_lt fun hlt => by have := bl_le_iff.mpr hlt; omega⟩
theorem smal_nat {m k : Nat} (h : m < 2 ^ k) (hk : k ≤ 2000) : Smal (m : Int) := smal_of (k := k) (by simpa using h) hk
theorem fdiv_nat (m D : Nat) : ((m : Int)).fdiv (D : Int) = ((m / D : Nat) : Int) := by
  rw [Int.fdiv_eq_ediv_of_nonneg _ (by omega), Int.natCast_ediv]
theorem fmod_nat (m D : Nat) : ((m : Int)).fmod (D : Int) = ((m % D : Nat) : Int) := by
  rw [Int.fmod_eq_emod_of_nonneg _ (by omega), Int.natCast_emod]

section
variable {prog : Program} {w : World} {hb : Heap} {mg mb : Str → Option Value} {fa : Nat → Addr}
section
variable {n : Nat} {ρ : List (Option V)} {σ : St} {Q : List (Option V) → St → Prop} {R : V → St → Prop} {ss : Sms}
theorem s_unps {js : List Nat} {es : Exs} (vs : List V) (x : List (Option V)) (h : wpEs (CallOK prog w hb fa n) ρ es σ fun us σ₁ => us = vs ∧ σ₁ = σ) (hl : vs.length = js.length) (hx : (js.zip vs).reverse.foldl (fun ρ p => rs ρ p.1 p.2) ρ = x)
    (k : wpSs (CallOK prog w hb fa n) ss x σ Q R) : wpSs (CallOK prog w hb fa n) (.cons (.unps js es) ss) ρ σ Q R :=
  wpEs_mono callOK_mono es h fun v σ₁ ⟨e1, e2⟩ => by
    subst e1; subst e2; subst hx
    exact ⟨hl, k⟩
theorem s_whl {c : Ex} {b : Sms} (I : Nat → List (Option V) → Prop) (k : Nat) (h0 : I k ρ)
    (step : ∀ k ρ', I k ρ' → ∃ p : Bool, (wpE (CallOK prog w hb fa n) ρ' c σ fun v σ₁ => TruthP v (fun b => b = p) ∧ σ₁ = σ) ∧ (p = true → wpSs (CallOK prog w hb fa n) b ρ' σ (fun ρ₂ σ₂ => σ₂ = σ ∧ ∃ m, m < k ∧ I m ρ₂) R) ∧ (p = false → wpSs (CallOK prog w hb fa n) ss ρ' σ Q R)) :
    wpSs (CallOK prog w hb fa n) (.cons (.whl c b) ss) ρ σ Q R := by
  refine ⟨fun k ρ' σ' => σ' = σ ∧ I k ρ', ⟨k, rfl, h0⟩, ?_⟩
  rintro k ρ' σ' ⟨rfl, hI⟩
  obtain ⟨p, h1, h2, h3⟩ := step k ρ' hI
  refine wpE_mono callOK_mono c h1 ?_
  rintro v σ₁ ⟨e1, rfl⟩
  refine TruthP_mono e1 ?_
  rintro t rfl
  exact ⟨fun e => wpSs_mono callOK_mono b (h2 e) (fun ρ₂ σ₂ ⟨e, m, hm, hI⟩ => ⟨m, hm, e, hI⟩) fun _ _ x => x, h3⟩
end

theorem power_ok (B : Bs hb mg mb fa) (F : Fns hb fa) {n : Nat} {k : Nat} (hk : k ≤ 1000) {i : Int} (hi : i = k) {σ : St} {Q : V → St → Prop} (hq : Q (.d (.int ((2 ^ k : Nat) : Int))) σ) : CallOK prog w hb fa (n + 1) 23 [.d (.int i)] σ Q := by
  subst hi
  refine call_ok B F.f23 rfl ?_
  simp only [nm_law_power, startR, List.map_cons, List.map_nil, List.length_cons, List.length_nil, List.append_nil, List.cons_append, List.nil_append, List.replicate]
  refine s_asg (.d (.int 1)) (by simp only [wpE, wpEs, wpB, rg, rs, rsAll, TruthP, BinP, AugP, CmpP, SubP, BiP, lstOf, datas, cval0, cval1, cval2, cval3, cval4, cval5, cval6, cval7, cval8, cval9, cval10, Option.map, baa, bao, boa, boo, eqv_int, sh_int, and_self, true_and, and_true]) ?_
  simp only [rs]
  refine s_seq (fun ρ₁ σ₁ => σ₁ = σ ∧ ∃ y, ρ₁ = [some (.d (.int k)), some (.d (.int ((2 ^ k : Nat) : Int))), y]) ?_ ?_
  · show wpE _ _ _ _ _
    simp only [wpE, wpEs, wpB, rg, rs, rsAll, TruthP, BinP, AugP, CmpP, SubP, BiP, lstOf, datas, cval0, cval1, cval2, cval3, cval4, cval5, cval6, cval7, cval8, cval9, cval10, Option.map, baa, bao, boa, boo, eqv_int, sh_int, and_self, true_and, and_true]
    refine ⟨by omega, by omega, fun j ρ₁ σ₁ => σ₁ = σ ∧ ∃ y, ρ₁ = [some (.d (.int k)), some (.d (.int ((2 ^ j : Nat) : Int))), y], ⟨rfl, _, rfl⟩, ?_, ?_⟩
    · rintro j ρ' σ' hj ⟨rfl, y, rfl⟩
      simp only [rs]
      refine s_asg (.d (.int ((2 ^ (j + 1) : Nat) : Int))) ?_ (s_nil ⟨rfl, _, rfl⟩)
      simp only [wpE, wpEs, wpB, rg, rs, rsAll, TruthP, BinP, AugP, CmpP, SubP, BiP, lstOf, datas, cval0, cval1, cval2, cval3, cval4, cval5, cval6, cval7, cval8, cval9, cval10, Option.map, baa, bao, boa, boo, eqv_int, sh_int, and_self, true_and, and_true]
      refine ⟨⟨smal_nat (k := j + 1) (by rw [Nat.pow_succ]; have := p2pos j; omega) (by omega), smal_of (k := 2) (by decide) (by decide)⟩, ?_⟩
      rw [Nat.pow_succ]; rfl
    · rintro ρ' σ' ⟨rfl, y, rfl⟩
      rw [Int.toNat_natCast]
      exact ⟨rfl, y, rfl⟩
  · rintro ρ₁ σ₁ ⟨rfl, y, rfl⟩
    refine s_ret ?_
    simp only [wpE, wpEs, wpB, rg, rs, rsAll, TruthP, BinP, AugP, CmpP, SubP, BiP, lstOf, datas, cval0, cval1, cval2, cval3, cval4, cval5, cval6, cval7, cval8, cval9, cval10, Option.map, baa, bao, boa, boo, eqv_int, sh_int, and_self, true_and, and_true]
    exact hq

theorem tuple_ok (B : Bs hb mg mb fa) (F : Fns hb fa) {n : Nat} {v e : Int} (hv : v.natAbs < 2 ^ 500) {σ : St} {Q : V → St → Prop} (hq : Q (.d (TW v e)) σ) : CallOK prog w hb fa (n + 1) 24 [.d (.int v), .d (.int e)] σ Q := by
  refine call_ok B F.f24 rfl ?_
  simp only [nm_law_tuple, startR, List.map_cons, List.map_nil, List.length_cons, List.length_nil, List.append_nil, List.cons_append, List.nil_append, List.replicate]
  refine s_if (v = 0) (by simp only [wpE, wpEs, wpB, rg, rs, rsAll, TruthP, BinP, AugP, CmpP, SubP, BiP, lstOf, datas, cval0, cval1, cval2, cval3, cval4, cval5, cval6, cval7, cval8, cval9, cval10, Option.map, baa, bao, boa, boo, eqv_int, sh_int, and_self, true_and, and_true]) (fun h => s_ret ?_) (fun h => s_nil ?_)
  · subst h
    simp only [wpE, wpEs, wpB, rg, rs, rsAll, TruthP, BinP, AugP, CmpP, SubP, BiP, lstOf, datas, cval0, cval1, cval2, cval3, cval4, cval5, cval6, cval7, cval8, cval9, cval10, Option.map, baa, bao, boa, boo, eqv_int, sh_int, and_self, true_and, and_true]
    rw [show TW 0 e = zt from cn_zero _ _] at hq
    exact ⟨_, rfl, by simp, hq⟩
  refine s_unps [.d (.int (sg v)), .d (.int (v.natAbs : Int)), .d (.int 0)] [some (.d (.int (v.natAbs : Int))), some (.d (.int e)), some (.d (.int (sg v))), some (.d (.int 0))] ?_ rfl rfl ?_
  · simp only [wpE, wpEs, wpB, rg, rs, rsAll, TruthP, BinP, AugP, CmpP, SubP, BiP, lstOf, datas, cval0, cval1, cval2, cval3, cval4, cval5, cval6, cval7, cval8, cval9, cval10, Option.map, baa, bao, boa, boo, eqv_int, sh_int, and_self, true_and, and_true]
    by_cases h : v < 0
    · simp [h, sg]
    · simp [h, sg]
  unfold TW at hq
  generalize sg v = s at *
  generalize hm : v.natAbs = m at *
  refine s_whl (fun k ρ' => ∃ (m' : Nat) (e' : Int), ρ' = [some (.d (.int (m' : Int))), some (.d (.int e')), some (.d (.int s)), some (.d (.int 0))] ∧ k = m' ∧ m' ≠ 0 ∧ m' < 2 ^ 500 ∧ cn s m' e' = cn s m e) m ⟨m, e, rfl, rfl, by omega, hv, rfl⟩ ?_
  rintro k ρ' ⟨m', e', rfl, rfl, hm', hlt, hcn⟩
  refine ⟨decide (k % 2 = 0), ?_, fun h => ?_, fun h => ?_⟩
  · simp only [wpE, wpEs, wpB, rg, rs, rsAll, TruthP, BinP, AugP, CmpP, SubP, BiP, lstOf, datas, cval0, cval1, cval2, cval3, cval4, cval5, cval6, cval7, cval8, cval9, cval10, Option.map, baa, bao, boa, boo, eqv_int, sh_int, and_self, true_and, and_true]
    refine ⟨by decide, ?_⟩
    rw [decide_eq_decide, show (2 : Int) = ((2 : Nat) : Int) from rfl, fmod_nat]
    omega
  · have h := of_decide_eq_true h
    refine s_unps [.d (.int ((k / 2 : Nat) : Int)), .d (.int (e' + 1))] [some (.d (.int ((k / 2 : Nat) : Int))), some (.d (.int (e' + 1))), some (.d (.int s)), some (.d (.int 0))] ?_ rfl rfl ?_
    · simp only [wpE, wpEs, wpB, rg, rs, rsAll, TruthP, BinP, AugP, CmpP, SubP, BiP, lstOf, datas, cval0, cval1, cval2, cval3, cval4, cval5, cval6, cval7, cval8, cval9, cval10, Option.map, baa, bao, boa, boo, eqv_int, sh_int, and_self, true_and, and_true]
      refine ⟨⟨by decide, smal_of (k := 2) (by decide) (by decide)⟩, ?_⟩
      rw [show (2 : Int) = ((2 : Nat) : Int) from rfl, fdiv_nat]
    · refine s_nil ⟨rfl, k / 2, by omega, k / 2, e' + 1, rfl, rfl, by omega, by omega, ?_⟩
      rw [← cn_two, Nat.div_mul_cancel (Nat.dvd_of_mod_eq_zero h)]; exact hcn
  · have h := of_decide_eq_false h
    rw [cn_odd (by omega)] at hcn
    rw [← hcn] at hq
    refine s_whl (fun j ρ' => ∃ i : Nat, ρ' = [some (.d (.int (k : Int))), some (.d (.int e')), some (.d (.int s)), some (.d (.int (i : Int)))] ∧ i ≤ bl k ∧ j = bl k - i) (bl k) ⟨0, rfl, by omega, by omega⟩ ?_
    rintro j ρ' ⟨i, rfl, hi, rfl⟩
    refine ⟨decide (i < bl k), ?_, fun h => ?_, fun h => ?_⟩
    · simp only [wpE, wpEs, wpB, rg, rs, rsAll, TruthP, BinP, AugP, CmpP, SubP, BiP, lstOf, datas, cval0, cval1, cval2, cval3, cval4, cval5, cval6, cval7, cval8, cval9, cval10, Option.map, baa, bao, boa, boo, eqv_int, sh_int, and_self, true_and, and_true]
      refine ⟨by omega, ?_⟩
      rw [decide_eq_decide, Int.toNat_natCast, fdiv_pow, ← div_pos_bl]
      omega
    · have h := of_decide_eq_true h
      refine s_asg (.d (.int ((i + 1 : Nat) : Int))) (by simp only [wpE, wpEs, wpB, rg, rs, rsAll, TruthP, BinP, AugP, CmpP, SubP, BiP, lstOf, datas, cval0, cval1, cval2, cval3, cval4, cval5, cval6, cval7, cval8, cval9, cval10, Option.map, baa, bao, boa, boo, eqv_int, sh_int, and_self, true_and, and_true]; rfl) ?_
      simp only [rs]
      exact s_nil ⟨rfl, bl k - (i + 1), by omega, i + 1, rfl, by omega, rfl⟩
    · have h := of_decide_eq_false h
      have : i = bl k := by omega
      subst this
      refine s_ret ?_
      simp only [wpE, wpEs, wpB, rg, rs, rsAll, TruthP, BinP, AugP, CmpP, SubP, BiP, lstOf, datas, cval0, cval1, cval2, cval3, cval4, cval5, cval6, cval7, cval8, cval9, cval10, Option.map, baa, bao, boa, boo, eqv_int, sh_int, and_self, true_and, and_true]
      exact ⟨_, rfl, by simp, hq⟩
end

-- M28
theorem sh_w {way : Str} (hw : Way way) : SeqAt.shaped (.str way) = true := hw.sh
theorem RNI_norm {v : Int} {W a b P : Nat} {way : Str} (hW : W = v.natAbs) (hW0 : W ≠ 0) (hP : 1 ≤ P) (h1 : 2 ^ (P - 1) ≤ W * 2 ^ a / 2 ^ (20 + b)) (h2 : W * 2 ^ a / 2 ^ (20 + b) < 2 ^ P) :
    RNI v (-20) P way = cn (sg v) (rd (sg v) (W * 2 ^ a) (2 ^ (20 + b)) way) ((b : Int) - a) := by
  have hp := p2pos (20 + b)
  have e1 : 2 ^ (P - 1 + (20 + b)) ≤ W * 2 ^ a := by
    rw [Nat.pow_add]; exact (Nat.le_div_iff_mul_le hp).mp h1
  have e2 : W * 2 ^ a < 2 ^ (P + (20 + b)) := by
    rw [Nat.pow_add]; exact (Nat.div_lt_iff_lt_mul hp).mp h2
  have hbl : bl (W * 2 ^ a) = P + (20 + b) := by
    have e3 : P + (20 + b) = P - 1 + (20 + b) + 1 := by omega
    rw [e3]
    exact bl_unique e1 (by rw [← e3]; exact e2)
  unfold RNI
  have := RN_shift (s := sg v) (m := W) (e := -20 - a) (prec := P) (way := way) a
  rw [show (-20 - (a : Int) + a) = -20 by omega] at this
  rw [← hW, ← this]
  unfold RN
  rw [hbl, show P + (20 + b) - P = 20 + b by omega]
  congr 1
  push_cast; omega

section
variable {prog : Program} {w : World} {hb : Heap} {mg mb : Str → Option Value} {fa : Nat → Addr}
theorem rounded_ok (B : Bs hb mg mb fa) (F : Fns hb fa) {n : Nat} {v : Int} {P : Nat} {way : Str} (hv : v.natAbs < 2 ^ 400) (hw : Way way) (hP : 1 ≤ P) (hP2 : P ≤ 1000) {σ : St} {Q : V → St → Prop} (hq : Q (.d (RNI v (-20) P way)) σ) :
    CallOK prog w hb fa (n + 1) 22 [.d (.int v), .d (.int ((2 ^ 20 : Nat) : Int)), .d (.int P), .d (.str way)] σ Q := by
  refine call_ok B F.f22 rfl ?_
  simp only [nm_law_rounded, startR, List.map_cons, List.map_nil, List.length_cons, List.length_nil, List.append_nil, List.cons_append, List.nil_append, List.replicate]
  generalize hU : (2 ^ 20 : Nat) = U
  refine s_if (v = 0) (by simp only [wpE, wpEs, wpB, rg, rs, rsAll, TruthP, BinP, AugP, CmpP, SubP, BiP, lstOf, datas, cval0, cval1, cval2, cval3, cval4, cval5, cval6, cval7, cval8, cval9, cval10, Option.map, baa, bao, boa, boo, eqv_int, sh_int, and_self, true_and, and_true]) (fun h => s_ret ?_) (fun h => s_nil ?_)
  · subst h
    simp only [wpE, wpEs, wpB, rg, rs, rsAll, TruthP, BinP, AugP, CmpP, SubP, BiP, lstOf, datas, cval0, cval1, cval2, cval3, cval4, cval5, cval6, cval7, cval8, cval9, cval10, Option.map, baa, bao, boa, boo, eqv_int, sh_int, and_self, true_and, and_true]
    rw [show RNI 0 (-20) P way = zt from RN_zero] at hq
    exact ⟨_, rfl, by simp, hq⟩
  refine s_unps [.d (.int (sg v)), .d (.int (v.natAbs : Int)), .d (.int 0)] [some (.d (.int v)), some (.d (.int U)), some (.d (.int P)), some (.d (.str way)), some (.d (.int (sg v))), some (.d (.int (v.natAbs : Int))), some (.d (.int 0)), none, none, none, none] ?_ rfl rfl ?_
  · simp only [wpE, wpEs, wpB, rg, rs, rsAll, TruthP, BinP, AugP, CmpP, SubP, BiP, lstOf, datas, cval0, cval1, cval2, cval3, cval4, cval5, cval6, cval7, cval8, cval9, cval10, Option.map, baa, bao, boa, boo, eqv_int, sh_int, and_self, true_and, and_true]
    by_cases h : v < 0
    · simp [h, sg]
    · simp [h, sg]
  have hWv : v.natAbs = v.natAbs := rfl
  generalize hW : v.natAbs = W at *
  have hW0 : W ≠ 0 := by omega
  have hmul : ∀ (x a : Nat), ((x * 2 ^ a : Nat) : Int) * 2 = ((x * 2 ^ (a + 1) : Nat) : Int) := fun x a => by
    rw [Nat.pow_succ, ← Nat.mul_assoc, Int.natCast_mul _ 2]; rfl
  have hmul2 : ∀ (a : Nat), ((2 ^ a : Nat) : Int) * 2 = ((2 ^ (a + 1) : Nat) : Int) := fun a => by
    rw [Nat.pow_succ, Int.natCast_mul _ 2]; rfl
  have hsh : ∀ k : Nat, (1 : Int) * 2 ^ k = ((2 ^ k : Nat) : Int) := fun k => by rw [Int.one_mul, kbt_cast]
  have hS1 : Smal 1 := smal_of (k := 1) (by decide) (by decide)
  have hS2 : Smal 2 := smal_of (k := 2) (by decide) (by decide)
  -- the first loop
  refine s_whl (fun k ρ' => ∃ b : Nat, ρ' = [some (.d (.int v)), some (.d (.int ((2 ^ (20 + b) : Nat) : Int))), some (.d (.int P)), some (.d (.str way)), some (.d (.int (sg v))), some (.d (.int (W : Int))), some (.d (.int (b : Nat))), none, none, none, none] ∧ b ≤ 400 ∧ k = 400 - b) 400 ⟨0, by rw [← hU]; rfl, by omega, rfl⟩ ?_
  rintro k ρ' ⟨b, rfl, hb4, rfl⟩
  have hp := p2pos (20 + b)
  refine ⟨decide (2 ^ P ≤ W / 2 ^ (20 + b)), ?_, fun h => ?_, fun h => ?_⟩
  · simp only [wpE, wpEs, wpB, rg, rs, rsAll, TruthP, BinP, AugP, CmpP, SubP, BiP, lstOf, datas, cval0, cval1, cval2, cval3, cval4, cval5, cval6, cval7, cval8, cval9, cval10, Option.map, baa, bao, boa, boo, eqv_int, sh_int, and_self, true_and, and_true]
    refine ⟨⟨by omega, smal_nat (k := 20 + b + 1) (by rw [Nat.pow_succ]; omega) (by omega)⟩, ⟨by omega, hS1, by omega⟩, ?_⟩
    rw [fdiv_nat, Int.toNat_natCast, hsh, decide_eq_decide]
    omega
  · have h := of_decide_eq_true h
    have hb5 : 20 + b < 400 := by
      have h1 : 2 ^ (P + (20 + b)) ≤ W := by rw [Nat.pow_add]; exact (Nat.le_div_iff_mul_le hp).mp h
      have := pow_lt_imp (Nat.lt_of_le_of_lt h1 hv)
      omega
    refine s_unps [.d (.int ((2 ^ (20 + (b + 1)) : Nat) : Int)), .d (.int ((b + 1 : Nat) : Int))] [some (.d (.int v)), some (.d (.int ((2 ^ (20 + (b + 1)) : Nat) : Int))), some (.d (.int P)), some (.d (.str way)), some (.d (.int (sg v))), some (.d (.int (W : Int))), some (.d (.int ((b + 1 : Nat) : Int))), none, none, none, none] ?_ rfl rfl ?_
    · simp only [wpE, wpEs, wpB, rg, rs, rsAll, TruthP, BinP, AugP, CmpP, SubP, BiP, lstOf, datas, cval0, cval1, cval2, cval3, cval4, cval5, cval6, cval7, cval8, cval9, cval10, Option.map, baa, bao, boa, boo, eqv_int, sh_int, and_self, true_and, and_true]
      refine ⟨⟨smal_nat (k := 20 + b + 1) (by rw [Nat.pow_succ]; omega) (by omega), hS2⟩, ?_⟩
      rw [hmul2]; rfl
    · exact s_nil ⟨rfl, _, by omega, b + 1, rfl, by omega, rfl⟩
  have h := of_decide_eq_false h
  have hWlt : W < 2 ^ (P + (20 + b)) := by rw [Nat.pow_add]; exact (Nat.div_lt_iff_lt_mul hp).mp (by omega)
  -- the second loop
  refine s_whl (fun k ρ' => ∃ a : Nat, ρ' = [some (.d (.int v)), some (.d (.int ((2 ^ (20 + b) : Nat) : Int))), some (.d (.int P)), some (.d (.str way)), some (.d (.int (sg v))), some (.d (.int ((W * 2 ^ a : Nat) : Int))), some (.d (.int ((b : Int) - a))), none, none, none, none] ∧
    W * 2 ^ a < 2 ^ (P + (20 + b)) ∧ k = P + (20 + b) - a) (P + (20 + b)) ⟨0, by simp, by simpa using hWlt, by omega⟩ ?_
  rintro k ρ' ⟨a, rfl, haW, rfl⟩
  have ha : a < P + (20 + b) := by
    refine pow_lt_imp (Nat.lt_of_le_of_lt ?_ haW)
    have := Nat.mul_le_mul_right (2 ^ a) (show 1 ≤ W by omega)
    omega
  refine ⟨decide (W * 2 ^ a / 2 ^ (20 + b) < 2 ^ (P - 1)), ?_, fun h2 => ?_, fun h2 => ?_⟩
  · simp only [wpE, wpEs, wpB, rg, rs, rsAll, TruthP, BinP, AugP, CmpP, SubP, BiP, lstOf, datas, cval0, cval1, cval2, cval3, cval4, cval5, cval6, cval7, cval8, cval9, cval10, Option.map, baa, bao, boa, boo, eqv_int, sh_int, and_self, true_and, and_true]
    refine ⟨⟨by omega, smal_nat (k := 20 + b + 1) (by rw [Nat.pow_succ]; omega) (by omega)⟩, ⟨by omega, hS1, by omega⟩, ?_⟩
    rw [fdiv_nat, show ((P : Int) - 1).toNat = P - 1 by omega, hsh, decide_eq_decide]
    omega
  · have h2 := of_decide_eq_true h2
    refine s_unps [.d (.int ((W * 2 ^ (a + 1) : Nat) : Int)), .d (.int ((b : Int) - ((a + 1 : Nat) : Int)))] [some (.d (.int v)), some (.d (.int ((2 ^ (20 + b) : Nat) : Int))), some (.d (.int P)), some (.d (.str way)), some (.d (.int (sg v))), some (.d (.int ((W * 2 ^ (a + 1) : Nat) : Int))), some (.d (.int ((b : Int) - ((a + 1 : Nat) : Int)))), none, none, none, none] ?_ rfl rfl ?_
    · simp only [wpE, wpEs, wpB, rg, rs, rsAll, TruthP, BinP, AugP, CmpP, SubP, BiP, lstOf, datas, cval0, cval1, cval2, cval3, cval4, cval5, cval6, cval7, cval8, cval9, cval10, Option.map, baa, bao, boa, boo, eqv_int, sh_int, and_self, true_and, and_true]
      refine ⟨⟨smal_nat haW (by omega), hS2⟩, ?_⟩
      rw [hmul]
      have : (b : Int) - a - 1 = (b : Int) - ((a + 1 : Nat) : Int) := by omega
      rw [this]
    · refine s_nil ⟨rfl, _, by omega, a + 1, rfl, ?_, rfl⟩
      have h3 : W * 2 ^ a < 2 ^ (P - 1) * 2 ^ (20 + b) := (Nat.div_lt_iff_lt_mul hp).mp h2
      rw [← Nat.pow_add] at h3
      rw [Nat.pow_succ, ← Nat.mul_assoc, show P + (20 + b) = P - 1 + (20 + b) + 1 by omega, Nat.pow_succ]
      omega
  have h2 := of_decide_eq_false h2
  have hNorm := RNI_norm (v := v) (W := W) (a := a) (b := b) (P := P) (way := way) hW.symm hW0 hP (by omega) ((Nat.div_lt_iff_lt_mul hp).mpr (by rw [← Nat.pow_add]; exact haW))
  rw [hNorm] at hq
  have hq1 : 1 ≤ W * 2 ^ a / 2 ^ (20 + b) := by have := p2pos (P - 1); omega
  have hq2 : W * 2 ^ a / 2 ^ (20 + b) < 2 ^ P := (Nat.div_lt_iff_lt_mul hp).mpr (by rw [← Nat.pow_add]; exact haW)
  generalize hX : W * 2 ^ a = X at *
  generalize hD : 2 ^ (20 + b) = D at *
  have hSD : Smal (D : Int) := smal_nat (k := 20 + b + 1) (by rw [Nat.pow_succ, hD]; omega) (by omega)
  have hSX : Smal (X : Int) := smal_nat haW (by omega)
  refine s_unps [.d (.int ((X / D : Nat) : Int)), .d (.int ((X % D : Nat) : Int))] [some (.d (.int v)), some (.d (.int D)), some (.d (.int P)), some (.d (.str way)), some (.d (.int (sg v))), some (.d (.int X)), some (.d (.int ((b : Int) - a))), some (.d (.int ((X / D : Nat) : Int))), some (.d (.int ((X % D : Nat) : Int))), none, none] ?_ rfl rfl ?_
  · simp only [wpE, wpEs, wpB, rg, rs, rsAll, TruthP, BinP, AugP, CmpP, SubP, BiP, lstOf, datas, cval0, cval1, cval2, cval3, cval4, cval5, cval6, cval7, cval8, cval9, cval10, Option.map, baa, bao, boa, boo, eqv_int, sh_int, and_self, true_and, and_true]
    refine ⟨⟨by omega, hSD⟩, by omega, ?_⟩
    rw [fdiv_nat, fmod_nat]
  have hs := sg_01 v
  generalize sg v = s at *
  have hrlt := Nat.mod_lt X (show 0 < D by omega)
  have hrd : (if rup s way (X / D) (X % D) D = true then X / D + 1 else X / D) = rd s X D way := by
    unfold rd; split <;> rfl
  generalize hqq : X / D = q at *
  generalize hrr : X % D = r at *
  refine s_join [some (.d (.int v)), some (.d (.int D)), some (.d (.int P)), some (.d (.str way)), some (.d (.int s)), some (.d (.int X)), some (.d (.int ((b : Int) - a))), some (.d (.int (q : Int))), some (.d (.int (r : Int))), some (.d (.bool (rup s way q r D))), none] (s_one (s_if (way = wn) ?_ (fun h4 => ?_) (fun h4 => ?_))) ?_
  · simp only [wpE, wpEs, wpB, rg, rs, rsAll, TruthP, BinP, AugP, CmpP, SubP, BiP, lstOf, datas, cval0, cval1, cval2, cval3, cval4, cval5, cval6, cval7, cval8, cval9, cval10, Option.map, baa, bao, boa, boo, eqv_int, sh_int, and_self, true_and, and_true]
    simp only [wn', hw.sh, Wn.sh, eqv_str, and_self, true_and, and_true]
  · subst h4
    refine s_asg (.d (.bool (rup s wn q r D))) ?_ (s_nil (s_nil ⟨rfl, rfl⟩))
    simp only [wpE, wpEs, wpB, rg, rs, rsAll, TruthP, BinP, AugP, CmpP, SubP, BiP, lstOf, datas, cval0, cval1, cval2, cval3, cval4, cval5, cval6, cval7, cval8, cval9, cval10, Option.map, baa, bao, boa, boo, eqv_int, sh_int, and_self, true_and, and_true]
    have hSr : Smal (r : Int) := smal_nat (k := 20 + b) (by rw [hD]; exact hrlt) (by omega)
    unfold rup
    rw [if_pos rfl]
    have d1 : decide ((2 : Int) * r > D) = decide (D < 2 * r) := by rw [decide_eq_decide]; omega
    have d2 : decide ((2 : Int) * r = D) = decide (2 * r = D) := by rw [decide_eq_decide]; omega
    have d3 : decide (((q : Int)).fmod 2 = 1) = decide (q % 2 = 1) := by rw [show (2 : Int) = ((2 : Nat) : Int) from rfl, fmod_nat, decide_eq_decide]; omega
    simp only [d1, d2, d3, hSr, hS2, and_self, true_and, ne_eq, show ¬ (2 : Int) = 0 by decide, not_false_eq_true]
    generalize decide (D < 2 * r) = x1
    generalize decide (2 * r = D) = x2
    generalize decide (q % 2 = 1) = x3
    cases x1 <;> cases x2 <;> cases x3 <;> simp
  · refine s_asg (.d (.bool (rup s way q r D))) ?_ (s_nil (s_nil ⟨rfl, rfl⟩))
    simp only [wpE, wpEs, wpB, rg, rs, rsAll, TruthP, BinP, AugP, CmpP, SubP, BiP, lstOf, datas, cval0, cval1, cval2, cval3, cval4, cval5, cval6, cval7, cval8, cval9, cval10, Option.map, baa, bao, boa, boo, eqv_int, sh_int, and_self, true_and, and_true]
    unfold rup
    rw [if_neg h4]
    have d1 : decide ((r : Int) > 0) = decide (0 < r) := by rw [decide_eq_decide]; omega
    simp only [d1, wu', wc', wf', hw.sh, Wu.sh, Wc.sh, Wf.sh, eqv_str, and_self, true_and, and_true]
    generalize decide (0 < r) = x1
    generalize decide (way = wu) = x2
    generalize decide (way = wc) = x3
    generalize decide (way = wf) = x4
    generalize decide (s = 0) = x5
    generalize decide (s = 1) = x6
    cases x1 <;> cases x2 <;> cases x3 <;> cases x4 <;> cases x5 <;> cases x6 <;> simp
  refine s_asg (.d (.int ((rd s X D way : Nat) : Int))) ?_ ?_
  · simp only [wpE, wpEs, wpB, rg, rs, rsAll, TruthP, BinP, AugP, CmpP, SubP, BiP, lstOf, datas, cval0, cval1, cval2, cval3, cval4, cval5, cval6, cval7, cval8, cval9, cval10, Option.map, baa, bao, boa, boo, eqv_int, sh_int, and_self, true_and, and_true]
    rw [← hrd]
    cases rup s way q r D <;> simp
  simp only [rs]
  have hM0 : rd s X D way ≠ 0 := by have := rd_ge s X D way; omega
  have hM1 : rd s X D way < 2 ^ 1001 := by
    have h5 := rd_le s X D way
    have h6 : 2 ^ P ≤ 2 ^ 1000 := pow_le hP2
    have h7 : (2 : Nat) ^ 1000 + 1 < 2 ^ 1001 := by decide +kernel
    omega
  generalize rd s X D way = m at *
  generalize (b : Int) - a = e at *
  refine s_whl (fun k ρ' => ∃ (m' : Nat) (e' : Int), ρ' = [some (.d (.int v)), some (.d (.int D)), some (.d (.int P)), some (.d (.str way)), some (.d (.int s)), some (.d (.int X)), some (.d (.int e')), some (.d (.int (m' : Int))), some (.d (.int (r : Int))), some (.d (.bool (rup s way q r D))), none] ∧ k = m' ∧ m' ≠ 0 ∧ m' < 2 ^ 1001 ∧ cn s m' e' = cn s m e) m ⟨m, e, rfl, rfl, by omega, hM1, rfl⟩ ?_
  rintro k ρ' ⟨m', e', rfl, rfl, hm', hlt, hcn⟩
  refine ⟨decide (k % 2 = 0), ?_, fun h => ?_, fun h => ?_⟩
  · simp only [wpE, wpEs, wpB, rg, rs, rsAll, TruthP, BinP, AugP, CmpP, SubP, BiP, lstOf, datas, cval0, cval1, cval2, cval3, cval4, cval5, cval6, cval7, cval8, cval9, cval10, Option.map, baa, bao, boa, boo, eqv_int, sh_int, and_self, true_and, and_true]
    refine ⟨by decide, ?_⟩
    rw [decide_eq_decide, show (2 : Int) = ((2 : Nat) : Int) from rfl, fmod_nat]
    omega
  · have h := of_decide_eq_true h
    refine s_unps [.d (.int ((k / 2 : Nat) : Int)), .d (.int (e' + 1))] [some (.d (.int v)), some (.d (.int D)), some (.d (.int P)), some (.d (.str way)), some (.d (.int s)), some (.d (.int X)), some (.d (.int (e' + 1))), some (.d (.int ((k / 2 : Nat) : Int))), some (.d (.int (r : Int))), some (.d (.bool (rup s way q r D))), none] ?_ rfl rfl ?_
    · simp only [wpE, wpEs, wpB, rg, rs, rsAll, TruthP, BinP, AugP, CmpP, SubP, BiP, lstOf, datas, cval0, cval1, cval2, cval3, cval4, cval5, cval6, cval7, cval8, cval9, cval10, Option.map, baa, bao, boa, boo, eqv_int, sh_int, and_self, true_and, and_true]
      refine ⟨⟨by decide, hS2⟩, ?_⟩
      rw [show (2 : Int) = ((2 : Nat) : Int) from rfl, fdiv_nat]
    · refine s_nil ⟨rfl, k / 2, by omega, k / 2, e' + 1, rfl, rfl, by omega, by omega, ?_⟩
      rw [← cn_two, Nat.div_mul_cancel (Nat.dvd_of_mod_eq_zero h)]; exact hcn
  · have h := of_decide_eq_false h
    rw [cn_odd (by omega)] at hcn
    rw [← hcn] at hq
    refine s_asg (.d (.int 0)) (by simp only [wpE, wpEs, wpB, rg, rs, rsAll, TruthP, BinP, AugP, CmpP, SubP, BiP, lstOf, datas, cval0, cval1, cval2, cval3, cval4, cval5, cval6, cval7, cval8, cval9, cval10, Option.map, baa, bao, boa, boo, eqv_int, sh_int, and_self, true_and, and_true]) ?_
    simp only [rs]
    refine s_whl (fun j ρ' => ∃ i : Nat, ρ' = [some (.d (.int v)), some (.d (.int D)), some (.d (.int P)), some (.d (.str way)), some (.d (.int s)), some (.d (.int X)), some (.d (.int e')), some (.d (.int (k : Int))), some (.d (.int (r : Int))), some (.d (.bool (rup s way q r D))), some (.d (.int (i : Int)))] ∧ i ≤ bl k ∧ j = bl k - i) (bl k) ⟨0, rfl, by omega, by omega⟩ ?_
    rintro j ρ' ⟨i, rfl, hi, rfl⟩
    refine ⟨decide (i < bl k), ?_, fun h => ?_, fun h => ?_⟩
    · simp only [wpE, wpEs, wpB, rg, rs, rsAll, TruthP, BinP, AugP, CmpP, SubP, BiP, lstOf, datas, cval0, cval1, cval2, cval3, cval4, cval5, cval6, cval7, cval8, cval9, cval10, Option.map, baa, bao, boa, boo, eqv_int, sh_int, and_self, true_and, and_true]
      refine ⟨by omega, ?_⟩
      rw [decide_eq_decide, Int.toNat_natCast, fdiv_pow, ← div_pos_bl]
      omega
    · have h := of_decide_eq_true h
      refine s_asg (.d (.int ((i + 1 : Nat) : Int))) (by simp only [wpE, wpEs, wpB, rg, rs, rsAll, TruthP, BinP, AugP, CmpP, SubP, BiP, lstOf, datas, cval0, cval1, cval2, cval3, cval4, cval5, cval6, cval7, cval8, cval9, cval10, Option.map, baa, bao, boa, boo, eqv_int, sh_int, and_self, true_and, and_true]; rfl) ?_
      simp only [rs]
      exact s_nil ⟨rfl, bl k - (i + 1), by omega, i + 1, rfl, by omega, rfl⟩
    · have h := of_decide_eq_false h
      have : i = bl k := by omega
      subst this
      refine s_ret ?_
      simp only [wpE, wpEs, wpB, rg, rs, rsAll, TruthP, BinP, AugP, CmpP, SubP, BiP, lstOf, datas, cval0, cval1, cval2, cval3, cval4, cval5, cval6, cval7, cval8, cval9, cval10, Option.map, baa, bao, boa, boo, eqv_int, sh_int, and_self, true_and, and_true]
      exact ⟨_, rfl, by simp, hq⟩
end

-- M29
def fx (p : Int × Int) : Int := p.1 * 2 ^ (p.2 + 20).toNat
def pr (p : Int × Int) : PyData := .tuple [.int p.1, .int p.2]
def okp (p : Int × Int) : Prop := p.1.natAbs < 2 ^ 40 ∧ -20 ≤ p.2 ∧ p.2 ≤ 20
theorem natAbs_pow (x : Int) (k : Nat) : (x * 2 ^ k).natAbs = x.natAbs * 2 ^ k := by rw [Int.natAbs_mul, Int.natAbs_pow]; rfl
theorem TW_shift (x e : Int) (k : Nat) : TW (x * 2 ^ k) e = TW x (e + k) := by
  unfold TW
  rw [natAbs_pow, sg_pos_mul _ (kbt_pos k), cn_shift]
theorem RNI_shift (x e : Int) (k : Nat) (prec : Nat) (way : Str) : RNI (x * 2 ^ k) e prec way = RNI x (e + k) prec way := by
  unfold RNI
  rw [natAbs_pow, sg_pos_mul _ (kbt_pos k), RN_shift]
theorem TW_fx {p : Int × Int} (h : okp p) : TW p.1 p.2 = TW (fx p) (-20) := by
  unfold fx
  rw [TW_shift]
  congr 1
  have := h.2.1; omega
theorem fx_lt {p : Int × Int} (h : okp p) : (fx p).natAbs < 2 ^ 80 := by
  unfold fx
  rw [natAbs_pow]
  have h1 := h.1
  have h2 : 2 ^ (p.2 + 20).toNat ≤ 2 ^ 40 := pow_le (by have := h.2.2; omega)
  exact Nat.lt_of_le_of_lt (Nat.mul_le_mul_left _ h2) (Nat.lt_of_lt_of_le (Nat.mul_lt_mul_of_pos_right h1 (p2pos 40)) (by decide +kernel))

section
variable {prog : Program} {w : World} {hb : Heap} {mg mb : Str → Option Value} {fa : Nat → Addr}
theorem made_ok (B : Bs hb mg mb fa) (F : Fns hb fa) {n : Nat} {v : Int} {P : Nat} {way : Str} (hv : v.natAbs < 2 ^ 400) (hw : Way way) (hP2 : P ≤ 1000) {σ : St} {Q : V → St → Prop} (hq : Q (.d (if P = 0 then TW v (-20) else RNI v (-20) P way)) σ) :
    CallOK prog w hb fa (n + 2) 26 [.d (.int v), .d (.int P), .d (.str way)] σ Q := by
  refine call_ok B F.f26 rfl ?_
  simp only [nm_law_made, startR, List.map_cons, List.map_nil, List.length_cons, List.length_nil, List.append_nil, List.cons_append, List.nil_append, List.replicate]
  refine s_ret ?_
  simp only [wpE, wpEs, wpB, rg, rs, rsAll, TruthP, BinP, AugP, CmpP, SubP, BiP, lstOf, datas, cval0, cval1, cval2, cval3, cval4, cval5, cval6, cval7, cval8, cval9, cval10, Option.map, baa, bao, boa, boo, eqv_int, sh_int, and_self, true_and, and_true]
  refine ⟨fun h => ?_, fun h => ?_⟩
  · have h := of_decide_eq_true h
    rw [if_neg (by omega)] at hq
    exact power_ok B F (k := 20) (by decide) rfl (rounded_ok B F hv hw (by omega) hP2 hq)
  · have h := of_decide_eq_false h
    rw [if_pos (by omega)] at hq
    exact tuple_ok B F (Nat.lt_of_lt_of_le hv (pow_le (by decide))) hq

theorem fixed_ok (B : Bs hb mg mb fa) (F : Fns hb fa) {n : Nat} {l : Addr} {ps : List (Int × Int)} (hps : ∀ p ∈ ps, okp p) (hlen : ps.length ≤ 100) {σ : St} {Q : V → St → Prop} (hl : σ l = some (ps.map pr)) (hq : Q (.d (.list (ps.map fun p => .int (fx p)))) σ) :
    CallOK prog w hb fa (n + 2) 25 [.ref l] σ Q := by
  refine call_ok B F.f25 rfl ?_
  simp only [nm_law_fixed, startR, List.map_cons, List.map_nil, List.length_cons, List.length_nil, List.append_nil, List.cons_append, List.nil_append, List.replicate]
  refine s_ret ?_
  simp only [wpE, wpEs, wpB, rg, rs, rsAll, TruthP, BinP, AugP, CmpP, SubP, BiP, lstOf, datas, cval0, cval1, cval2, cval3, cval4, cval5, cval6, cval7, cval8, cval9, cval10, Option.map, baa, bao, boa, boo, eqv_int, sh_int, and_self, true_and, and_true]
  refine ⟨ps.map pr, hl, by rw [List.length_map]; omega, fun x => match x with | .tuple [.int a, .int b] => .int (fx (a, b)) | _ => .none, ?_, ?_⟩
  · intro x hx
    obtain ⟨p, hp, rfl⟩ := List.mem_map.mp hx
    refine ⟨_, _, rfl, fun σ' => ?_⟩
    have h := hps p hp
    have e1 : p.2 + 20 = ((p.2 + 20).toNat : Int) := by have := h.2.1; omega
    refine power_ok B F (k := (p.2 + 20).toNat) (by have := h.2.2; omega) e1 ?_
    refine ⟨⟨smal_of h.1 (by decide), smal_nat (k := 41) ?_ (by decide)⟩, ?_⟩
    · exact Nat.lt_of_le_of_lt (pow_le (by have := h.2.2; omega)) (show 2 ^ 40 < 2 ^ 41 by decide)
    · show (V.d (.int (p.1 * ((2 ^ (p.2 + 20).toNat : Nat) : Int))) = V.d (.int (fx (p.1, p.2)))) ∧ _
      rw [kbt_cast]
      exact ⟨rfl, rfl⟩
  · rw [List.map_map]
    exact hq

theorem sum_core (B : Bs hb mg mb fa) (F : Fns hb fa) {n : Nat} {vs : List Int} {P : Nat} {way : Str} {ab : Bool} (hvs : ∀ v ∈ vs, v.natAbs < 2 ^ 80) (hlen : vs.length ≤ 100) (hw : Way way) (hP : P = 0 ∨ 45 ≤ P) (hP2 : P ≤ 1000)
    {σ : St} {Q : V → St → Prop} {S : Int} (hS : S = (vs.map fun v => if ab = true then (v.natAbs : Int) else v).sum) (hq : Q (.d (if P = 0 then TW S (-20) else RNI S (-20) P way)) σ) :
    wpSs (CallOK prog w hb fa (n + 4)) bd_mpf_sum [some (.d (.list (vs.map fun v => TW v (-20)))), some (.d (.int P)), some (.d (.str way)), some (.d (.bool ab)), none, none, none, none, none, none, none, none, none, none] σ (fun _ σ' => Q (.d .none) σ') Q := by
  have hS2 : Smal 2 := smal_of (k := 2) (by decide) (by decide)
  refine s_asg (.d (.int 0)) (by simp only [wpE, wpEs, wpB, rg, rs, rsAll, TruthP, BinP, AugP, CmpP, SubP, BiP, lstOf, datas, cval0, cval1, cval2, cval3, cval4, cval5, cval6, cval7, cval8, cval9, cval10, Option.map, baa, bao, boa, boo, eqv_int, sh_int, and_self, true_and, and_true]) ?_
  simp only [rs]
  refine s_asg (.d (.int 0)) (by simp only [wpE, wpEs, wpB, rg, rs, rsAll, TruthP, BinP, AugP, CmpP, SubP, BiP, lstOf, datas, cval0, cval1, cval2, cval3, cval4, cval5, cval6, cval7, cval8, cval9, cval10, Option.map, baa, bao, boa, boo, eqv_int, sh_int, and_self, true_and, and_true]) ?_
  simp only [rs]
  obtain ⟨mx, hmx, hmx2⟩ : ∃ mx : Int, mx = (if P = 0 then 1000000 else (P : Int) * 2) ∧ 90 ≤ mx := by
    refine ⟨_, rfl, ?_⟩
    split <;> omega
  refine s_asg (.d (.int mx)) ?_ ?_
  · simp only [wpE, wpEs, wpB, rg, rs, rsAll, TruthP, BinP, AugP, CmpP, SubP, BiP, lstOf, datas, cval0, cval1, cval2, cval3, cval4, cval5, cval6, cval7, cval8, cval9, cval10, Option.map, baa, bao, boa, boo, eqv_int, sh_int, and_self, true_and, and_true]
    have hSP : Smal (P : Int) := smal_nat (k := 1000) (Nat.lt_of_le_of_lt hP2 (Nat.lt_two_pow_self)) (by decide)
    refine ⟨⟨hSP, hS2⟩, fun h => ?_, fun h => ?_⟩
    · have : P = 0 := by
        rw [b_nz] at h; have := of_decide_eq_false h; omega
      rw [hmx, if_pos this]
    · have : P ≠ 0 := by
        rw [b_nz] at h; have := of_decide_eq_true h; omega
      rw [hmx, if_neg this]
  simp only [rs]
  refine s_asg (.d .none) (by simp only [wpE, wpEs, wpB, rg, rs, rsAll, TruthP, BinP, AugP, CmpP, SubP, BiP, lstOf, datas, cval0, cval1, cval2, cval3, cval4, cval5, cval6, cval7, cval8, cval9, cval10, Option.map, baa, bao, boa, boo, eqv_int, sh_int, and_self, true_and, and_true]) ?_
  simp only [rs]
  refine s_seq (fun ρ₁ σ₁ => σ₁ = σ ∧ ∃ (man exp : Int) (x8 x9 x10 x11 x12 x13 : Option V), ρ₁ = [some (.d (.list (vs.map fun v => TW v (-20)))), some (.d (.int P)), some (.d (.str way)), some (.d (.bool ab)), some (.d (.int man)), some (.d (.int exp)), some (.d (.int mx)), some (.d .none), x8, x9, x10, x11, x12, x13] ∧
    -20 ≤ exp ∧ exp ≤ 0 ∧ man * 2 ^ (exp + 20).toNat = S ∧ S.natAbs ≤ vs.length * 2 ^ 80) ?_ ?_
  · show wpE _ _ _ _ _
    simp only [wpE, wpEs, wpB, rg, rs, rsAll, TruthP, BinP, AugP, CmpP, SubP, BiP, lstOf, datas, cval0, cval1, cval2, cval3, cval4, cval5, cval6, cval7, cval8, cval9, cval10, Option.map, baa, bao, boa, boo, eqv_int, sh_int, and_self, true_and, and_true]
    refine ⟨_, rfl, by rw [List.length_map]; omega, fun k ρ₁ σ₁ => σ₁ = σ ∧ ∃ (man exp : Int) (x8 x9 x10 x11 x12 x13 : Option V), ρ₁ = [some (.d (.list (vs.map fun v => TW v (-20)))), some (.d (.int P)), some (.d (.str way)), some (.d (.bool ab)), some (.d (.int man)), some (.d (.int exp)), some (.d (.int mx)), some (.d .none), x8, x9, x10, x11, x12, x13] ∧
      -20 ≤ exp ∧ exp ≤ 0 ∧ man * 2 ^ (exp + 20).toNat = ((vs.take k).map fun v => if ab = true then (v.natAbs : Int) else v).sum ∧ ((vs.take k).map fun v => if ab = true then (v.natAbs : Int) else v).sum.natAbs ≤ k * 2 ^ 80,
      ⟨rfl, 0, 0, none, none, none, none, none, none, rfl, by decide, by decide, by simp, by simp⟩, fun _ _ _ _ => rfl, ?_, ?_⟩
    · rintro k x ρ' σ' hx ⟨rfl, man, exp, x8, x9, x10, x11, x12, x13, rfl, he1, he2, hm, hb0⟩
      rw [List.getElem?_map] at hx
      cases hvk : vs[k]? with
      | none => rw [hvk] at hx; cases hx
      | some v =>
        rw [hvk] at hx
        have hxv : x = TW v (-20) := by simpa using hx.symm
        subst hxv
        have hvm : v ∈ vs := List.mem_of_getElem? hvk
        have hk : k < vs.length := (List.getElem?_eq_some_iff.mp hvk).1
        have hv80 := hvs v hvm
        have htk : vs.take (k + 1) = vs.take k ++ [v] := by rw [List.take_add_one, hvk]; rfl
        have hsum : ((vs.take (k + 1)).map fun v => if ab = true then (v.natAbs : Int) else v).sum = ((vs.take k).map fun v => if ab = true then (v.natAbs : Int) else v).sum + (if ab = true then (v.natAbs : Int) else v) := by
          rw [htk, List.map_append, List.sum_append]; simp
        dsimp only
        rw [hsum]
        generalize ((vs.take k).map fun v => if ab = true then (v.natAbs : Int) else v).sum = S0 at *
        have hb1 : (S0 + (if ab = true then (v.natAbs : Int) else v)).natAbs ≤ (k + 1) * 2 ^ 80 := by
          have : (if ab = true then (v.natAbs : Int) else v).natAbs = v.natAbs := by split <;> omega
          generalize (if ab = true then (v.natAbs : Int) else v) = z at *
          rw [Nat.add_mul]; omega
        have hmanabs : man.natAbs ≤ S0.natAbs := by
          rw [← hm, natAbs_pow]
          exact Nat.le_mul_of_pos_right _ (p2pos _)
        have hman : man.natAbs < 2 ^ 100 := by
          have h1 : k * 2 ^ 80 ≤ 100 * 2 ^ 80 := Nat.mul_le_mul_right _ (by omega)
          have h2 : (100 : Nat) * 2 ^ 80 < 2 ^ 100 := by decide +kernel
          omega
        simp only [rs]
        obtain ⟨s, m, e', b, hT, hs, hz0, hnz, hzt⟩ := TW_form v (-20)
        refine s_unp [.int s, .int m, .int e', .int b] (by simp only [wpE, wpEs, wpB, rg, rs, rsAll, TruthP, BinP, AugP, CmpP, SubP, BiP, lstOf, datas, cval0, cval1, cval2, cval3, cval4, cval5, cval6, cval7, cval8, cval9, cval10, Option.map, baa, bao, boa, boo, eqv_int, sh_int, and_self, true_and, and_true]; rw [hT]) rfl ?_
        simp only [rsAll, rs]
        by_cases hm0 : m = 0
        · obtain ⟨rfl, _⟩ := hzt hm0
          have he0 := hz0 hm0
          subst hm0; subst he0
          refine s_if (((0 : Nat) : Int) ≠ 0) (by simp only [wpE, wpEs, wpB, rg, rs, rsAll, TruthP, BinP, AugP, CmpP, SubP, BiP, lstOf, datas, cval0, cval1, cval2, cval3, cval4, cval5, cval6, cval7, cval8, cval9, cval10, Option.map, baa, bao, boa, boo, eqv_int, sh_int, and_self, true_and, and_true]; exact b_nz _) (fun h => absurd rfl h) (fun _ => ?_)
          refine s_if ((0 : Int) ≠ 0) (by simp only [wpE, wpEs, wpB, rg, rs, rsAll, TruthP, BinP, AugP, CmpP, SubP, BiP, lstOf, datas, cval0, cval1, cval2, cval3, cval4, cval5, cval6, cval7, cval8, cval9, cval10, Option.map, baa, bao, boa, boo, eqv_int, sh_int, and_self, true_and, and_true]; rfl) (fun h => absurd rfl h) (fun _ => s_nil (s_nil (s_nil ?_)))
          refine ⟨rfl, man, exp, _, _, _, _, _, _, rfl, he1, he2, ?_, hb1⟩
          rw [hm]; cases ab <;> simp
        · obtain ⟨hmk, hbb, hodd, rfl, hv0⟩ := hnz hm0
          obtain ⟨o, kk, ho, ek, ecn⟩ := cn_mk (s := sg v) (m := v.natAbs) (e := -20) (by omega)
          have heq : mk (sg v) m e' = mk (sg v) o (-20 + kk) := by rw [← hmk]; exact ecn
          unfold mk at heq
          simp only [PyData.tuple.injEq, List.cons.injEq, PyData.int.injEq] at heq
          obtain ⟨_, hmo, hee, _⟩ := heq
          have hmo : m = o := by omega
          subst hmo
          have hkk : kk < 80 := by
            refine pow_lt_imp (Nat.lt_of_le_of_lt ?_ hv80)
            rw [ek]; have := Nat.mul_le_mul_right (2 ^ kk) (show 1 ≤ m by omega); omega
          have hm40 : m < 2 ^ 80 := by
            refine Nat.lt_of_le_of_lt ?_ hv80
            rw [ek]; exact Nat.le_mul_of_pos_right _ (p2pos kk)
          obtain ⟨xm, hxm⟩ : ∃ xm : Int, xm = if sg v = 1 ∧ ab = false then -(m : Int) else m := ⟨_, rfl⟩
          have hxabs : xm.natAbs = m := by rw [hxm]; split <;> omega
          have hxv : xm * 2 ^ kk = if ab = true then (v.natAbs : Int) else v := by
            have e1 : ((v.natAbs : Nat) : Int) = (m : Int) * 2 ^ kk := by rw [ek, Int.natCast_mul, kbt_cast]
            have e2 : sg v = 1 ↔ v < 0 := by unfold sg; split <;> omega
            rw [hxm]
            cases ab with
            | true => simp [e1]
            | false =>
              by_cases hneg : v < 0
              · rw [if_pos ⟨e2.mpr hneg, rfl⟩, Int.neg_mul, ← e1]; simp; omega
              · rw [if_neg (fun h => hneg (e2.mp h.1)), ← e1]; simp; omega
          generalize (if ab = true then (v.natAbs : Int) else v) = z at *
          refine s_if (((m : Nat) : Int) ≠ 0) (by simp only [wpE, wpEs, wpB, rg, rs, rsAll, TruthP, BinP, AugP, CmpP, SubP, BiP, lstOf, datas, cval0, cval1, cval2, cval3, cval4, cval5, cval6, cval7, cval8, cval9, cval10, Option.map, baa, bao, boa, boo, eqv_int, sh_int, and_self, true_and, and_true]; exact b_nz _) (fun _ => ?_) (fun h => absurd (by omega) h)
          refine s_join [some (.d (.list (vs.map fun v => TW v (-20)))), some (.d (.int P)), some (.d (.str way)), some (.d (.bool ab)), some (.d (.int man)), some (.d (.int exp)), some (.d (.int mx)), some (.d .none), some (.d (TW v (-20))), some (.d (.int (sg v))), some (.d (.int xm)), some (.d (.int e')), some (.d (.int b)), x13]
            (s_one (s_if (sg v = 1 ∧ ab = false) ?_ (fun h => ?_) (fun h => s_nil (s_nil ⟨rfl, ?_⟩)))) ?_
          · simp only [wpE, wpEs, wpB, rg, rs, rsAll, TruthP, BinP, AugP, CmpP, SubP, BiP, lstOf, datas, cval0, cval1, cval2, cval3, cval4, cval5, cval6, cval7, cval8, cval9, cval10, Option.map, baa, bao, boa, boo, eqv_int, sh_int, and_self, true_and, and_true]
            have hs := sg_01 v
            rcases hs with h | h <;> rw [h] <;> cases ab <;> simp
          · rw [if_pos h] at hxm
            refine s_asg (.d (.int xm)) (by simp only [wpE, wpEs, wpB, rg, rs, rsAll, TruthP, BinP, AugP, CmpP, SubP, BiP, lstOf, datas, cval0, cval1, cval2, cval3, cval4, cval5, cval6, cval7, cval8, cval9, cval10, Option.map, baa, bao, boa, boo, eqv_int, sh_int, and_self, true_and, and_true]; rw [hxm]) ?_
            simp only [rs]
            exact s_nil (s_nil ⟨rfl, rfl⟩)
          · rw [if_neg h] at hxm
            rw [hxm]
          refine s_asg (.d (.int (e' - exp))) (by simp only [wpE, wpEs, wpB, rg, rs, rsAll, TruthP, BinP, AugP, CmpP, SubP, BiP, lstOf, datas, cval0, cval1, cval2, cval3, cval4, cval5, cval6, cval7, cval8, cval9, cval10, Option.map, baa, bao, boa, boo, eqv_int, sh_int, and_self, true_and, and_true]) ?_
          simp only [rs]
          refine s_if (e' ≥ exp) (by simp only [wpE, wpEs, wpB, rg, rs, rsAll, TruthP, BinP, AugP, CmpP, SubP, BiP, lstOf, datas, cval0, cval1, cval2, cval3, cval4, cval5, cval6, cval7, cval8, cval9, cval10, Option.map, baa, bao, boa, boo, eqv_int, sh_int, and_self, true_and, and_true]) (fun hge => ?_) (fun hlt => ?_)
          · refine s_if False ?_ (fun h => h.elim) (fun _ => ?_)
            · simp only [wpE, wpEs, wpB, rg, rs, rsAll, TruthP, BinP, AugP, CmpP, SubP, BiP, lstOf, datas, cval0, cval1, cval2, cval3, cval4, cval5, cval6, cval7, cval8, cval9, cval10, Option.map, baa, bao, boa, boo, eqv_int, sh_int, and_self, true_and, and_true]
              have : ¬ e' - exp > mx := by omega
              simp [this]
            refine s_aug rfl (.int (man + xm * 2 ^ (e' - exp).toNat)) ?_ ?_
            · simp only [wpE, wpEs, wpB, rg, rs, rsAll, TruthP, BinP, AugP, CmpP, SubP, BiP, lstOf, datas, cval0, cval1, cval2, cval3, cval4, cval5, cval6, cval7, cval8, cval9, cval10, Option.map, baa, bao, boa, boo, eqv_int, sh_int, and_self, true_and, and_true]
              exact ⟨by omega, smal_of (k := 80) (by omega) (by decide), by omega⟩
            simp only [rs]
            refine s_nil (s_nil (s_nil (s_nil ⟨rfl, _, exp, _, _, _, _, _, _, rfl, he1, he2, ?_, hb1⟩)))
            rw [Int.add_mul, hm, Int.mul_assoc, ← Int.pow_add, ← hxv]
            have : (e' - exp).toNat + (exp + 20).toNat = kk := by omega
            rw [this]
          · refine s_asg (.d (.int (exp - e'))) (by simp only [wpE, wpEs, wpB, rg, rs, rsAll, TruthP, BinP, AugP, CmpP, SubP, BiP, lstOf, datas, cval0, cval1, cval2, cval3, cval4, cval5, cval6, cval7, cval8, cval9, cval10, Option.map, baa, bao, boa, boo, eqv_int, sh_int, and_self, true_and, and_true]; congr 2; omega) ?_
            simp only [rs]
            refine s_if False ?_ (fun h => h.elim) (fun _ => ?_)
            · simp only [wpE, wpEs, wpB, rg, rs, rsAll, TruthP, BinP, AugP, CmpP, SubP, BiP, lstOf, datas, cval0, cval1, cval2, cval3, cval4, cval5, cval6, cval7, cval8, cval9, cval10, Option.map, baa, bao, boa, boo, eqv_int, sh_int, and_self, true_and, and_true]
              have : ¬ exp - e' - (b : Int) > mx := by omega
              simp [this]
            refine s_asg (.d (.int (man * 2 ^ (exp - e').toNat + xm))) ?_ ?_
            · simp only [wpE, wpEs, wpB, rg, rs, rsAll, TruthP, BinP, AugP, CmpP, SubP, BiP, lstOf, datas, cval0, cval1, cval2, cval3, cval4, cval5, cval6, cval7, cval8, cval9, cval10, Option.map, baa, bao, boa, boo, eqv_int, sh_int, and_self, true_and, and_true]
              exact ⟨by omega, smal_of hman (by decide), by omega⟩
            simp only [rs]
            refine s_asg (.d (.int e')) (by simp only [wpE, wpEs, wpB, rg, rs, rsAll, TruthP, BinP, AugP, CmpP, SubP, BiP, lstOf, datas, cval0, cval1, cval2, cval3, cval4, cval5, cval6, cval7, cval8, cval9, cval10, Option.map, baa, bao, boa, boo, eqv_int, sh_int, and_self, true_and, and_true]) ?_
            simp only [rs]
            refine s_nil (s_nil (s_nil (s_nil ⟨rfl, _, e', _, _, _, _, _, _, rfl, by omega, by omega, ?_, hb1⟩)))
            rw [Int.add_mul, Int.mul_assoc, ← Int.pow_add]
            have h1 : (exp - e').toNat + (e' + 20).toNat = (exp + 20).toNat := by omega
            have h2 : (e' + 20).toNat = kk := by omega
            rw [h1, hm, h2, hxv]
    · rintro ρ' σ' ⟨rfl, man, exp, x8, x9, x10, x11, x12, x13, rfl, he1, he2, hm, hb0⟩
      rw [List.length_map, List.take_length] at hm hb0
      rw [← hS] at hm hb0
      exact ⟨rfl, man, exp, _, _, _, _, _, _, rfl, he1, he2, hm, hb0⟩
  · rintro ρ₁ σ₁ ⟨rfl, man, exp, x8, x9, x10, x11, x12, x13, rfl, he1, he2, hm, hb0⟩
    refine s_if False (by simp only [wpE, wpEs, wpB, rg, rs, rsAll, TruthP, BinP, AugP, CmpP, SubP, BiP, lstOf, datas, cval0, cval1, cval2, cval3, cval4, cval5, cval6, cval7, cval8, cval9, cval10, Option.map, baa, bao, boa, boo, eqv_int, sh_int, and_self, true_and, and_true]; rfl) (fun h => h.elim) (fun _ => s_nil (s_ret ?_))
    simp only [wpE, wpEs, wpB, rg, rs, rsAll, TruthP, BinP, AugP, CmpP, SubP, BiP, lstOf, datas, cval0, cval1, cval2, cval3, cval4, cval5, cval6, cval7, cval8, cval9, cval10, Option.map, baa, bao, boa, boo, eqv_int, sh_int, and_self, true_and, and_true]
    refine from_man_exp4_ok B F hw ?_ ?_
    · refine bl_le_iff.mpr (Nat.lt_of_le_of_lt (m := S.natAbs) ?_ ?_)
      · rw [← hm, natAbs_pow]
        exact Nat.le_mul_of_pos_right _ (p2pos _)
      · have h1 : vs.length * 2 ^ 80 ≤ 100 * 2 ^ 80 := Nat.mul_le_mul_right _ hlen
        have h2 : (100 : Nat) * 2 ^ 80 < 2 ^ 2000 := by decide +kernel
        omega
    · rw [← hm, TW_shift, RNI_shift] at hq
      have : -20 + ((exp + 20).toNat : Int) = exp := by omega
      rw [this] at hq
      exact hq
theorem sum3_ok (B : Bs hb mg mb fa) (F : Fns hb fa) {n : Nat} {vs : List Int} {P : Nat} {way : Str} (hvs : ∀ v ∈ vs, v.natAbs < 2 ^ 80) (hlen : vs.length ≤ 100) (hw : Way way) (hP : P = 0 ∨ 45 ≤ P) (hP2 : P ≤ 1000)
    {σ : St} {Q : V → St → Prop} (hq : Q (.d (if P = 0 then TW vs.sum (-20) else RNI vs.sum (-20) P way)) σ) : CallOK prog w hb fa (n + 5) 15 [.d (.list (vs.map fun v => TW v (-20))), .d (.int P), .d (.str way)] σ Q :=
  call_ok B F.f15 rfl (sum_core B F (ab := false) hvs hlen hw hP hP2 (by simp) hq)
theorem sum4_ok (B : Bs hb mg mb fa) (F : Fns hb fa) {n : Nat} {vs : List Int} {P : Nat} {way : Str} (hvs : ∀ v ∈ vs, v.natAbs < 2 ^ 80) (hlen : vs.length ≤ 100) (hw : Way way) (hP : P = 0 ∨ 45 ≤ P) (hP2 : P ≤ 1000)
    {σ : St} {Q : V → St → Prop} {S : Int} (hS : S = (vs.map fun v => (v.natAbs : Int)).sum) (hq : Q (.d (if P = 0 then TW S (-20) else RNI S (-20) P way)) σ) : CallOK prog w hb fa (n + 5) 15 [.d (.list (vs.map fun v => TW v (-20))), .d (.int P), .d (.str way), .d (.bool true)] σ Q :=
  call_ok B F.f15b rfl (sum_core B F (ab := true) hvs hlen hw hP hP2 (by simpa using hS) hq)
end

-- M30
theorem fmod_mul (a b : Int) {c : Int} (hc : 0 < c) : (a * c).fmod (b * c) = a.fmod b * c := by
  by_cases hb : 0 ≤ b
  · rw [Int.fmod_eq_emod_of_nonneg _ (Int.mul_nonneg hb (Int.le_of_lt hc)), Int.fmod_eq_emod_of_nonneg _ hb, Int.mul_comm a c, Int.mul_comm b c, Int.mul_emod_mul_of_pos _ _ hc, Int.mul_comm]
  · have h := Int.neg_fmod_neg (-a * c) (-b * c)
    rw [Int.neg_mul, Int.neg_mul, Int.neg_neg, Int.neg_neg] at h
    have hb' : 0 ≤ -b := by omega
    have e1 : (-(a * c)).fmod (-(b * c)) = (-a).fmod (-b) * c := by
      rw [← Int.neg_mul, ← Int.neg_mul, Int.fmod_eq_emod_of_nonneg _ (Int.mul_nonneg hb' (Int.le_of_lt hc)), Int.fmod_eq_emod_of_nonneg _ hb', Int.mul_comm (-a) c, Int.mul_comm (-b) c, Int.mul_emod_mul_of_pos _ _ hc, Int.mul_comm]
    rw [h, e1, Int.neg_fmod_neg, Int.neg_mul, Int.neg_neg]
theorem fmod_abs (a b : Int) (hb : b ≠ 0) : (a.fmod b).natAbs < b.natAbs := by
  by_cases h : 0 < b
  · have h1 := Int.fmod_nonneg_of_pos a h
    have h2 := Int.fmod_lt_of_pos a h
    omega
  · have h' : 0 < -b := by omega
    have h1 := Int.fmod_nonneg_of_pos (-a) h'
    have h2 := Int.fmod_lt_of_pos (-a) h'
    rw [Int.neg_fmod_neg] at h1 h2
    omega
theorem fmod_same {v u : Int} (h : v.natAbs < u.natAbs) (hs : (0 ≤ v ∧ 0 < u) ∨ (v ≤ 0 ∧ u < 0)) : v.fmod u = v := by
  rcases hs with ⟨h1, h2⟩ | ⟨h1, h2⟩
  · exact Int.fmod_eq_of_lt h1 (by omega)
  · have := Int.fmod_eq_of_lt (a := -v) (b := -u) (by omega) (by omega)
    rw [Int.neg_fmod_neg] at this
    omega
theorem num_form {p : Int × Int} (h : okp p) : ∃ (s : Int) (m : Nat) (e : Int), TW p.1 p.2 = .tuple [.int s, .int m, .int e, .int (bl m)] ∧ (s = 0 ∨ s = 1) ∧ -20 ≤ e ∧ e ≤ 60 ∧ m < 2 ^ 40 ∧ sv s m * 2 ^ (e + 20).toNat = fx p ∧
    (m = 0 → e = 0 ∧ s = 0 ∧ p.1 = 0) ∧ (m ≠ 0 → m % 2 = 1 ∧ p.1 ≠ 0 ∧ TW p.1 p.2 = mk s m e ∧ s = sg p.1) := by
  obtain ⟨h1, h2, h3⟩ := h
  by_cases hp : p.1 = 0
  · refine ⟨0, 0, 0, ?_, .inl rfl, by omega, by omega, by decide, ?_, fun _ => ⟨rfl, rfl, hp⟩, fun h => absurd rfl h⟩
    · rw [hp]; exact cn_zero _ _
    · unfold fx; rw [hp]; simp [sv]
  · obtain ⟨o, k, ho, ek, ecn⟩ := cn_mk (s := sg p.1) (m := p.1.natAbs) (e := p.2) (by omega)
    have hk : k < 40 := by
      refine pow_lt_imp (Nat.lt_of_le_of_lt ?_ h1)
      rw [ek]; have := Nat.mul_le_mul_right (2 ^ k) (show 1 ≤ o by omega); omega
    have ho40 : o < 2 ^ 40 := by
      refine Nat.lt_of_le_of_lt ?_ h1
      rw [ek]; exact Nat.le_mul_of_pos_right _ (p2pos k)
    refine ⟨sg p.1, o, p.2 + k, ecn, sg_01 _, by omega, by omega, ho40, ?_, fun h => absurd h (by omega), fun _ => ⟨ho, hp, ecn, rfl⟩⟩
    unfold fx
    have e1 : (p.2 + k + 20).toNat = k + (p.2 + 20).toNat := by omega
    have e2 : sv (sg p.1) o * 2 ^ k = p.1 := by rw [← kbt_cast, ← sv_mul, ← ek, sv_sg]
    rw [e1, Int.pow_add, ← Int.mul_assoc, e2]

section
variable {prog : Program} {w : World} {hb : Heap} {mg mb : Str → Option Value} {fa : Nat → Addr}
theorem neg1_pow {s : Int} (hs : s = 0 ∨ s = 1) (m : Nat) : (-1 : Int) ^ s.toNat * (m : Int) = sv s m := by
  rcases hs with rfl | rfl
  · show (-1 : Int) ^ 0 * (m : Int) = (m : Int)
    rw [Int.pow_zero, Int.one_mul]
  · show (-1 : Int) ^ 1 * (m : Int) = -(m : Int)
    rw [show (-1 : Int) ^ 1 = -1 by decide, Int.neg_mul, Int.one_mul]
theorem sg_sv' {s : Int} {m : Nat} (hs : s = 0 ∨ s = 1) (h0 : m = 0 → s = 0) : sg (sv s m) = s := by
  by_cases hm : m = 0
  · rw [h0 hm, hm]; rfl
  · exact sg_sv hs hm

theorem mod_ok (B : Bs hb mg mb fa) (F : Fns hb fa) {n : Nat} {p q : Int × Int} {P : Nat} {way : Str} (hp : okp p) (hqk : okp q) (hq0 : fx q ≠ 0) (hw : Way way) (hP : 45 ≤ P)
    {σ : St} {Q : V → St → Prop} (hq : Q (.d (RNI ((fx p).fmod (fx q)) (-20) P way)) σ) : CallOK prog w hb fa (n + 4) 18 [.d (TW p.1 p.2), .d (TW q.1 q.2), .d (.int P), .d (.str way)] σ Q := by
  refine call_ok B F.f18 rfl ?_
  simp only [nm_mpf_mod, startR, List.map_cons, List.map_nil, List.length_cons, List.length_nil, List.append_nil, List.cons_append, List.nil_append, List.replicate]
  obtain ⟨s1, m1, e1, hT1, hs1, l1, u1, b1, v1, z1, n1⟩ := num_form hp
  obtain ⟨s2, m2, e2, hT2, hs2, l2, u2, b2, v2, z2, n2⟩ := num_form hqk
  have hm2 : m2 ≠ 0 := by
    intro h
    apply hq0
    have := (z2 h).2.2
    unfold fx; rw [this, Int.zero_mul]
  have hbl1 : bl m1 ≤ 40 := bl_le_iff.mpr b1
  have hbl2 : bl m2 ≤ 40 := bl_le_iff.mpr b2
  generalize fx p = v at *
  generalize fx q = u at *
  refine s_unp [.int s1, .int m1, .int e1, .int (bl m1)] (by simp only [wpE, wpEs, wpB, rg, rs, rsAll, TruthP, BinP, AugP, CmpP, SubP, BiP, lstOf, datas, cval0, cval1, cval2, cval3, cval4, cval5, cval6, cval7, cval8, cval9, cval10, Option.map, baa, bao, boa, boo, eqv_int, sh_int, and_self, true_and, and_true]; rw [hT1]) rfl ?_
  simp only [rsAll, rs]
  refine s_unp [.int s2, .int m2, .int e2, .int (bl m2)] (by simp only [wpE, wpEs, wpB, rg, rs, rsAll, TruthP, BinP, AugP, CmpP, SubP, BiP, lstOf, datas, cval0, cval1, cval2, cval3, cval4, cval5, cval6, cval7, cval8, cval9, cval10, Option.map, baa, bao, boa, boo, eqv_int, sh_int, and_self, true_and, and_true]; rw [hT2]) rfl ?_
  simp only [rsAll, rs]
  refine s_if False ?_ (fun h => h.elim) (fun _ => s_nil ?_)
  · simp only [wpE, wpEs, wpB, rg, rs, rsAll, TruthP, BinP, AugP, CmpP, SubP, BiP, lstOf, datas, cval0, cval1, cval2, cval3, cval4, cval5, cval6, cval7, cval8, cval9, cval10, Option.map, baa, bao, boa, boo, eqv_int, sh_int, and_self, true_and, and_true]
    by_cases h : m1 = 0
    · rw [(z1 h).1, h]; simp [hm2]
    · simp [h, hm2]
  have hc1 : (0 : Int) < 2 ^ (e1 + 20).toNat := kbt_pos _
  have hc2 : (0 : Int) < 2 ^ (e2 + 20).toNat := kbt_pos _
  refine s_if (s1 = s2 ∧ e2 > e1 + bl m1) ?_ (fun h => s_ret ?_) (fun h => s_nil ?_)
  · simp only [wpE, wpEs, wpB, rg, rs, rsAll, TruthP, BinP, AugP, CmpP, SubP, BiP, lstOf, datas, cval0, cval1, cval2, cval3, cval4, cval5, cval6, cval7, cval8, cval9, cval10, Option.map, baa, bao, boa, boo, eqv_int, sh_int, and_self, true_and, and_true]
    by_cases h : s1 = s2 <;> simp [h]
  · have hvu : v.natAbs < u.natAbs := by
      rw [← v1, ← v2, natAbs_pow, natAbs_pow, sv_abs, sv_abs]
      have a1 := bl_lt m1
      have a2 : m1 * 2 ^ (e1 + 20).toNat < 2 ^ bl m1 * 2 ^ (e1 + 20).toNat := Nat.mul_lt_mul_of_pos_right a1 (p2pos _)
      rw [← Nat.pow_add] at a2
      have a3 : 2 ^ (bl m1 + (e1 + 20).toNat) ≤ 2 ^ (e2 + 20).toNat := pow_le (by omega)
      have a4 := Nat.mul_le_mul_right (2 ^ (e2 + 20).toNat) (show 1 ≤ m2 by omega)
      omega
    have hsgn : (0 ≤ v ∧ 0 < u) ∨ (v ≤ 0 ∧ u < 0) := by
      have a0 : s1 = s2 := h.1
      rw [← v1, ← v2]
      rcases hs2 with h2 | h2
      · left
        rw [a0, h2]
        exact ⟨Int.mul_nonneg (by show (0 : Int) ≤ (m1 : Int); omega) (Int.le_of_lt hc1), Int.mul_pos (by show (0 : Int) < (m2 : Int); omega) hc2⟩
      · right
        rw [a0, h2]
        refine ⟨?_, ?_⟩
        · show -(m1 : Int) * _ ≤ 0
          rw [Int.neg_mul]
          have := Int.mul_nonneg (show (0 : Int) ≤ (m1 : Int) by omega) (Int.le_of_lt hc1)
          omega
        · show -(m2 : Int) * _ < 0
          rw [Int.neg_mul]
          have := Int.mul_pos (show (0 : Int) < (m2 : Int) by omega) hc2
          omega
    rw [fmod_same hvu hsgn, ← v1, RNI_shift, show -20 + ((e1 + 20).toNat : Int) = e1 by omega] at hq
    unfold RNI at hq
    rw [sv_abs, sg_sv' hs1 (fun h => (z1 h).2.1), RN_small (by omega)] at hq
    simp only [wpE, wpEs, wpB, rg, rs, rsAll, TruthP, BinP, AugP, CmpP, SubP, BiP, lstOf, datas, cval0, cval1, cval2, cval3, cval4, cval5, cval6, cval7, cval8, cval9, cval10, Option.map, baa, bao, boa, boo, eqv_int, sh_int, and_self, true_and, and_true]
    have : TW p.1 p.2 = cn s1 m1 e1 := by
      by_cases h : m1 = 0
      · rw [h, cn_zero, (z1 h).2.2]; exact cn_zero _ _
      · rw [cn_odd (n1 h).1]; exact (n1 h).2.2.1
    rw [this]; exact hq
  refine s_if (m2 = 1 ∧ e1 > e2 + bl m2) ?_ (fun h => s_ret ?_) (fun h => s_nil ?_)
  · simp only [wpE, wpEs, wpB, rg, rs, rsAll, TruthP, BinP, AugP, CmpP, SubP, BiP, lstOf, datas, cval0, cval1, cval2, cval3, cval4, cval5, cval6, cval7, cval8, cval9, cval10, Option.map, baa, bao, boa, boo, eqv_int, sh_int, and_self, true_and, and_true]
    by_cases h : m2 = 1
    · simp [h]
    · have : ¬ (m2 : Int) = 1 := by omega
      simp [h, this]
  · have h0 : v.fmod u = 0 := by
      rw [← v1, ← v2, h.1]
      have e3 : (e1 + 20).toNat = (e1 - e2).toNat + (e2 + 20).toNat := by omega
      rw [e3, Int.pow_add, ← Int.mul_assoc, fmod_mul _ _ (kbt_pos _)]
      rcases hs2 with h2 | h2
      · rw [h2, show sv 0 1 = 1 from rfl, Int.fmod_one, Int.zero_mul]
      · rw [h2, show sv 1 1 = -1 from rfl]
        have := Int.neg_fmod_neg (-(sv s1 m1 * 2 ^ (e1 - e2).toNat)) 1
        rw [Int.neg_neg] at this
        rw [this, Int.fmod_one]; simp
    rw [h0] at hq
    rw [show RNI 0 (-20) P way = zt from RN_zero] at hq
    simp only [wpE, wpEs, wpB, rg, rs, rsAll, TruthP, BinP, AugP, CmpP, SubP, BiP, lstOf, datas, cval0, cval1, cval2, cval3, cval4, cval5, cval6, cval7, cval8, cval9, cval10, Option.map, baa, bao, boa, boo, eqv_int, sh_int, and_self, true_and, and_true]
    exact hq
  refine s_asg (.d (.int (min e1 e2))) ?_ ?_
  · simp only [wpE, wpEs, wpB, rg, rs, rsAll, TruthP, BinP, AugP, CmpP, SubP, BiP, lstOf, datas, cval0, cval1, cval2, cval3, cval4, cval5, cval6, cval7, cval8, cval9, cval10, Option.map, baa, bao, boa, boo, eqv_int, sh_int, and_self, true_and, and_true]
    congr 2
    split <;> omega
  simp only [rs]
  have hS1 : Smal (-1) := smal_of (k := 1) (by decide) (by decide)
  refine s_asg (.d (.int (sv s1 m1))) ?_ ?_
  · simp only [wpE, wpEs, wpB, rg, rs, rsAll, TruthP, BinP, AugP, CmpP, SubP, BiP, lstOf, datas, cval0, cval1, cval2, cval3, cval4, cval5, cval6, cval7, cval8, cval9, cval10, Option.map, baa, bao, boa, boo, eqv_int, sh_int, and_self, true_and, and_true]
    refine ⟨⟨by omega, hS1, by omega⟩, ⟨?_, smal_nat b1 (by decide)⟩, ?_⟩
    · rcases hs1 with h | h <;> rw [h]
      · exact smal_of (k := 1) (by decide) (by decide)
      · exact smal_of (k := 1) (by decide) (by decide)
    · rw [neg1_pow hs1]
  simp only [rs]
  refine s_asg (.d (.int (sv s2 m2))) ?_ ?_
  · simp only [wpE, wpEs, wpB, rg, rs, rsAll, TruthP, BinP, AugP, CmpP, SubP, BiP, lstOf, datas, cval0, cval1, cval2, cval3, cval4, cval5, cval6, cval7, cval8, cval9, cval10, Option.map, baa, bao, boa, boo, eqv_int, sh_int, and_self, true_and, and_true]
    refine ⟨⟨by omega, hS1, by omega⟩, ⟨?_, smal_nat b2 (by decide)⟩, ?_⟩
    · rcases hs2 with h | h <;> rw [h]
      · exact smal_of (k := 1) (by decide) (by decide)
      · exact smal_of (k := 1) (by decide) (by decide)
    · rw [neg1_pow hs2]
  simp only [rs]
  generalize hb' : min e1 e2 = bs at *
  have hX : sv s1 m1 * 2 ^ (e1 - bs).toNat * 2 ^ (bs + 20).toNat = v := by
    rw [Int.mul_assoc, ← Int.pow_add, ← v1]; congr 2; omega
  have hY : sv s2 m2 * 2 ^ (e2 - bs).toNat * 2 ^ (bs + 20).toNat = u := by
    rw [Int.mul_assoc, ← Int.pow_add, ← v2]; congr 2; omega
  have hYabs : (sv s2 m2 * 2 ^ (e2 - bs).toNat).natAbs < 2 ^ 200 := by
    rw [natAbs_pow, sv_abs]
    have a1 : 2 ^ (e2 - bs).toNat ≤ 2 ^ 80 := pow_le (by omega)
    exact Nat.lt_of_le_of_lt (Nat.mul_le_mul_left _ a1) (Nat.lt_of_lt_of_le (Nat.mul_lt_mul_of_pos_right b2 (p2pos 80)) (by decide +kernel))
  generalize hXX : sv s1 m1 * 2 ^ (e1 - bs).toNat = X at *
  generalize hYY : sv s2 m2 * 2 ^ (e2 - bs).toNat = Y at *
  have hY0 : Y ≠ 0 := by
    rintro rfl
    rw [Int.zero_mul] at hY; exact hq0 hY.symm
  have hM := fmod_abs X Y hY0
  rw [← hX, ← hY, fmod_mul _ _ (kbt_pos _), RNI_shift, show -20 + ((bs + 20).toNat : Int) = bs by omega] at hq
  refine s_asg (.d (.int (X.fmod Y))) ?_ ?_
  · simp only [wpE, wpEs, wpB, rg, rs, rsAll, TruthP, BinP, AugP, CmpP, SubP, BiP, lstOf, datas, cval0, cval1, cval2, cval3, cval4, cval5, cval6, cval7, cval8, cval9, cval10, Option.map, baa, bao, boa, boo, eqv_int, sh_int, and_self, true_and, and_true]
    refine ⟨⟨by omega, smal_of (k := 40) (by rw [sv_abs]; exact b1) (by decide), by omega⟩, ⟨by omega, smal_of (k := 40) (by rw [sv_abs]; exact b2) (by decide), by omega⟩, ?_, ?_⟩
    · rw [hYY]; exact hY0
    · rw [hXX, hYY]
  simp only [rs]
  generalize X.fmod Y = M at *
  refine s_join [some (.d (TW p.1 p.2)), some (.d (TW q.1 q.2)), some (.d (.int P)), some (.d (.str way)), some (.d (.int s1)), some (.d (.int (sv s1 m1))), some (.d (.int e1)), some (.d (.int (bl m1))), some (.d (.int s2)), some (.d (.int (sv s2 m2))), some (.d (.int e2)), some (.d (.int (bl m2))), some (.d (.int bs)), some (.d (.int (M.natAbs : Int))), some (.d (.int (sg M)))]
    (s_one (s_if (M ≥ 0) (by simp only [wpE, wpEs, wpB, rg, rs, rsAll, TruthP, BinP, AugP, CmpP, SubP, BiP, lstOf, datas, cval0, cval1, cval2, cval3, cval4, cval5, cval6, cval7, cval8, cval9, cval10, Option.map, baa, bao, boa, boo, eqv_int, sh_int, and_self, true_and, and_true]) (fun h => ?_) (fun h => ?_))) ?_
  · refine s_asg (.d (.int 0)) (by simp only [wpE, wpEs, wpB, rg, rs, rsAll, TruthP, BinP, AugP, CmpP, SubP, BiP, lstOf, datas, cval0, cval1, cval2, cval3, cval4, cval5, cval6, cval7, cval8, cval9, cval10, Option.map, baa, bao, boa, boo, eqv_int, sh_int, and_self, true_and, and_true]) ?_
    simp only [rs]
    refine s_nil (s_nil ⟨rfl, ?_⟩)
    unfold sg
    rw [if_neg (by omega), show (M.natAbs : Int) = M by omega]
  · refine s_asg (.d (.int (M.natAbs : Int))) (by simp only [wpE, wpEs, wpB, rg, rs, rsAll, TruthP, BinP, AugP, CmpP, SubP, BiP, lstOf, datas, cval0, cval1, cval2, cval3, cval4, cval5, cval6, cval7, cval8, cval9, cval10, Option.map, baa, bao, boa, boo, eqv_int, sh_int, and_self, true_and, and_true]; congr 2; omega) ?_
    simp only [rs]
    refine s_asg (.d (.int 1)) (by simp only [wpE, wpEs, wpB, rg, rs, rsAll, TruthP, BinP, AugP, CmpP, SubP, BiP, lstOf, datas, cval0, cval1, cval2, cval3, cval4, cval5, cval6, cval7, cval8, cval9, cval10, Option.map, baa, bao, boa, boo, eqv_int, sh_int, and_self, true_and, and_true]) ?_
    simp only [rs]
    refine s_nil (s_nil ⟨rfl, ?_⟩)
    unfold sg
    rw [if_pos (by omega)]
  refine s_ret ?_
  simp only [wpE, wpEs, wpB, rg, rs, rsAll, TruthP, BinP, AugP, CmpP, SubP, BiP, lstOf, datas, cval0, cval1, cval2, cval3, cval4, cval5, cval6, cval7, cval8, cval9, cval10, Option.map, baa, bao, boa, boo, eqv_int, sh_int, and_self, true_and, and_true]
  rw [intBits_nat]
  exact normalize_ok B F rfl rfl rfl (sg_01 M) hw (by omega) (bl_le_iff.mpr (Nat.lt_trans hM (Nat.lt_of_lt_of_le hYabs (pow_le (by decide))))) hq
end

-- M31
def isOut (s : Int) (way : Str) : Bool := decide (way = wu) || (decide (way = wc) && decide (s = 0)) || (decide (way = wf) && decide (s = 1))
def dueF (s es : Int) (m g : Nat) (way : Str) : Nat :=
  if way = wn then m * 2 ^ (g + 1) else if (decide (es = s) && isOut s way) = true then m * 2 ^ (g + 1) + 2
  else if (!decide (es = s) && !isOut s way) = true then m * 2 ^ (g + 1) - (if m = 1 then 1 else 2) else m * 2 ^ (g + 1)
theorem rup_out {s : Int} {way : Str} (h : way ≠ wn) (q D : Nat) : rup s way q 1 D = isOut s way := by
  unfold rup isOut
  rw [if_neg h]; simp
theorem even_own (m g : Nat) : m * 2 ^ (g + 1) = m * 2 ^ g * 2 := by rw [Nat.pow_succ, Nat.mul_assoc]
theorem RN_up {s e : Int} {m g : Nat} {way : Str} (hm : m ≠ 0) (hn : way ≠ wn) (ho : isOut s way = true) : RN s (m * 2 ^ (g + 1) + 1) e (bl m + g) way = cn s (m * 2 ^ (g + 1) + 2) e := by
  have hb := bl_mul (g + 1) hm
  have h1 := bl_le (m := m * 2 ^ (g + 1)) (Nat.mul_ne_zero hm (Nat.ne_of_gt (p2pos _)))
  have h2 := bl_lt (m * 2 ^ (g + 1))
  rw [hb] at h1 h2
  have e0 : bl m + (g + 1) - 1 = bl m + g := by omega
  have e1 : bl m + (g + 1) = bl m + g + 1 := by omega
  rw [e0] at h1
  rw [e1] at h2
  have hev := even_own m g
  have hb2 : bl (m * 2 ^ (g + 1) + 1) = bl m + g + 1 := by
    refine bl_unique (by omega) ?_
    have : 2 ^ (bl m + g + 1) = 2 ^ (bl m + g) * 2 := Nat.pow_succ ..
    omega
  unfold RN
  rw [hb2, show bl m + g + 1 - (bl m + g) = 1 by omega]
  unfold rd
  rw [show (m * 2 ^ (g + 1) + 1) % 2 ^ 1 = 1 by omega, rup_out hn, ho, if_pos rfl]
  rw [show m * 2 ^ (g + 1) + 2 = ((m * 2 ^ (g + 1) + 1) / 2 ^ 1 + 1) * 2 by omega, cn_two]
  rfl
theorem RN_down {s e : Int} {m g : Nat} {way : Str} (hm : m % 2 = 1) (hn : way ≠ wn) (ho : isOut s way = false) : RN s (m * 2 ^ (g + 1) - 1) e (bl m + g) way = cn s (m * 2 ^ (g + 1) - (if m = 1 then 1 else 2)) e := by
  by_cases h1 : m = 1
  · subst h1
    rw [if_pos rfl, Nat.one_mul]
    refine RN_small (bl_le_iff.mpr ?_)
    have e1 : bl 1 + g = g + 1 := by show 1 + g = g + 1; omega
    rw [e1]
    have := p2pos (g + 1); omega
  · rw [if_neg h1]
    have hb := bl_mul (g + 1) (m := m) (by omega)
    have h3 := bl_le (m := m) (by omega)
    have h2 := bl_lt (m * 2 ^ (g + 1))
    rw [hb] at h2
    have e1 : bl m + (g + 1) = bl m + g + 1 := by omega
    rw [e1] at h2
    have hev := even_own m g
    have hbm : 1 < bl m := Nat.lt_of_not_le fun h => by have := bl_le_iff.mp h; omega
    have hne : 2 ^ (bl m - 1) + 1 ≤ m := by
      have : 2 ^ (bl m - 1) ≠ m := by
        intro h
        have : 2 ^ (bl m - 1) = 2 ^ (bl m - 2) * 2 := by rw [← Nat.pow_succ]; congr 1; omega
        omega
      omega
    have h4 : 2 ^ (bl m + g) + 2 ≤ m * 2 ^ (g + 1) := by
      have a1 := Nat.mul_le_mul_right (2 ^ (g + 1)) hne
      rw [Nat.add_mul, ← Nat.pow_add, Nat.one_mul, show bl m - 1 + (g + 1) = bl m + g by omega] at a1
      have a2 : 2 ^ (g + 1) = 2 ^ g * 2 := Nat.pow_succ ..
      have := p2pos g
      omega
    have hb2 : bl (m * 2 ^ (g + 1) - 1) = bl m + g + 1 := bl_unique (by omega) (by omega)
    unfold RN
    rw [hb2, show bl m + g + 1 - (bl m + g) = 1 by omega]
    unfold rd
    rw [show (m * 2 ^ (g + 1) - 1) % 2 ^ 1 = 1 by omega, rup_out hn, ho, if_neg (by decide)]
    rw [show m * 2 ^ (g + 1) - 2 = ((m * 2 ^ (g + 1) - 1) / 2 ^ 1 + 0) * 2 by omega, cn_two]
    rfl
theorem strsOf2 (a b : Str) : strsOf [.str a, .str b] = some [a, b] := rfl
theorem any_two (a b x : Str) : [a, b].any (· == x) = (decide (x = a) || decide (x = b)) := by
  have h : ∀ a : Str, (a == x) = decide (x = a) := fun a => by
    by_cases e : x = a
    · subst e; simp
    · rw [decide_eq_false e]; exact beq_eq_false_iff_ne.mpr fun h => e h.symm
  show (a == x || (b == x || false)) = _
  rw [h, h, Bool.or_false]
theorem away_eq {s es : Int} (hs : s = 0 ∨ s = 1) (he : es = 0 ∨ es = 1) {way : Str} (hw : Way way) (hn : way ≠ wn) :
    Builtin.bitXor (b2 (if s = 1 then (decide (way = wd) || decide (way = wc)) else (decide (way = wu) || decide (way = wc)))) es = if decide (es = s) = isOut s way then 1 else 0 := by
  have x00 : Builtin.bitXor 0 0 = 0 := by decide +kernel
  have x01 : Builtin.bitXor 0 1 = 1 := by decide +kernel
  have x10 : Builtin.bitXor 1 0 = 1 := by decide +kernel
  have x11 : Builtin.bitXor 1 1 = 0 := by decide +kernel
  rcases hw with rfl | rfl | rfl | rfl | rfl
  · exact absurd rfl hn
  all_goals
    rcases hs with rfl | rfl <;> rcases he with rfl | rfl <;>
      simp [b2, isOut, x00, x01, x10, x11, wne5, wne6, wne7, wne8, wne9, wne10, wne11, wne12, wne13, wne10.symm, wne9.symm, wne8.symm, wne13.symm, wne7.symm, wne5.symm, wne6.symm]

section
variable {prog : Program} {w : World} {hb : Heap} {mg mb : Str → Option Value} {fa : Nat → Addr}
theorem perturb_ok (B : Bs hb mg mb fa) (F : Fns hb fa) {n : Nat} {s es e : Int} {m g : Nat} {way : Str} (hs : s = 0 ∨ s = 1) (hes : es = 0 ∨ es = 1) (hm : m % 2 = 1) (hbm : bl m ≤ 40) (hg : g ≤ 19) (hw : Way way)
    {σ : St} {Q : V → St → Prop} (hq : Q (.d (cn s (dueF s es m g way) (e - (g + 1 : Nat)))) σ) : CallOK prog w hb fa (n + 5) 19 [.d (mk s m e), .d (.int es), .d (.int ((bl m + g : Nat) : Int)), .d (.str way)] σ Q := by
  refine call_ok B F.f19 rfl ?_
  simp only [nm_mpf_perturb, startR, List.map_cons, List.map_nil, List.length_cons, List.length_nil, List.append_nil, List.cons_append, List.nil_append, List.replicate]
  have hm0 : m ≠ 0 := by omega
  have hown : ∀ (_ : dueF s es m g way = m * 2 ^ (g + 1)), cn s (dueF s es m g way) (e - (g + 1 : Nat)) = RN s m e (bl m + g) way := by
    intro h
    rw [h, RN_small (by omega), cn_shift]
    congr 1; omega
  have hP1 : 1 ≤ bl m + g := by have := bl_pos hm0; omega
  refine s_if (way = wn) ?_ (fun h => s_ret ?_) (fun h => s_nil ?_)
  · simp only [wpE, wpEs, wpB, rg, rs, rsAll, TruthP, BinP, AugP, CmpP, SubP, BiP, lstOf, datas, cval0, cval1, cval2, cval3, cval4, cval5, cval6, cval7, cval8, cval9, cval10, Option.map, baa, bao, boa, boo, eqv_int, sh_int, and_self, true_and, and_true]
    simp only [hw.sh, Wn.sh, eqv_str, and_self, true_and, and_true]
  · rw [hown (by unfold dueF; rw [if_pos h])] at hq
    simp only [wpE, wpEs, wpB, rg, rs, rsAll, TruthP, BinP, AugP, CmpP, SubP, BiP, lstOf, datas, cval0, cval1, cval2, cval3, cval4, cval5, cval6, cval7, cval8, cval9, cval10, Option.map, baa, bao, boa, boo, eqv_int, sh_int, and_self, true_and, and_true]
    exact mpf_pos_ok B F hm0 hs hw hP1 (by omega) hq
  have haway := away_eq hs hes hw h
  refine s_unp [.int s, .int m, .int e, .int (bl m)] (by simp only [wpE, wpEs, wpB, rg, rs, rsAll, TruthP, BinP, AugP, CmpP, SubP, BiP, lstOf, datas, cval0, cval1, cval2, cval3, cval4, cval5, cval6, cval7, cval8, cval9, cval10, Option.map, baa, bao, boa, boo, eqv_int, sh_int, and_self, true_and, and_true]; rfl) rfl ?_
  simp only [rsAll, rs]
  refine s_asg (.d (mk es 1 (e - (g + 1 : Nat)))) ?_ ?_
  · simp only [wpE, wpEs, wpB, rg, rs, rsAll, TruthP, BinP, AugP, CmpP, SubP, BiP, lstOf, datas, cval0, cval1, cval2, cval3, cval4, cval5, cval6, cval7, cval8, cval9, cval10, Option.map, baa, bao, boa, boo, eqv_int, sh_int, and_self, true_and, and_true]
    refine ⟨_, rfl, by simp, ?_⟩
    have : e + (bl m : Int) - ((bl m + g : Nat) : Int) - 1 = e - ((g + 1 : Nat) : Int) := by omega
    rw [this]; rfl
  simp only [rs]
  refine s_join [some (.d (mk s m e)), some (.d (.int es)), some (.d (.int ((bl m + g : Nat) : Int))), some (.d (.str way)), some (.d (.int s)), some (.d (.int m)), some (.d (.int e)), some (.d (.int (bl m))), some (.d (mk es 1 (e - (g + 1 : Nat)))), some (.d (.int (if decide (es = s) = isOut s way then 1 else 0)))]
    (s_one (s_if (s = 1) ?_ (fun h1 => ?_) (fun h1 => ?_))) ?_
  · simp only [wpE, wpEs, wpB, rg, rs, rsAll, TruthP, BinP, AugP, CmpP, SubP, BiP, lstOf, datas, cval0, cval1, cval2, cval3, cval4, cval5, cval6, cval7, cval8, cval9, cval10, Option.map, baa, bao, boa, boo, eqv_int, sh_int, and_self, true_and, and_true]
    rw [b_nz, decide_eq_decide]; omega
  · rw [if_pos h1] at haway
    refine s_asg (.d (.int (if decide (es = s) = isOut s way then 1 else 0))) ?_ ?_
    · simp only [wpE, wpEs, wpB, rg, rs, rsAll, TruthP, BinP, AugP, CmpP, SubP, BiP, lstOf, datas, cval0, cval1, cval2, cval3, cval4, cval5, cval6, cval7, cval8, cval9, cval10, Option.map, baa, bao, boa, boo, eqv_int, sh_int, and_self, true_and, and_true]
      refine ⟨_, rfl, by simp, _, strsOf2 _ _, ?_⟩
      rw [any_two, haway]
    simp only [rs]
    exact s_nil (s_nil ⟨rfl, rfl⟩)
  · rw [if_neg h1] at haway
    refine s_asg (.d (.int (if decide (es = s) = isOut s way then 1 else 0))) ?_ ?_
    · simp only [wpE, wpEs, wpB, rg, rs, rsAll, TruthP, BinP, AugP, CmpP, SubP, BiP, lstOf, datas, cval0, cval1, cval2, cval3, cval4, cval5, cval6, cval7, cval8, cval9, cval10, Option.map, baa, bao, boa, boo, eqv_int, sh_int, and_self, true_and, and_true]
      refine ⟨_, rfl, by simp, _, strsOf2 _ _, ?_⟩
      rw [any_two, haway]
    simp only [rs]
    exact s_nil (s_nil ⟨rfl, rfl⟩)
  refine s_if (decide (es = s) = isOut s way) ?_ (fun h1 => s_ret ?_) (fun h1 => s_ret ?_)
  · simp only [wpE, wpEs, wpB, rg, rs, rsAll, TruthP, BinP, AugP, CmpP, SubP, BiP, lstOf, datas, cval0, cval1, cval2, cval3, cval4, cval5, cval6, cval7, cval8, cval9, cval10, Option.map, baa, bao, boa, boo, eqv_int, sh_int, and_self, true_and, and_true]
    by_cases hd : decide (es = s) = isOut s way
    · rw [if_pos hd, decide_eq_true hd]; rfl
    · rw [if_neg hd, decide_eq_false hd]; rfl
  · simp only [wpE, wpEs, wpB, rg, rs, rsAll, TruthP, BinP, AugP, CmpP, SubP, BiP, lstOf, datas, cval0, cval1, cval2, cval3, cval4, cval5, cval6, cval7, cval8, cval9, cval10, Option.map, baa, bao, boa, boo, eqv_int, sh_int, and_self, true_and, and_true]
    have e1 : (e - (e - ((g + 1 : Nat) : Int))).toNat = g + 1 := by omega
    have e2 : ((e - ((g + 1 : Nat) : Int)) - (e - ((g + 1 : Nat) : Int))).toNat = 0 := by omega
    refine add4_ok B F (c := e - ((g + 1 : Nat) : Int)) (v := sv s (m * 2 ^ (g + 1)) + sv es 1) hs hes hm0 (by decide) (by omega) (by omega) (by omega) (by omega) (by show bl 1 ≤ 500; decide) hw hP1 (by omega) ?_ ?_
    · rw [e1, e2, Int.pow_zero, Int.mul_one, sv_mul, kbt_cast]
      rcases hes with rfl | rfl <;> rfl
    · have hev := even_own m g
      have hown0 : 2 ≤ m * 2 ^ (g + 1) := by
        have := Nat.mul_le_mul_right (2 ^ g) (show 1 ≤ m by omega)
        have := p2pos g
        omega
      by_cases hgr : es = s
      · -- outward
        subst hgr
        have ho : isOut es way = true := by rw [← h1]; simp
        have hv : sv es (m * 2 ^ (g + 1)) + sv es 1 = sv es (m * 2 ^ (g + 1) + 1) := by
          rcases hes with rfl | rfl
          · show ((m * 2 ^ (g + 1) : Nat) : Int) + ((1 : Nat) : Int) = ((m * 2 ^ (g + 1) + 1 : Nat) : Int)
            omega
          · show -((m * 2 ^ (g + 1) : Nat) : Int) + -((1 : Nat) : Int) = -((m * 2 ^ (g + 1) + 1 : Nat) : Int)
            omega
        unfold RNI
        rw [hv, sg_sv hs (by omega), sv_abs, RN_up hm0 h ho]
        have : dueF es es m g way = m * 2 ^ (g + 1) + 2 := by
          unfold dueF
          rw [if_neg h, ho, if_pos (by simp)]
        rw [← this]; exact hq
      · have ho : isOut s way = false := by rw [← h1]; simp [hgr]
        have hv : sv s (m * 2 ^ (g + 1)) + sv es 1 = sv s (m * 2 ^ (g + 1) - 1) := by
          rcases hs with rfl | rfl <;> rcases hes with rfl | rfl
          · exact absurd rfl hgr
          · show ((m * 2 ^ (g + 1) : Nat) : Int) + -((1 : Nat) : Int) = ((m * 2 ^ (g + 1) - 1 : Nat) : Int)
            omega
          · show -((m * 2 ^ (g + 1) : Nat) : Int) + ((1 : Nat) : Int) = -((m * 2 ^ (g + 1) - 1 : Nat) : Int)
            omega
          · exact absurd rfl hgr
        unfold RNI
        rw [hv, sg_sv hs (by omega), sv_abs, RN_down hm h ho]
        have : dueF s es m g way = m * 2 ^ (g + 1) - (if m = 1 then 1 else 2) := by
          unfold dueF
          rw [if_neg h, ho, if_neg (by simp), if_pos (by simp [hgr])]
        rw [← this]; exact hq
  · have hd : dueF s es m g way = m * 2 ^ (g + 1) := by
      unfold dueF
      rw [if_neg h]
      cases hx : decide (es = s) <;> cases hy : isOut s way <;> simp_all
    rw [hown hd] at hq
    simp only [wpE, wpEs, wpB, rg, rs, rsAll, TruthP, BinP, AugP, CmpP, SubP, BiP, lstOf, datas, cval0, cval1, cval2, cval3, cval4, cval5, cval6, cval7, cval8, cval9, cval10, Option.map, baa, bao, boa, boo, eqv_int, sh_int, and_self, true_and, and_true]
    exact mpf_pos_ok B F hm0 hs hw hP1 (by omega) hq
end

-- M32
def DS (σ : St) (a : Addr) : Prop := ∃ (at' : Int) (ns : List Int) (seed : Int), σ a = some [.int at', .list (ns.map .int), .int seed] ∧ 0 ≤ at' ∧ ns.length ≤ 24 ∧ 0 ≤ seed ∧ seed < 7877
theorem sh_bool (a : Bool) : SeqAt.shaped (.bool a) = true := rfl
theorem eqv_bool (a b : Bool) : PyData.eqv (.bool a) (.bool b) = (a == b) := by unfold PyData.eqv; rfl
theorem intsOf_map : ∀ ns : List Int, intsOf (ns.map .int) = some ns
  | [] => rfl
  | n :: ns => by
    show (intsOf (ns.map .int)).map (n :: ·) = _
    rw [intsOf_map ns]; rfl
theorem sum_bound {K : Int} (hK : 0 ≤ K) : ∀ (ns : List Int), (∀ n ∈ ns, 0 ≤ n ∧ n ≤ K) → 0 ≤ ns.sum ∧ ns.sum ≤ ns.length * K
  | [], _ => by simp
  | n :: ns, h => by
    have h1 := sum_bound hK ns fun x hx => h x (List.mem_cons_of_mem _ hx)
    have h2 := h n (List.mem_cons_self ..)
    rw [List.sum_cons, List.length_cons]
    push_cast
    rw [Int.add_mul]
    omega
theorem cn_form (s : Int) (m : Nat) (e : Int) : ∃ a b c d : Int, cn s m e = .tuple [.int a, .int b, .int c, .int d] := by
  by_cases h : m = 0
  · subst h; exact ⟨0, 0, 0, 0, cn_zero _ _⟩
  · obtain ⟨o, k, _, _, e2⟩ := cn_mk (s := s) (e := e) h
    exact ⟨_, _, _, _, e2⟩
theorem sh_cn (s : Int) (m : Nat) (e : Int) : SeqAt.shaped (cn s m e) = true := by
  obtain ⟨a, b, c, d, h⟩ := cn_form s m e
  rw [h]; exact sh_t4 _ _ _ _
theorem eqv_cn (s : Int) (m : Nat) (e : Int) : PyData.eqv (cn s m e) (cn s m e) = true := by
  obtain ⟨a, b, c, d, h⟩ := cn_form s m e
  rw [h, eqv_t4]; simp
theorem sh_RNI (v e : Int) (P : Nat) (way : Str) : SeqAt.shaped (RNI v e P way) = true := sh_cn _ _ _
theorem eqv_RNI (v e : Int) (P : Nat) (way : Str) : PyData.eqv (RNI v e P way) (RNI v e P way) = true := eqv_cn _ _ _
theorem eqv_TW (v e : Int) : PyData.eqv (TW v e) (TW v e) = true := eqv_cn _ _ _

/-- the law's rest of a division -/
def restI (v u : Int) : Int := if v.natAbs % u.natAbs ≠ 0 ∧ (decide (v < 0) != decide (u < 0)) = true then (u.natAbs : Int) - (v.natAbs % u.natAbs : Nat) else ((v.natAbs % u.natAbs : Nat) : Int)
theorem fmod_pos (V U : Nat) : ((V : Int)).fmod U = ((V % U : Nat) : Int) := fmod_nat V U
theorem fmod_negpos {V U : Nat} (hU : 0 < U) : (-(V : Int)).fmod U = if V % U = 0 then 0 else (U : Int) - (V % U : Nat) := by
  rw [Int.fmod_eq_emod_of_nonneg _ (by omega)]
  have h1 := Nat.div_add_mod V U
  have h2 := Nat.mod_lt V hU
  generalize V / U = q at *
  generalize V % U = r at *
  by_cases h : r = 0
  · rw [if_pos h]
    exact (kbt_unique (a := -(V : Int)) (b := (U : Int)) (q := -(q : Int)) (r := 0) (by omega) (by rw [← h1, h]; push_cast; rw [Int.mul_neg]; omega) (by omega) (by omega)).2
  · rw [if_neg h]
    exact (kbt_unique (a := -(V : Int)) (b := (U : Int)) (q := -((q : Int) + 1)) (r := (U : Int) - r) (by omega) (by rw [← h1]; push_cast; rw [Int.mul_neg, Int.mul_add]; omega) (by omega) (by omega)).2
theorem fmod_rest {v u : Int} (hu : u ≠ 0) : v.fmod u = if u < 0 then -restI v u else restI v u := by
  unfold restI
  have hU : 0 < u.natAbs := by omega
  by_cases h1 : v < 0
  · have e1 : v = -(v.natAbs : Int) := by omega
    by_cases h2 : u < 0
    · have e2 : u = -(u.natAbs : Int) := by omega
      have key : v.fmod u = -((v.natAbs % u.natAbs : Nat) : Int) := by
        have := Int.neg_fmod_neg (v.natAbs : Int) (u.natAbs : Int)
        rw [← e1, ← e2, fmod_pos] at this
        exact this
      rw [key, if_pos h2, if_neg]
      simp [h1, h2]
    · have e2 : u = (u.natAbs : Int) := by omega
      have key : v.fmod u = if v.natAbs % u.natAbs = 0 then 0 else (u.natAbs : Int) - (v.natAbs % u.natAbs : Nat) := by
        have := fmod_negpos (V := v.natAbs) hU
        rw [← e1, ← e2] at this
        rw [← e2]; exact this
      rw [key, if_neg h2]
      by_cases h3 : v.natAbs % u.natAbs = 0
      · rw [if_pos h3, if_neg (fun h => h.1 h3), h3]; rfl
      · rw [if_neg h3, if_pos ⟨h3, by simp [h1, h2]⟩]
  · have e1 : v = (v.natAbs : Int) := by omega
    by_cases h2 : u < 0
    · have e2 : u = -(u.natAbs : Int) := by omega
      have key : v.fmod u = -(if v.natAbs % u.natAbs = 0 then 0 else (u.natAbs : Int) - (v.natAbs % u.natAbs : Nat)) := by
        have := Int.neg_fmod_neg (-(v.natAbs : Int)) (u.natAbs : Int)
        rw [Int.neg_neg, ← e1, ← e2, ] at this
        rw [this]
        have h3 := fmod_negpos (V := v.natAbs) hU
        rw [← e1] at h3
        rw [h3]
      rw [key, if_pos h2]
      by_cases h3 : v.natAbs % u.natAbs = 0
      · rw [if_pos h3, if_neg (fun h => h.1 h3), h3]; rfl
      · rw [if_neg h3, if_pos ⟨h3, by simp [h1, h2]⟩]
    · have e2 : u = (u.natAbs : Int) := by omega
      have key : v.fmod u = ((v.natAbs % u.natAbs : Nat) : Int) := by
        have := fmod_pos v.natAbs u.natAbs
        rw [← e1, ← e2] at this
        exact this
      rw [key, if_neg h2, if_neg]
      simp [h1, h2]
theorem restI_abs {v u : Int} (hu : u ≠ 0) : (restI v u).natAbs ≤ u.natAbs := by
  unfold restI
  have := Nat.mod_lt v.natAbs (show 0 < u.natAbs by omega)
  split <;> omega

section
variable {prog : Program} {w : World} {hb : Heap} {mg mb : Str → Option Value} {fa : Nat → Addr}
theorem draw_ok (B : Bs hb mg mb fa) (F : Fns hb fa) {n : Nat} {a : Addr} {many : Int} (hm : 1 ≤ many) {σ : St} {Q : V → St → Prop} (hd : DS σ a)
    (hq : ∀ v σ', 0 ≤ v → v < many → DS σ' a → (∀ b, b ≠ a → σ' b = σ b) → Q (.d (.int v)) σ') : CallOK prog w hb fa (n + 1) 21 [.ref a, .d (.int many)] σ Q := by
  obtain ⟨at', ns, seed, hσ, h0, hlen, hs0, hs1⟩ := hd
  refine call_ok B F.f21 rfl ?_
  simp only [nm_law_draw, startR, List.map_cons, List.map_nil, List.length_cons, List.length_nil, List.append_nil, List.cons_append, List.nil_append, List.replicate]
  refine s_asg (.d (.int at')) ?_ ?_
  · simp only [wpE, wpEs, wpB, rg, rs, rsAll, TruthP, BinP, AugP, CmpP, SubP, BiP, lstOf, datas, cval0, cval1, cval2, cval3, cval4, cval5, cval6, cval7, cval8, cval9, cval10, Option.map, baa, bao, boa, boo, eqv_int, sh_int, and_self, true_and, and_true]
    exact ⟨_, _, ⟨by decide, by decide, hσ, rfl⟩, rfl⟩
  simp only [rs]
  refine s_seq (fun ρ₁ σ₁ => σ₁ = upd σ a [.int (at' + 1), .list (ns.map .int), .int seed] ∧ ρ₁ = [some (.ref a), some (.d (.int many)), some (.d (.int at'))]) ?_ ?_
  · show wpE _ _ _ _ _
    simp only [wpE, wpEs, wpB, rg, rs, rsAll, TruthP, BinP, AugP, CmpP, SubP, BiP, lstOf, datas, cval0, cval1, cval2, cval3, cval4, cval5, cval6, cval7, cval8, cval9, cval10, Option.map, baa, bao, boa, boo, eqv_int, sh_int, and_self, true_and, and_true]
    exact ⟨_, hσ, by decide, by simp, by simp, rfl⟩
  rintro ρ₁ σ₁ ⟨rfl, rfl⟩
  have hu := upd_self σ a [.int (at' + 1), .list (ns.map .int), .int seed]
  refine s_if (at' < (ns.length : Int)) ?_ (fun h => s_ret ?_) (fun h => s_nil ?_)
  · simp only [wpE, wpEs, wpB, rg, rs, rsAll, TruthP, BinP, AugP, CmpP, SubP, BiP, lstOf, datas, cval0, cval1, cval2, cval3, cval4, cval5, cval6, cval7, cval8, cval9, cval10, Option.map, baa, bao, boa, boo, eqv_int, sh_int, and_self, true_and, and_true]
    refine ⟨_, _, ⟨by decide, by decide, hu, rfl⟩, _, rfl, by rw [List.length_map]; omega, ?_⟩
    rw [List.length_map]
  · simp only [wpE, wpEs, wpB, rg, rs, rsAll, TruthP, BinP, AugP, CmpP, SubP, BiP, lstOf, datas, cval0, cval1, cval2, cval3, cval4, cval5, cval6, cval7, cval8, cval9, cval10, Option.map, baa, bao, boa, boo, eqv_int, sh_int, and_self, true_and, and_true]
    have hlt : at'.toNat < ns.length := by omega
    refine ⟨_, _, ⟨by decide, by decide, hu, rfl⟩, ns.map .int, .int ns[at'.toNat], ⟨h0, by omega, rfl, ?_⟩, by omega, ?_⟩
    · rw [List.getElem?_map, List.getElem?_eq_getElem hlt]; rfl
    · refine hq _ _ (Int.fmod_nonneg_of_pos _ (by omega)) (Int.fmod_lt_of_pos _ (by omega)) ⟨_, _, _, hu, by omega, hlen, hs0, hs1⟩ fun b hb => upd_ne _ hb
  refine s_seq (fun ρ₁ σ₁ => σ₁ = upd σ a [.int (at' + 1), .list (ns.map .int), .int ((seed * 311 + 1429).fmod 7877)] ∧ ρ₁ = [some (.ref a), some (.d (.int many)), some (.d (.int at'))]) ?_ ?_
  · show wpE _ _ _ _ _
    simp only [wpE, wpEs, wpB, rg, rs, rsAll, TruthP, BinP, AugP, CmpP, SubP, BiP, lstOf, datas, cval0, cval1, cval2, cval3, cval4, cval5, cval6, cval7, cval8, cval9, cval10, Option.map, baa, bao, boa, boo, eqv_int, sh_int, and_self, true_and, and_true]
    refine ⟨_, _, ⟨by decide, by decide, hu, rfl⟩, ⟨smal_of (k := 13) (by omega) (by decide), smal_of (k := 9) (by decide) (by decide)⟩, by decide, _, hu, by decide, by simp, by simp, ?_⟩
    rw [upd_upd]
    rfl
  rintro ρ₁ σ₁ ⟨rfl, rfl⟩
  have hu2 := upd_self σ a [.int (at' + 1), .list (ns.map .int), .int ((seed * 311 + 1429).fmod 7877)]
  refine s_ret ?_
  simp only [wpE, wpEs, wpB, rg, rs, rsAll, TruthP, BinP, AugP, CmpP, SubP, BiP, lstOf, datas, cval0, cval1, cval2, cval3, cval4, cval5, cval6, cval7, cval8, cval9, cval10, Option.map, baa, bao, boa, boo, eqv_int, sh_int, and_self, true_and, and_true]
  refine ⟨_, _, ⟨by decide, by decide, hu2, rfl⟩, ⟨by decide, smal_of (k := 2) (by decide) (by decide)⟩, by omega, ?_⟩
  exact hq _ _ (Int.fmod_nonneg_of_pos _ (by omega)) (Int.fmod_lt_of_pos _ (by omega)) ⟨_, _, _, hu2, by omega, hlen, Int.fmod_nonneg_of_pos _ (by decide), Int.fmod_lt_of_pos _ (by decide)⟩ fun b hb => upd_ne _ hb

theorem state_ok (B : Bs hb mg mb fa) (F : Fns hb fa) {n : Nat} {ns : List Int} (hlen : ns.length ≤ 100) {σ : St} {Q : V → St → Prop}
    (hq : ∀ a σ', σ a = none → DS σ' a → (∀ b, b ≠ a → σ' b = σ b) → Q (.ref a) σ') : CallOK prog w hb fa (n + 1) 20 [.d (.list (ns.map .int))] σ Q := by
  refine call_ok B F.f20 rfl ?_
  simp only [nm_law_state, startR, List.map_cons, List.map_nil, List.length_cons, List.length_nil, List.append_nil, List.cons_append, List.nil_append, List.replicate]
  refine s_join [some (.d (.list (ns.map .int))), some (.d (.list (((ns.take 24).map fun n => n.fmod 1000003).map .int)))] ?_ ?_
  · unfold wpS
    simp only [wpE, wpEs, wpB, rg, rs, rsAll, TruthP, BinP, AugP, CmpP, SubP, BiP, lstOf, datas, cval0, cval1, cval2, cval3, cval4, cval5, cval6, cval7, cval8, cval9, cval10, Option.map, baa, bao, boa, boo, eqv_int, sh_int, and_self, true_and, and_true]
    refine ⟨_, rfl, by rw [List.length_map]; omega, _, rfl, by rw [List.length_take, List.length_map]; omega, fun x => match x with | .int n => .int (n.fmod 1000003) | _ => .none, ?_, ?_⟩
    · intro x hx σ'
      have hx' := List.mem_of_mem_take hx
      obtain ⟨n, hn, rfl⟩ := List.mem_map.mp hx'
      exact ⟨by decide, rfl⟩
    · rw [← List.map_take, List.map_map, List.map_map]; rfl
  have hb := sum_bound (K := 1000002) (by decide) ((ns.take 24).map fun n => n.fmod 1000003) (fun x hx => by
    obtain ⟨n, hn, rfl⟩ := List.mem_map.mp hx
    have h1 := Int.fmod_nonneg_of_pos n (show (0 : Int) < 1000003 by decide)
    have h2 := Int.fmod_lt_of_pos n (show (0 : Int) < 1000003 by decide)
    omega)
  have hl : ((ns.take 24).map fun n => n.fmod 1000003).length ≤ 24 := by rw [List.length_map, List.length_take]; omega
  generalize (ns.take 24).map (fun n => n.fmod 1000003) = ms at *
  refine s_ret ?_
  simp only [wpE, wpEs, wpB, rg, rs, rsAll, TruthP, BinP, AugP, CmpP, SubP, BiP, lstOf, datas, cval0, cval1, cval2, cval3, cval4, cval5, cval6, cval7, cval8, cval9, cval10, Option.map, baa, bao, boa, boo, eqv_int, sh_int, and_self, true_and, and_true]
  have hmul : (ms.length : Int) * 1000002 ≤ 24 * 1000002 := Int.mul_le_mul_of_nonneg_right (by omega) (by decide)
  refine ⟨_, _, rfl, intsOf_map _, ⟨smal_of (k := 30) (by omega) (by decide), smal_of (k := 6) (by decide) (by decide)⟩, _, rfl, by rw [List.length_map]; omega, ⟨?_, smal_of (k := 5) (by decide) (by decide)⟩, by decide, _, rfl, by simp, fun a ha => ?_⟩
  · rw [List.length_map]; exact smal_nat (k := 5) (by omega) (by decide)
  · exact hq a _ ha ⟨_, _, _, upd_self _ _ _, by decide, hl, Int.fmod_nonneg_of_pos _ (by decide), Int.fmod_lt_of_pos _ (by decide)⟩ fun b hb => upd_ne _ hb
end

-- M33
theorem num_form2 (w : Int) (hw : w ≠ 0) : ∃ o k : Nat, o % 2 = 1 ∧ ∀ d, TW w d = mk (sg w) o (d + k) := by
  obtain ⟨o, k, ho, ek⟩ := odd_dec w.natAbs (by omega)
  exact ⟨o, k, ho, fun d => by unfold TW; rw [ek, cn_dec ho]⟩
theorem sh_t2 (a b : Int) : SeqAt.shaped (.tuple [.int a, .int b]) = true := rfl
theorem eqv_t2 (a b : Int) : PyData.eqv (.tuple [.int a, .int b]) (.tuple [.int a, .int b]) = true := by
  simp [PyData.eqv, PyData.eqvAll]
theorem eqv_zt2 : PyData.eqv (.tuple [zt, .int 0]) (.tuple [zt, .int 0]) = true := by
  simp [PyData.eqv, PyData.eqvAll, zt]
theorem sh_zt2 : SeqAt.shaped (.tuple [zt, .int 0]) = true := rfl
theorem eqv_t4s (a b c d : Int) : PyData.eqv (.tuple [.int a, .int b, .int c, .int d]) (.tuple [.int a, .int b, .int c, .int d]) = true := by
  rw [eqv_t4]; simp

section
variable {prog : Program} {w : World} {hb : Heap} {fa : Nat → Addr} {n : Nat} {ρ : List (Option V)} {σ : St} {Q : V → St → Prop} {K : List V → St → Prop}
/-- the expression's value is x, and nothing else happens -/
def Ev1 (prog : Program) (w : World) (hb : Heap) (fa : Nat → Addr) (n : Nat) (ρ : List (Option V)) (σ : St) (e : Ex) (x : V) : Prop := ∀ Q : V → St → Prop, Q x σ → wpE (CallOK prog w hb fa n) ρ e σ Q
theorem ev_loc {i : Nat} {v : V} (h : rg ρ i = some v) : Ev1 prog w hb fa n ρ σ (.loc i) v := fun Q hq => by
  show (match rg ρ i with | some v => Q v σ | none => False)
  rw [h]; exact hq
theorem ev_cst {c : PyData} : Ev1 prog w hb fa n ρ σ (.cst c) (.d c) := fun Q hq => hq
theorem ev_add {a b : Ex} {x y : Int} (ha : Ev1 prog w hb fa n ρ σ a (.d (.int x))) (hb' : Ev1 prog w hb fa n ρ σ b (.d (.int y))) : Ev1 prog w hb fa n ρ σ (.bin .Add a b) (.d (.int (x + y))) := fun Q hq => ha _ (hb' _ hq)
theorem ev_sub_ref {a i : Ex} {l : Addr} {j : Int} {k : Nat} {xs : List PyData} {x : PyData} (ha : Ev1 prog w hb fa n ρ σ a (.ref l)) (hi : Ev1 prog w hb fa n ρ σ i (.d (.int j))) (hj : j = k) (hl : σ l = some xs) (hx : xs[k]? = some x) (hk : k < 1000000) : Ev1 prog w hb fa n ρ σ (.sub a i) (.d x) := fun Q hq => by
  subst hj
  refine ha _ (hi _ ?_)
  exact ⟨xs, x, ⟨by omega, by omega, hl, by rw [Int.toNat_natCast]; exact hx⟩, hq⟩
theorem ev_sub_list {a i : Ex} {j : Int} {k : Nat} {xs : List PyData} {x : PyData} (ha : Ev1 prog w hb fa n ρ σ a (.d (.list xs))) (hi : Ev1 prog w hb fa n ρ σ i (.d (.int j))) (hj : j = k) (hx : xs[k]? = some x) (hk : k < 1000000) : Ev1 prog w hb fa n ρ σ (.sub a i) (.d x) := fun Q hq => by
  subst hj
  refine ha _ (hi _ ?_)
  exact ⟨xs, x, ⟨by omega, by omega, rfl, by rw [Int.toNat_natCast]; exact hx⟩, hq⟩
theorem ev_sub_tup {a i : Ex} {j : Int} {k : Nat} {xs : List PyData} {x : PyData} (ha : Ev1 prog w hb fa n ρ σ a (.d (.tuple xs))) (hi : Ev1 prog w hb fa n ρ σ i (.d (.int j))) (hj : j = k) (hx : xs[k]? = some x) (hk : k < 1000000) : Ev1 prog w hb fa n ρ σ (.sub a i) (.d x) := fun Q hq => by
  subst hj
  refine ha _ (hi _ ?_)
  exact ⟨x, ⟨by omega, by omega, by rw [Int.toNat_natCast]; exact hx⟩, hq⟩
theorem ev_lt {a b : Ex} {x y : Int} (ha : Ev1 prog w hb fa n ρ σ a (.d (.int x))) (hb' : Ev1 prog w hb fa n ρ σ b (.d (.int y))) : Ev1 prog w hb fa n ρ σ (.cmp .Lt a b) (.d (.bool (decide (x < y)))) := fun Q hq => ha _ (hb' _ hq)
theorem ev_abs {a : Ex} {x : Int} (ha : Ev1 prog w hb fa n ρ σ a (.d (.int x))) : Ev1 prog w hb fa n ρ σ (.bi .abs (.cons a .nil)) (.d (.int (x.natAbs : Int))) := fun Q hq => ha _ hq
theorem ev_neg {a : Ex} {x : Int} (ha : Ev1 prog w hb fa n ρ σ a (.d (.int x))) : Ev1 prog w hb fa n ρ σ (.neg a) (.d (.int (-x))) := fun Q hq => ha _ hq
theorem ev_ne {a b : Ex} {x y : PyData} (ha : Ev1 prog w hb fa n ρ σ a (.d x)) (hb' : Ev1 prog w hb fa n ρ σ b (.d y)) (hx : SeqAt.shaped x = true) (hy : SeqAt.shaped y = true) : Ev1 prog w hb fa n ρ σ (.cmp .NotEq a b) (.d (.bool (!PyData.eqv x y))) := fun Q hq => ha _ (hb' _ ⟨⟨hx, hy⟩, hq⟩)
theorem ev_eq {a b : Ex} {x y : PyData} (ha : Ev1 prog w hb fa n ρ σ a (.d x)) (hb' : Ev1 prog w hb fa n ρ σ b (.d y)) (hx : SeqAt.shaped x = true) (hy : SeqAt.shaped y = true) : Ev1 prog w hb fa n ρ σ (.cmp .Eq a b) (.d (.bool (PyData.eqv x y))) := fun Q hq => ha _ (hb' _ ⟨⟨hx, hy⟩, hq⟩)
theorem ev_ife {c a b : Ex} {p : Bool} {x : V} (hc : Ev1 prog w hb fa n ρ σ c (.d (.bool p))) (ha : p = true → Ev1 prog w hb fa n ρ σ a x) (hb' : p = false → Ev1 prog w hb fa n ρ σ b x) : Ev1 prog w hb fa n ρ σ (.ife c a b) x := fun Q hq =>
  hc _ (show (p = true → _) ∧ (p = false → _) from ⟨fun e => ha e _ hq, fun e => hb' e _ hq⟩)
theorem ev_and {a b : Ex} {p q : Bool} (ha : Ev1 prog w hb fa n ρ σ a (.d (.bool p))) (hb' : Ev1 prog w hb fa n ρ σ b (.d (.bool q))) : Ev1 prog w hb fa n ρ σ (.bool .And (.cons a (.cons b .nil))) (.d (.bool (p && q))) := fun Q hq =>
  ha _ (show (p = true → _) ∧ (p = false → _) from ⟨fun e => hb' _ (by rw [e] at hq; exact hq), fun e => by rw [e] at hq ⊢; exact hq⟩)
theorem ev_or {a b : Ex} {p q : Bool} (ha : Ev1 prog w hb fa n ρ σ a (.d (.bool p))) (hb' : Ev1 prog w hb fa n ρ σ b (.d (.bool q))) : Ev1 prog w hb fa n ρ σ (.bool .Or (.cons a (.cons b .nil))) (.d (.bool (p || q))) := fun Q hq =>
  ha _ (show (p = false → _) ∧ (p = true → _) from ⟨fun e => hb' _ (by rw [e] at hq; exact hq), fun e => by rw [e] at hq ⊢; exact hq⟩)
theorem e_call {f : Nat} {as : Exs} (h : wpEs (CallOK prog w hb fa n) ρ as σ fun vs σ₁ => CallOK prog w hb fa n f vs σ₁ Q) : wpE (CallOK prog w hb fa n) ρ (.call f as) σ Q := h
theorem es_cons {e : Ex} {es : Exs} (h : wpE (CallOK prog w hb fa n) ρ e σ fun v σ₁ => wpEs (CallOK prog w hb fa n) ρ es σ₁ fun vs σ₂ => K (v :: vs) σ₂) : wpEs (CallOK prog w hb fa n) ρ (.cons e es) σ K := h
theorem es_nil (h : K [] σ) : wpEs (CallOK prog w hb fa n) ρ .nil σ K := h
end

section
variable {prog : Program} {w : World} {hb : Heap} {mg mb : Str → Option Value} {fa : Nat → Addr}
theorem rest_right_ok (B : Bs hb mg mb fa) (F : Fns hb fa) {n : Nat} {l : Addr} {ps : List (Int × Int)} (hps : ∀ p ∈ ps, okp p) (hlen : ps.length ≤ 100) {P : Nat} {way : Str} (hw : Way way) (hP : 45 ≤ P) (hP2 : P ≤ 1000)
    {σ : St} {Q : V → St → Prop} (hl : σ l = some (ps.map pr)) (hq : Q (.d (.bool true)) σ) : CallOK prog w hb fa (n + 5) 27 [.ref l, .d (.int P), .d (.str way)] σ Q := by
  refine call_ok B F.f27 rfl ?_
  simp only [nm_law_rest_right, startR, List.map_cons, List.map_nil, List.length_cons, List.length_nil, List.append_nil, List.cons_append, List.nil_append, List.replicate]
  refine s_asg (.d (.list (ps.map fun p => .int (fx p)))) ?_ ?_
  · simp only [wpE, wpEs, wpB, rg, rs, rsAll, TruthP, BinP, AugP, CmpP, SubP, BiP, lstOf, datas, cval0, cval1, cval2, cval3, cval4, cval5, cval6, cval7, cval8, cval9, cval10, Option.map, baa, bao, boa, boo, eqv_int, sh_int, and_self, true_and, and_true]
    exact fixed_ok B F hps hlen hl ⟨rfl, rfl⟩
  simp only [rs]
  refine s_seq (fun _ σ₁ => σ₁ = σ) ?_ ?_
  · show wpE _ _ _ _ _
    simp only [wpE, wpEs, wpB, rg, rs, rsAll, TruthP, BinP, AugP, CmpP, SubP, BiP, lstOf, datas, cval0, cval1, cval2, cval3, cval4, cval5, cval6, cval7, cval8, cval9, cval10, Option.map, baa, bao, boa, boo, eqv_int, sh_int, and_self, true_and, and_true]
    refine ⟨_, hl, by rw [List.length_map]; omega, ?_⟩
    rw [List.length_map]
    refine ⟨by omega, by omega, fun k ρ₁ σ₁ => σ₁ = σ ∧ ∃ x4 x5 x6 x7 x8, ρ₁ = [some (.ref l), some (.d (.int P)), some (.d (.str way)), some (.d (.list (ps.map fun p => .int (fx p)))), x4, x5, x6, x7, x8], ⟨rfl, _, _, _, _, _, rfl⟩, ?_, ?_⟩
    · rintro k ρ' σ' hk ⟨rfl, x4, x5, x6, x7, x8, rfl⟩
      have hk1 : k < ps.length := by omega
      have hk2 : k + 1 < ps.length := by omega
      have g1 : ps[k]? = some ps[k] := List.getElem?_eq_getElem hk1
      have g2 : ps[k + 1]? = some ps[k + 1] := List.getElem?_eq_getElem hk2
      have o1 := hps _ (List.getElem_mem hk1)
      have o2 := hps _ (List.getElem_mem hk2)
      generalize ps[k] = p at *
      generalize ps[k + 1] = q at *
      have v1 : (ps.map fun p => PyData.int (fx p))[k]? = some (.int (fx p)) := by rw [List.getElem?_map, g1]; rfl
      have v2 : (ps.map fun p => PyData.int (fx p))[k + 1]? = some (.int (fx q)) := by rw [List.getElem?_map, g2]; rfl
      have r1 : (ps.map pr)[k]? = some (pr p) := by rw [List.getElem?_map, g1]; rfl
      have r2 : (ps.map pr)[k + 1]? = some (pr q) := by rw [List.getElem?_map, g2]; rfl
      have t1 : ((k : Nat) : Int).toNat = k := by omega
      have t2 : ((k : Int) + 1).toNat = k + 1 := by omega
      have c1 : (0 : Int) ≤ k ∧ (k : Int) < 1000000 := by omega
      have c2 : (0 : Int) ≤ (k : Int) + 1 ∧ (k : Int) + 1 < 1000000 := by omega
      have lt1 := fx_lt o1
      have lt2 := fx_lt o2
      have k1 : k < 1000000 := by omega
      have k2 : k + 1 < 1000000 := by omega
      have at0 : ∀ ρ : List (Option V), rg ρ 4 = some (.d (.int k)) → Ev1 prog w hb fa (n + 4) ρ σ' (.loc 4) (.d (.int k)) := fun ρ h => ev_loc h
      have at1 : ∀ ρ : List (Option V), rg ρ 4 = some (.d (.int k)) → Ev1 prog w hb fa (n + 4) ρ σ' (.bin .Add (.loc 4) (.cst (.int 1))) (.d (.int ((k : Int) + 1))) := fun ρ h => ev_add (ev_loc h) ev_cst
      have va0 : ∀ ρ : List (Option V), rg ρ 4 = some (.d (.int k)) → rg ρ 3 = some (.d (.list (ps.map fun p => PyData.int (fx p)))) → Ev1 prog w hb fa (n + 4) ρ σ' (.sub (.loc 3) (.loc 4)) (.d (.int (fx p))) := fun ρ h h3 => ev_sub_list (ev_loc h3) (at0 ρ h) rfl v1 k1
      have va1 : ∀ ρ : List (Option V), rg ρ 4 = some (.d (.int k)) → rg ρ 3 = some (.d (.list (ps.map fun p => PyData.int (fx p)))) → Ev1 prog w hb fa (n + 4) ρ σ' (.sub (.loc 3) (.bin .Add (.loc 4) (.cst (.int 1)))) (.d (.int (fx q))) := fun ρ h h3 => ev_sub_list (ev_loc h3) (at1 ρ h) (by omega) v2 k2
      have ra0 : ∀ ρ : List (Option V), rg ρ 4 = some (.d (.int k)) → rg ρ 0 = some (.ref l) → Ev1 prog w hb fa (n + 4) ρ σ' (.sub (.loc 0) (.loc 4)) (.d (pr p)) := fun ρ h h3 => ev_sub_ref (ev_loc h3) (at0 ρ h) rfl hl r1 k1
      have ra1 : ∀ ρ : List (Option V), rg ρ 4 = some (.d (.int k)) → rg ρ 0 = some (.ref l) → Ev1 prog w hb fa (n + 4) ρ σ' (.sub (.loc 0) (.bin .Add (.loc 4) (.cst (.int 1)))) (.d (pr q)) := fun ρ h h3 => ev_sub_ref (ev_loc h3) (at1 ρ h) (by omega) hl r2 k2
      simp only [rs]
      refine s_if (fx q ≠ 0) ?_ (fun hq0 => ?_) (fun h => s_nil (s_nil ⟨rfl, _, _, _, _, _, rfl⟩))
      · refine ev_ne (va1 _ rfl rfl) ev_cst (sh_int _) (sh_int _) _ ⟨?_, rfl⟩
        show (!PyData.eqv (.int (fx q)) (.int 0)) = _
        rw [eqv_int]; simp
      refine s_asg (.d (RNI ((fx p).fmod (fx q)) (-20) P way)) ?_ ?_
      · refine e_call (es_cons (e_call (es_cons (ev_sub_tup (k := 0) (ra0 _ rfl rfl) ev_cst rfl rfl (by decide) _ (es_cons (ev_sub_tup (k := 1) (ra0 _ rfl rfl) ev_cst rfl rfl (by decide) _ (es_nil ?_)))))))
        refine tuple_ok B F (Nat.lt_of_lt_of_le o1.1 (pow_le (by decide))) ?_
        refine es_cons (e_call (es_cons (ev_sub_tup (k := 0) (ra1 _ rfl rfl) ev_cst rfl rfl (by decide) _ (es_cons (ev_sub_tup (k := 1) (ra1 _ rfl rfl) ev_cst rfl rfl (by decide) _ (es_nil ?_))))))
        refine tuple_ok B F (Nat.lt_of_lt_of_le o2.1 (pow_le (by decide))) ?_
        refine es_cons (ev_loc rfl _ (es_cons (ev_loc rfl _ (es_nil ?_))))
        exact mod_ok B F o1 o2 hq0 hw hP ⟨rfl, rfl⟩
      simp only [rs]
      have fr := fmod_rest (v := fx p) hq0
      have ra := restI_abs (v := fx p) hq0
      rw [fr]
      generalize hv : fx p = v at *
      generalize hu : fx q = u at *
      refine s_unps [.d (.int (v.natAbs : Int)), .d (.int (u.natAbs : Int))] [some (.ref l), some (.d (.int P)), some (.d (.str way)), some (.d (.list (ps.map fun p => .int (fx p)))), some (.d (.int k)), some (.d (RNI (if u < 0 then -restI v u else restI v u) (-20) P way)), some (.d (.int (v.natAbs : Int))), some (.d (.int (u.natAbs : Int))), x8] ?_ rfl rfl ?_
      · exact es_cons (ev_abs (va0 _ rfl rfl) _ (es_cons (ev_abs (va1 _ rfl rfl) _ (es_nil ⟨rfl, rfl⟩))))
      refine s_asg (.d (.int ((v.natAbs % u.natAbs : Nat) : Int))) ?_ ?_
      · simp only [wpE, wpEs, wpB, rg, rs, rsAll, TruthP, BinP, AugP, CmpP, SubP, BiP, lstOf, datas, cval0, cval1, cval2, cval3, cval4, cval5, cval6, cval7, cval8, cval9, cval10, Option.map, baa, bao, boa, boo, eqv_int, sh_int, and_self, true_and, and_true]
        have s1 : Smal (u.natAbs : Int) := smal_nat lt2 (by decide)
        have e0 : ((v.natAbs : Int)).fdiv (u.natAbs : Int) = ((v.natAbs / u.natAbs : Nat) : Int) := fdiv_nat _ _
        have s2 : Smal ((v.natAbs / u.natAbs : Nat) : Int) := smal_nat (Nat.lt_of_le_of_lt (Nat.div_le_self _ _) lt1) (by decide)
        refine ⟨⟨by omega, s1⟩, ⟨by rw [e0]; exact s2, s1⟩, ?_⟩
        rw [e0]
        congr 2
        have := Nat.div_add_mod v.natAbs u.natAbs
        rw [Nat.mul_comm] at this
        have h3 : ((v.natAbs / u.natAbs : Nat) : Int) * (u.natAbs : Int) = ((v.natAbs / u.natAbs * u.natAbs : Nat) : Int) := by push_cast; rfl
        rw [h3]; omega
      simp only [rs]
      refine s_join [some (.ref l), some (.d (.int P)), some (.d (.str way)), some (.d (.list (ps.map fun p => .int (fx p)))), some (.d (.int k)), some (.d (RNI (if u < 0 then -restI v u else restI v u) (-20) P way)), some (.d (.int (v.natAbs : Int))), some (.d (.int (u.natAbs : Int))), some (.d (.int (restI v u)))]
        (s_one (s_if (v.natAbs % u.natAbs ≠ 0 ∧ (decide (v < 0) != decide (u < 0)) = true) ?_ (fun h => ?_) (fun h => s_nil (s_nil ⟨rfl, ?_⟩)))) ?_
      · refine ev_and (ev_ne (ev_loc rfl) ev_cst (sh_int _) (sh_int _)) (ev_ne (ev_lt (va0 _ rfl rfl) ev_cst) (ev_lt (va1 _ rfl rfl) ev_cst) (sh_bool _) (sh_bool _)) _ ⟨?_, rfl⟩
        show (!PyData.eqv (.int _) (.int 0) && !PyData.eqv (.bool _) (.bool _)) = _
        rw [eqv_int, eqv_bool]
        have d0 : decide (((v.natAbs % u.natAbs : Nat) : Int) = 0) = decide (v.natAbs % u.natAbs = 0) := by rw [decide_eq_decide]; omega
        rw [d0]
        by_cases h0 : v.natAbs % u.natAbs = 0
        · simp [h0]
        · simp only [h0, decide_false, Bool.not_false, Bool.true_and, ne_eq, not_false_eq_true, true_and]
          cases decide (v < 0) <;> cases decide (u < 0) <;> rfl
      · refine s_asg (.d (.int (restI v u))) ?_ ?_
        · simp only [wpE, wpEs, wpB, rg, rs, rsAll, TruthP, BinP, AugP, CmpP, SubP, BiP, lstOf, datas, cval0, cval1, cval2, cval3, cval4, cval5, cval6, cval7, cval8, cval9, cval10, Option.map, baa, bao, boa, boo, eqv_int, sh_int, and_self, true_and, and_true]
          unfold restI
          rw [if_pos h]
        simp only [rs]
        exact s_nil (s_nil ⟨rfl, rfl⟩)
      · unfold restI
        rw [if_neg h]
      have hra : (restI v u).natAbs < 2 ^ 400 := Nat.lt_of_le_of_lt ra (Nat.lt_of_lt_of_le lt2 (pow_le (by decide)))
      generalize restI v u = r at *
      refine s_if False ?_ (fun h => h.elim) (fun _ => s_nil (s_nil (s_nil ⟨rfl, _, _, _, _, _, rfl⟩)))
      refine ev_ne (x := RNI (if u < 0 then -r else r) (-20) P way) (y := RNI (if u < 0 then -r else r) (-20) P way) (ev_loc rfl) ?_ (sh_RNI _ _ _ _) (sh_RNI _ _ _ _) _ ⟨?_, rfl⟩
      · intro Q' hq'
        refine e_call (es_cons (ev_ife (x := .d (.int (if u < 0 then -r else r))) (ev_lt (va1 _ rfl rfl) ev_cst) (fun h => ?_) (fun h => ?_) _ (es_cons (e_call (es_cons (ev_cst _ (es_nil (power_ok B F (k := 20) (by decide) rfl (es_cons (ev_loc rfl _ (es_cons (ev_loc rfl _ (es_nil ?_)))))))))))))
        · rw [if_pos (of_decide_eq_true h)]; exact ev_neg (ev_loc rfl)
        · rw [if_neg (of_decide_eq_false h)]; exact ev_loc rfl
        · exact rounded_ok B F (by split <;> omega) hw (by omega) hP2 hq'
      · show (!PyData.eqv (RNI _ _ _ _) (RNI _ _ _ _)) = _
        rw [eqv_RNI]; simp
    · rintro ρ' σ' ⟨rfl, _⟩; rfl
  · rintro ρ₁ σ₁ rfl
    exact s_ret hq
end

-- M34
theorem dueF_in {s es : Int} {m g : Nat} {way : Str} (h : way ≠ wn) (h1 : (decide (es = s) && isOut s way) = false) (h2 : (!decide (es = s) && !isOut s way) = true) : dueF s es m g way = m * 2 ^ (g + 1) - (if m = 1 then 1 else 2) := by
  unfold dueF
  rw [if_neg h, if_neg (by rw [h1]; decide), if_pos h2]
theorem dueF_own {s es : Int} {m g : Nat} {way : Str} (h : way ≠ wn) (h1 : (decide (es = s) && isOut s way) = false) (h2 : (!decide (es = s) && !isOut s way) = false) : dueF s es m g way = m * 2 ^ (g + 1) := by
  unfold dueF
  rw [if_neg h, if_neg (by rw [h1]; decide), if_neg (by rw [h2]; decide)]
section
variable {prog : Program} {w : World} {hb : Heap} {mg mb : Str → Option Value} {fa : Nat → Addr}
theorem e_bin {n : Nat} {ρ : List (Option V)} {σ : St} {Q : V → St → Prop} {op : Operator} {a b : Ex} (h : wpE (CallOK prog w hb fa n) ρ a σ fun x σ₁ => wpE (CallOK prog w hb fa n) ρ b σ₁ fun y σ₂ => BinP op x y fun r => Q (.d r) σ₂) : wpE (CallOK prog w hb fa n) ρ (.bin op a b) σ Q := h
theorem ev_glb {n : Nat} {ρ : List (Option V)} {σ : St} {i : Nat} {c : PyData} (h : cval i = some c) : Ev1 prog w hb fa n ρ σ (.glb i) (.d c) := fun Q hq => by
  show (match cval i with | some x => Q (.d x) σ | none => False)
  rw [h]; exact hq
theorem ev_mns {n : Nat} {ρ : List (Option V)} {σ : St} {a b : Ex} {x y : Int} (ha : Ev1 prog w hb fa n ρ σ a (.d (.int x))) (hb' : Ev1 prog w hb fa n ρ σ b (.d (.int y))) : Ev1 prog w hb fa n ρ σ (.bin .Sub a b) (.d (.int (x - y))) := fun Q hq => ha _ (hb' _ hq)
theorem ev_mul {n : Nat} {ρ : List (Option V)} {σ : St} {a b : Ex} {x y : Int} (ha : Ev1 prog w hb fa n ρ σ a (.d (.int x))) (hb' : Ev1 prog w hb fa n ρ σ b (.d (.int y))) (hx : Smal x) (hy : Smal y) : Ev1 prog w hb fa n ρ σ (.bin .Mult a b) (.d (.int (x * y))) := fun Q hq => ha _ (hb' _ ⟨⟨hx, hy⟩, hq⟩)
theorem ev_gt {n : Nat} {ρ : List (Option V)} {σ : St} {a b : Ex} {x y : Int} (ha : Ev1 prog w hb fa n ρ σ a (.d (.int x))) (hb' : Ev1 prog w hb fa n ρ σ b (.d (.int y))) : Ev1 prog w hb fa n ρ σ (.cmp .Gt a b) (.d (.bool (decide (x > y)))) := fun Q hq => ha _ (hb' _ hq)
theorem ev_nt {n : Nat} {ρ : List (Option V)} {σ : St} {a : Ex} {x : Bool} (ha : Ev1 prog w hb fa n ρ σ a (.d (.bool x))) : Ev1 prog w hb fa n ρ σ (.nt a) (.d (.bool (!x))) := fun Q hq => ha _ hq
theorem ev_or3 {n : Nat} {ρ : List (Option V)} {σ : St} {a b c : Ex} {p q r : Bool} (ha : Ev1 prog w hb fa n ρ σ a (.d (.bool p))) (hb' : Ev1 prog w hb fa n ρ σ (.bool .Or (.cons b (.cons c .nil))) (.d (.bool q))) : Ev1 prog w hb fa n ρ σ (.bool .Or (.cons a (.cons b (.cons c .nil)))) (.d (.bool (p || q))) := fun Q hq =>
  ha _ (show (p = false → _) ∧ (p = true → _) from ⟨fun e => hb' _ (by rw [e] at hq; exact hq), fun e => by rw [e] at hq ⊢; exact hq⟩)
theorem ev_cast {n : Nat} {ρ : List (Option V)} {σ : St} {e : Ex} {x y : V} (h : Ev1 prog w hb fa n ρ σ e x) (hxy : x = y) : Ev1 prog w hb fa n ρ σ e y := hxy ▸ h
theorem ev_pair {n : Nat} {ρ : List (Option V)} {σ : St} {a b : Ex} {x y : PyData} (ha : Ev1 prog w hb fa n ρ σ a (.d x)) (hb' : Ev1 prog w hb fa n ρ σ b (.d y)) : Ev1 prog w hb fa n ρ σ (.tup (.cons a (.cons b .nil))) (.d (.tuple [x, y])) := fun Q hq =>
  ha _ (hb' _ ⟨_, rfl, by simp, hq⟩)
theorem ev_quad {n : Nat} {ρ : List (Option V)} {σ : St} {a b c d : Ex} {x y z u : PyData} (ha : Ev1 prog w hb fa n ρ σ a (.d x)) (hb' : Ev1 prog w hb fa n ρ σ b (.d y)) (hc : Ev1 prog w hb fa n ρ σ c (.d z)) (hd : Ev1 prog w hb fa n ρ σ d (.d u)) :
    Ev1 prog w hb fa n ρ σ (.tup (.cons a (.cons b (.cons c (.cons d .nil))))) (.d (.tuple [x, y, z, u])) := fun Q hq =>
  ha _ (hb' _ (hc _ (hd _ ⟨_, rfl, by simp, hq⟩)))

theorem parts_right_ok (B : Bs hb mg mb fa) (F : Fns hb fa) {n : Nat} {a : Addr} {p : Int × Int} (hp : okp p) {σ : St} {Q : V → St → Prop} (hd : DS σ a)
    (hq : ∀ σ', DS σ' a → (∀ b, b ≠ a → σ' b = σ b) → Q (.d (.bool true)) σ') : CallOK prog w hb fa (n + 5) 28 [.ref a, .d (.int p.1), .d (.int p.2)] σ Q := by
  refine call_ok B F.f28 rfl ?_
  simp only [nm_law_parts_right, startR, List.map_cons, List.map_nil, List.length_cons, List.length_nil, List.append_nil, List.cons_append, List.nil_append, List.replicate]
  have h500 : p.1.natAbs < 2 ^ 500 := Nat.lt_of_lt_of_le hp.1 (pow_le (by decide))
  refine s_seq (fun ρ₁ σ₁ => DS σ₁ a ∧ (∀ b, b ≠ a → σ₁ b = σ b) ∧ ∃ more : Int, ρ₁ = [some (.ref a), some (.d (.int p.1)), some (.d (.int p.2)), some (.d (TW p.1 p.2)), some (.d (.int more)), none, none]) ?_ ?_
  · show wpEs _ _ _ _ _
    refine es_cons (e_call (es_cons (ev_loc rfl _ (es_cons (ev_loc rfl _ (es_nil (tuple_ok B F h500 ?_)))))))
    refine es_cons ?_
    show wpE _ _ (.call 21 _) _ _
    refine e_call (es_cons (ev_loc rfl _ (es_cons (ev_cst _ (es_nil (draw_ok B F (by decide) hd ?_))))))
    intro v σ' h0 h1 h2 h3
    exact ⟨rfl, h2, h3, v - 200, rfl⟩
  rintro ρ₁ σ₁ ⟨hd1, hk1, more, rfl⟩
  obtain ⟨s, m, e, hT, hs, l1, u1, b1, v1, z1, n1⟩ := num_form hp
  have hTT : ∀ Q' : PyData → Prop, Q' (.tuple [.int s, .int m, .int e, .int (bl m)]) → Q' (TW p.1 p.2) := fun Q' h => by rw [hT]; exact h
  have hme : ((m : Nat) : Int) = 0 → e = 0 := fun h => (z1 (by omega)).1
  have hsgn : s = 1 ↔ p.1 < 0 := by
    by_cases h : m = 0
    · have := z1 h; omega
    · have := (n1 h).2.2.2
      rw [this]; unfold sg; split <;> omega
  have i0 : ∀ ρ : List (Option V), rg ρ 3 = some (.d (TW p.1 p.2)) → Ev1 prog w hb fa (n + 4) ρ σ₁ (.sub (.loc 3) (.cst (.int 0))) (.d (.int s)) := fun ρ h => ev_sub_tup (k := 0) (ev_loc (by rw [h, hT])) ev_cst rfl rfl (by decide)
  have i1 : ∀ ρ : List (Option V), rg ρ 3 = some (.d (TW p.1 p.2)) → Ev1 prog w hb fa (n + 4) ρ σ₁ (.sub (.loc 3) (.cst (.int 1))) (.d (.int m)) := fun ρ h => ev_sub_tup (k := 1) (ev_loc (by rw [h, hT])) ev_cst rfl rfl (by decide)
  have i2 : ∀ ρ : List (Option V), rg ρ 3 = some (.d (TW p.1 p.2)) → Ev1 prog w hb fa (n + 4) ρ σ₁ (.sub (.loc 3) (.cst (.int 2))) (.d (.int e)) := fun ρ h => ev_sub_tup (k := 2) (ev_loc (by rw [h, hT])) ev_cst rfl rfl (by decide)
  have i3 : ∀ ρ : List (Option V), rg ρ 3 = some (.d (TW p.1 p.2)) → Ev1 prog w hb fa (n + 4) ρ σ₁ (.sub (.loc 3) (.cst (.int 3))) (.d (.int (bl m))) := fun ρ h => ev_sub_tup (k := 3) (ev_loc (by rw [h, hT])) ev_cst rfl rfl (by decide)
  refine s_if False ?_ (fun h => h.elim) (fun _ => s_nil ?_)
  · refine ev_or (p := false) (q := false) ?_ ?_ _ ⟨rfl, rfl⟩
    · intro Q' hq'
      refine ev_ne (x := TW p.1 p.2) (y := TW p.1 p.2) ?_ (ev_loc rfl) (sh_TW _ _) (sh_TW _ _) _ (by rw [eqv_TW]; exact hq')
      intro Q2 hq2
      exact e_call (es_cons (ev_loc rfl _ (es_cons (ev_loc rfl _ (es_nil (from_man_exp2_ok B F (bl_le_iff.mpr (Nat.lt_of_lt_of_le hp.1 (pow_le (by decide)))) hq2))))))
    · intro Q' hq'
      refine ev_ne (x := .tuple [.int m, .int e]) (y := .tuple [.int m, .int e]) ?_ (ev_pair (i1 _ rfl) (i2 _ rfl)) (sh_t2 _ _) (sh_t2 _ _) _ (by rw [eqv_t2]; exact hq')
      intro Q2 hq2
      refine e_call (es_cons (ev_loc rfl _ (es_nil ?_)))
      rw [hT]
      exact to_man_exp1_ok B F hme hs hq2
  refine s_if False ?_ (fun h => h.elim) (fun _ => s_nil ?_)
  · refine ev_or (p := false) (q := false) ?_ ?_ _ ⟨rfl, rfl⟩
    · intro Q' hq'
      refine ev_ne (x := .tuple [.int (if s = 1 then -(m : Int) else m), .int e]) (y := .tuple [.int (if s = 1 then -(m : Int) else m), .int e]) ?_ (ev_pair (ev_ife (ev_lt (ev_loc rfl) ev_cst) (fun h => ?_) (fun h => ?_)) (i2 _ rfl)) (sh_t2 _ _) (sh_t2 _ _) _ (by rw [eqv_t2]; exact hq')
      · intro Q2 hq2
        refine e_call (es_cons (ev_loc rfl _ (es_cons (ev_cst _ (es_nil ?_)))))
        rw [hT]
        exact to_man_exp2_ok B F hme hs hq2
      · rw [if_pos (hsgn.mpr (of_decide_eq_true h))]; exact ev_neg (i1 _ rfl)
      · rw [if_neg (fun h1 => of_decide_eq_false h (hsgn.mp h1))]; exact i1 _ rfl
    · intro Q' hq'
      refine ev_ne (x := TW p.1 (p.2 + more)) (y := TW p.1 (p.2 + more)) ?_ ?_ (sh_TW _ _) (sh_TW _ _) _ (by rw [eqv_TW]; exact hq')
      · intro Q2 hq2
        refine e_call (es_cons (ev_loc rfl _ (es_cons (ev_loc rfl _ (es_nil ?_)))))
        by_cases hw0 : p.1 = 0
        · have e1 : ∀ d, TW p.1 d = zt := fun d => by rw [hw0]; exact cn_zero _ _
          rw [e1] at hq2 ⊢
          exact mpf_shift_ok B F (by rw [if_pos rfl]; exact hq2)
        · obtain ⟨o, k, ho, hall⟩ := num_form2 p.1 hw0
          rw [hall] at hq2 ⊢
          refine mpf_shift_ok B F ?_
          rw [if_neg (by omega)]
          have : p.2 + (k : Int) + more = p.2 + more + k := by omega
          rw [this]; exact hq2
      · intro Q2 hq2
        exact e_call (es_cons (ev_loc rfl _ (es_cons (ev_add (ev_loc rfl) (ev_loc rfl) _ (es_nil (tuple_ok B F h500 hq2))))))
  by_cases hw0 : p.1 = 0
  · have e1 : TW p.1 p.2 = zt := by rw [hw0]; exact cn_zero _ _
    refine s_unp [zt, .int 0] ?_ rfl ?_
    · refine e_call (es_cons (ev_loc rfl _ (es_nil ?_)))
      rw [e1]
      exact mpf_frexp0_ok B F ⟨rfl, rfl⟩
    simp only [rsAll, rs]
    refine s_if True ?_ (fun _ => s_ret ?_) (fun h => absurd trivial h)
    · refine ev_eq (ev_loc rfl) ev_cst (sh_int _) (sh_int _) _ ⟨?_, rfl⟩
      show PyData.eqv (.int p.1) (.int 0) = _
      rw [eqv_int, hw0]; simp
    · refine ev_eq (ev_pair (ev_loc rfl) (ev_loc rfl)) (x := .tuple [zt, .int 0]) (y := .tuple [zt, .int 0]) (ev_pair (ev_glb cval7) ev_cst) sh_zt2 sh_zt2 _ ?_
      rw [eqv_zt2]
      exact hq _ hd1 hk1
  · have hm0 : m ≠ 0 := fun h => hw0 (z1 h).2.2
    refine s_unp [.tuple [.int s, .int m, .int (-(bl m : Int)), .int (bl m)], .int ((bl m : Int) + e)] ?_ rfl ?_
    · refine e_call (es_cons (ev_loc rfl _ (es_nil ?_)))
      rw [hT]
      exact mpf_frexp_ok B F (by omega) ⟨rfl, rfl⟩
    simp only [rsAll, rs]
    refine s_if False ?_ (fun h => h.elim) (fun _ => s_nil (s_ret ?_))
    · refine ev_eq (ev_loc rfl) ev_cst (sh_int _) (sh_int _) _ ⟨?_, rfl⟩
      show PyData.eqv (.int p.1) (.int 0) = _
      rw [eqv_int]; simp [hw0]
    · refine ev_and (p := true) (q := true) ?_ ?_ _ (hq _ hd1 hk1)
      · intro Q' hq'
        refine ev_eq (ev_loc rfl) (ev_quad (i0 _ rfl) (i1 _ rfl) (ev_neg (i3 _ rfl)) (i3 _ rfl)) (sh_t4 _ _ _ _) (sh_t4 _ _ _ _) _ (by rw [eqv_t4s]; exact hq')
      · intro Q' hq'
        refine ev_eq (ev_loc rfl) (ev_add (i2 _ rfl) (i3 _ rfl)) (sh_int _) (sh_int _) _ ?_
        rw [eqv_int, decide_eq_true (by omega)]; exact hq'

theorem hair_right_ok (B : Bs hb mg mb fa) (F : Fns hb fa) {n : Nat} {a : Addr} {p : Int × Int} (hp : okp p) (hp0 : p.1 ≠ 0) {way : Str} (hw : Way way) {σ : St} {Q : V → St → Prop} (hd : DS σ a)
    (hq : ∀ σ', DS σ' a → (∀ b, b ≠ a → σ' b = σ b) → Q (.d (.bool true)) σ') : CallOK prog w hb fa (n + 6) 29 [.ref a, .d (.int p.1), .d (.int p.2), .d (.str way)] σ Q := by
  refine call_ok B F.f29 rfl ?_
  simp only [nm_law_hair_right, startR, List.map_cons, List.map_nil, List.length_cons, List.length_nil, List.append_nil, List.cons_append, List.nil_append, List.replicate]
  have h500 : p.1.natAbs < 2 ^ 500 := Nat.lt_of_lt_of_le hp.1 (pow_le (by decide))
  obtain ⟨s, m, e, hT, hs, l1, u1, b1, v1, z1, n1⟩ := num_form hp
  have hm0 : m ≠ 0 := fun h => hp0 (z1 h).2.2
  obtain ⟨hodd, _, hmk, hsg⟩ := n1 hm0
  have hsgn : s = 1 ↔ p.1 < 0 := by rw [hsg]; unfold sg; split <;> omega
  have hbm : bl m ≤ 40 := bl_le_iff.mpr b1
  refine s_seq (fun ρ₁ σ₁ => DS σ₁ a ∧ (∀ b, b ≠ a → σ₁ b = σ b) ∧ ∃ es : Int, (es = 0 ∨ es = 1) ∧ ρ₁ = [some (.ref a), some (.d (.int p.1)), some (.d (.int p.2)), some (.d (.str way)), some (.d (TW p.1 p.2)), some (.d (.int es)), none, none, none, none, none, none, none, none]) ?_ ?_
  · show wpEs _ _ _ _ _
    refine es_cons (e_call (es_cons (ev_loc rfl _ (es_cons (ev_loc rfl _ (es_nil (tuple_ok B F h500 ?_)))))))
    refine es_cons ?_
    refine e_call (es_cons (ev_loc rfl _ (es_cons (ev_cst _ (es_nil (draw_ok B F (by decide) hd ?_))))))
    intro v σ' h0 h1 h2 h3
    exact ⟨rfl, h2, h3, v, by omega, rfl⟩
  rintro ρ₁ σ₁ ⟨hd1, hk1, es, hes, rfl⟩
  refine s_seq (fun ρ₁ σ₂ => DS σ₂ a ∧ (∀ b, b ≠ a → σ₂ b = σ b) ∧ ∃ g : Nat, g ≤ 19 ∧ ρ₁ = [some (.ref a), some (.d (.int p.1)), some (.d (.int p.2)), some (.d (.str way)), some (.d (TW p.1 p.2)), some (.d (.int es)), some (.d (.int ((bl m + g : Nat) : Int))), none, none, none, none, none, none, none]) ?_ ?_
  · show wpE _ _ _ _ _
    refine e_bin (ev_sub_tup (k := 3) (ev_loc (by show some _ = _; rw [hT])) ev_cst rfl rfl (by decide) _ ?_)
    refine e_call (es_cons (ev_loc rfl _ (es_cons (ev_cst _ (es_nil (draw_ok B F (by decide) hd1 ?_))))))
    intro v σ' h0 h1 h2 h3
    refine ⟨h2, fun b hb => (h3 b hb).trans (hk1 b hb), v.toNat, by omega, ?_⟩
    show rs _ 6 (.d (.int ((bl m : Int) + v))) = _
    rw [show (bl m : Int) + v = ((bl m + v.toNat : Nat) : Int) by omega]
    rfl
  rintro ρ₁ σ₂ ⟨hd2, hk2, g, hg, rfl⟩
  have i1 : ∀ ρ : List (Option V), rg ρ 4 = some (.d (TW p.1 p.2)) → Ev1 prog w hb fa (n + 5) ρ σ₂ (.sub (.loc 4) (.cst (.int 1))) (.d (.int m)) := fun ρ h => ev_sub_tup (k := 1) (ev_loc (by rw [h, hT])) ev_cst rfl rfl (by decide)
  have i2 : ∀ ρ : List (Option V), rg ρ 4 = some (.d (TW p.1 p.2)) → Ev1 prog w hb fa (n + 5) ρ σ₂ (.sub (.loc 4) (.cst (.int 2))) (.d (.int e)) := fun ρ h => ev_sub_tup (k := 2) (ev_loc (by rw [h, hT])) ev_cst rfl rfl (by decide)
  have i3 : ∀ ρ : List (Option V), rg ρ 4 = some (.d (TW p.1 p.2)) → Ev1 prog w hb fa (n + 5) ρ σ₂ (.sub (.loc 4) (.cst (.int 3))) (.d (.int (bl m))) := fun ρ h => ev_sub_tup (k := 3) (ev_loc (by rw [h, hT])) ev_cst rfl rfl (by decide)
  have hstep : ∀ ρ : List (Option V), rg ρ 4 = some (.d (TW p.1 p.2)) → rg ρ 6 = some (.d (.int ((bl m + g : Nat) : Int))) → Ev1 prog w hb fa (n + 5) ρ σ₂ (.bin .Add (.bin .Sub (.loc 6) (.sub (.loc 4) (.cst (.int 3)))) (.cst (.int 1))) (.d (.int ((g + 1 : Nat) : Int))) := fun ρ h4 h6 =>
    ev_cast (ev_add (ev_mns (ev_loc h6) (i3 _ h4)) ev_cst) (by rw [show ((bl m + g : Nat) : Int) - (bl m : Int) + 1 = ((g + 1 : Nat) : Int) by omega])
  refine s_asg (.d (cn s (dueF s es m g way) (e - (g + 1 : Nat)))) ?_ ?_
  · refine e_call (es_cons (ev_loc rfl _ (es_cons (ev_loc rfl _ (es_cons (ev_loc rfl _ (es_cons (ev_loc rfl _ (es_nil ?_)))))))))
    rw [hmk]
    exact perturb_ok B F hs hes hodd hbm hg hw ⟨rfl, rfl⟩
  simp only [rs]
  refine s_asg (.d (.int ((2 ^ (g + 1) : Nat) : Int))) ?_ ?_
  · exact e_call (es_cons (hstep _ rfl rfl _ (es_nil (power_ok B F (by omega) rfl ⟨rfl, rfl⟩))))
  simp only [rs]
  have hSm : Smal (m : Int) := smal_nat b1 (by decide)
  have hSg : Smal ((2 ^ (g + 1) : Nat) : Int) := smal_nat (k := g + 2) (Nat.pow_lt_pow_right (by decide) (by omega)) (by omega)
  refine s_unps [.d (.int ((m * 2 ^ (g + 1) : Nat) : Int)), .d (.int (if m = 1 then 1 else 2))] [some (.ref a), some (.d (.int p.1)), some (.d (.int p.2)), some (.d (.str way)), some (.d (TW p.1 p.2)), some (.d (.int es)), some (.d (.int ((bl m + g : Nat) : Int))),
    some (.d (cn s (dueF s es m g way) (e - (g + 1 : Nat)))), some (.d (.int ((2 ^ (g + 1) : Nat) : Int))), some (.d (.int ((m * 2 ^ (g + 1) : Nat) : Int))), some (.d (.int (if m = 1 then 1 else 2))), none, none, none] ?_ rfl rfl ?_
  · refine es_cons (ev_mul (i1 _ rfl) (ev_loc rfl) hSm hSg _ ?_)
    refine es_cons (ev_ife (ev_eq (i1 _ rfl) ev_cst (sh_int _) (sh_int _)) (x := .d (.int (if m = 1 then 1 else 2))) (fun h => ?_) (fun h => ?_) _ (es_nil ⟨?_, rfl⟩))
    · rw [eqv_int] at h
      have h := of_decide_eq_true h
      rw [if_pos (by omega)]; exact ev_cst
    · rw [eqv_int] at h
      have h := of_decide_eq_false h
      rw [if_neg (by omega)]; exact ev_cst
    · rw [← Int.natCast_mul]
  refine s_asg (.d (.bool (decide (es = s)))) ?_ ?_
  · refine ev_eq (ev_eq (ev_loc rfl) ev_cst (sh_int _) (sh_int _)) (ev_lt (ev_loc rfl) ev_cst) (sh_bool _) (sh_bool _) _ ⟨?_, rfl⟩
    rw [eqv_int, eqv_bool]
    have d1 : decide (p.1 < 0) = decide (s = 1) := by rw [decide_eq_decide]; exact hsgn.symm
    rw [d1]
    rcases hs with rfl | rfl <;> rcases hes with rfl | rfl <;> rfl
  simp only [rs]
  have hown : 2 ≤ m * 2 ^ (g + 1) ∧ (m ≠ 1 → 6 ≤ m * 2 ^ (g + 1)) := by
    have h1 := even_own m g
    have h2 := p2pos g
    have h3 := Nat.mul_le_mul_right (2 ^ g) (show 1 ≤ m by omega)
    refine ⟨by omega, fun h => ?_⟩
    have h4 := Nat.mul_le_mul_right (2 ^ g) (show 3 ≤ m by omega)
    omega
  have hdue0 : dueF s es m g way ≠ 0 := by
    unfold dueF
    split
    · omega
    · split
      · omega
      · split
        · split
          · omega
          · rename_i h; have := hown.2 h; omega
        · omega
  refine s_seq (fun ρ₁ σ₃ => σ₃ = σ₂ ∧ ∃ x13, ρ₁ = [some (.ref a), some (.d (.int p.1)), some (.d (.int p.2)), some (.d (.str way)), some (.d (TW p.1 p.2)), some (.d (.int es)), some (.d (.int ((bl m + g : Nat) : Int))),
    some (.d (cn s (dueF s es m g way) (e - (g + 1 : Nat)))), some (.d (.int ((2 ^ (g + 1) : Nat) : Int))), some (.d (.int ((m * 2 ^ (g + 1) : Nat) : Int))), some (.d (.int (if m = 1 then 1 else 2))), some (.d (.bool (decide (es = s)))), some (.d (.int (dueF s es m g way : Nat))), x13]) ?_ ?_
  · refine s_one (s_if (way = wn) ?_ (fun h => ?_) (fun h => ?_))
    · refine ev_eq (ev_loc rfl) ev_cst hw.sh Wn.sh _ ⟨eqv_str _ _, rfl⟩
    · have hdu : dueF s es m g way = m * 2 ^ (g + 1) := by unfold dueF; rw [if_pos h]
      generalize dueF s es m g way = D at *
      subst hdu
      refine s_asg (.d (.int ((m * 2 ^ (g + 1) : Nat) : Int))) (ev_loc rfl _ ⟨rfl, rfl⟩) ?_
      simp only [rs]
      exact s_nil (s_nil ⟨rfl, _, rfl⟩)
    · refine s_asg (.d (.bool (isOut s way))) ?_ ?_
      · refine ev_or3 (r := false) (ev_eq (ev_loc rfl) ev_cst hw.sh Wu.sh) (ev_or (ev_and (ev_eq (ev_loc rfl) ev_cst hw.sh Wc.sh) (ev_gt (ev_loc rfl) ev_cst)) (ev_and (ev_eq (ev_loc rfl) ev_cst hw.sh Wf.sh) (ev_lt (ev_loc rfl) ev_cst))) _ ⟨?_, rfl⟩
        have d1 : decide (p.1 < 0) = decide (s = 1) := by rw [decide_eq_decide]; exact hsgn.symm
        have d2 : decide (p.1 > 0) = decide (s = 0) := by rw [decide_eq_decide]; omega
        rw [d1, d2, eqv_str, eqv_str, eqv_str]
        unfold isOut
        rw [Bool.or_assoc]
      simp only [rs]
      refine s_asg (.d (.int (dueF s es m g way : Nat))) ?_ ?_
      · refine ev_ife (ev_and (ev_loc rfl) (ev_loc rfl)) (fun h1 => ?_) (fun h1 => ?_) _ ⟨rfl, rfl⟩
        · refine ev_cast (ev_add (ev_loc rfl) ev_cst) ?_
          unfold dueF
          rw [if_neg h, if_pos h1]; rfl
        · refine ev_ife (ev_and (ev_nt (ev_loc rfl)) (ev_nt (ev_loc rfl))) (fun h2 => ?_) (fun h2 => ?_)
          · refine ev_cast (ev_mns (ev_loc rfl) (ev_loc rfl)) ?_
            rw [dueF_in h h1 h2]
            by_cases hm1 : m = 1
            · rw [if_pos hm1, if_pos hm1]; congr 2; omega
            · rw [if_neg hm1, if_neg hm1]; congr 2; omega
          · refine ev_cast (ev_loc rfl) ?_
            rw [dueF_own h h1 h2]
      simp only [rs]
      exact s_nil (s_nil ⟨rfl, _, rfl⟩)
  · rintro ρ₁ σ₃ ⟨rfl, x13, rfl⟩
    have hdlt : dueF s es m g way < 2 ^ 500 := by
      have a1 : dueF s es m g way ≤ m * 2 ^ (g + 1) + 2 := by
        unfold dueF
        repeat' split
        all_goals omega
      have a2 : m * 2 ^ (g + 1) ≤ m * 2 ^ 20 := Nat.mul_le_mul_left _ (pow_le (by omega))
      have a3 : m * 2 ^ 20 < 2 ^ 40 * 2 ^ 20 := Nat.mul_lt_mul_of_pos_right b1 (p2pos 20)
      have a4 : 2 ^ 40 * 2 ^ 20 + 2 < (2 : Nat) ^ 500 := by decide +kernel
      omega
    have hTWd : TW (if p.1 < 0 then -(dueF s es m g way : Int) else (dueF s es m g way : Int)) (e - (g + 1 : Nat)) = cn s (dueF s es m g way) (e - (g + 1 : Nat)) := by
      have : (if p.1 < 0 then -(dueF s es m g way : Int) else (dueF s es m g way : Int)) = sv s (dueF s es m g way) := by
        unfold sv
        by_cases h : p.1 < 0
        · rw [if_pos h, if_pos (hsgn.mpr h)]
        · rw [if_neg h, if_neg (fun h1 => h (hsgn.mp h1))]
      rw [this]
      unfold TW
      rw [sg_sv hs hdue0, sv_abs]
    generalize dueF s es m g way = D at *
    refine s_ret ?_
    refine ev_eq (x := cn s D (e - (g + 1 : Nat))) (y := cn s D (e - (g + 1 : Nat))) (ev_loc rfl) ?_ (sh_cn _ _ _) (sh_cn _ _ _) _ ?_
    · intro Q2 hq2
      refine e_call (es_cons (ev_ife (x := .d (.int (if p.1 < 0 then -(D : Int) else (D : Int)))) (ev_lt (ev_loc rfl) ev_cst) (fun h => ?_) (fun h => ?_) _ (es_cons (ev_mns (i2 _ rfl) (hstep _ rfl rfl) _ (es_nil (tuple_ok B F ?_ ?_))))))
      · rw [if_pos (of_decide_eq_true h)]; exact ev_neg (ev_loc rfl)
      · rw [if_neg (of_decide_eq_false h)]; exact ev_loc rfl
      · split <;> omega
      · rw [hTWd]; exact hq2
    · rw [eqv_cn]
      exact hq _ hd2 hk2
end

-- M35
def sFin : PyData := .tuple [.int 0, .int 0, .int (-456), .int (-2)]
def sNin : PyData := .tuple [.int 1, .int 0, .int (-789), .int (-3)]
def sNan : PyData := .tuple [.int 0, .int 0, .int (-123), .int (-1)]
theorem DS.ne {σ : St} {a b : Addr} (h : DS σ a) (hb : σ b = none) : b ≠ a := by
  rintro rfl
  obtain ⟨_, _, _, h, _⟩ := h
  rw [hb] at h; cases h
theorem DS.upd {σ : St} {a b : Addr} {xs : List PyData} (h : DS σ a) (hb : b ≠ a) : DS (upd σ b xs) a := by
  obtain ⟨x, y, z, h, r⟩ := h
  exact ⟨x, y, z, by rw [upd_ne _ (Ne.symm hb)]; exact h, r⟩
theorem way_of : ∀ k : Nat, k < 5 → ∃ c, (Str.ofString "nfcud").cps[k]? = some c ∧ Way ⟨#[c]⟩
  | 0, _ => ⟨_, rfl, .inl rfl⟩
  | 1, _ => ⟨_, rfl, .inr (.inl rfl)⟩
  | 2, _ => ⟨_, rfl, .inr (.inr (.inl rfl))⟩
  | 3, _ => ⟨_, rfl, .inr (.inr (.inr (.inl rfl)))⟩
  | 4, _ => ⟨_, rfl, .inr (.inr (.inr (.inr rfl)))⟩
  | _ + 5, h => absurd h (by omega)
theorem sum_abs_bound {K : Nat} (f : Int → Int) : ∀ (vs : List Int), (∀ v ∈ vs, (f v).natAbs ≤ K) → ((vs.map f).sum).natAbs ≤ vs.length * K
  | [], _ => by simp
  | v :: vs, h => by
    have h1 := sum_abs_bound f vs fun x hx => h x (List.mem_cons_of_mem _ hx)
    have h2 := h v (List.mem_cons_self ..)
    rw [List.map_cons, List.sum_cons, List.length_cons, Nat.add_mul]
    omega
theorem sh_pair4 {x y : PyData} (hx : ∃ a b c d : Int, x = .tuple [.int a, .int b, .int c, .int d]) (hy : ∃ a b c d : Int, y = .tuple [.int a, .int b, .int c, .int d]) : SeqAt.shaped (.tuple [x, y]) = true ∧ PyData.eqv (.tuple [x, y]) (.tuple [x, y]) = true := by
  obtain ⟨a, b, c, d, rfl⟩ := hx
  obtain ⟨a', b', c', d', rfl⟩ := hy
  exact ⟨rfl, by simp [PyData.eqv, PyData.eqvAll]⟩

section
variable {prog : Program} {w : World} {hb : Heap} {mg mb : Str → Option Value} {fa : Nat → Addr}
theorem e_draw (B : Bs hb mg mb fa) (F : Fns hb fa) {n : Nat} {ρ : List (Option V)} {σ : St} {Q : V → St → Prop} {a : Addr} {k : Int} (h : rg ρ 1 = some (.ref a)) (hd : DS σ a) (hk : 1 ≤ k)
    (hq : ∀ v σ', 0 ≤ v → v < k → DS σ' a → (∀ b, b ≠ a → σ' b = σ b) → Q (.d (.int v)) σ') : wpE (CallOK prog w hb fa (n + 1)) ρ (.call 21 (.cons (.loc 1) (.cons (.cst (.int k)) .nil))) σ Q :=
  e_call (es_cons (ev_loc h _ (es_cons (ev_cst _ (es_nil (draw_ok B F hk hd hq))))))

section
variable {n : Nat} {ρ : List (Option V)} {σ : St} {Q : V → St → Prop} {QQ : List (Option V) → St → Prop} {R : V → St → Prop} {ss : Sms}
theorem p_add {a b : Int} {K : PyData → Prop} (h : K (.int (a + b))) : BinP .Add (.d (.int a)) (.d (.int b)) K := h
theorem p_sub {a b : Int} {K : PyData → Prop} (h : K (.int (a - b))) : BinP .Sub (.d (.int a)) (.d (.int b)) K := h
theorem p_mul {a b : Int} {K : PyData → Prop} (h1 : Smal a) (h2 : Smal b) (h : K (.int (a * b))) : BinP .Mult (.d (.int a)) (.d (.int b)) K := ⟨⟨h1, h2⟩, h⟩
theorem e_sub {a i : Ex} (h : wpE (CallOK prog w hb fa n) ρ a σ fun x σ₁ => wpE (CallOK prog w hb fa n) ρ i σ₁ fun y σ₂ => SubP σ₂ x y fun r => Q (.d r) σ₂) : wpE (CallOK prog w hb fa n) ρ (.sub a i) σ Q := h
theorem e_lst {es : Exs} (h : wpEs (CallOK prog w hb fa n) ρ es σ fun vs σ₁ => ∃ xs, datas vs = some xs ∧ xs.length < 1000 ∧ ∀ a, σ₁ a = none → Q (.ref a) (upd σ₁ a xs)) : wpE (CallOK prog w hb fa n) ρ (.lst es) σ Q := h
theorem e_tup {es : Exs} (h : wpEs (CallOK prog w hb fa n) ρ es σ fun vs σ₁ => ∃ xs, datas vs = some xs ∧ xs.length < 1000 ∧ Q (.d (.tuple xs)) σ₁) : wpE (CallOK prog w hb fa n) ρ (.tup es) σ Q := h
theorem e_ife {c a b : Ex} (h : wpE (CallOK prog w hb fa n) ρ c σ fun x σ₁ => TruthP x fun t => (t = true → wpE (CallOK prog w hb fa n) ρ a σ₁ Q) ∧ (t = false → wpE (CallOK prog w hb fa n) ρ b σ₁ Q)) : wpE (CallOK prog w hb fa n) ρ (.ife c a b) σ Q := h
theorem e_cmp {op : CmpOp} {a b : Ex} (h : wpE (CallOK prog w hb fa n) ρ a σ fun x σ₁ => wpE (CallOK prog w hb fa n) ρ b σ₁ fun y σ₂ => CmpP op x y fun r => Q (.d (.bool r)) σ₂) : wpE (CallOK prog w hb fa n) ρ (.cmp op a b) σ Q := h
theorem e_bi {f : BI} {as : Exs} (h : wpEs (CallOK prog w hb fa n) ρ as σ fun vs σ₁ => BiP f vs σ₁ fun r => Q (.d r) σ₁) : wpE (CallOK prog w hb fa n) ρ (.bi f as) σ Q := h
theorem e_comp1 {elt it : Ex} (h : wpE (CallOK prog w hb fa n) ρ it σ fun v σ₁ => ∃ xs, lstOf σ₁ v = some xs ∧ xs.length < 1000000 ∧ ∃ F : PyData → PyData, (∀ x ∈ xs, ∀ σ', wpE (CallOK prog w hb fa n) [some (.d x)] elt σ' fun y σ₂ => y = .d (F x) ∧ σ₂ = σ') ∧ Q (.d (.list (xs.map F))) σ₁) : wpE (CallOK prog w hb fa n) ρ (.comp1 elt it) σ Q := by
  unfold wpE; exact h
theorem e_nt {a : Ex} (h : wpE (CallOK prog w hb fa n) ρ a σ fun x σ₁ => TruthP x fun b => Q (.d (.bool (!b))) σ₁) : wpE (CallOK prog w hb fa n) ρ (.nt a) σ Q := h
theorem e_or2 {a b : Ex} (h : wpE (CallOK prog w hb fa n) ρ a σ fun v σ₁ => TruthP v fun t => (t = false → wpE (CallOK prog w hb fa n) ρ b σ₁ Q) ∧ (t = true → Q v σ₁)) : wpE (CallOK prog w hb fa n) ρ (.bool .Or (.cons a (.cons b .nil))) σ Q := h
theorem e_and2 {a b : Ex} (h : wpE (CallOK prog w hb fa n) ρ a σ fun v σ₁ => TruthP v fun t => (t = true → wpE (CallOK prog w hb fa n) ρ b σ₁ Q) ∧ (t = false → Q v σ₁)) : wpE (CallOK prog w hb fa n) ρ (.bool .And (.cons a (.cons b .nil))) σ Q := h
theorem s_iff {c : Ex} {t f : Sms} (h : wpE (CallOK prog w hb fa n) ρ c σ fun v σ₁ => TruthP v fun b => b = false ∧ wpSs (CallOK prog w hb fa n) f ρ σ₁ (fun ρ₁ σ₁ => wpSs (CallOK prog w hb fa n) ss ρ₁ σ₁ QQ R) R) : wpSs (CallOK prog w hb fa n) (.cons (.ite c t f) ss) ρ σ QQ R :=
  wpE_mono callOK_mono c h fun v σ₁ h1 => TruthP_mono h1 fun b hb => ⟨fun e => absurd (hb.1.symm.trans e) (by decide), fun _ => hb.2⟩
theorem s_app {i : Nat} {e : Ex} {l : Addr} {ys : List PyData} (hv : rg ρ i = some (.ref l)) (hys : σ l = some ys)
    (h : wpE (CallOK prog w hb fa n) ρ e σ fun y σ₁ => ∃ x, y = .d x ∧ ∃ xs, σ₁ l = some xs ∧ xs.length < 1000000 ∧ wpSs (CallOK prog w hb fa n) ss ρ (upd σ₁ l (xs ++ [x])) QQ R) : wpSs (CallOK prog w hb fa n) (.cons (.app i e) ss) ρ σ QQ R := by
  show (match rg ρ i with
      | some (.ref l) => (∃ ys, σ l = some ys) ∧ wpE (CallOK prog w hb fa n) ρ e σ fun y σ₁ => match y with
        | .d x => ∃ xs, σ₁ l = some xs ∧ xs.length < 1000000 ∧ wpSs (CallOK prog w hb fa n) ss ρ (upd σ₁ l (xs ++ [x])) QQ R
        | _ => False
      | _ => False)
  rw [hv]
  refine ⟨⟨ys, hys⟩, wpE_mono callOK_mono e h ?_⟩
  rintro v σ₁ ⟨x, rfl, h⟩
  exact h
end
theorem sh_X {P : Nat} {v : Int} {way : Str} : SeqAt.shaped (if P = 0 then TW v (-20) else RNI v (-20) P way) = true := by
  split
  · exact sh_TW _ _
  · exact sh_RNI _ _ _ _
theorem eqv_X {P : Nat} {v : Int} {way : Str} : PyData.eqv (if P = 0 then TW v (-20) else RNI v (-20) P way) (if P = 0 then TW v (-20) else RNI v (-20) P way) = true := by
  split
  · exact eqv_TW _ _
  · exact eqv_RNI _ _ _ _

def initS : Sms → Sms
  | .nil => .nil
  | .cons _ .nil => .nil
  | .cons s (.cons t r) => .cons s (initS (.cons t r))
theorem law_init (B : Bs hb mg mb fa) (F : Fns hb fa) {n : Nat} {ns : List Int} (hlen : ns.length ≤ 100) {R : V → St → Prop} :
    wpSs (CallOK prog w hb fa (n + 10)) (initS bd_law) [some (.d (.list (ns.map .int))), none, none, none, none, none, none, none, none, none] (fun _ => none) (fun ρ σ => ∃ st, rg ρ 1 = some (.ref st) ∧ DS σ st) R := by
  refine s_asgk (e_call (es_cons (ev_loc rfl _ (es_nil (state_ok B F hlen ?_)))))
  intro st σ₁ _ hd₁ _
  simp only [rs]
  have hS2 : Smal 1000003 := smal_of (k := 20) (by decide) (by decide)
  refine s_seq (fun ρ₁ σ₂ => DS σ₂ st ∧ ∃ (r : Addr) (P : Nat) (way : Str), r ≠ st ∧ σ₂ r = some [] ∧ Way way ∧ (P = 0 ∨ 45 ≤ P) ∧ P ≤ 1000 ∧
    ρ₁ = [some (.d (.list (ns.map .int))), some (.ref st), some (.d (.int P)), some (.d (.str way)), some (.ref r), none, none, none, none, none]) ?_ ?_
  · show wpEs _ _ _ _ _
    refine es_cons (e_sub (e_lst (es_cons (ev_cst _ (es_cons (e_bin (ev_cst _ (e_draw B F rfl hd₁ (by decide) ?_))))))))
    intro v σ2 v0 v1 hd2 hk2
    refine p_add (es_nil ⟨_, rfl, by simp, fun tmp htmp => ?_⟩)
    have hne := hd2.ne htmp
    refine e_draw B F rfl (hd2.upd hne) (by decide) ?_
    intro j σ3 j0 j1 hd3 hk3
    have htl : σ3 tmp = some [.int 0, .int (45 + v)] := (hk3 tmp hne).trans (upd_self _ _ _)
    obtain ⟨P, hP, hP2, hx⟩ : ∃ P : Nat, (P = 0 ∨ 45 ≤ P) ∧ P ≤ 1000 ∧ [PyData.int 0, .int (45 + v)][j.toNat]? = some (.int (P : Int)) := by
      have : j = 0 ∨ j = 1 := by omega
      rcases this with rfl | rfl
      · exact ⟨0, .inl rfl, by decide, rfl⟩
      · refine ⟨(45 + v).toNat, .inr (by omega), by omega, ?_⟩
        show some (PyData.int (45 + v)) = _
        rw [show ((45 + v).toNat : Int) = 45 + v by omega]
    refine ⟨_, _, ⟨j0, by omega, htl, hx⟩, ?_⟩
    refine es_cons (e_sub (ev_cst _ (e_draw B F rfl hd3 (by decide) ?_)))
    intro k σ4 k0 k1 hd4 hk4
    obtain ⟨c, hc, hcw⟩ := way_of k.toNat (by omega)
    refine ⟨c, ⟨k0, by omega, hc⟩, ?_⟩
    refine es_cons (e_lst (es_nil ⟨[], rfl, by simp, fun r hr => ?_⟩))
    have hne4 := hd4.ne hr
    exact es_nil ⟨rfl, hd4.upd hne4, r, P, ⟨#[c]⟩, hne4, upd_self _ _ _, hcw, hP, hP2, rfl⟩
  rintro ρ₁ σ₂ ⟨hd₂, r, P, way, hrst, hr0, hw, hP, hP2, rfl⟩
  refine s_seq (fun ρ₁ σ₃ => DS σ₃ st ∧ ∃ (ps : List (Int × Int)) (x5 x6 : Option V), 1 ≤ ps.length ∧ ps.length ≤ 8 ∧ (∀ p ∈ ps, okp p) ∧ σ₃ r = some (ps.map pr) ∧
    ρ₁ = [some (.d (.list (ns.map .int))), some (.ref st), some (.d (.int P)), some (.d (.str way)), some (.ref r), x5, x6, none, none, none]) ?_ ?_
  · show wpE _ _ _ _ _
    refine e_bin (ev_cst _ (e_draw B F rfl hd₂ (by decide) ?_))
    intro N σ3 N0 N1 hd3 hk3
    refine ⟨by omega, by omega, fun k ρ₁ σ₃ => DS σ₃ st ∧ ∃ (ps : List (Int × Int)) (x5 x6 : Option V), ps.length = k ∧ (∀ p ∈ ps, okp p) ∧ σ₃ r = some (ps.map pr) ∧
      ρ₁ = [some (.d (.list (ns.map .int))), some (.ref st), some (.d (.int P)), some (.d (.str way)), some (.ref r), x5, x6, none, none, none],
      ⟨hd3, [], none, none, rfl, by simp, (hk3 r hrst).trans hr0, rfl⟩, ?_, ?_⟩
    · rintro k ρ' σ' hk ⟨hd', ps, x5, x6, hpl, hps, hr', rfl⟩
      simp only [rs]
      refine s_seq (fun ρ₂ σ₂ => DS σ₂ st ∧ σ₂ r = some (ps.map pr) ∧ ∃ w : Int, w.natAbs < 2 ^ 40 ∧
        ρ₂ = [some (.d (.list (ns.map .int))), some (.ref st), some (.d (.int P)), some (.d (.str way)), some (.ref r), some (.d (.int k)), some (.d (.int w)), none, none, none]) ?_ ?_
      · show wpE _ _ _ _ _
        refine e_sub (e_lst (es_cons (ev_cst _ (es_cons (ev_cst _ (es_cons (e_draw B F rfl hd' (by decide) ?_)))))))
        intro v1 σa a0 a1 hda hka
        refine es_cons (e_bin (e_bin (e_draw B F rfl hda (by decide) ?_)))
        intro v2 σb b0 b1 hdb hkb
        refine ev_cst _ (p_mul (smal_of (k := 20) (by omega) (by decide)) hS2 ?_)
        refine e_draw B F rfl hdb (by decide) ?_
        intro v3 σc c0 c1 hdc hkc
        refine p_add (es_nil ⟨_, rfl, by simp, fun tmp htmp => ?_⟩)
        have hne := hdc.ne htmp
        refine e_draw B F rfl (hdc.upd hne) (by decide) ?_
        intro j σd j0 j1 hdd hkd
        have htl := (hkd tmp hne).trans (upd_self _ _ _)
        have hrr : σc r = some (ps.map pr) := (hkc r hrst).trans ((hkb r hrst).trans ((hka r hrst).trans hr'))
        have hrt : r ≠ tmp := by rintro rfl; rw [htmp] at hrr; cases hrr
        have hrd : σd r = some (ps.map pr) := (hkd r hrst).trans ((upd_ne _ hrt).trans hrr)
        have : j = 0 ∨ j = 1 ∨ j = 2 ∨ j = 3 := by omega
        rcases this with rfl | rfl | rfl | rfl
        · exact ⟨_, _, ⟨by decide, by decide, htl, rfl⟩, hdd, hrd, 0, by decide, rfl⟩
        · exact ⟨_, _, ⟨by decide, by decide, htl, rfl⟩, hdd, hrd, 1, by decide, rfl⟩
        · exact ⟨_, _, ⟨by decide, by decide, htl, rfl⟩, hdd, hrd, v1, by omega, rfl⟩
        · exact ⟨_, _, ⟨by decide, by decide, htl, rfl⟩, hdd, hrd, v2 * 1000003 + v3, by omega, rfl⟩
      · rintro ρ₂ σ4 ⟨hd4, hr4, wv, hwv, rfl⟩
        refine s_app rfl hr4 (e_tup (es_cons (e_ife (e_cmp (e_draw B F rfl hd4 (by decide) ?_)))))
        intro b σ5 b0 b1 hd5 hk5
        have fin : ∀ u : Int, u.natAbs < 2 ^ 40 → wpEs (CallOK prog w hb fa (n + 10)) [some (.d (.list (ns.map .int))), some (.ref st), some (.d (.int P)), some (.d (.str way)), some (.ref r), some (.d (.int k)), some (.d (.int wv)), none, none, none]
            (.cons (.bin .Sub (.call 21 (.cons (.loc 1) (.cons (.cst (.int 41)) .nil))) (.cst (.int 20))) .nil) σ5 (fun vs σ₂ => ∃ xs, datas (.d (.int u) :: vs) = some xs ∧ xs.length < 1000 ∧ ∃ x, V.d (.tuple xs) = .d x ∧ ∃ xs, σ₂ r = some xs ∧ xs.length < 1000000 ∧
              wpSs (CallOK prog w hb fa (n + 10)) .nil [some (.d (.list (ns.map .int))), some (.ref st), some (.d (.int P)), some (.d (.str way)), some (.ref r), some (.d (.int k)), some (.d (.int wv)), none, none, none] (upd σ₂ r (xs ++ [x])) (fun ρ₁ σ₃ => DS σ₃ st ∧ ∃ (ps : List (Int × Int)) (x5 x6 : Option V), ps.length = k + 1 ∧ (∀ p ∈ ps, okp p) ∧ σ₃ r = some (ps.map pr) ∧
                ρ₁ = [some (.d (.list (ns.map .int))), some (.ref st), some (.d (.int P)), some (.d (.str way)), some (.ref r), x5, x6, none, none, none]) R) := by
          intro u hu
          refine es_cons (e_bin (e_draw B F rfl hd5 (by decide) ?_))
          intro d σ6 d0 d1 hd6 hk6
          refine ev_cst _ (p_sub (es_nil ⟨_, rfl, by simp, _, rfl, ps.map pr, (hk6 r hrst).trans ((hk5 r hrst).trans hr4), by rw [List.length_map]; omega, ?_⟩))
          refine s_nil ⟨hd6.upd hrst, ps ++ [(u, d - 20)], _, _, by simp [hpl], ?_, ?_, rfl⟩
          · intro p hp
            rcases List.mem_append.mp hp with hp | hp
            · exact hps p hp
            · have : p = (u, d - 20) := by simpa using hp
              subst this
              exact ⟨hu, by show -20 ≤ d - 20; omega, by show d - 20 ≤ 20; omega⟩
          · rw [upd_self, List.map_append]; rfl
        refine ev_cst _ ⟨⟨sh_int _, sh_int _⟩, ?_⟩
        show (_ = true → _) ∧ (_ = false → _)
        refine ⟨fun _ => ?_, fun _ => ?_⟩
        · refine ev_neg (ev_loc rfl) _ (fin (-wv) (by omega))
        · exact ev_loc rfl _ (fin wv hwv)
    · rintro ρ' σ' ⟨hd', ps, x5, x6, hpl, hps, hr', rfl⟩
      exact ⟨hd', ps, x5, x6, by omega, by omega, hps, hr', rfl⟩
  rintro ρ₁ σ₃ ⟨hd₃, ps, x5, x6, hl1, hl8, hps, hr₃, rfl⟩
  -- the checks
  have hnum : (ps.map fun p => TW p.1 p.2) = (ps.map fx).map fun v => TW v (-20) := by
    rw [List.map_map]
    exact List.map_congr_left fun p hp => TW_fx (hps p hp)
  have hval : (ps.map fun p => PyData.int (fx p)) = (ps.map fx).map .int := by rw [List.map_map]; rfl
  have hvs : ∀ v ∈ ps.map fx, v.natAbs < 2 ^ 80 := by
    intro v hv
    obtain ⟨p, hp, rfl⟩ := List.mem_map.mp hv
    exact fx_lt (hps p hp)
  have hvl : (ps.map fx).length = ps.length := List.length_map ..
  refine s_unps [.d (.list ((ps.map fx).map .int)), .d (.list ((ps.map fx).map fun v => TW v (-20)))] [some (.d (.list (ns.map .int))), some (.ref st), some (.d (.int P)), some (.d (.str way)), some (.ref r), x5, x6, some (.d (.list ((ps.map fx).map .int))), some (.d (.list ((ps.map fx).map fun v => TW v (-20)))), none] ?_ rfl rfl ?_
  · refine es_cons (e_call (es_cons (ev_loc rfl _ (es_nil (fixed_ok B F hps (by omega) hr₃ ?_)))))
    refine es_cons ?_
    refine (show wpE (CallOK prog w hb fa (n + 10)) _ (.comp2 (.call 24 (.cons (.loc 0) (.cons (.loc 1) .nil))) (.loc 4)) σ₃ _ from ?_)
    unfold wpE
    refine ev_loc (v := .ref r) rfl _ ⟨ps.map pr, hr₃, by rw [List.length_map]; omega, fun x => match x with | .tuple [.int a, .int b] => TW a b | _ => .none, ?_, ?_⟩
    · intro x hx
      obtain ⟨p, hp, rfl⟩ := List.mem_map.mp hx
      refine ⟨_, _, rfl, fun σ' => ?_⟩
      exact e_call (es_cons (ev_loc rfl _ (es_cons (ev_loc rfl _ (es_nil (tuple_ok B F (Nat.lt_of_lt_of_le (hps p hp).1 (pow_le (by decide))) ⟨rfl, rfl⟩))))))
    · refine es_nil ⟨?_, rfl⟩
      rw [← hnum, ← hval, List.map_map]; rfl
  have hX : ∀ f : Int → Int, (∀ v, (f v).natAbs = v.natAbs) → (((ps.map fx).map f).sum).natAbs < 2 ^ 400 := by
    intro f hf
    have h1 := sum_abs_bound (K := 2 ^ 80) f (ps.map fx) fun v hv => by rw [hf]; exact Nat.le_of_lt (hvs v hv)
    have h2 : (ps.map fx).length * 2 ^ 80 ≤ 8 * 2 ^ 80 := Nat.mul_le_mul_right _ (by omega)
    have h3 : (8 : Nat) * 2 ^ 80 < 2 ^ 400 := by decide +kernel
    omega
  generalize hvsdef : ps.map fx = vs at *
  have hvl8 : vs.length ≤ 8 := by omega
  have hvl1 : 1 ≤ vs.length := by omega
  -- the sum
  refine s_if False ?_ (fun h => h.elim) (fun _ => s_nil ?_)
  · refine ev_ne (x := if P = 0 then TW vs.sum (-20) else RNI vs.sum (-20) P way) (y := if P = 0 then TW vs.sum (-20) else RNI vs.sum (-20) P way) ?_ ?_ sh_X sh_X _ ⟨?_, rfl⟩
    · intro Q' hq'
      exact e_call (es_cons (ev_loc rfl _ (es_cons (ev_loc rfl _ (es_cons (ev_loc rfl _ (es_nil (sum3_ok B F hvs (by omega) hw hP hP2 hq'))))))))
    · intro Q' hq'
      refine e_call (es_cons (e_bi (es_cons (ev_loc rfl _ (es_nil ⟨_, vs, rfl, intsOf_map _, ?_⟩)))))
      refine es_cons (ev_loc rfl _ (es_cons (ev_loc rfl _ (es_nil (made_ok B F ?_ hw hP2 hq')))))
      simpa using hX id fun _ => rfl
    · show (!PyData.eqv _ _) = _
      rw [eqv_X]; rfl
  -- the sum of the absolutes
  refine s_if False ?_ (fun h => h.elim) (fun _ => s_nil ?_)
  · refine ev_ne (x := if P = 0 then TW (vs.map fun v => (v.natAbs : Int)).sum (-20) else RNI (vs.map fun v => (v.natAbs : Int)).sum (-20) P way) (y := if P = 0 then TW (vs.map fun v => (v.natAbs : Int)).sum (-20) else RNI (vs.map fun v => (v.natAbs : Int)).sum (-20) P way) ?_ ?_ sh_X sh_X _ ⟨?_, rfl⟩
    · intro Q' hq'
      exact e_call (es_cons (ev_loc rfl _ (es_cons (ev_loc rfl _ (es_cons (ev_loc rfl _ (es_cons (ev_cst _ (es_nil (sum4_ok B F hvs (by omega) hw hP hP2 rfl hq'))))))))))
    · intro Q' hq'
      refine e_call (es_cons (e_bi (es_cons (e_comp1 (ev_loc rfl _ ⟨_, rfl, by rw [List.length_map]; omega, fun x => match x with | .int a => .int (a.natAbs : Int) | _ => .none, ?_, ?_⟩)))))
      · intro x hx σ'
        obtain ⟨v, hv, rfl⟩ := List.mem_map.mp hx
        exact ev_abs (ev_loc rfl) _ ⟨rfl, rfl⟩
      · refine es_nil ⟨_, vs.map fun v => (v.natAbs : Int), rfl, ?_, ?_⟩
        · rw [List.map_map]
          have : (vs.map ((fun x : PyData => match x with | .int a => PyData.int (a.natAbs : Int) | _ => .none) ∘ PyData.int)) = (vs.map fun v => (v.natAbs : Int)).map .int := by rw [List.map_map]; rfl
          rw [this]; exact intsOf_map _
        · refine es_cons (ev_loc rfl _ (es_cons (ev_loc rfl _ (es_nil (made_ok B F ?_ hw hP2 hq')))))
          exact hX (fun v => (v.natAbs : Int)) fun v => by simp
    · show (!PyData.eqv _ _) = _
      rw [eqv_X]; rfl
  -- the least and the greatest
  refine s_if False ?_ (fun h => h.elim) (fun _ => s_nil ?_)
  · obtain ⟨v0, vt, hv⟩ : ∃ v0 vt, vs = v0 :: vt := by
      cases vs with
      | nil => simp at hvl1
      | cons v0 vt => exact ⟨v0, vt, rfl⟩
    refine e_cmp (e_call (es_cons (ev_loc rfl _ (es_nil ?_))))
    rw [hv]
    refine min_max_ok B F (fun v hv' => Nat.lt_trans (hvs v (hv ▸ hv')) (by decide +kernel)) (by rw [hv] at hvl8; simp at hvl8; omega) ?_
    rw [← hv]
    intro a b ha1 ha2 hb1 hb2
    refine e_tup (es_cons (e_call (es_cons (e_bi (es_cons (ev_loc rfl _ (es_nil ⟨_, vs, rfl, intsOf_map _, hvl1, fun m hm1 hm2 => ?_⟩)))))))
    have hma : m = a := by
      have h1 := hm2 a ha1
      have h2 := ha2 m hm1
      omega
    subst hma
    refine es_cons (ev_neg ev_cst _ (es_nil (tuple_ok B F (Nat.lt_trans (hvs _ ha1) (by decide +kernel)) ?_)))
    refine es_cons (e_call (es_cons (e_bi (es_cons (ev_loc rfl _ (es_nil ⟨_, vs, rfl, intsOf_map _, hvl1, fun m' hm1' hm2' => ?_⟩))))))
    have hmb : m' = b := by
      have h1 := hm2' b hb1
      have h2 := hb2 m' hm1'
      omega
    subst hmb
    refine es_cons (ev_neg ev_cst _ (es_nil (tuple_ok B F (Nat.lt_trans (hvs _ hb1) (by decide +kernel)) ?_)))
    obtain ⟨s1, s2⟩ := sh_pair4 (x := TW m (-20)) (y := TW m' (-20)) (cn_form _ _ _) (cn_form _ _ _)
    refine es_nil ⟨_, rfl, by simp, ⟨s1, s1⟩, ?_⟩
    show (!PyData.eqv (.tuple [TW m (-20), TW m' (-20)]) (.tuple [TW m (-20), TW m' (-20)])) = false ∧ _
    rw [s2]
    exact ⟨rfl, rfl⟩
  refine s_seq (fun ρ₁ σ₄ => DS σ₄ st ∧ σ₄ r = some (ps.map pr) ∧ ∃ p, okp p ∧ ρ₁ = [some (.d (.list (ns.map .int))), some (.ref st), some (.d (.int P)), some (.d (.str way)), some (.ref r), x5, some (.d (.int p.1)), some (.d (.list (vs.map .int))), some (.d (.list (vs.map fun v => TW v (-20)))), some (.d (.int p.2))]) ?_ ?_
  · show wpE _ _ _ _ _
    refine e_sub (ev_loc rfl _ (e_call (es_cons (ev_loc rfl _ (es_cons (e_bi (es_cons (ev_loc (v := .ref r) rfl _ (es_nil ⟨ps.map pr, hr₃, by rw [List.length_map]; omega, ?_⟩)))))))))
    refine es_nil (draw_ok B F (by rw [List.length_map]; omega) hd₃ ?_)
    intro j σ4 j0 j1 hd4 hk4
    rw [List.length_map] at j1
    have hlt : j.toNat < ps.length := by omega
    have hr4 := (hk4 r hrst).trans hr₃
    refine ⟨_, pr ps[j.toNat], ⟨j0, by omega, hr4, ?_⟩, rfl, hd4, hr4, ps[j.toNat], hps _ (List.getElem_mem hlt), rfl⟩
    rw [List.getElem?_map, List.getElem?_eq_getElem hlt]; rfl
  rintro ρ₁ σ₄ ⟨hd₄, hr₄, p, hp, rfl⟩
  have fin : ∀ σ₅, DS σ₅ st → wpSs (CallOK prog w hb fa (n + 10)) .nil
      [some (.d (.list (ns.map .int))), some (.ref st), some (.d (.int P)), some (.d (.str way)), some (.ref r), x5, some (.d (.int p.1)), some (.d (.list (vs.map .int))), some (.d (.list (vs.map fun v => TW v (-20)))), some (.d (.int p.2))] σ₅ (fun ρ σ => ∃ st, rg ρ 1 = some (.ref st) ∧ DS σ st) R :=
    fun σ₅ hd₅ => s_nil ⟨st, rfl, hd₅⟩
  refine s_iff (e_or2 (e_nt (e_call (es_cons (ev_loc rfl _ (es_cons (e_bin (ev_cst _ (e_draw B F rfl hd₄ (by decide) ?_)))))))))
  intro v σ5 v0 v1 hd5 hk5
  have hr5 := (hk5 r hrst).trans hr₄
  refine p_add (es_cons (ev_loc rfl _ (es_nil ?_)))
  rw [show (45 : Int) + v = ((45 + v).toNat : Int) by omega]
  refine rest_right_ok B F hps (by omega) hw (by omega) (by omega) hr5 ?_
  show (_ = false → _) ∧ (_ = true → _)
  refine ⟨fun _ => ?_, fun h => absurd h (by decide)⟩
  refine e_nt (e_call (es_cons (ev_loc rfl _ (es_cons (ev_loc rfl _ (es_cons (ev_loc rfl _ (es_nil (parts_right_ok B F hp hd5 ?_)))))))))
  intro σ6 hd6 hk6
  refine ⟨rfl, s_nil ?_⟩
  refine s_iff (e_and2 (e_cmp (ev_loc (v := .d (.int p.1)) rfl _ (ev_cst _ ⟨⟨sh_int _, sh_int _⟩, ?_⟩))))
  show (_ = true → _) ∧ (_ = false → _)
  refine ⟨fun h => ?_, fun h => ⟨h, s_nil (fin _ hd6)⟩⟩
  have hp0 : p.1 ≠ 0 := by
    intro h0
    rw [eqv_int, h0] at h
    exact absurd h (by decide)
  refine e_nt (e_call (es_cons (ev_loc rfl _ (es_cons (ev_loc rfl _ (es_cons (ev_loc rfl _ (es_cons (ev_loc rfl _ (es_nil (hair_right_ok B F hp hp0 hw hd6 ?_)))))))))))
  intro σ7 hd7 hk7
  exact ⟨rfl, s_nil (fin _ hd7)⟩

def lastArg : Ex := .sub (.lst (.cons (.glb 9) (.cons (.glb 10) (.cons (.glb 8) .nil)))) (.call 21 (.cons (.loc 1) (.cons (.cst (.int 3)) .nil)))
theorem last_arg (B : Bs hb mg mb fa) (F : Fns hb fa) {n : Nat} {ρ : List (Option V)} {σ : St} {st : Addr} (h : rg ρ 1 = some (.ref st)) (hd : DS σ st) {Q : V → St → Prop}
    (hq : ∀ x σ', (x = sFin ∨ x = sNin ∨ x = sNan) → Q (.d x) σ') : wpE (CallOK prog w hb fa (n + 1)) ρ lastArg σ Q := by
  refine e_sub (e_lst (es_cons (ev_glb cval9 _ (es_cons (ev_glb cval10 _ (es_cons (ev_glb cval8 _ (es_nil ⟨_, rfl, by simp, fun tmp htmp => ?_⟩))))))))
  have hne := hd.ne htmp
  refine e_draw B F h (hd.upd hne) (by decide) ?_
  intro j σ6 j0 j1 hd6 hk6
  have htl := (hk6 tmp hne).trans (upd_self _ _ _)
  have : j = 0 ∨ j = 1 ∨ j = 2 := by omega
  rcases this with rfl | rfl | rfl
  · exact ⟨_, _, ⟨by decide, by decide, htl, rfl⟩, hq _ _ (.inl rfl)⟩
  · exact ⟨_, _, ⟨by decide, by decide, htl, rfl⟩, hq _ _ (.inr (.inl rfl))⟩
  · exact ⟨_, _, ⟨by decide, by decide, htl, rfl⟩, hq _ _ (.inr (.inr rfl))⟩
end

-- M36
def hide (h : Heap) (L : Addr) : Heap := h.update L fun o => { o with data := .freed }
theorem hide_other {h : Heap} {L b : Addr} (hb : b ≠ L) : (hide h L).get? b = h.get? b := Heap.get?_update_other _ _ (Ne.symm hb)
theorem hide_self (h : Heap) (L : Addr) : (hide h L).get? L = none := by
  obtain ⟨objs, l⟩ := h
  show (match (objs.modify L fun o => { o with data := .freed })[L]? with | some ⟨_, _, .freed, _⟩ => none | o => o) = none
  rw [Array.getElem?_modify]
  simp only [if_true]
  cases objs[L]? with
  | none => rfl
  | some o => obtain ⟨a, b, c, d⟩ := o; rfl
theorem hide_stays (h : Heap) (L : Addr) : (hide h L).StaysIn h := fun b o e => by
  by_cases hb : b = L
  · subst hb; rw [hide_self] at e; cases e
  · rw [hide_other hb] at e; exact e

/-- the whole of a def, and its text's shape -/
def FnAtB (hb : Heap) (a : Addr) (k : Nat) (dfl : List PyData) (nm : List Str) (bd : Sms) (P : Scope → List Stmt → Prop) : Prop :=
  ∃ o fd body dvs, hb.get? a = some o ∧ o.data = .func fd ∧ hb.CodeRec fd.code fd.qualname ∧ fd.body = .stmts body ∧ okSs fd.scope nm bd body = true ∧ nm.Nodup ∧ fd.scope.kind = .function ∧
    fd.scope.isCoroutine = false ∧ fd.scope.isGenerator = false ∧ (∀ x ∈ fd.scope.names, x.2 ≠ .cell) ∧ fd.globals = mainGlobals ∧ fd.builtins = builtinsNs ∧
    (∀ x ∈ nm.take (k + dfl.length), fd.scope.names.lookup x = some .local) ∧ RDs hb (fun _ => none) dvs dfl ∧ k + dfl.length ≤ nm.length ∧
    (∀ (args : List Value), args.length = k → ∀ s : Shared, (∀ b o, hb.get? b = some o → s.heap.get? b = some o) → BindsTo s fd ⟨args, []⟩ ((nm.take (k + dfl.length)).zip (args ++ dvs))) ∧ P fd.scope body

def VE : Str := Str.ofString "ValueError"
def PTme (sc : Scope) (body : List Stmt) : Prop := sc.names.lookup VE = some .globalImplicit ∧ ∃ p1 p2 pc np msg ck cp cpos rp pf ip rest,
  body = p1 :: p2 :: .If pc [.Raise (some (.Call (.Name VE np) [.Constant (.str msg) ck cp] [] cpos)) none rp] pf ip :: rest
def PFrx (sc : Scope) (body : List Stmt) : Prop := sc.names.lookup VE = some .globalImplicit ∧ ∃ p1 pc pc2 pt2 np rp ip2 pf ip rest,
  body = p1 :: .If pc [.If pc2 pt2 [.Raise (some (.Name VE np)) none rp] ip2] pf ip :: rest

section
variable {prog : Program} {w : World} {hb : Heap} {mg mb : Str → Option Value} {fa : Nat → Addr} {n : Nat}

theorem sndSs_app (B : Bs hb mg mb fa) {sc : Scope} {nm : List Str} {A : Around} {env : Env} {L : Addr} {E : Value → Shared → Prop} {R : V → St → Prop} {K : Flow → Shared → Prop} {rest : List Stmt} (he : EnvOK env sc L) (hd : nm.Nodup) (hL : hb.get? L = none) (hr : Room n A) :
    ∀ (e : Sms) (ps : List Stmt) (ρ : List (Option V)) (σ : St) (s : Shared) (Q : List (Option V) → St → Prop), okSs sc nm e ps = true → Good hb s.heap σ → RhoOK s.heap σ L nm ρ → wpSs (CallOK prog w hb fa n) e ρ σ Q R →
      (∀ f s', PostS hb L nm s σ Q R f s' → (match f with | .next => wpAny (model prog w) A (execs rest env) K E s' | f => K f s')) → wpAny (model prog w) A (execs (ps ++ rest) env) K E s
  | .nil, [], ρ, σ, s, Q, _, g, hρ, h, k => k .next s ⟨ρ, σ, h, hρ, .refl g⟩
  | .nil, _ :: _, _, _, _, _, h, _, _, _, _ => by cases h
  | .cons _ _, [], _, _, _, _, h, _, _, _, _ => by cases h
  | .cons e es, p :: ps, ρ, σ, s, Q, hok, g, hρ, h, k => by
    have hok' : (okS sc nm e p && okSs sc nm es ps) = true := hok
    simp only [Bool.and_eq_true] at hok'
    rw [List.cons_append]
    refine wpAny_execs_cons (wpAny_mono (sndS B e hok'.1 he hd hL hr g hρ h) (fun f s₁ h₁ => ?_) fun _ _ e => e)
    cases f with
    | next =>
      obtain ⟨ρ₁, σ₁, hq, hρ₁, he₁⟩ := h₁
      exact sndSs_app B he hd hL hr es ps ρ₁ σ₁ s₁ Q hok'.2 he₁.good hρ₁ hq fun f s' hp => k f s' (PostS.trans he₁ hp)
    | ret z => exact k (.ret z) s₁ h₁
    | cont => exact h₁.elim
    | brk => exact h₁.elim

/-- the error leaves the callee -/
theorem leave_gen {M : Model} {A : Around} {env : Env} {outer : List Env} {L e : Addr} {base : Heap} {oe : Obj} {vs : Array Value} {a0 : Value} {s : Shared} {Q : Unit → Shared → Prop} {E : Value → Shared → Prop}
    (hfr : A.frames = some (env :: outer)) (hf : env.frame = some L) (hkb : base.StaysIn s.heap) (hl : s.heap.FunFrames base (env :: outer)) (he : s.heap.get? e = some oe) (hc : oe.cls = .type "ValueError") (hd : oe.data = .fields vs) (h1 : vs[1]? = some .none) (h0 : vs[0]? = some a0)
    (hen : base.get? e = none) (hQ : ∀ h', Heap.FlyingW base outer e (.type "ValueError") a0 h' → s.heap.UpToSlots h' → Q () { s with heap := h' }) : wpAny M A (leaving env (.ref e)) Q E s := by
  refine wpAny_leaving_firstW hfr hl hf he hkb hen hd h1 h0 fun h' hL => ?_
  obtain ⟨k1, ⟨_, _, k2⟩, k3, k4⟩ := hL
  rw [hc] at k3
  exact hQ h' ⟨k1, hen, k2, k3⟩ k4

/-- a call whose body raises -/
theorem call_raises (B : Bs hb mg mb fa) {f k : Nat} {dfl : List PyData} {nm : List Str} {bd : Sms} {P : Scope → List Stmt → Prop} (F : FnAtB hb (fa f) k dfl nm bd P) {A : Around} {s : Shared} {vs : List V} {args : List Value} (hvs : vs.length = k)
    (hr : Room (n + 1) A) {outer : List Env} (hfr : A.frames = some outer) (g : Good hb s.heap fun _ => none) (hargs : VRs s.heap (fun _ => none) args vs) {base : Heap} (hst : base.StaysIn s.heap) (hff : s.heap.FunFrames base outer) {Q : Value → Shared → Prop} {E : Value → Shared → Prop}
    (hE : ∀ e a0 h' tk, Heap.FlyingW base outer e (.type "ValueError") a0 h' → s.heap.UpToSlots h' → E (.ref e) { s with heap := h', toks := tk })
    (h : ∀ (fd : FuncData) (body : List Stmt) (A' : Around) (env : Env) (L : Addr) (s₁ : Shared) (K : Flow → Shared → Prop) (E' : Value → Shared → Prop), P fd.scope body → okSs fd.scope nm bd body = true → EnvOK env fd.scope L → nm.Nodup → hb.get? L = none → Room n A' → Good hb s₁.heap (fun _ => none) →
      RhoOK s₁.heap (fun _ => none) L nm (startR nm vs dfl) →
      (∀ s₂ h₃ tk e oe ws a0 ρ, EvL hb L s₁ (fun _ => none) s₂ (fun _ => none) → RhoOK s₂.heap (fun _ => none) L nm ρ → (∀ b o, s₂.heap.get? b = some o → h₃.get? b = some o) → s₂.heap.get? e = none → h₃.get? e = some oe → oe.cls = .type "ValueError" → oe.data = .fields ws → ws[1]? = some .none → ws[0]? = some a0 →
        E' (.ref e) { s₂ with heap := h₃, toks := tk }) →
      wpAny (model prog w) A' (execs body env) K E' s₁) :
    wpAny (model prog w) A (call (.ref (fa f)) args) Q E s := by
  obtain ⟨o, fd, body, dvs, ho, hd, hcd, hbody, hok, hnd, hk, hco, hgn, hcell, hglo, hbui, hloc, hdv, hlen, hbind, hP⟩ := F
  have hal : args.length = k := hargs.length.trans hvs
  have hvl : (args ++ dvs).length = k + dfl.length := by rw [List.length_append, hal, hdv.length]
  have htl : (nm.take (k + dfl.length)).length = k + dfl.length := by rw [List.length_take]; omega
  refine wpAny_call (codeAny_call_def (by have := hr.2.1; unfold recursionLimit; omega) (g.keep _ _ ho) hd (B.lim.keeps g.keep) (hcd.keeps g.keep) hbody (hbind args hal s g.keep) hcell ?_ ?_ hco hgn hk)
  · intro x hx
    exact hloc _ (List.of_mem_zip hx).1
  · intro h₀ hns hkeep
    have nL : s.heap.get? s.heap.objs.size = none := get_none_of_size (Nat.le_refl _)
    have hL := none_of_not_base g nL
    have he : EnvOK (callEnv fd s.heap.objs.size (fa f)) fd.scope s.heap.objs.size := ⟨rfl, hk, rfl, hglo, hbui⟩
    have hr' : Room n (A.deeper (callEnv fd s.heap.objs.size (fa f))) := by
      obtain ⟨r1, r2, r3⟩ := hr
      refine ⟨r1, ?_, ?_⟩
      · show A.depth + 1 + n < 990; omega
      · show A.units + 3 + 100 * (n + 1) < 9800; omega
    have ev0 : Ev hb s (fun _ => none) { s with heap := h₀, toks := s.toks + ((nm.take (k + dfl.length)).zip (args ++ dvs)).length } (fun _ => none) := (Ev.refl g).grow _ hkeep
    have hdv' : RDs s.heap (fun _ => none) dvs dfl := by
      obtain ⟨as, r1, r2⟩ := hdv
      exact ⟨as, PyProof.Rows.ReadsAll.keeps g.keep r1, fun a ha => let ⟨_, o, vs, k, ho, hd⟩ := r2 a ha; ⟨rfl, o, vs, k, g.keep a o ho, hd⟩⟩
    have hall : VRs h₀ (fun _ => none) (args ++ dvs) (vs ++ dfl.map V.d) := (VRs.append hargs (VRs.ofRDs hdv')).step ev0.kp.toKr (.no _) g.rep.listAt
    have hρ : RhoOK h₀ (fun _ => none) s.heap.objs.size nm (startR nm vs dfl) := by
      refine ⟨_, hns, fun i w hi => ?_⟩
      have hi' := rg_append hi
      obtain ⟨v, hv, hvr⟩ := hall.get hi'
      have hlt : i < k + dfl.length := by
        have := (List.getElem?_eq_some_iff.mp hv).1
        omega
      have hx : nm[i]? = some nm[i] := List.getElem?_eq_getElem (by omega)
      refine ⟨nm[i], v, hx, ?_, hvr⟩
      exact lookup_zip_rev (hnd.sublist (List.take_sublist ..)) (by rw [htl, hvl]) (by rw [List.getElem?_take, if_pos hlt]; exact hx) hv
    refine h fd body _ _ _ _ _ _ hP hok he hnd hL hr' ev0.good hρ ?_
    intro s₂ h₃ tk e oe ws a0 ρ ev hρ₂ hkeep₃ hne hoe hcls hdat hw1 hw0
    have hkeepL : ∀ b o, s.heap.get? b = some o → h₃.get? b = some o := fun b o e => hkeep₃ b o (ev.kp.keep b o (hkeep b o e) (by rintro rfl; rw [nL] at e; cases e) rfl)
    have hbL : base.get? s.heap.objs.size = none := hst.fresh
    obtain ⟨m, hm, _⟩ := hρ₂
    obtain ⟨h0', t0', ee⟩ := ev.sh
    have hbe : base.get? e = none := by
      cases q : base.get? e with
      | none => rfl
      | some o' =>
        have q1 := hst e o' q
        have q2 := ev.kp.keep e o' (hkeep e o' q1) (by rintro rfl; rw [nL] at q1; cases q1) rfl
        rw [hne] at q2; cases q2
    refine leave_gen (s := { s₂ with heap := h₃, toks := tk }) (Around.frames_deeper hfr) rfl (fun b o q => hkeepL b o (hst b o q)) ?_ hoe hcls hdat hw1 hw0 hbe ?_
    · refine Heap.FunFrames.cons (m := m) (by show fd.scope.kind ≠ .module; rw [hk]; decide) rfl (hm.keeps hkeep₃) hbL ?_
      exact hff.of_keeps fun b o q _ => ⟨o, hkeepL b o q, rfl⟩
    · intro h' hfl hup
      have := hE e a0 h' tk hfl ((Heap.UpToSlots.of_keeps hkeepL).trans hup)
      rw [ee]; exact this
end

-- M37
section
variable {prog : Program} {w : World} {hb : Heap} {mg mb : Str → Option Value} {fa : Nat → Addr} {n : Nat}
/-- the special numbers -/
def Spc (x : PyData) : Prop := ∃ s e b : Int, x = .tuple [.int s, .int 0, .int e, .int b] ∧ e ≠ 0
theorem okSs_cons {sc : Scope} {nm : List Str} {s : Sm} {ss : Sms} {p : Stmt} {ps : List Stmt} (h : okSs sc nm (.cons s ss) (p :: ps) = true) : okS sc nm s p = true ∧ okSs sc nm ss ps = true := by
  have h' : (okS sc nm s p && okSs sc nm ss ps) = true := h
  simpa using h'
theorem okSs_one {sc : Scope} {nm : List Str} {a : Sm} {p1 : Stmt} (h1 : okS sc nm a p1 = true) : okSs sc nm (.cons a .nil) [p1] = true := by
  show (okS sc nm a p1 && true) = true
  rw [h1]; rfl
theorem okSs_two {sc : Scope} {nm : List Str} {a b : Sm} {p1 p2 : Stmt} (h1 : okS sc nm a p1 = true) (h2 : okS sc nm b p2 = true) : okSs sc nm (.cons a (.cons b .nil)) [p1, p2] = true := by
  show (okS sc nm a p1 && (okS sc nm b p2 && true)) = true
  rw [h1, h2]; rfl
theorem okS_ite {sc : Scope} {nm : List Str} {c : Ex} {t f : Sms} {pc : Expr} {pt pf : List Stmt} {q : Pos} (h : okS sc nm (.ite c t f) (.If pc pt pf q) = true) : okE sc nm c pc = true ∧ okSs sc nm t pt = true ∧ okSs sc nm f pf = true := by
  have h' : (okE sc nm c pc && okSs sc nm t pt && okSs sc nm f pf) = true := h
  simp only [Bool.and_eq_true] at h'
  exact ⟨h'.1.1, h'.1.2, h'.2⟩

theorem raise_tme (B : Bs hb mg mb fa) (hve : mg VE = none ∧ mb VE = some (.type "ValueError")) (F : FnAtB hb (fa 4) 1 [.none] nm_to_man_exp bd_to_man_exp PTme) {A : Around} {s : Shared} {x : PyData} (hx : Spc x) {v : Value} (hv : RD s.heap (fun _ => none) v x)
    (hr : Room (n + 1) A) {outer : List Env} (hfr : A.frames = some outer) (g : Good hb s.heap fun _ => none) {base : Heap} (hst : base.StaysIn s.heap) (hff : s.heap.FunFrames base outer) {Q : Value → Shared → Prop} {E : Value → Shared → Prop}
    (hE : ∀ e a0 h' tk, Heap.FlyingW base outer e (.type "ValueError") a0 h' → s.heap.UpToSlots h' → E (.ref e) { s with heap := h', toks := tk }) :
    wpAny (model prog w) A (call (.ref (fa 4)) [v]) Q E s := by
  obtain ⟨sg', e, b, rfl, he0⟩ := hx
  refine call_raises B F (args := [v]) (vs := [.d (.tuple [.int sg', .int 0, .int e, .int b])]) rfl hr hfr g ⟨hv, trivial⟩ hst hff hE ?_
  rintro fd body A' env L s₁ K E' ⟨hvl, p1, p2, pc, np, msg, ck, cp, cpos, rp, pf, ip, rest, rfl⟩ hok hen hnd hL hr' g₁ hρ hE'
  obtain ⟨ok1, hok⟩ := okSs_cons hok
  obtain ⟨ok2, hok⟩ := okSs_cons hok
  obtain ⟨ok3, hok⟩ := okSs_cons hok
  obtain ⟨okc, _, _⟩ := okS_ite ok3
  have okpre := okSs_two ok1 ok2
  show wpAny _ A' (execs ([p1, p2] ++ _) env) K E' s₁
  refine sndSs_app (n := n) (R := fun _ _ => False) B hen hnd hL hr' _ _ _ _ s₁ (fun ρ σ => σ = (fun _ => none) ∧ ρ = [some (.d (.tuple [.int sg', .int 0, .int e, .int b])), some (.d (.bool false)), some (.d (.int sg')), some (.d (.int 0)), some (.d (.int e)), some (.d (.int b))]) okpre g₁ hρ ?_ ?_
  · simp only [nm_to_man_exp, startR, List.map_cons, List.map_nil, List.length_cons, List.length_nil, List.append_nil, List.cons_append, List.nil_append, List.replicate]
    refine s_join [some (.d (.tuple [.int sg', .int 0, .int e, .int b])), some (.d (.bool false)), none, none, none, none] (s_one (s_if True (by simp only [wpE, wpEs, wpB, rg, rs, rsAll, TruthP, BinP, AugP, CmpP, SubP, BiP, lstOf, datas, cval0, cval1, cval2, cval3, cval4, cval5, cval6, cval7, cval8, cval9, cval10, Option.map, baa, bao, boa, boo, eqv_int, sh_int, and_self, true_and, and_true]; rfl) (fun h => ?_) (fun h => absurd trivial h))) ?_
    · refine s_asg (.d (.bool false)) (by simp only [wpE, wpEs, wpB, rg, rs, rsAll, TruthP, BinP, AugP, CmpP, SubP, BiP, lstOf, datas, cval0, cval1, cval2, cval3, cval4, cval5, cval6, cval7, cval8, cval9, cval10, Option.map, baa, bao, boa, boo, eqv_int, sh_int, and_self, true_and, and_true]) ?_
      exact s_nil (s_nil ⟨rfl, rfl⟩)
    refine s_unp [.int sg', .int 0, .int e, .int b] (by simp only [wpE, wpEs, wpB, rg, rs, rsAll, TruthP, BinP, AugP, CmpP, SubP, BiP, lstOf, datas, cval0, cval1, cval2, cval3, cval4, cval5, cval6, cval7, cval8, cval9, cval10, Option.map, baa, bao, boa, boo, eqv_int, sh_int, and_self, true_and, and_true]) rfl ?_
    exact s_nil ⟨rfl, rfl⟩
  · intro f s' hp
    cases f with
    | ret z => obtain ⟨_, _, h, _⟩ := hp; exact h.elim
    | cont => exact hp.elim
    | brk => exact hp.elim
    | next =>
      obtain ⟨ρ, σ, ⟨rfl, rfl⟩, hρ', ev⟩ := hp
      refine wpAny_execs_cons (wpAny_If (wpAny_mono (isTrue_ok (n := n) B (K := fun b σ₁ => b = true ∧ σ₁ = fun _ => none) okc hen hr' ev.good hρ' ?_) (fun bb s₂ hb2 => ?_) fun _ _ e => e))
      · simp only [wpE, wpEs, wpB, rg, rs, rsAll, TruthP, BinP, AugP, CmpP, SubP, BiP, lstOf, datas, cval0, cval1, cval2, cval3, cval4, cval5, cval6, cval7, cval8, cval9, cval10, Option.map, baa, bao, boa, boo, eqv_int, sh_int, and_self, true_and, and_true]
        simp [he0]
      · obtain ⟨σ₂, ⟨rfl, rfl⟩, ev2⟩ := hb2
        have evA := ev.trans ev2.toL
        have hρ2 := hρ'.step ev.good.rep ev2.kp
        refine wpAny_execs_cons (wpAny_Raise_call PySem.F.excCall_ValueError PySem.F.excRaise_ValueError hr'.1 rfl ?_)
        refine name_built B hen ev2.good hvl (by decide +kernel) hve ⟨rfl, ?_⟩
        refine Calls.evalArgs_plain (Calls.spliced_cons (Calls.Constant_str (k := ck) (pos := cp) (Calls.spliced_nil ⟨rfl, by show 1 ≤ sizeLine; unfold sizeLine; decide, fun h' ex hm => ?_⟩)))
        obtain ⟨t, ht, htn, htt⟩ := hm.there
        exact hE' s₂ h' (s₂.toks + 1) ex _ _ (.ref t) _ evA hρ2 hm.keeps hm.new ht rfl rfl rfl rfl

theorem raise_frx (B : Bs hb mg mb fa) (hve : mg VE = none ∧ mb VE = some (.type "ValueError")) (F : FnAtB hb (fa 17) 1 [] nm_mpf_frexp bd_mpf_frexp PFrx) {A : Around} {s : Shared} {x : PyData} (hx : Spc x) {v : Value} (hv : RD s.heap (fun _ => none) v x)
    (hr : Room (n + 1) A) {outer : List Env} (hfr : A.frames = some outer) (g : Good hb s.heap fun _ => none) {base : Heap} (hst : base.StaysIn s.heap) (hff : s.heap.FunFrames base outer) {Q : Value → Shared → Prop} {E : Value → Shared → Prop}
    (hE : ∀ e a0 h' tk, Heap.FlyingW base outer e (.type "ValueError") a0 h' → s.heap.UpToSlots h' → E (.ref e) { s with heap := h', toks := tk }) :
    wpAny (model prog w) A (call (.ref (fa 17)) [v]) Q E s := by
  obtain ⟨sg', e, b, rfl, he0⟩ := hx
  refine call_raises B F (args := [v]) (vs := [.d (.tuple [.int sg', .int 0, .int e, .int b])]) rfl hr hfr g ⟨hv, trivial⟩ hst hff hE ?_
  rintro fd body A' env L s₁ K E' ⟨hvl, p1, pc, pc2, pt2, np, rp, ip2, pf, ip, rest, rfl⟩ hok hen hnd hL hr' g₁ hρ hE'
  obtain ⟨ok1, hok⟩ := okSs_cons hok
  obtain ⟨ok3, hok⟩ := okSs_cons hok
  obtain ⟨okc, okt, _⟩ := okS_ite ok3
  obtain ⟨ok4, _⟩ := okSs_cons okt
  obtain ⟨okc2, _, _⟩ := okS_ite ok4
  have okpre := okSs_one ok1
  show wpAny _ A' (execs ([p1] ++ _) env) K E' s₁
  refine sndSs_app (n := n) (R := fun _ _ => False) B hen hnd hL hr' _ _ _ _ s₁ (fun ρ σ => σ = (fun _ => none) ∧ ρ = [some (.d (.tuple [.int sg', .int 0, .int e, .int b])), some (.d (.int sg')), some (.d (.int 0)), some (.d (.int e)), some (.d (.int b))]) okpre g₁ hρ ?_ ?_
  · simp only [nm_mpf_frexp, startR, List.map_cons, List.map_nil, List.length_cons, List.length_nil, List.append_nil, List.cons_append, List.nil_append, List.replicate]
    refine s_unp [.int sg', .int 0, .int e, .int b] (by simp only [wpE, wpEs, wpB, rg, rs, rsAll, TruthP, BinP, AugP, CmpP, SubP, BiP, lstOf, datas, cval0, cval1, cval2, cval3, cval4, cval5, cval6, cval7, cval8, cval9, cval10, Option.map, baa, bao, boa, boo, eqv_int, sh_int, and_self, true_and, and_true]) rfl ?_
    exact s_nil ⟨rfl, rfl⟩
  · intro f s' hp
    cases f with
    | ret z => obtain ⟨_, _, h, _⟩ := hp; exact h.elim
    | cont => exact hp.elim
    | brk => exact hp.elim
    | next =>
      obtain ⟨ρ, σ, ⟨rfl, rfl⟩, hρ', ev⟩ := hp
      refine wpAny_execs_cons (wpAny_If (wpAny_mono (isTrue_ok (n := n) B (K := fun b σ₁ => b = true ∧ σ₁ = fun _ => none) okc hen hr' ev.good hρ' ?_) (fun bb s₂ hb2 => ?_) fun _ _ e => e))
      · simp only [wpE, wpEs, wpB, rg, rs, rsAll, TruthP, BinP, AugP, CmpP, SubP, BiP, lstOf, datas, cval0, cval1, cval2, cval3, cval4, cval5, cval6, cval7, cval8, cval9, cval10, Option.map, baa, bao, boa, boo, eqv_int, sh_int, and_self, true_and, and_true]
        rfl
      · obtain ⟨σ₂, ⟨rfl, rfl⟩, ev2⟩ := hb2
        have evA := ev.trans ev2.toL
        have hρ2 := hρ'.step ev.good.rep ev2.kp
        refine wpAny_execs_cons (wpAny_If (wpAny_mono (isTrue_ok (n := n) B (K := fun b σ₁ => b = false ∧ σ₁ = fun _ => none) okc2 hen hr' ev2.good hρ2 ?_) (fun bb s₃ hb3 => ?_) fun _ _ e => e))
        · simp only [wpE, wpEs, wpB, rg, rs, rsAll, TruthP, BinP, AugP, CmpP, SubP, BiP, lstOf, datas, cval0, cval1, cval2, cval3, cval4, cval5, cval6, cval7, cval8, cval9, cval10, Option.map, baa, bao, boa, boo, eqv_int, sh_int, and_self, true_and, and_true]
          simp only [zt, sh_t4, eqv_t4]
          simp [he0]
        · obtain ⟨σ₃, ⟨rfl, rfl⟩, ev3⟩ := hb3
          have evB := evA.trans ev3.toL
          have hρ3 := hρ2.step ev2.good.rep ev3.kp
          refine wpAny_execs_cons (PyProof.Rows.Raise_classB hr'.1 excClass_ValueError PySem.F.self_ValueError ?_ ?_)
          · exact name_built B hen ev3.good hvl (by decide +kernel) hve ⟨rfl, rfl⟩
          · intro h' ex hm
            obtain ⟨ob, t, hob, hcls, hd⟩ := hm.there
            exact hE' s₃ h' s₃.toks ex _ _ t _ evB hρ3 hm.keeps hm.new hob hcls hd rfl rfl
end

-- M38
def cNum : Str := Str.ofString "number"
def cWords : Str := Str.ofString "words"
def cCall : Str := Str.ofString "call"
def cVal : Str := Str.ofString "value"
def cTme : Str := Str.ofString "to_man_exp"
def cFrx : Str := Str.ofString "mpf_frexp"
structure RInv (fa : Nat → Addr) (s : Shared) (Lw Lr W T I : Addr) (v : Value) (i : Nat) (s' : Shared) : Prop where
  sh : ∃ h' tk, s' = { s with heap := h', toks := tk }
  keep : ∀ b o, b ≠ Lw → b ≠ Lr → s.heap.get? b = some o → s'.heap.get? b = some o
  nw : ∃ m, s'.heap.Ns Lw m
  nr : ∃ m, s'.heap.Ns Lr m ∧ m cNum = some v ∧ m cWords = some (.ref W)
  tup : IsTup s'.heap T #[.ref (fa 4), .ref (fa 17)]
  it : IsTupIter s'.heap I T i
  wl : ∃ its, PlainL s'.heap W its ∧ StrsAre its.toList (List.replicate i cVal)

theorem ns_ne_seq {h : Heap} {L a : Addr} {m : Str → Option Value} (hn : h.Ns L m) {o : Obj} (ho : h.get? a = some o) {vs : Array Value} {n : Nat} (hd : o.data = .seq vs n) : a ≠ L := by
  rintro rfl
  obtain ⟨o', _, _, ho', hd', _⟩ := hn
  rw [ho] at ho'; cases ho'; rw [hd] at hd'; cases hd'
theorem ns_ne_fields {h : Heap} {L a : Addr} {m : Str → Option Value} (hn : h.Ns L m) {o : Obj} (ho : h.get? a = some o) {vs : Array Value} (hd : o.data = .fields vs) : a ≠ L := by
  rintro rfl
  obtain ⟨o', _, _, ho', hd', _⟩ := hn
  rw [ho] at ho'; cases ho'; rw [hd] at hd'; cases hd'

theorem RInv.good {hb : Heap} {fa : Nat → Addr} {s : Shared} {Lw Lr : Addr} {s' : Shared} (hk : ∀ b o, b ≠ Lw → b ≠ Lr → s.heap.get? b = some o → s'.heap.get? b = some o) (g : Good hb s.heap fun _ => none) (h1 : hb.get? Lw = none) (h2 : hb.get? Lr = none) : Good hb s'.heap fun _ => none :=
  ⟨fun a o e => hk a o (by rintro rfl; rw [h1] at e; cases e) (by rintro rfl; rw [h2] at e; cases e) (g.keep a o e), fun _ _ _ => rfl, fun _ _ e => by cases e⟩
theorem rd_two {h h' : Heap} {Lw Lr : Addr} {mw mr : Str → Option Value} (hw : h.Ns Lw mw) (hr : h.Ns Lr mr) (hk : ∀ b o, b ≠ Lw → b ≠ Lr → h.get? b = some o → h'.get? b = some o) {v : Value} {x : PyData} (r : RD h (fun _ => none) v x) : RD h' (fun _ => none) v x := by
  refine r.step (X := fun a => a = Lw ∨ a = Lr) (h := h) (σ := fun _ => none) ⟨fun a o e hx _ => hk a o (fun q => hx (.inl q)) (fun q => hx (.inr q)) e, fun _ _ _ _ => rfl⟩ ?_ (fun a xs e => by cases e)
  rintro a (rfl | rfl) o ho vs n hd
  · exact ns_ne_seq hw ho hd rfl
  · exact ns_ne_seq hr ho hd rfl

theorem strs_rds {h : Heap} : ∀ {vs : List Value} {ys : List Str}, StrsAre vs ys → RDs h (fun _ => none) vs (ys.map .str)
  | _, _, .nil => RDs.nil _ _
  | _, _, .cons y t r => RDs.cons (RD.str _ _ _ _) (strs_rds r)
theorem strs_push {vs : List Value} {i : Nat} (h : StrsAre vs (List.replicate i cVal)) (t : Tok) : StrsAre (vs ++ [.str cVal t]) (List.replicate (i + 1) cVal) := by
  induction i generalizing vs with
  | zero => cases h; exact .cons _ _ .nil
  | succ i ih =>
    rw [List.replicate_succ] at h ⊢
    cases h with
    | cons _ u r => exact .cons _ _ (ih r)

section
variable {prog : Program} {w : World} {hb : Heap} {mg mb : Str → Option Value} {fa : Nat → Addr} {n : Nat}

theorem words_append {A : Around} {env : Env} {sc : Scope} {Lr W : Addr} {s : Shared} {m : Str → Option Value} {its : Array Value} {x : Str} {wp ap kp cp : Pos} {k : Nat} {q : Pos} {E : Value → Shared → Prop} {Q : Flow → Shared → Prop}
    (hen : EnvOK env sc Lr) (hw : sc.names.lookup cWords = some .local) (hn : s.heap.Ns Lr m) (hm : m cWords = some (.ref W)) (hl : PlainL s.heap W its) (hsz : its.size ≤ 10) (hline : (ap.endLine == cp.line) = true)
    (hQ : ∀ h', PlainL h' W (its.push (.str x s.toks)) → Heap.SameBut W s.heap h' → Q .next { s with heap := h', toks := s.toks + 1 }) :
    wpAny (model prog w) A (exec (.Expr (.Call (.Attribute (.Name cWords wp) (Str.ofString "append") ap) [.Constant (.str x) k kp] [] cp) q) env) Q E s := by
  have hint : interactive env = false := by unfold interactive; rw [hen.scp, hen.kind]; rfl
  refine wpAny_Expr ?_ hint rfl
  refine wpAny_Call_append rfl rfl hline rfl ?_
  refine wpAny_Name (wpAny_loadName_local (by rw [hen.scp]; exact hen.kind) (by show env.scope.names.lookup cWords = _; rw [hen.scp]; exact hw) (by rw [hen.loc]; exact hn) hm ?_) (by decide +kernel)
  refine ⟨W, its, rfl, hl, ?_⟩
  refine Calls.Constant_str ?_
  refine list_append_plainL (s := { s with toks := s.toks + 1 }) hl (fun h' h1 h2 => hQ h' h1 h2) (by unfold sizeLine; omega)

/-- the error lands in the handler, which notes the word -/
theorem caught_word (B : Bs hb mg mb fa) (hve : mg VE = none ∧ mb VE = some (.type "ValueError")) {A : Around} {env envW : Env} {sc : Scope} {Lw Lr W e : Addr} {base : Heap} {a0 : Value} {s : Shared} {H : Heap} {m : Str → Option Value} {its : Array Value} {E : Value → Shared → Prop} {Q : Flow → Shared → Prop}
    {vp hp wp ap kp cp q : Pos} {k : Nat} (hen : EnvOK env sc Lr) (hfe : env.frame = some Lr) (hwl : sc.names.lookup cWords = some .local) (hvl : sc.names.lookup VE = some .globalImplicit)
    (hfr : A.frames = some (env :: [envW])) (hfl : Heap.FlyingW base (env :: [envW]) e (.type "ValueError") a0 s.heap) (hup : H.UpToSlots s.heap) (hn : H.Ns Lr m) (hm : m cWords = some (.ref W)) (hl : PlainL base W its) (hsz : its.size ≤ 10) (hbase : ∀ a o, hb.get? a = some o → base.get? a = some o)
    (hline : (ap.endLine == cp.line) = true)
    (hQ : ∀ h' tk, PlainL h' W (its.push (.str cVal s.toks)) → (∀ b o, b ≠ W → base.get? b = some o → h'.get? b = some o) → (∃ h6, H.UpToSlots h6 ∧ Heap.SameBut W h6 h') → Q .next { s with heap := h', toks := tk }) :
    wpAny (model prog w) A (noteFrame (.ref e) env) (fun _ s₂ => wpAny (model prog w) A (setFlight (.ref e) none) (fun _ s₃ => wpAny (model prog w) A (handleBy (.ref e) env
      [.ExceptHandler (some (.Name VE vp)) none [.Expr (.Call (.Attribute (.Name cWords wp) (Str.ofString "append") ap) [.Constant (.str cVal) k kp] [] cp) q] hp]) Q E s₃) E s₂) E s := by
  refine wpAny_looks_onW hfr hfe hfl fun h₄ hheld₄ hup₄ => ?_
  refine wpAny_landsW hheld₄ fun h₅ hfl₅ hup₅ => ?_
  refine wpAny_handleBy_builtin (X := "ValueError") (T := "ValueError") (b := true) PySem.F.isExc_ValueError PySem.F.notTuple_ValueError PySem.F.self_ValueError ?_
  have kb : ∀ a o, hb.get? a = some o → h₅.get? a = some o := fun a o x => hfl₅.1 a o (hbase a o x)
  refine Calls.Name_function_global (by rw [hen.scp]; exact hen.kind) (by show env.scope.names.lookup VE = _; rw [hen.scp]; exact hvl) ?_ (by decide +kernel)
  refine Calls.loadGlobal_builtin (by rw [hen.glo]; exact B.g.keeps kb) hve.1 (by rw [hen.bui]; exact B.b.keeps kb) hve.2 ?_
  obtain ⟨ob, hob, hobc⟩ := hfl₅.there
  refine ⟨rfl, ⟨ob, hob, hobc⟩, ?_⟩
  refine lands_againW hfl₅ fun h₆ hfl₆ hup₆ => ?_
  have hupA : H.UpToSlots h₆ := hup.trans (hup₄.trans (hup₅.trans hup₆))
  obtain ⟨o, nn, ho, hc, hdn, hd⟩ := id hl
  have hl₆ : PlainL h₆ W its := ⟨o, nn, hfl₆.1 W o ho, hc, hdn, hd⟩
  refine wpAny_execs_cons (words_append (s := { s with heap := h₆ }) hen hwl (hupA.ns hn) hm hl₆ hsz hline fun h' h1 h2 => ?_)
  refine wpAny_execs_nil (hQ h' _ h1 (fun b o hb hbo => (h2.2 b hb).trans (hfl₆.1 b o hbo)) ⟨h₆, hupA, h2⟩)

theorem refused_loop (B : Bs hb mg mb fa) (hve : mg VE = none ∧ mb VE = some (.type "ValueError")) (F4 : FnAtB hb (fa 4) 1 [.none] nm_to_man_exp bd_to_man_exp PTme) (F17 : FnAtB hb (fa 17) 1 [] nm_mpf_frexp bd_mpf_frexp PFrx)
    {A : Around} {env envW : Env} {sc : Scope} {Lw Lr W T I : Addr} {s s₁ : Shared} {x : PyData} (hx : Spc x) {v : Value} (hr : Room (n + 1) A) (hen : EnvOK env sc Lr) (hfe : env.frame = some Lr) (hkW : envW.scope.kind ≠ .module) (hfW : envW.frame = some Lw)
    (hfr : A.frames = some (env :: [envW])) (hnl : sc.names.lookup cNum = some .local) (hwl : sc.names.lookup cWords = some .local) (hcl : sc.names.lookup cCall = some .local) (hvl : sc.names.lookup VE = some .globalImplicit)
    (g : Good hb s.heap fun _ => none) (hbw : hb.get? Lw = none) (hbr : hb.get? Lr = none) (hne : Lw ≠ Lr) {mw mr : Str → Option Value} (hnw : s.heap.Ns Lw mw) (hnr : s.heap.Ns Lr mr) (hv : RD s.heap (fun _ => none) v x)
    (nW : s.heap.get? W = none) (nT : s.heap.get? T = none) (nI : s.heap.get? I = none)
    {p4 p8 p9 p10 p11 wp ap kp cp q vp hp wp2 ap2 kp2 cp2 q2 tp : Pos} {k k2 : Nat} {y : Str} (hline : (ap2.endLine == cp2.line) = true) {R : Result → Shared → Prop} (h0 : RInv fa s Lw Lr W T I v 0 s₁)
    (hR : ∀ s', RInv fa s Lw Lr W T I v 2 s' ∨ (∃ s₂, RInv fa s Lw Lr W T I v 2 s₂ ∧ ∃ h', s' = { s₂ with heap := h' } ∧ Heap.ExtBut I s₂.heap h') → R (.ok .next) s') :
    codeAny (model prog w) A (.forLoop (.Name cCall p4) (.ref I) [.Try [.Expr (.Call (.Name cCall p8) [.Name cNum p9] [] p10) p11, .Expr (.Call (.Attribute (.Name cWords wp) (Str.ofString "append") ap) [.Constant (.str y) k kp] [] cp) q]
      [.ExceptHandler (some (.Name VE vp)) none [.Expr (.Call (.Attribute (.Name cWords wp2) (Str.ofString "append") ap2) [.Constant (.str cVal) k2 kp2] [] cp2) q2] hp] [] [] tp] [] env) R s₁ := by
  refine codeAny_forLoop (fun kk s' => ∃ i, i ≤ 2 ∧ kk = 2 - i ∧ RInv fa s Lw Lr W T I v i s') ?_ 2 ⟨0, by decide, rfl, h0⟩
  rintro kk s' ⟨i, hi, rfl, inv⟩
  by_cases hi2 : i = 2
  · subst hi2
    refine PyProof.Rows.next_tuple_end hr.1 inv.it inv.tup rfl fun h' hx' => wpAny_execs_nil (hR _ (.inr ⟨s', inv, h', rfl, hx'⟩))
  · have hi1 : i < 2 := by omega
    obtain ⟨gf, hgf, hitem⟩ : ∃ gf, (gf = 4 ∨ gf = 17) ∧ (#[Value.ref (fa 4), Value.ref (fa 17)])[i]? = some (.ref (fa gf)) := by
      have : i = 0 ∨ i = 1 := by omega
      rcases this with rfl | rfl
      · exact ⟨4, .inl rfl, rfl⟩
      · exact ⟨17, .inr rfl, rfl⟩
    refine PyProof.Rows.next_tuple_item inv.it inv.tup hitem fun h₁ hit₁ hs₁ => ?_
    obtain ⟨m, hm, hmn, hmw⟩ := inv.nr
    obtain ⟨mw', hmw'⟩ := inv.nw
    obtain ⟨oI, hoI, hcI, hdI⟩ := id inv.it
    have hIr : I ≠ Lr := ns_ne_fields hm hoI hdI
    have hIw : I ≠ Lw := ns_ne_fields hmw' hoI hdI
    have hm₁ : h₁.Ns Lr m := hm.sameBut hs₁ (Ne.symm hIr)
    have hmw₁ : h₁.Ns Lw mw' := hmw'.sameBut hs₁ (Ne.symm hIw)
    have hkl : env.kindOf cCall = some .local := by show env.scope.names.lookup cCall = _; rw [hen.scp]; exact hcl
    refine wpAny_assign_Name (wpAny_storeName_local (m := m) hkl (by rw [hen.loc]; exact hm₁) (fun h₂ hm₂ hs₂ => ?_) (by rw [hen.scp, hen.kind]; rfl))
    rw [hen.loc] at hm₂ hs₂
    have hmw₂ : h₂.Ns Lw mw' := hmw₁.sameBut hs₂ hne
    obtain ⟨its, hpl, hstr⟩ := inv.wl
    obtain ⟨oW, nW', hoW, hcW, hdnW, hdW⟩ := id hpl
    have hWr : W ≠ Lr := ns_ne_seq hm hoW hdW
    have hWw : W ≠ Lw := ns_ne_seq hmw' hoW hdW
    have hWI : W ≠ I := by rintro rfl; rw [hoW] at hoI; cases hoI; rw [hdW] at hdI; cases hdI
    obtain ⟨oT, hoT, hcT, nT', hdT⟩ := id inv.tup
    have hTr : T ≠ Lr := ns_ne_seq hm hoT hdT
    have hTw : T ≠ Lw := ns_ne_seq hmw' hoT hdT
    have hTI : T ≠ I := by rintro rfl; rw [hoT] at hoI; cases hoI; rw [hdT] at hdI; cases hdI
    have hTW : T ≠ W := by rintro rfl; rw [hoT] at hoW; cases hoW; rw [hcT] at hcW; exact absurd hcW (by decide)
    have k₂ : ∀ b o, b ≠ I → b ≠ Lr → s'.heap.get? b = some o → h₂.get? b = some o := fun b o h1 h2 e => (hs₂.2 b h2).trans ((hs₁.2 b h1).trans e)
    have keep₂ : ∀ b o, b ≠ Lw → b ≠ Lr → s.heap.get? b = some o → h₂.get? b = some o := fun b o h1 h2 e => k₂ b o (by rintro rfl; rw [nI] at e; cases e) h2 (inv.keep b o h1 h2 e)
    have hnum : cNum ≠ cCall := by decide +kernel
    have hwor : cWords ≠ cCall := by decide +kernel
    have g₂ : Good hb h₂ fun _ => none := RInv.good (fa := fa) (s := s) (s' := { s with heap := h₂ }) keep₂ g hbw hbr
    have hv₂ : RD h₂ (fun _ => none) v x := rd_two hnw hnr keep₂ hv
    have hbase : ∀ b o, b ≠ Lw → b ≠ Lr → h₂.get? b = some o → (hide (hide h₂ Lw) Lr).get? b = some o := fun b o h1 h2 e => by rw [hide_other h2, hide_other h1]; exact e
    have hpl₂ : PlainL (hide (hide h₂ Lw) Lr) W its := ⟨oW, nW', hbase W oW hWw hWr (k₂ W oW hWI hWr hoW), hcW, hdnW, hdW⟩
    have hsz : its.size ≤ 10 := by
      have : its.toList.length = (List.replicate i cVal).length := by
        have aux : ∀ {vs : List Value} {ys : List Str}, StrsAre vs ys → vs.length = ys.length := by
          intro vs ys h
          induction h with
          | nil => rfl
          | cons _ _ _ ih => simp [ih]
        exact aux hstr
      simp at this; omega
    obtain ⟨h0', t0', ee⟩ := inv.sh
    refine wpAny_execs_cons (wpAny_Try_except ?_)
    have hint : interactive env = false := by unfold interactive; rw [hen.scp, hen.kind]; rfl
    refine wpAny_execs_cons (wpAny_Expr ?_ hint rfl)
    have hkn : env.kindOf cNum = some .local := by show env.scope.names.lookup cNum = _; rw [hen.scp]; exact hnl
    have hkind : env.scope.kind = .function := by rw [hen.scp]; exact hen.kind
    refine wpAny_Call_NameR (wpAny_Name (wpAny_loadName_local hkind hkl (by rw [hen.loc]; exact hm₂) (if_pos rfl) ?_) (by decide +kernel))
    obtain ⟨og, fg, hog, hdg⟩ : ∃ og fg, hb.get? (fa gf) = some og ∧ og.data = .func fg := by
      rcases hgf with rfl | rfl
      · obtain ⟨o, fd, _, _, h1, h2, _⟩ := F4; exact ⟨o, fd, h1, h2⟩
      · obtain ⟨o, fd, _, _, h1, h2, _⟩ := F17; exact ⟨o, fd, h1, h2⟩
    show wpAny _ A (callWith p10 (.ref (fa gf)) [] [(false, eval (.Name cNum p9) env)] []) _ _ _
    refine Calls.callWith_function (o := og) (fd := fg) (Calls.evalArgs_plain (Calls.spliced_cons ?_))
    refine wpAny_Name (wpAny_loadName_local (m := fun x => if x = cCall then some (.ref (fa gf)) else m x) hkind hkn (by rw [hen.loc]; exact hm₂) ((if_neg hnum).trans hmn) ?_) (by decide +kernel)
    refine Calls.spliced_nil ⟨⟨g₂.keep _ _ hog, hdg⟩, ?_⟩
    have hst : (hide (hide h₂ Lw) Lr).StaysIn h₂ := fun b o e => hide_stays h₂ Lw b o (hide_stays _ Lr b o e)
    have hff : h₂.FunFrames (hide (hide h₂ Lw) Lr) (env :: [envW]) := by
      refine .cons (by rw [hkind]; decide) hfe hm₂ (hide_self _ _) (.cons hkW hfW hmw₂ ?_ trivial)
      rw [hide_other hne, hide_self]
    have key : ∀ (Q : Value → Shared → Prop) (E' : Value → Shared → Prop), (∀ e a0 h' tk, Heap.FlyingW (hide (hide h₂ Lw) Lr) (env :: [envW]) e (.type "ValueError") a0 h' → h₂.UpToSlots h' → E' (.ref e) { s' with heap := h', toks := tk }) →
        wpAny (model prog w) A (call (.ref (fa gf)) [v]) Q E' { s' with heap := h₂, toks := s'.toks + 1 } := by
      intro Q E' hE'
      rcases hgf with rfl | rfl
      · exact raise_tme (s := { s' with heap := h₂, toks := s'.toks + 1 }) B hve F4 hx hv₂ hr hfr g₂ hst hff hE'
      · exact raise_frx (s := { s' with heap := h₂, toks := s'.toks + 1 }) B hve F17 hx hv₂ hr hfr g₂ hst hff hE'
    refine key _ _ ?_
    intro e a0 h' tk hfl hup
    have hbb : ∀ a o, hb.get? a = some o → (hide (hide h₂ Lw) Lr).get? a = some o := fun a o q => hbase a o (by rintro rfl; rw [hbw] at q; cases q) (by rintro rfl; rw [hbr] at q; cases q) (g₂.keep a o q)
    refine caught_word (Lw := Lw) B hve hen hfe hwl hvl hfr hfl hup (m := fun x => if x = cCall then some (.ref (fa gf)) else m x) hm₂ ((if_neg hwor).trans hmw) hpl₂ hsz hbb hline ?_
    rintro h₇ tk' hpl₇ hk₇ ⟨h₆, hup₆, hsb⟩
    refine wpAny_execs_nil ⟨2 - (i + 1), by omega, i + 1, by omega, rfl, ⟨⟨h₇, tk', by rw [ee]⟩, ?_, ?_, ?_, ?_, ?_, ?_⟩⟩
    · intro b o h1 h2 q
      exact hk₇ b o (by rintro rfl; rw [nW] at q; cases q) (hbase b o h1 h2 (keep₂ b o h1 h2 q))
    · exact ⟨_, (hup₆.ns hmw₂).sameBut hsb (Ne.symm hWw)⟩
    · exact ⟨_, (hup₆.ns hm₂).sameBut hsb (Ne.symm hWr), (if_neg hnum).trans hmn, (if_neg hwor).trans hmw⟩
    · exact ⟨oT, hk₇ T oT hTW (hbase T oT hTw hTr (k₂ T oT hTI hTr hoT)), hcT, nT', hdT⟩
    · obtain ⟨oI', hoI', hcI', hdI'⟩ := hit₁
      exact ⟨oI', hk₇ I oI' (Ne.symm hWI) (hbase I oI' hIw hIr ((hs₂.2 I hIr).trans hoI')), hcI', hdI'⟩
    · refine ⟨_, hpl₇, ?_⟩
      rw [Array.toList_push]
      exact strs_push hstr _
end

-- M39
def PRef (body : List Stmt) : Prop := ∃ (a1 a2 a3 p4 t1 t2 tp' p8 p9 p10 p11 wp ap kp cp q vp hp wp2 ap2 kp2 cp2 q2 tp fp r1 r2 r3 r4 r5 r6 : Pos) (tk k k2 k3 k4 : Nat) (y : Str), (ap2.endLine == cp2.line) = true ∧
  body = [.Assign [.Name cWords a1] (.List [] a2) a3,
    .For (.Name cCall p4) (.Tuple [.Name cTme t1, .Name cFrx t2] tk tp') [.Try [.Expr (.Call (.Name cCall p8) [.Name cNum p9] [] p10) p11, .Expr (.Call (.Attribute (.Name cWords wp) (Str.ofString "append") ap) [.Constant (.str y) k kp] [] cp) q]
      [.ExceptHandler (some (.Name VE vp)) none [.Expr (.Call (.Attribute (.Name cWords wp2) (Str.ofString "append") ap2) [.Constant (.str cVal) k2 kp2] [] cp2) q2] hp] [] [] tp] [] fp,
    .Return (some (.Compare (.Name cWords r1) [.Eq] [.List [.Constant (.str cVal) k3 r2, .Constant (.str cVal) k4 r3] r4] r5)) r6]
def FnRef (hb : Heap) (a : Addr) : Prop :=
  ∃ o fd body, hb.get? a = some o ∧ o.data = .func fd ∧ hb.CodeRec fd.code fd.qualname ∧ fd.body = .stmts body ∧ fd.scope.kind = .function ∧ fd.scope.isCoroutine = false ∧ fd.scope.isGenerator = false ∧ (∀ x ∈ fd.scope.names, x.2 ≠ .cell) ∧
    fd.globals = mainGlobals ∧ fd.builtins = builtinsNs ∧ fd.scope.names.lookup cNum = some .local ∧ fd.scope.names.lookup cWords = some .local ∧ fd.scope.names.lookup cCall = some .local ∧
    fd.scope.names.lookup cTme = some .globalImplicit ∧ fd.scope.names.lookup cFrx = some .globalImplicit ∧ fd.scope.names.lookup VE = some .globalImplicit ∧ (∀ v s, BindsTo s fd ⟨[v], []⟩ [(cNum, v)]) ∧ PRef body

section
variable {prog : Program} {w : World} {hb : Heap} {mg mb : Str → Option Value} {fa : Nat → Addr} {n : Nat}
theorem sh_vv : SeqAt.shaped (.list [.str cVal, .str cVal]) = true := by decide +kernel
theorem eqv_vv : PyData.eqv (.list [.str cVal, .str cVal]) (.list [.str cVal, .str cVal]) = true := by
  simp [PyData.eqv, PyData.eqvAll]

theorem refused_ok (B : Bs hb mg mb fa) (hve : mg VE = none ∧ mb VE = some (.type "ValueError")) (F4 : FnAtB hb (fa 4) 1 [.none] nm_to_man_exp bd_to_man_exp PTme) (F17 : FnAtB hb (fa 17) 1 [] nm_mpf_frexp bd_mpf_frexp PFrx) (F30 : FnRef hb (fa 30))
    {A : Around} {envW : Env} {Lw : Addr} {s : Shared} {x : PyData} (hx : Spc x) {v : Value} (hr : Room (n + 2) A) (hkW : envW.scope.kind ≠ .module) (hfW : envW.frame = some Lw) (hfr : A.frames = some [envW])
    (g : Good hb s.heap fun _ => none) (hbw : hb.get? Lw = none) {mw : Str → Option Value} (hnw : s.heap.Ns Lw mw) (hv : RD s.heap (fun _ => none) v x) {E : Value → Shared → Prop} {Q : Value → Shared → Prop}
    (hQ : ∀ h' tk, (∀ b o, hb.get? b = some o → h'.get? b = some o) → Q (.bool true) { s with heap := h', toks := tk }) :
    wpAny (model prog w) A (call (.ref (fa 30)) [v]) Q E s := by
  obtain ⟨o, fd, body, ho, hd, hcd, hbody, hk, hco, hgn, hcell, hglo, hbui, hl1, hl2, hl3, hl4, hl5, hl6, hbind, a1, a2, a3, p4, t1, t2, tp', p8, p9, p10, p11, wp, ap, kp, cp, q, vp, hp, wp2, ap2, kp2, cp2, q2, tp, fp, r1, r2, r3, r4, r5, r6, tk, k, k2, k3, k4, y, hline, rfl⟩ := F30
  refine wpAny_call (codeAny_call_def (by have := hr.2.1; unfold recursionLimit; omega) (g.keep _ _ ho) hd (B.lim.keeps g.keep) (hcd.keeps g.keep) hbody (hbind v s) hcell ?_ ?_ hco hgn hk)
  · intro z hz
    have : z = (cNum, v) := by simpa using hz
    subst this; exact hl1
  intro h₀ hns hkeep
  have nL : s.heap.get? s.heap.objs.size = none := get_none_of_size (Nat.le_refl _)
  have hL := none_of_not_base g nL
  have hen : EnvOK (callEnv fd s.heap.objs.size (fa 30)) fd.scope s.heap.objs.size := ⟨rfl, hk, rfl, hglo, hbui⟩
  have hfe : (callEnv fd s.heap.objs.size (fa 30)).frame = some s.heap.objs.size := rfl
  have hfr' : (A.deeper (callEnv fd s.heap.objs.size (fa 30))).frames = some (callEnv fd s.heap.objs.size (fa 30) :: [envW]) := Around.frames_deeper hfr
  have hr' : Room (n + 1) (A.deeper (callEnv fd s.heap.objs.size (fa 30))) := by
    obtain ⟨q1, q2, q3⟩ := hr
    refine ⟨q1, ?_, ?_⟩
    · show A.depth + 1 + (n + 1) < 990; omega
    · show A.units + 3 + 100 * (n + 1 + 1) < 9800; omega
  have hne : Lw ≠ s.heap.objs.size := by
    obtain ⟨o', _, _, ho', _⟩ := hnw
    exact Nat.ne_of_lt (Heap.lt_size ho')
  generalize callEnv fd s.heap.objs.size (fa 30) = env at *
  generalize s.heap.objs.size = Lr at *
  generalize htk0 : s.toks + [(cNum, v)].length = tk0
  have g₀ : Good hb h₀ fun _ => none := g.grow hkeep
  have hv₀ : RD h₀ (fun _ => none) v x := hv.step (Kp.grow (X := NoX) hkeep).toKr (.no _) g.rep.listAt
  have hnw₀ : h₀.Ns Lw mw := hnw.keeps hkeep
  have hmn : (fun x => List.lookup x [(cNum, v)].reverse) cNum = some v := by
    show (match cNum == cNum with | true => some v | false => none) = some v
    rw [beq_self_eq_true]
  generalize (fun x => List.lookup x [(cNum, v)].reverse) = m₀ at *
  have hkind : env.scope.kind = .function := by rw [hen.scp]; exact hen.kind
  -- words = []
  refine wpAny_execs_cons (wpAny_Assign_Name (PyProof.Rows.List_ (Calls.spliced_nil (wpAny_newObj_type ?_ (by size_fits)))) rfl)
  generalize hW : h₀.objs.size = W
  have hk1 : ∀ b o, h₀.get? b = some o → (h₀.push { cls := .type "list", data := .seq ([] : List Value).toArray }).get? b = some o := fun b o e => Heap.get?_push_of_some _ e
  have hWnew : h₀.get? W = none := by rw [← hW]; exact get_none_of_size (Nat.le_refl _)
  refine wpAny_storeName_local (m := m₀) (by show env.scope.names.lookup cWords = _; rw [hen.scp]; exact hl2) (by rw [hen.loc]; exact hns.keeps hk1) (fun h₂ hm₂ hs₂ => ?_) (by rw [hkind]; rfl)
  rw [hen.loc] at hm₂ hs₂
  have hLrW : Lr ≠ W := by
    obtain ⟨o', _, _, ho', _⟩ := hns
    rintro rfl; rw [hWnew] at ho'; cases ho'
  have hpl₂ : PlainL h₂ W #[] := ⟨_, _, (hs₂.2 W (Ne.symm hLrW)).trans (by rw [← hW]; exact Heap.get?_push_size _ rfl), rfl, rfl, rfl⟩
  have keep₂ : ∀ b o, b ≠ Lr → h₀.get? b = some o → h₂.get? b = some o := fun b o h1 e => (hs₂.2 b h1).trans (hk1 b o e)
  have g₂ : Good hb h₂ fun _ => none := RInv.good (fa := fa) (Lw := Lw) (s := { s with heap := h₀ }) (s' := { s with heap := h₂ }) (fun b o _ h2 e => keep₂ b o h2 e) g₀ hbw hL
  have hnum : cNum ≠ cWords := by decide +kernel
  -- the loop
  refine wpAny_execs_cons (wpAny_For (PyProof.Rows.Tuple_ ?_) (fun _ => rfl))
  show wpAny _ _ (spliced [(false, eval (.Name cTme t1) env), (false, eval (.Name cFrx t2) env)]) _ _ _
  refine Calls.spliced_cons (name_glob (v := .ref (fa 4)) B hen g₂ hl4 (by decide +kernel) (B.ft 4 cTme rfl).1 ?_)
  refine Calls.spliced_cons (name_glob (v := .ref (fa 17)) B hen g₂ hl5 (by decide +kernel) (B.ft 17 cFrx rfl).1 (Calls.spliced_nil ?_))
  refine wpAny_newObj_type ?_ (by size_fits)
  generalize hT : h₂.objs.size = T
  have hk3 : ∀ b o, h₂.get? b = some o → (h₂.push { cls := .type "tuple", data := .seq [Value.ref (fa 4), Value.ref (fa 17)].toArray }).get? b = some o := fun b o e => Heap.get?_push_of_some _ e
  have hTup : IsTup (h₂.push { cls := .type "tuple", data := .seq [Value.ref (fa 4), Value.ref (fa 17)].toArray }) T #[.ref (fa 4), .ref (fa 17)] := ⟨_, by rw [← hT]; exact Heap.get?_push_size _ rfl, rfl, _, rfl⟩
  have hTnew : h₂.get? T = none := by rw [← hT]; exact get_none_of_size (Nat.le_refl _)
  generalize hH3 : h₂.push { cls := .type "tuple", data := .seq [Value.ref (fa 4), Value.ref (fa 17)].toArray } = h₃ at *
  refine PyProof.Rows.iter_tuple hTup ?_
  dsimp only
  generalize hI : h₃.objs.size = I
  have hk4 : ∀ b o, h₃.get? b = some o → (h₃.push { cls := .type "tuple_iterator", data := .fields #[.ref T, .int 0 0] }).get? b = some o := fun b o e => Heap.get?_push_of_some _ e
  have hIt : IsTupIter (h₃.push { cls := .type "tuple_iterator", data := .fields #[.ref T, .int 0 0] }) I T 0 := ⟨_, by rw [← hI]; exact Heap.get?_push_size _ rfl, rfl, rfl⟩
  have hInew : h₃.get? I = none := by rw [← hI]; exact get_none_of_size (Nat.le_refl _)
  generalize h₃.push { cls := .type "tuple_iterator", data := .fields #[.ref T, .int 0 0] } = h₄ at *
  have back : ∀ {b : Addr}, h₂.get? b = none → h₀.get? b = none := fun {b} e => by
    cases q : h₀.get? b with
    | none => rfl
    | some o =>
      by_cases hb : b = Lr
      · subst hb
        obtain ⟨o', _, _, ho', _⟩ := hm₂
        rw [e] at ho'; cases ho'
      · rw [keep₂ b o hb q] at e; cases e
  have nT : h₀.get? T = none := back hTnew
  have nI : h₀.get? I = none := by
    refine back ?_
    cases q : h₂.get? I with
    | none => rfl
    | some o => rw [hk3 I o q] at hInew; cases hInew
  have inv0 : RInv fa { s with heap := h₀, toks := tk0 } Lw Lr W T I v 0 { s with heap := h₄, toks := tk0 + 1 } := by
    refine ⟨⟨h₄, _, rfl⟩, fun b o _ h2 e => hk4 b o (hk3 b o (keep₂ b o h2 e)), ?_, ?_, hTup.keeps hk4, hIt, ?_⟩
    · obtain ⟨o', es, ep, ho', rr⟩ := hnw₀
      exact ⟨mw, o', es, ep, hk4 _ _ (hk3 _ _ (keep₂ Lw o' hne ho')), rr⟩
    · exact ⟨_, (hm₂.keeps hk3).keeps hk4, (if_neg hnum).trans hmn, if_pos rfl⟩
    · exact ⟨#[], (hpl₂.keeps hk3).keeps hk4, .nil⟩
  refine refused_loop (s := { s with heap := h₀, toks := tk0 }) B hve F4 F17 hx hr' hen hfe hkW hfW hfr' hl1 hl2 hl3 hl6 g₀ hbw hL hne hnw₀ hns hv₀ hWnew nT nI hline inv0 ?_
  -- the end
  have fin : ∀ s' : Shared, (∃ h' tk, s' = { s with heap := h', toks := tk }) → (∀ b o, b ≠ Lw → b ≠ Lr → h₀.get? b = some o → s'.heap.get? b = some o) → (∃ m, s'.heap.Ns Lr m ∧ m cWords = some (.ref W)) → (∃ its, PlainL s'.heap W its ∧ StrsAre its.toList (List.replicate 2 cVal)) →
      wpAny (model prog w) (A.deeper env) (execs [.Return (some (.Compare (.Name cWords r1) [.Eq] [.List [.Constant (.str cVal) k3 r2, .Constant (.str cVal) k4 r3] r4] r5)) r6] env) (fun f s' => (match Except.ok (Flow.ret (match f with | .ret v => v | _ => .none)) with | Except.ok (.ret v) => Q v s' | Except.ok _ => False | .error e => E e s')) (fun e s' => wpAny (model prog w) (A.deeper env) (leaving env e) (fun _ s'' => (match (Except.error e : Result) with | .ok (.ret v) => Q v s'' | .ok _ => False | .error e => E e s'')) (fun e' s'' => (match (Except.error e' : Result) with | .ok (.ret v) => Q v s'' | .ok _ => False | .error e => E e s'')) s') s' := by
    rintro s' ⟨h', tk', rfl⟩ hkk ⟨m, hm, hmw⟩ ⟨its, hpl, hstr⟩
    refine wpAny_execs_cons (wpAny_Return_some (wpAny_Compare1 ?_ rfl))
    refine wpAny_Name (wpAny_loadName_local hkind (by show env.scope.names.lookup cWords = _; rw [hen.scp]; exact hl2) (by rw [hen.loc]; exact hm) hmw ?_) (by decide +kernel)
    refine PyProof.Rows.List_ ?_
    show wpAny _ _ (spliced [(false, eval (.Constant (.str cVal) k3 r2) env), (false, eval (.Constant (.str cVal) k4 r3) env)]) _ _ _
    refine Calls.spliced_cons (Calls.Constant_str (Calls.spliced_cons (Calls.Constant_str (Calls.spliced_nil (wpAny_newObj_type ?_ (by size_fits))))))
    dsimp only
    have hkz : ∀ (z : Obj) b o, h'.get? b = some o → (h'.push z).get? b = some o := fun z b o e => Heap.get?_push_of_some _ e
    have rd1 : RD (h'.push { cls := .type "list", data := .seq [Value.str cVal tk', Value.str cVal (tk' + 1)].toArray }) (fun _ => none) (.ref W) (.list [.str cVal, .str cVal]) :=
      RD.list (hpl.keeps (hkz _)).isList rfl (strs_rds hstr)
    have rd2 : RD (h'.push { cls := .type "list", data := .seq [Value.str cVal tk', Value.str cVal (tk' + 1)].toArray }) (fun _ => none) (.ref h'.objs.size) (.list [.str cVal, .str cVal]) :=
      RD.list ⟨_, Heap.get?_push_size _ rfl, rfl, _, rfl⟩ rfl (RDs.cons (RD.str _ _ _ _) (RDs.cons (RD.str _ _ _ _) (RDs.nil _ _)))
    obtain ⟨as, q1, _⟩ := rd1
    obtain ⟨bs, q2, _⟩ := rd2
    refine eq_dataH q1 q2 sh_vv sh_vv (by have := hr'.2.2; unfold cLine; omega) ?_
    rw [eqv_vv]
    refine hQ _ _ fun b o e => hkz _ b o (hkk b o (by rintro rfl; rw [hbw] at e; cases e) (by rintro rfl; rw [hL] at e; cases e) (g₀.keep b o e))
  rintro s' (inv | ⟨s₂, inv, h', rfl, hext⟩)
  · obtain ⟨m, h1, h2, h3⟩ := inv.nr
    obtain ⟨h5, t5, e5⟩ := inv.sh
    exact fin s' ⟨h5, t5, e5⟩ inv.keep ⟨m, h1, h3⟩ inv.wl
  · obtain ⟨m, h1, h2, h3⟩ := inv.nr
    obtain ⟨h5, t5, e5⟩ := inv.sh
    obtain ⟨its, hpl, hstr⟩ := inv.wl
    obtain ⟨oI, hoI, hcI, hdI⟩ := id inv.it
    have hIr : I ≠ Lr := ns_ne_fields h1 hoI hdI
    obtain ⟨oW, nW', hoW, hcW, hdnW, hdW⟩ := id hpl
    have hWI : W ≠ I := by rintro rfl; rw [hoW] at hoI; cases hoI; rw [hdW] at hdI; cases hdI
    refine fin _ ⟨h', t5, by rw [e5]⟩ (fun b o q1 q2 q => hext b o (by rintro rfl; rw [nI] at q; cases q) (inv.keep b o q1 q2 q)) ⟨m, h1.extBut hext (Ne.symm hIr), h3⟩ ⟨its, ⟨oW, nW', hext W oW hWI hoW, hcW, hdnW, hdW⟩, hstr⟩
end

-- M40
def cRef : Str := Str.ofString "_law_refused"
section
variable {prog : Program} {w : World} {hb : Heap} {mg mb : Str → Option Value} {fa : Nat → Addr} {n : Nat}
theorem nd_law : nm_law.Nodup := by decide +kernel
theorem rd_none {h : Heap} {σ : St} {v : Value} {x : PyData} (r : RD h σ v x) : RD h (fun _ => none) v x := by
  obtain ⟨as, h1, h2⟩ := r
  exact ⟨as, h1, fun a ha => ⟨rfl, (h2 a ha).2⟩⟩
theorem law_body (B : Bs hb mg mb fa) (hve : mg VE = none ∧ mb VE = some (.type "ValueError")) (F : Fns hb fa) (F4 : FnAtB hb (fa 4) 1 [.none] nm_to_man_exp bd_to_man_exp PTme) (F17 : FnAtB hb (fa 17) 1 [] nm_mpf_frexp bd_mpf_frexp PFrx) (F30 : FnRef hb (fa 30))
    {A : Around} {env : Env} {sc : Scope} {L : Addr} {s : Shared} {ns : List Int} {ps : List Stmt} {rp cp q : Pos} {e : Expr} (hok : okSs sc nm_law (initS bd_law) ps = true) (hoke : okE sc nm_law lastArg e = true) (hrl : sc.names.lookup cRef = some .globalImplicit)
    (he : EnvOK env sc L) (hfe : env.frame = some L) (hL : hb.get? L = none) (hr : Room (n + 10) A) (hfr : A.frames = some [env]) (g : Good hb s.heap fun _ => none) (hρ : RhoOK s.heap (fun _ => none) L nm_law [some (.d (.list (ns.map .int))), none, none, none, none, none, none, none, none, none]) (hlen : ns.length ≤ 100)
    {K : Flow → Shared → Prop} {E : Value → Shared → Prop} (hK : ∀ h' tk, (∀ b o, hb.get? b = some o → h'.get? b = some o) → K (.ret (.bool true)) { s with heap := h', toks := tk }) :
    wpAny (model prog w) A (execs (ps ++ [.Return (some (.Call (.Name cRef rp) [e] [] cp)) q]) env) K E s := by
  refine sndSs_app (n := n + 10) (R := fun _ _ => False) B he nd_law hL hr _ ps _ _ s _ hok g hρ (law_init B F hlen) ?_
  intro f s' hp
  cases f with
  | ret z => obtain ⟨_, _, h, _⟩ := hp; exact h.elim
  | cont => exact hp.elim
  | brk => exact hp.elim
  | next =>
    obtain ⟨ρ, σ, ⟨st, h1, hd⟩, hρ', ev⟩ := hp
    refine wpAny_execs_cons (wpAny_Return_some (wpAny_Call_NameR (name_glob (v := .ref (fa 30)) B he ev.good hrl (by decide +kernel) (B.ft 30 cRef rfl).1 ?_)))
    obtain ⟨o, fd, ho, hdd⟩ : ∃ o fd, hb.get? (fa 30) = some o ∧ o.data = .func fd := by
      obtain ⟨o, fd, _, h1, h2, _⟩ := F30; exact ⟨o, fd, h1, h2⟩
    have est : backTo cp (starEach [e] env) = [(false, eval e env)] := by rw [star_of_ok hoke]; rfl
    rw [est]
    refine Calls.callWith_function (o := o) (fd := fd) (Calls.evalArgs_plain (Calls.spliced_cons ?_))
    refine postE (sndE (n := n + 10) B lastArg hoke he hr ev.good hρ' (last_arg (n := n + 9) B F h1 hd (Q := fun V _ => ∃ x, V = .d x ∧ (x = sFin ∨ x = sNin ∨ x = sNan)) fun x σ' hx => ⟨x, rfl, hx⟩)) ?_
    rintro v V s₁ σ₁ ⟨x, rfl, hx⟩ hv he₁
    refine Calls.spliced_nil ⟨⟨he₁.good.keep _ _ ho, hdd⟩, ?_⟩
    have hspc : Spc x := by
      rcases hx with rfl | rfl | rfl
      · exact ⟨0, -456, -2, rfl, by decide⟩
      · exact ⟨1, -789, -3, rfl, by decide⟩
      · exact ⟨0, -123, -1, rfl, by decide⟩
    obtain ⟨m, hm, _⟩ := hρ'.step ev.good.rep he₁.kp
    obtain ⟨h2, t2, e2⟩ := (ev.trans he₁.toL).sh
    refine refused_ok (n := n + 8) B hve F4 F17 F30 hspc hr (by rw [he.scp, he.kind]; decide) hfe hfr ⟨he₁.good.keep, fun _ _ _ => rfl, fun _ _ e => by cases e⟩ hL hm (rd_none hv) ?_
    intro h' tk hk
    rw [e2]
    exact hK h' tk hk
end

open_top hd for PySem.Challenge.rw_bw0029_01

-- M41
def faL : List Addr := [21, 37, 44, 52, 60, 67, 74, 81, 88, 96, 104, 112, 119, 127, 135, 143, 150, 157, 165, 172, 177, 184, 191, 198, 205, 210, 217, 224, 231, 238, 245, 250]
def faT (i : Nat) : Addr := faL.getD i 0
section
variable {p : Params} {h : Heap} (KX : (hd.heap_39 p).In h)
include KX
theorem fn_f0 : FnAt h (faT 0) 1 [] nm_trailing bd_trailing :=
  ⟨_, _, _, [], KX 21 _ rfl, rfl, ⟨20, _, _, _, rfl, KX 20 _ rfl, rfl, rfl⟩, rfl, by decide +kernel, by decide +kernel, rfl, rfl, rfl, by decide +kernel, rfl, rfl, by decide +kernel, RDs.nil _ _, by decide,
    fun args hl s hk => match args, hl with | [v0], _ => BindsTo.of_eq rfl⟩
theorem fn_f1 : FnAt h (faT 1) 6 [] nm_normalize0 bd_normalize0 :=
  ⟨_, _, _, [], KX 37 _ rfl, rfl, ⟨36, _, _, _, rfl, KX 36 _ rfl, rfl, rfl⟩, rfl, by decide +kernel, by decide +kernel, rfl, rfl, rfl, by decide +kernel, rfl, rfl, by decide +kernel, RDs.nil _ _, by decide,
    fun args hl s hk => match args, hl with | [v0, v1, v2, v3, v4, v5], _ => BindsTo.of_eq rfl⟩
theorem fn_f2 : FnAt h (faT 2) 6 [] nm_normalize bd_normalize :=
  ⟨_, _, _, [], KX 44 _ rfl, rfl, ⟨43, _, _, _, rfl, KX 43 _ rfl, rfl, rfl⟩, rfl, by decide +kernel, by decide +kernel, rfl, rfl, rfl, by decide +kernel, rfl, rfl, by decide +kernel, RDs.nil _ _, by decide,
    fun args hl s hk => match args, hl with | [v0, v1, v2, v3, v4, v5], _ => BindsTo.of_eq rfl⟩
theorem fn_f3 : FnAt h (faT 3) 2 [.int 0, .str wd] nm_from_man_exp bd_from_man_exp :=
  ⟨_, _, _, [Value.int 0 274, Value.str wd 210], KX 52 _ rfl, rfl, ⟨51, _, _, _, rfl, KX 51 _ rfl, rfl, rfl⟩, rfl, by decide +kernel, by decide +kernel, rfl, rfl, rfl, by decide +kernel, rfl, rfl, by decide +kernel, RDs.cons (RD.int _ _ 0 274) (RDs.cons (RD.str _ _ wd 210) (RDs.nil _ _)), by decide,
    fun args hl s hk => match args, hl with | [v0, v1], _ => BindsTo.of_defaults rfl (hk 45 _ (KX 45 _ rfl)) rfl rfl rfl⟩
theorem fn_f3b : FnAt h (faT 3) 4 [] nm_from_man_exp bd_from_man_exp :=
  ⟨_, _, _, [], KX 52 _ rfl, rfl, ⟨51, _, _, _, rfl, KX 51 _ rfl, rfl, rfl⟩, rfl, by decide +kernel, by decide +kernel, rfl, rfl, rfl, by decide +kernel, rfl, rfl, by decide +kernel, RDs.nil _ _, by decide,
    fun args hl s hk => match args, hl with | [v0, v1, v2, v3], _ => BindsTo.of_defaults rfl (hk 45 _ (KX 45 _ rfl)) rfl rfl rfl⟩
theorem fn_f4 : FnAt h (faT 4) 1 [.none] nm_to_man_exp bd_to_man_exp :=
  ⟨_, _, _, [Value.none], KX 60 _ rfl, rfl, ⟨59, _, _, _, rfl, KX 59 _ rfl, rfl, rfl⟩, rfl, by decide +kernel, by decide +kernel, rfl, rfl, rfl, by decide +kernel, rfl, rfl, by decide +kernel, RDs.cons (RD.none _ _) (RDs.nil _ _), by decide,
    fun args hl s hk => match args, hl with | [v0], _ => BindsTo.of_defaults rfl (hk 53 _ (KX 53 _ rfl)) rfl rfl rfl⟩
theorem fn_f4b : FnAt h (faT 4) 2 [] nm_to_man_exp bd_to_man_exp :=
  ⟨_, _, _, [], KX 60 _ rfl, rfl, ⟨59, _, _, _, rfl, KX 59 _ rfl, rfl, rfl⟩, rfl, by decide +kernel, by decide +kernel, rfl, rfl, rfl, by decide +kernel, rfl, rfl, by decide +kernel, RDs.nil _ _, by decide,
    fun args hl s hk => match args, hl with | [v0, v1], _ => BindsTo.of_defaults rfl (hk 53 _ (KX 53 _ rfl)) rfl rfl rfl⟩
theorem fn_f5 : FnAt h (faT 5) 2 [] nm_mpf_cmp bd_mpf_cmp :=
  ⟨_, _, _, [], KX 67 _ rfl, rfl, ⟨66, _, _, _, rfl, KX 66 _ rfl, rfl, rfl⟩, rfl, by decide +kernel, by decide +kernel, rfl, rfl, rfl, by decide +kernel, rfl, rfl, by decide +kernel, RDs.nil _ _, by decide,
    fun args hl s hk => match args, hl with | [v0, v1], _ => BindsTo.of_eq rfl⟩
theorem fn_f6 : FnAt h (faT 6) 2 [] nm_mpf_lt bd_mpf_lt :=
  ⟨_, _, _, [], KX 74 _ rfl, rfl, ⟨73, _, _, _, rfl, KX 73 _ rfl, rfl, rfl⟩, rfl, by decide +kernel, by decide +kernel, rfl, rfl, rfl, by decide +kernel, rfl, rfl, by decide +kernel, RDs.nil _ _, by decide,
    fun args hl s hk => match args, hl with | [v0, v1], _ => BindsTo.of_eq rfl⟩
theorem fn_f7 : FnAt h (faT 7) 2 [] nm_mpf_gt bd_mpf_gt :=
  ⟨_, _, _, [], KX 81 _ rfl, rfl, ⟨80, _, _, _, rfl, KX 80 _ rfl, rfl, rfl⟩, rfl, by decide +kernel, by decide +kernel, rfl, rfl, rfl, by decide +kernel, rfl, rfl, by decide +kernel, RDs.nil _ _, by decide,
    fun args hl s hk => match args, hl with | [v0, v1], _ => BindsTo.of_eq rfl⟩
theorem fn_f8 : FnAt h (faT 8) 1 [] nm_mpf_min_max bd_mpf_min_max :=
  ⟨_, _, _, [], KX 88 _ rfl, rfl, ⟨87, _, _, _, rfl, KX 87 _ rfl, rfl, rfl⟩, rfl, by decide +kernel, by decide +kernel, rfl, rfl, rfl, by decide +kernel, rfl, rfl, by decide +kernel, RDs.nil _ _, by decide,
    fun args hl s hk => match args, hl with | [v0], _ => BindsTo.of_eq rfl⟩
theorem fn_f9 : FnAt h (faT 9) 3 [] nm_mpf_pos bd_mpf_pos :=
  ⟨_, _, _, [], KX 96 _ rfl, rfl, ⟨95, _, _, _, rfl, KX 95 _ rfl, rfl, rfl⟩, rfl, by decide +kernel, by decide +kernel, rfl, rfl, rfl, by decide +kernel, rfl, rfl, by decide +kernel, RDs.nil _ _, by decide,
    fun args hl s hk => match args, hl with | [v0, v1, v2], _ => BindsTo.of_defaults rfl (hk 89 _ (KX 89 _ rfl)) rfl rfl rfl⟩
theorem fn_f12 : FnAt h (faT 12) 1 [] nm_mpf_sign bd_mpf_sign :=
  ⟨_, _, _, [], KX 119 _ rfl, rfl, ⟨118, _, _, _, rfl, KX 118 _ rfl, rfl, rfl⟩, rfl, by decide +kernel, by decide +kernel, rfl, rfl, rfl, by decide +kernel, rfl, rfl, by decide +kernel, RDs.nil _ _, by decide,
    fun args hl s hk => match args, hl with | [v0], _ => BindsTo.of_eq rfl⟩
theorem fn_f13 : FnAt h (faT 13) 4 [.int 0] nm_mpf_add bd_mpf_add :=
  ⟨_, _, _, [Value.int 0 399], KX 127 _ rfl, rfl, ⟨126, _, _, _, rfl, KX 126 _ rfl, rfl, rfl⟩, rfl, by decide +kernel, by decide +kernel, rfl, rfl, rfl, by decide +kernel, rfl, rfl, by decide +kernel, RDs.cons (RD.int _ _ 0 399) (RDs.nil _ _), by decide,
    fun args hl s hk => match args, hl with | [v0, v1, v2, v3], _ => BindsTo.of_defaults rfl (hk 120 _ (KX 120 _ rfl)) rfl rfl rfl⟩
theorem fn_f13b : FnAt h (faT 13) 5 [] nm_mpf_add bd_mpf_add :=
  ⟨_, _, _, [], KX 127 _ rfl, rfl, ⟨126, _, _, _, rfl, KX 126 _ rfl, rfl, rfl⟩, rfl, by decide +kernel, by decide +kernel, rfl, rfl, rfl, by decide +kernel, rfl, rfl, by decide +kernel, RDs.nil _ _, by decide,
    fun args hl s hk => match args, hl with | [v0, v1, v2, v3, v4], _ => BindsTo.of_defaults rfl (hk 120 _ (KX 120 _ rfl)) rfl rfl rfl⟩
theorem fn_f14 : FnAt h (faT 14) 4 [] nm_mpf_sub bd_mpf_sub :=
  ⟨_, _, _, [], KX 135 _ rfl, rfl, ⟨134, _, _, _, rfl, KX 134 _ rfl, rfl, rfl⟩, rfl, by decide +kernel, by decide +kernel, rfl, rfl, rfl, by decide +kernel, rfl, rfl, by decide +kernel, RDs.nil _ _, by decide,
    fun args hl s hk => match args, hl with | [v0, v1, v2, v3], _ => BindsTo.of_defaults rfl (hk 128 _ (KX 128 _ rfl)) rfl rfl rfl⟩
theorem fn_f15 : FnAt h (faT 15) 3 [.bool false] nm_mpf_sum bd_mpf_sum :=
  ⟨_, _, _, [Value.bool false], KX 143 _ rfl, rfl, ⟨142, _, _, _, rfl, KX 142 _ rfl, rfl, rfl⟩, rfl, by decide +kernel, by decide +kernel, rfl, rfl, rfl, by decide +kernel, rfl, rfl, by decide +kernel, RDs.cons (RD.bool _ _ false) (RDs.nil _ _), by decide,
    fun args hl s hk => match args, hl with | [v0, v1, v2], _ => BindsTo.of_defaults rfl (hk 136 _ (KX 136 _ rfl)) rfl rfl rfl⟩
theorem fn_f15b : FnAt h (faT 15) 4 [] nm_mpf_sum bd_mpf_sum :=
  ⟨_, _, _, [], KX 143 _ rfl, rfl, ⟨142, _, _, _, rfl, KX 142 _ rfl, rfl, rfl⟩, rfl, by decide +kernel, by decide +kernel, rfl, rfl, rfl, by decide +kernel, rfl, rfl, by decide +kernel, RDs.nil _ _, by decide,
    fun args hl s hk => match args, hl with | [v0, v1, v2, v3], _ => BindsTo.of_defaults rfl (hk 136 _ (KX 136 _ rfl)) rfl rfl rfl⟩
theorem fn_f16 : FnAt h (faT 16) 2 [] nm_mpf_shift bd_mpf_shift :=
  ⟨_, _, _, [], KX 150 _ rfl, rfl, ⟨149, _, _, _, rfl, KX 149 _ rfl, rfl, rfl⟩, rfl, by decide +kernel, by decide +kernel, rfl, rfl, rfl, by decide +kernel, rfl, rfl, by decide +kernel, RDs.nil _ _, by decide,
    fun args hl s hk => match args, hl with | [v0, v1], _ => BindsTo.of_eq rfl⟩
theorem fn_f17 : FnAt h (faT 17) 1 [] nm_mpf_frexp bd_mpf_frexp :=
  ⟨_, _, _, [], KX 157 _ rfl, rfl, ⟨156, _, _, _, rfl, KX 156 _ rfl, rfl, rfl⟩, rfl, by decide +kernel, by decide +kernel, rfl, rfl, rfl, by decide +kernel, rfl, rfl, by decide +kernel, RDs.nil _ _, by decide,
    fun args hl s hk => match args, hl with | [v0], _ => BindsTo.of_eq rfl⟩
theorem fn_f18 : FnAt h (faT 18) 4 [] nm_mpf_mod bd_mpf_mod :=
  ⟨_, _, _, [], KX 165 _ rfl, rfl, ⟨164, _, _, _, rfl, KX 164 _ rfl, rfl, rfl⟩, rfl, by decide +kernel, by decide +kernel, rfl, rfl, rfl, by decide +kernel, rfl, rfl, by decide +kernel, RDs.nil _ _, by decide,
    fun args hl s hk => match args, hl with | [v0, v1, v2, v3], _ => BindsTo.of_defaults rfl (hk 158 _ (KX 158 _ rfl)) rfl rfl rfl⟩
theorem fn_f19 : FnAt h (faT 19) 4 [] nm_mpf_perturb bd_mpf_perturb :=
  ⟨_, _, _, [], KX 172 _ rfl, rfl, ⟨171, _, _, _, rfl, KX 171 _ rfl, rfl, rfl⟩, rfl, by decide +kernel, by decide +kernel, rfl, rfl, rfl, by decide +kernel, rfl, rfl, by decide +kernel, RDs.nil _ _, by decide,
    fun args hl s hk => match args, hl with | [v0, v1, v2, v3], _ => BindsTo.of_eq rfl⟩
theorem fn_f20 : FnAt h (faT 20) 1 [] nm_law_state bd_law_state :=
  ⟨_, _, _, [], KX 177 _ rfl, rfl, ⟨176, _, _, _, rfl, KX 176 _ rfl, rfl, rfl⟩, rfl, by decide +kernel, by decide +kernel, rfl, rfl, rfl, by decide +kernel, rfl, rfl, by decide +kernel, RDs.nil _ _, by decide,
    fun args hl s hk => match args, hl with | [v0], _ => BindsTo.of_eq rfl⟩
theorem fn_f21 : FnAt h (faT 21) 2 [] nm_law_draw bd_law_draw :=
  ⟨_, _, _, [], KX 184 _ rfl, rfl, ⟨183, _, _, _, rfl, KX 183 _ rfl, rfl, rfl⟩, rfl, by decide +kernel, by decide +kernel, rfl, rfl, rfl, by decide +kernel, rfl, rfl, by decide +kernel, RDs.nil _ _, by decide,
    fun args hl s hk => match args, hl with | [v0, v1], _ => BindsTo.of_eq rfl⟩
theorem fn_f22 : FnAt h (faT 22) 4 [] nm_law_rounded bd_law_rounded :=
  ⟨_, _, _, [], KX 191 _ rfl, rfl, ⟨190, _, _, _, rfl, KX 190 _ rfl, rfl, rfl⟩, rfl, by decide +kernel, by decide +kernel, rfl, rfl, rfl, by decide +kernel, rfl, rfl, by decide +kernel, RDs.nil _ _, by decide,
    fun args hl s hk => match args, hl with | [v0, v1, v2, v3], _ => BindsTo.of_eq rfl⟩
theorem fn_f23 : FnAt h (faT 23) 1 [] nm_law_power bd_law_power :=
  ⟨_, _, _, [], KX 198 _ rfl, rfl, ⟨197, _, _, _, rfl, KX 197 _ rfl, rfl, rfl⟩, rfl, by decide +kernel, by decide +kernel, rfl, rfl, rfl, by decide +kernel, rfl, rfl, by decide +kernel, RDs.nil _ _, by decide,
    fun args hl s hk => match args, hl with | [v0], _ => BindsTo.of_eq rfl⟩
theorem fn_f24 : FnAt h (faT 24) 2 [] nm_law_tuple bd_law_tuple :=
  ⟨_, _, _, [], KX 205 _ rfl, rfl, ⟨204, _, _, _, rfl, KX 204 _ rfl, rfl, rfl⟩, rfl, by decide +kernel, by decide +kernel, rfl, rfl, rfl, by decide +kernel, rfl, rfl, by decide +kernel, RDs.nil _ _, by decide,
    fun args hl s hk => match args, hl with | [v0, v1], _ => BindsTo.of_eq rfl⟩
theorem fn_f25 : FnAt h (faT 25) 1 [] nm_law_fixed bd_law_fixed :=
  ⟨_, _, _, [], KX 210 _ rfl, rfl, ⟨209, _, _, _, rfl, KX 209 _ rfl, rfl, rfl⟩, rfl, by decide +kernel, by decide +kernel, rfl, rfl, rfl, by decide +kernel, rfl, rfl, by decide +kernel, RDs.nil _ _, by decide,
    fun args hl s hk => match args, hl with | [v0], _ => BindsTo.of_eq rfl⟩
theorem fn_f26 : FnAt h (faT 26) 3 [] nm_law_made bd_law_made :=
  ⟨_, _, _, [], KX 217 _ rfl, rfl, ⟨216, _, _, _, rfl, KX 216 _ rfl, rfl, rfl⟩, rfl, by decide +kernel, by decide +kernel, rfl, rfl, rfl, by decide +kernel, rfl, rfl, by decide +kernel, RDs.nil _ _, by decide,
    fun args hl s hk => match args, hl with | [v0, v1, v2], _ => BindsTo.of_eq rfl⟩
theorem fn_f27 : FnAt h (faT 27) 3 [] nm_law_rest_right bd_law_rest_right :=
  ⟨_, _, _, [], KX 224 _ rfl, rfl, ⟨223, _, _, _, rfl, KX 223 _ rfl, rfl, rfl⟩, rfl, by decide +kernel, by decide +kernel, rfl, rfl, rfl, by decide +kernel, rfl, rfl, by decide +kernel, RDs.nil _ _, by decide,
    fun args hl s hk => match args, hl with | [v0, v1, v2], _ => BindsTo.of_eq rfl⟩
theorem fn_f28 : FnAt h (faT 28) 3 [] nm_law_parts_right bd_law_parts_right :=
  ⟨_, _, _, [], KX 231 _ rfl, rfl, ⟨230, _, _, _, rfl, KX 230 _ rfl, rfl, rfl⟩, rfl, by decide +kernel, by decide +kernel, rfl, rfl, rfl, by decide +kernel, rfl, rfl, by decide +kernel, RDs.nil _ _, by decide,
    fun args hl s hk => match args, hl with | [v0, v1, v2], _ => BindsTo.of_eq rfl⟩
theorem fn_f29 : FnAt h (faT 29) 4 [] nm_law_hair_right bd_law_hair_right :=
  ⟨_, _, _, [], KX 238 _ rfl, rfl, ⟨237, _, _, _, rfl, KX 237 _ rfl, rfl, rfl⟩, rfl, by decide +kernel, by decide +kernel, rfl, rfl, rfl, by decide +kernel, rfl, rfl, by decide +kernel, RDs.nil _ _, by decide,
    fun args hl s hk => match args, hl with | [v0, v1, v2, v3], _ => BindsTo.of_eq rfl⟩
theorem fn_f31 : FnAt h (faT 31) 1 [] nm_law bd_law :=
  ⟨_, _, _, [], KX 250 _ rfl, rfl, ⟨249, _, _, _, rfl, KX 249 _ rfl, rfl, rfl⟩, rfl, by decide +kernel, by decide +kernel, rfl, rfl, rfl, by decide +kernel, rfl, rfl, by decide +kernel, RDs.nil _ _, by decide,
    fun args hl s hk => match args, hl with | [v0], _ => BindsTo.of_eq rfl⟩
theorem fns_all : Fns h faT := ⟨fn_f0 KX, fn_f1 KX, fn_f2 KX, fn_f3 KX, fn_f3b KX, fn_f4 KX, fn_f4b KX, fn_f5 KX, fn_f6 KX, fn_f7 KX, fn_f8 KX, fn_f9 KX, fn_f12 KX, fn_f13 KX, fn_f13b KX, fn_f14 KX, fn_f15 KX, fn_f15b KX, fn_f16 KX, fn_f17 KX, fn_f18 KX, fn_f19 KX, fn_f20 KX, fn_f21 KX, fn_f22 KX, fn_f23 KX, fn_f24 KX, fn_f25 KX, fn_f26 KX, fn_f27 KX, fn_f28 KX, fn_f29 KX, fn_f31 KX⟩
theorem fnb_4 : FnAtB h (faT 4) 1 [.none] nm_to_man_exp bd_to_man_exp PTme :=
  ⟨_, _, _, [Value.none], KX 60 _ rfl, rfl, ⟨59, _, _, _, rfl, KX 59 _ rfl, rfl, rfl⟩, rfl, by decide +kernel, by decide +kernel, rfl, rfl, rfl, by decide +kernel, rfl, rfl, by decide +kernel, RDs.cons (RD.none _ _) (RDs.nil _ _), by decide,
    fun args hl s hk => match args, hl with | [v0], _ => BindsTo.of_defaults rfl (hk 53 _ (KX 53 _ rfl)) rfl rfl rfl, ⟨by decide +kernel, _, _, _, _, _, _, _, _, _, _, _, _, rfl⟩⟩
theorem fnb_17 : FnAtB h (faT 17) 1 [] nm_mpf_frexp bd_mpf_frexp PFrx :=
  ⟨_, _, _, [], KX 157 _ rfl, rfl, ⟨156, _, _, _, rfl, KX 156 _ rfl, rfl, rfl⟩, rfl, by decide +kernel, by decide +kernel, rfl, rfl, rfl, by decide +kernel, rfl, rfl, by decide +kernel, RDs.nil _ _, by decide,
    fun args hl s hk => match args, hl with | [v0], _ => BindsTo.of_eq rfl, ⟨by decide +kernel, _, _, _, _, _, _, _, _, _, _, rfl⟩⟩
theorem fn_ref : FnRef h (faT 30) :=
  ⟨_, _, _, KX 245 _ rfl, rfl, ⟨244, _, _, _, rfl, KX 244 _ rfl, rfl, rfl⟩, rfl, rfl, rfl, rfl, by decide +kernel, rfl, rfl, by decide +kernel, by decide +kernel, by decide +kernel, by decide +kernel, by decide +kernel, by decide +kernel,
    fun v s => BindsTo.of_eq rfl, _, _, _, _, _, _, _, _, _, _, _, _, _, _, _, _, _, _, _, _, _, _, _, _, _, _, _, _, _, _, _, _, _, _, _, _, _, rfl, rfl⟩
end

-- M42
section
variable {p : Params} {h : Heap} (KX : (hd.heap_39 p).In h) {mg mb : Str → Option Value} (G : h.Ns mainGlobals mg)
include KX G
theorem ft_all : ∀ f n, ftab[f]? = some n → mg n = some (.ref (faT f)) ∧ ∃ o fd, h.get? (faT f) = some o ∧ o.data = .func fd
  | 0, n, e => by
    obtain rfl : Str.ofString "trailing" = n := Option.some.inj e
    exact ⟨mg_of KX G (by kernel_rfl), _, _, KX 21 _ rfl, rfl⟩
  | 1, n, e => by
    obtain rfl : Str.ofString "_normalize" = n := Option.some.inj e
    exact ⟨mg_of KX G (by kernel_rfl), _, _, KX 37 _ rfl, rfl⟩
  | 2, n, e => by
    obtain rfl : Str.ofString "normalize" = n := Option.some.inj e
    exact ⟨mg_of KX G (by kernel_rfl), _, _, KX 44 _ rfl, rfl⟩
  | 3, n, e => by
    obtain rfl : Str.ofString "from_man_exp" = n := Option.some.inj e
    exact ⟨mg_of KX G (by kernel_rfl), _, _, KX 52 _ rfl, rfl⟩
  | 4, n, e => by
    obtain rfl : Str.ofString "to_man_exp" = n := Option.some.inj e
    exact ⟨mg_of KX G (by kernel_rfl), _, _, KX 60 _ rfl, rfl⟩
  | 5, n, e => by
    obtain rfl : Str.ofString "mpf_cmp" = n := Option.some.inj e
    exact ⟨mg_of KX G (by kernel_rfl), _, _, KX 67 _ rfl, rfl⟩
  | 6, n, e => by
    obtain rfl : Str.ofString "mpf_lt" = n := Option.some.inj e
    exact ⟨mg_of KX G (by kernel_rfl), _, _, KX 74 _ rfl, rfl⟩
  | 7, n, e => by
    obtain rfl : Str.ofString "mpf_gt" = n := Option.some.inj e
    exact ⟨mg_of KX G (by kernel_rfl), _, _, KX 81 _ rfl, rfl⟩
  | 8, n, e => by
    obtain rfl : Str.ofString "mpf_min_max" = n := Option.some.inj e
    exact ⟨mg_of KX G (by kernel_rfl), _, _, KX 88 _ rfl, rfl⟩
  | 9, n, e => by
    obtain rfl : Str.ofString "mpf_pos" = n := Option.some.inj e
    exact ⟨mg_of KX G (by kernel_rfl), _, _, KX 96 _ rfl, rfl⟩
  | 10, n, e => by
    obtain rfl : Str.ofString "mpf_neg" = n := Option.some.inj e
    exact ⟨mg_of KX G (by kernel_rfl), _, _, KX 104 _ rfl, rfl⟩
  | 11, n, e => by
    obtain rfl : Str.ofString "mpf_abs" = n := Option.some.inj e
    exact ⟨mg_of KX G (by kernel_rfl), _, _, KX 112 _ rfl, rfl⟩
  | 12, n, e => by
    obtain rfl : Str.ofString "mpf_sign" = n := Option.some.inj e
    exact ⟨mg_of KX G (by kernel_rfl), _, _, KX 119 _ rfl, rfl⟩
  | 13, n, e => by
    obtain rfl : Str.ofString "mpf_add" = n := Option.some.inj e
    exact ⟨mg_of KX G (by kernel_rfl), _, _, KX 127 _ rfl, rfl⟩
  | 14, n, e => by
    obtain rfl : Str.ofString "mpf_sub" = n := Option.some.inj e
    exact ⟨mg_of KX G (by kernel_rfl), _, _, KX 135 _ rfl, rfl⟩
  | 15, n, e => by
    obtain rfl : Str.ofString "mpf_sum" = n := Option.some.inj e
    exact ⟨mg_of KX G (by kernel_rfl), _, _, KX 143 _ rfl, rfl⟩
  | 16, n, e => by
    obtain rfl : Str.ofString "mpf_shift" = n := Option.some.inj e
    exact ⟨mg_of KX G (by kernel_rfl), _, _, KX 150 _ rfl, rfl⟩
  | 17, n, e => by
    obtain rfl : Str.ofString "mpf_frexp" = n := Option.some.inj e
    exact ⟨mg_of KX G (by kernel_rfl), _, _, KX 157 _ rfl, rfl⟩
  | 18, n, e => by
    obtain rfl : Str.ofString "mpf_mod" = n := Option.some.inj e
    exact ⟨mg_of KX G (by kernel_rfl), _, _, KX 165 _ rfl, rfl⟩
  | 19, n, e => by
    obtain rfl : Str.ofString "mpf_perturb" = n := Option.some.inj e
    exact ⟨mg_of KX G (by kernel_rfl), _, _, KX 172 _ rfl, rfl⟩
  | 20, n, e => by
    obtain rfl : Str.ofString "_law_state" = n := Option.some.inj e
    exact ⟨mg_of KX G (by kernel_rfl), _, _, KX 177 _ rfl, rfl⟩
  | 21, n, e => by
    obtain rfl : Str.ofString "_law_draw" = n := Option.some.inj e
    exact ⟨mg_of KX G (by kernel_rfl), _, _, KX 184 _ rfl, rfl⟩
  | 22, n, e => by
    obtain rfl : Str.ofString "_law_rounded" = n := Option.some.inj e
    exact ⟨mg_of KX G (by kernel_rfl), _, _, KX 191 _ rfl, rfl⟩
  | 23, n, e => by
    obtain rfl : Str.ofString "_law_power" = n := Option.some.inj e
    exact ⟨mg_of KX G (by kernel_rfl), _, _, KX 198 _ rfl, rfl⟩
  | 24, n, e => by
    obtain rfl : Str.ofString "_law_tuple" = n := Option.some.inj e
    exact ⟨mg_of KX G (by kernel_rfl), _, _, KX 205 _ rfl, rfl⟩
  | 25, n, e => by
    obtain rfl : Str.ofString "_law_fixed" = n := Option.some.inj e
    exact ⟨mg_of KX G (by kernel_rfl), _, _, KX 210 _ rfl, rfl⟩
  | 26, n, e => by
    obtain rfl : Str.ofString "_law_made" = n := Option.some.inj e
    exact ⟨mg_of KX G (by kernel_rfl), _, _, KX 217 _ rfl, rfl⟩
  | 27, n, e => by
    obtain rfl : Str.ofString "_law_rest_right" = n := Option.some.inj e
    exact ⟨mg_of KX G (by kernel_rfl), _, _, KX 224 _ rfl, rfl⟩
  | 28, n, e => by
    obtain rfl : Str.ofString "_law_parts_right" = n := Option.some.inj e
    exact ⟨mg_of KX G (by kernel_rfl), _, _, KX 231 _ rfl, rfl⟩
  | 29, n, e => by
    obtain rfl : Str.ofString "_law_hair_right" = n := Option.some.inj e
    exact ⟨mg_of KX G (by kernel_rfl), _, _, KX 238 _ rfl, rfl⟩
  | 30, n, e => by
    obtain rfl : Str.ofString "_law_refused" = n := Option.some.inj e
    exact ⟨mg_of KX G (by kernel_rfl), _, _, KX 245 _ rfl, rfl⟩
  | 31, n, e => by
    obtain rfl : Str.ofString "law" = n := Option.some.inj e
    exact ⟨mg_of KX G (by kernel_rfl), _, _, KX 250 _ rfl, rfl⟩
  | k + 32, n, e => by cases e
theorem ct_all : ∀ q ∈ ctab, ∃ v, mg q.1 = some v ∧ RD h (fun _ => none) v q.2 := by
  intro q hq
  simp only [ctab, List.mem_cons, List.not_mem_nil, or_false] at hq
  rcases hq with rfl | rfl | rfl | rfl | rfl | rfl | rfl | rfl | rfl | rfl | rfl
  · exact ⟨.int 0 187, mg_of KX G (by kernel_rfl), RD.int _ _ 0 187⟩
  · exact ⟨.int 1 189, mg_of KX G (by kernel_rfl), RD.int _ _ 1 189⟩
  · exact ⟨.str (Str.ofString "n") 202, mg_of KX G (by kernel_rfl), RD.str _ _ _ 202⟩
  · exact ⟨.str (Str.ofString "f") 204, mg_of KX G (by kernel_rfl), RD.str _ _ _ 204⟩
  · exact ⟨.str (Str.ofString "c") 206, mg_of KX G (by kernel_rfl), RD.str _ _ _ 206⟩
  · exact ⟨.str (Str.ofString "u") 208, mg_of KX G (by kernel_rfl), RD.str _ _ _ 208⟩
  · exact ⟨.str (Str.ofString "d") 210, mg_of KX G (by kernel_rfl), RD.str _ _ _ 210⟩
  · exact ⟨.ref 22, mg_of KX G (by kernel_rfl), RD.tuple (KX 22 _ rfl) rfl rfl (RDs.cons (RD.int _ _ (0) 213) (RDs.cons (RD.int _ _ (0) 187) (RDs.cons (RD.int _ _ (0) 214) (RDs.cons (RD.int _ _ (0) 215) (RDs.nil _ _)))))⟩
  · exact ⟨.ref 23, mg_of KX G (by kernel_rfl), RD.tuple (KX 23 _ rfl) rfl rfl (RDs.cons (RD.int _ _ (0) 217) (RDs.cons (RD.int _ _ (0) 187) (RDs.cons (RD.int _ _ (-123) 219) (RDs.cons (RD.int _ _ (-1) 221) (RDs.nil _ _)))))⟩
  · exact ⟨.ref 24, mg_of KX G (by kernel_rfl), RD.tuple (KX 24 _ rfl) rfl rfl (RDs.cons (RD.int _ _ (0) 223) (RDs.cons (RD.int _ _ (0) 187) (RDs.cons (RD.int _ _ (-456) 225) (RDs.cons (RD.int _ _ (-2) 227) (RDs.nil _ _)))))⟩
  · exact ⟨.ref 25, mg_of KX G (by kernel_rfl), RD.tuple (KX 25 _ rfl) rfl rfl (RDs.cons (RD.int _ _ (1) 229) (RDs.cons (RD.int _ _ (0) 187) (RDs.cons (RD.int _ _ (-789) 231) (RDs.cons (RD.int _ _ (-3) 233) (RDs.nil _ _)))))⟩
theorem bs_all (Bn : h.Ns builtinsNs mb) (hlim : h.NoLimit) (hbb : ∀ x : Str, x ≠ "__name__" → mb x = bootBuiltins x) : Bs h mg mb faT where
  g := G
  b := Bn
  lim := hlim
  ct := ct_all KX G
  ft := ft_all KX G
  bt := fun f => by
    cases f
    all_goals exact ⟨mg_none_of KX G (by kernel_rfl), (hbb _ (by decide +kernel)).trans (by kernel_rfl)⟩
  isi := ⟨mg_none_of KX G (by kernel_rfl), (hbb _ (by decide +kernel)).trans (by kernel_rfl)⟩
  rng := ⟨mg_none_of KX G (by kernel_rfl), (hbb _ (by decide +kernel)).trans (by kernel_rfl)⟩
  tb := ⟨26, mg_of KX G (by kernel_rfl), kt_text_in KX (by kernel_rfl)⟩
theorem ve_all (hbb : ∀ x : Str, x ≠ "__name__" → mb x = bootBuiltins x) : mg VE = none ∧ mb VE = some (.type "ValueError") :=
  ⟨mg_none_of KX G (by kernel_rfl), (hbb _ (by decide +kernel)).trans (by kernel_rfl)⟩
end

-- M43
theorem goodW_true {c : ClaimW} {cl : Str → Option Addr} {mean : ExcName → Option Value} {args : List WData} {s₁ s' : Shared} (hk : ∀ b o, s₁.heap.get? b = some o → s'.heap.get? b = some o) (hg : s'.gens = #[]) (hn : ∀ cls, c.raises args cls = false)
    (hp : c.post args (.bool true) args = true) (hos : s'.os = s₁.os) : GoodW c cl mean args s₁ (.ok (.ret (.bool true))) s' :=
  ⟨.inl ⟨.bool true, .bool true, [], rfl, hn, .bool true, hp, unshared_nil⟩, hk, hos, hg⟩
theorem rds_ints {h : Heap} : ∀ {vs : List Value} {ns : List Int}, IntsAre vs ns → RDs h (fun _ => none) vs (ns.map .int)
  | _, _, .nil => RDs.nil _ _
  | _, _, .cons _ t r => RDs.cons (RD.int _ _ _ _) (rds_ints r)
theorem rho_law {hb h : Heap} {L l : Addr} {m : Str → Option Value} {vs : List Value} {ns : List Int} (hn : h.Ns L m) (hm : m (Str.ofString "script") = some (.ref l)) (hk : ∀ b o, hb.get? b = some o → h.get? b = some o) (hl : hb.IsList l vs.toArray) (hI : IntsAre vs ns) :
    RhoOK h (fun _ => none) L nm_law [some (.d (.list (ns.map .int))), none, none, none, none, none, none, none, none, none] := by
  refine ⟨m, hn, fun i w e => ?_⟩
  match i, e with
  | 0, e =>
    cases e
    obtain ⟨o, ho, r⟩ := hl
    exact ⟨_, _, rfl, hm, RD.list ⟨o, hk l o ho, r⟩ rfl (by simpa using rds_ints hI)⟩
  | 1, e => cases e
  | 2, e => cases e
  | 3, e => cases e
  | 4, e => cases e
  | 5, e => cases e
  | 6, e => cases e
  | 7, e => cases e
  | 8, e => cases e
  | 9, e => cases e
  | k + 10, e => cases e
section
variable {prog : Program} {w : World} {hb : Heap} {mg mb : Str → Option Value} {fa : Nat → Addr} {n : Nat}
theorem law_body' (B : Bs hb mg mb fa) (hve : mg VE = none ∧ mb VE = some (.type "ValueError")) (F : Fns hb fa) (F4 : FnAtB hb (fa 4) 1 [.none] nm_to_man_exp bd_to_man_exp PTme) (F17 : FnAtB hb (fa 17) 1 [] nm_mpf_frexp bd_mpf_frexp PFrx) (F30 : FnRef hb (fa 30))
    {A : Around} {env : Env} {sc : Scope} {L : Addr} {s : Shared} {ns : List Int} {body : List Stmt} (h1 : okSs sc nm_law (initS bd_law) (body.take 10) = true) (h2 : ∃ (rp cp q : Pos) (e : Expr), body.drop 10 = [.Return (some (.Call (.Name cRef rp) [e] [] cp)) q] ∧ okE sc nm_law lastArg e = true) (hrl : sc.names.lookup cRef = some .globalImplicit)
    (he : EnvOK env sc L) (hfe : env.frame = some L) (hL : hb.get? L = none) (hr : Room (n + 10) A) (hfr : A.frames = some [env]) (hk : ∀ a o, hb.get? a = some o → s.heap.get? a = some o) (hρ : RhoOK s.heap (fun _ => none) L nm_law [some (.d (.list (ns.map .int))), none, none, none, none, none, none, none, none, none]) (hlen : ns.length ≤ 100)
    {K : Flow → Shared → Prop} {E : Value → Shared → Prop} (hK : ∀ h' tk, (∀ b o, hb.get? b = some o → h'.get? b = some o) → K (.ret (.bool true)) { s with heap := h', toks := tk }) :
    wpAny (model prog w) A (execs body env) K E s := by
  obtain ⟨rp, cp, q, e, h2, hoke⟩ := h2
  rw [← List.take_append_drop 10 body, h2]
  exact law_body B hve F F4 F17 F30 h1 hoke hrl he hfe hL hr hfr ⟨hk, fun _ _ _ => rfl, fun _ _ e => by cases e⟩ hρ hlen hK
end
end Mine

theorem PySem.Challenge.cw_bw0029_01_holds : PySem.Challenge.rw_bw0029_01.Holds := by
  refine Mine.hd ?_
  w_strict (k_go0)
  rename Frag.In _ _ => KX
  rename Top _ _ _ _ _ _ => T
  rename Fr _ _ _ _ => FF
  rename Heap.IsList _ _ _ => hL
  rename IntsAre _ _ => hI
  refine Mine.law_body' (n := 20) (Mine.bs_all KX T.g T.b T.nolimit T.builtins) (Mine.ve_all KX T.g T.builtins) (Mine.fns_all KX) (Mine.fnb_4 KX) (Mine.fnb_17 KX) (Mine.fn_ref KX) ?h1 ?h2 ?h4 ⟨rfl, rfl, rfl, rfl, rfl⟩ rfl
    (Mine.get_none_of_size (Nat.le_refl _)) ⟨rfl, ?h5, ?h6⟩ rfl FF.keep (Mine.rho_law FF.ns rfl FF.keep hL hI) (by omega) ?h7
  case h2 => exact ⟨_, _, _, _, rfl, by kernel_rfl⟩
  case h1 => kernel_rfl
  case h4 => kernel_rfl
  case h5 => show callerA.depth + 1 + 30 < 990; decide
  case h6 => show callerA.units + 3 + 100 * (30 + 1) < 9800; decide
  intro h' tk hk
  refine Mine.goodW_true hk (by assumption) (raisesW_false ?hn) ?hp rfl
  case hn => wrow_none_raised
  case hp => (refine' postW_of ?pa ?pb ?pc; (case pa => o_shape); (case pb => wtm_val); (case pc => w_fin))
