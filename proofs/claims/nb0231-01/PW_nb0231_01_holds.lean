import PyProof.Rows.All
import Wide.All
import Open.Line
import OpenK.KCell
import Open.Boot
import OpenK.AllK
import Wide.FinOn
import Open.TreeImp
import Wide.Txt
import PySem.Challenge.RW_nb0231_01
open PySem PySem.Spec PySem.Calls PyProof.Rows PySem.W
set_option Elab.async false
set_option maxRecDepth 100000
set_option compiler.extract_closed false
namespace Mine
set_option maxHeartbeats 200000
/-- an end that the walk does not open -/
structure Done (P : Prop) : Prop where
  out : P
/-- a plain list object -/
noncomputable abbrev lst (ys : List Value) (n : Nat) : Obj := { cls := .type "list", data := .seq ys.toArray n }
/-- a plain tuple object -/
noncomputable abbrev tup (ys : List Value) : Obj := { cls := .type "tuple", data := .seq ys.toArray }
mutual
/-- a value stands for a datum; lists and tuples are plain -/
inductive Rd (g : Heap) : Value → PyData → Prop
  | none : Rd g .none .none
  | bool (b : Bool) : Rd g (.bool b) (.bool b)
  | int (i : Int) (t : Tok) : Rd g (.int i t) (.int i)
  | str (x : Str) (t : Tok) : Rd g (.str x t) (.str x)
  | list {a : Addr} {vs : List Value} {n : Nat} {ds : List PyData} : g.get? a = some (lst vs n) → RdAll g vs ds → Rd g (.ref a) (.list ds)
  | tup {a : Addr} {vs : List Value} {ds : List PyData} : g.get? a = some (tup vs) → RdAll g vs ds → Rd g (.ref a) (.tuple ds)
inductive RdAll (g : Heap) : List Value → List PyData → Prop
  | nil : RdAll g [] []
  | cons {v : Value} {vs : List Value} {d : PyData} {ds : List PyData} : Rd g v d → RdAll g vs ds → RdAll g (v :: vs) (d :: ds)
end
mutual
theorem Rd.up {g g' : Heap} (k : g.StaysIn g') : ∀ {v : Value} {d : PyData}, Rd g v d → Rd g' v d
  | _, _, .none => .none
  | _, _, .bool b => .bool b
  | _, _, .int i t => .int i t
  | _, _, .str x t => .str x t
  | _, _, .list e r => .list (k _ _ e) (RdAll.up k r)
  | _, _, .tup e r => .tup (k _ _ e) (RdAll.up k r)
theorem RdAll.up {g g' : Heap} (k : g.StaysIn g') : ∀ {vs : List Value} {ds : List PyData}, RdAll g vs ds → RdAll g' vs ds
  | _, _, .nil => .nil
  | _, _, .cons a b => .cons (Rd.up k a) (RdAll.up k b)
end
mutual
theorem Rd.reads {g : Heap} : ∀ {v : Value} {d : PyData}, Rd g v d → ∃ as, Reads g v d as
  | _, _, .none => ⟨_, .none⟩
  | _, _, .bool b => ⟨_, .bool b⟩
  | _, _, .int i t => ⟨_, .int i t⟩
  | _, _, .str x t => ⟨_, .str x t⟩
  | _, _, .list e r => let ⟨_, q⟩ := RdAll.reads r; ⟨_, .list e rfl rfl q⟩
  | _, _, .tup e r => let ⟨_, q⟩ := RdAll.reads r; ⟨_, .tuple e rfl rfl q⟩
theorem RdAll.reads {g : Heap} : ∀ {vs : List Value} {ds : List PyData}, RdAll g vs ds → ∃ as, ReadsAll g vs ds as
  | _, _, .nil => ⟨_, .nil⟩
  | _, _, .cons a b => let ⟨_, p⟩ := Rd.reads a; let ⟨_, q⟩ := RdAll.reads b; ⟨_, .cons p q⟩
end
theorem RdAll.length {g : Heap} : ∀ {vs : List Value} {ds : List PyData}, RdAll g vs ds → vs.length = ds.length
  | _, _, .nil => rfl
  | _, _, .cons _ b => by rw [List.length_cons, List.length_cons, b.length]
theorem RdAll.append {g : Heap} : ∀ {vs us : List Value} {ds es : List PyData}, RdAll g vs ds → RdAll g us es → RdAll g (vs ++ us) (ds ++ es)
  | _, _, _, _, .nil, h => h
  | _, _, _, _, .cons a b, h => .cons a (b.append h)
theorem RdAll.at {g : Heap} : ∀ {vs : List Value} {ds : List PyData}, RdAll g vs ds → ∀ {i : Nat} {v : Value}, vs[i]? = some v → ∃ d, ds[i]? = some d ∧ Rd g v d
  | _, _, .nil, i, v, e => by simp at e
  | _, _, .cons a b, 0, v, e => by simp at e; subst e; exact ⟨_, rfl, a⟩
  | _, _, .cons a b, i + 1, v, e => by simp at e; obtain ⟨d, h1, h2⟩ := b.at e; exact ⟨d, by simpa using h1, h2⟩
/-- what is known of the objects that stay as they are -/
inductive At where
  | rd (v : Value) (d : PyData)
  | ob (a : Addr) (o : Obj)
  | rds (vs : List Value) (ds : List PyData)
noncomputable def At.on (g : Heap) : At → Prop
  | .rd v d => Rd g v d
  | .ob a o => g.get? a = some o
  | .rds vs ds => RdAll g vs ds
theorem At.up {g g' : Heap} (k : g.StaysIn g') : ∀ {x : At}, x.on g → x.on g'
  | .rd _ _, r => r.up k
  | .ob _ _, e => k _ _ e
  | .rds _ _, r => r.up k

/-- a heap cut down to some of its addresses -/
noncomputable def only (h : Heap) (P : Addr → Bool) : Heap := ⟨h.objs.mapIdx (fun i o => if P i then o else ⟨.none, none, .freed, #[]⟩), h.life⟩
theorem only_get (h : Heap) (P : Addr → Bool) (a : Addr) : (only h P).get? a = if P a then h.get? a else none := by
  unfold only Heap.get?
  simp only [Array.getElem?_mapIdx]
  cases e : h.objs[a]? with
  | none => simp
  | some o => cases p : P a <;> simp

/-- what a call may do: the addresses in M may change, all else stays; g' is what is known to stay behind it -/
structure Ct (M : List Addr) (s : Shared) (g : Heap) (s' : Shared) (g' : Heap) : Prop where
  sh : ∃ h' tk, s' = { s with heap := h', toks := tk }
  kp : ∀ b o, b ∉ M → s.heap.get? b = some o → s'.heap.get? b = some o
  gg : g.StaysIn g'
  gs : g'.StaysIn s'.heap
  nw : ∀ a o, g'.get? a = some o → g.get? a = some o ∨ s.heap.objs.size ≤ a
  sz : s.heap.objs.size ≤ s'.heap.objs.size

/-- the frame at work: L its locals, m what they are; mu the objects that may change; ks what is known of those that stay -/
structure Cx (b g₀ : Heap) (L : Addr) (m : Str → Option Value) (mu : List (Addr × Obj)) (ks : List At) (g h : Heap) : Prop where
  ns : h.Ns L m
  bk : b.StaysIn h
  bL : b.objs.size ≤ L
  gk : g.StaysIn h
  gg : g₀.StaysIn g
  gn : ∀ a o, g.get? a = some o → g₀.get? a = some o ∨ L < a
  g0 : ∀ o, g₀.get? L ≠ some o
  mt : ∀ p ∈ mu, h.get? p.1 = some p.2 ∧ b.get? p.1 = none ∧ g.get? p.1 = none ∧ p.1 ≠ L
  nd : (mu.map (·.1)).Nodup
  kn : ∀ x ∈ ks, x.on g

section
variable {b g₀ g h h' : Heap} {L : Addr} {m m' : Str → Option Value} {mu : List (Addr × Obj)} {ks : List At}

theorem Cx.gL (C : Cx b g₀ L m mu ks g h) : g.get? L = none := by
  cases e : g.get? L with
  | none => rfl
  | some o =>
    rcases C.gn L o e with q | q
    · exact absurd q (C.g0 o)
    · exact absurd q (Nat.lt_irrefl _)
theorem Cx.bLn (C : Cx b g₀ L m mu ks g h) : b.get? L = none := by
  cases e : b.get? L with
  | none => rfl
  | some o => exact absurd (Heap.lt_size e) (Nat.not_lt.mpr C.bL)

/-- a store into the frame -/
theorem Cx.set (C : Cx b g₀ L m mu ks g h) (hn : h'.Ns L m') (hs : Heap.SameBut L h h') : Cx b g₀ L m' mu ks g h' where
  ns := hn
  bk := fun a o e => hs.extBut a o (fun q => by rw [q, C.bLn] at e; cases e) (C.bk a o e)
  bL := C.bL
  gk := fun a o e => hs.extBut a o (fun q => by rw [q, C.gL] at e; cases e) (C.gk a o e)
  gg := C.gg
  gn := C.gn
  g0 := C.g0
  mt := fun p hp => ⟨hs.extBut _ _ (C.mt p hp).2.2.2 (C.mt p hp).1, (C.mt p hp).2⟩
  nd := C.nd
  kn := C.kn

/-- nothing that stood has changed -/
theorem Cx.keep (C : Cx b g₀ L m mu ks g h) (k : h.StaysIn h') : Cx b g₀ L m mu ks g h' where
  ns := C.ns.keeps k
  bk := fun a o e => k a o (C.bk a o e)
  bL := C.bL
  gk := fun a o e => k a o (C.gk a o e)
  gg := C.gg
  gn := C.gn
  g0 := C.g0
  mt := fun p hp => ⟨k _ _ (C.mt p hp).1, (C.mt p hp).2⟩
  nd := C.nd
  kn := C.kn

theorem Cx.up0 (C : Cx b g₀ L m mu ks g h) : g₀.StaysIn h := fun a o e => C.gk a o (C.gg a o e)
theorem Cx.lt (C : Cx b g₀ L m mu ks g h) : L < h.objs.size := C.ns.lt
theorem Cx.none_of_ge {a : Addr} (C : Cx b g₀ L m mu ks g h) (ha : h.objs.size ≤ a) : b.get? a = none ∧ g.get? a = none ∧ a ≠ L := by
  refine ⟨?_, ?_, fun q => ?_⟩
  · cases e : b.get? a with
    | none => rfl
    | some o => exact absurd (Heap.lt_size (C.bk a o e)) (Nat.not_lt.mpr ha)
  · cases e : g.get? a with
    | none => rfl
    | some o => exact absurd (Heap.lt_size (C.gk a o e)) (Nat.not_lt.mpr ha)
  · subst q; exact absurd C.lt (Nat.not_lt.mpr ha)

theorem Cx.mu_lt (C : Cx b g₀ L m mu ks g h) {p : Addr × Obj} (hp : p ∈ mu) : p.1 < h.objs.size := Heap.lt_size (C.mt p hp).1

/-- a new object that may change -/
theorem Cx.addMu {a : Addr} {o : Obj} (C : Cx b g₀ L m mu ks g h) (k : h.StaysIn h') (ha : h.objs.size ≤ a) (e : h'.get? a = some o) : Cx b g₀ L m ((a, o) :: mu) ks g h' :=
  { C.keep k with
    mt := fun p hp => by
      rcases List.mem_cons.mp hp with rfl | hp
      · exact ⟨e, C.none_of_ge ha⟩
      · exact (C.keep k).mt p hp
    nd := by
      rw [List.map_cons, List.nodup_cons]
      refine ⟨fun q => ?_, C.nd⟩
      obtain ⟨p, hp, q⟩ := List.mem_map.mp q
      have := C.mu_lt hp
      rw [q] at this
      exact absurd this (Nat.not_lt.mpr ha) }

/-- g with one more address of h -/
noncomputable def more (g h : Heap) (a : Addr) : Heap := only h fun i => (g.get? i).isSome || i == a
theorem more_le {a : Addr} (k : g.StaysIn h) : g.StaysIn (more g h a) := fun i o e => by
  rw [more, only_get, e]; simp [k i o e]
theorem more_self {a : Addr} : (more g h a).get? a = h.get? a := by rw [more, only_get]; simp
theorem more_in {a : Addr} : (more g h a).StaysIn h := fun i o e => by
  rw [more, only_get] at e; split at e
  · exact e
  · cases e
theorem more_new {a i : Addr} {o : Obj} (k : g.StaysIn h) (e : (more g h a).get? i = some o) : g.get? i = some o ∨ i = a := by
  rw [more, only_get] at e
  split at e
  · rename_i q
    rcases Bool.or_eq_true_iff.mp q with q | q
    · obtain ⟨o', ho'⟩ := Option.isSome_iff_exists.mp q
      have := k _ _ ho'
      rw [e] at this; cases this
      exact .inl ho'
    · exact .inr (beq_iff_eq.mp q)
  · cases e

/-- an address of h that is no changing one becomes known to stay -/
theorem Cx.know {a : Addr} {o : Obj} (C : Cx b g₀ L m mu ks g h) (e : h.get? a = some o) (hL : L < a) (hm : ∀ p ∈ mu, p.1 ≠ a) :
    Cx b g₀ L m mu (.ob a o :: ks) (more g h a) h ∧ g.StaysIn (more g h a) :=
  ⟨{ C with
    gk := more_in
    gg := fun i o e => more_le C.gk i o (C.gg i o e)
    gn := fun i o q => by
      rcases more_new C.gk q with q | q
      · exact C.gn i o q
      · exact .inr (q ▸ hL)
    mt := fun p hp => by
      refine ⟨(C.mt p hp).1, (C.mt p hp).2.1, ?_, (C.mt p hp).2.2.2⟩
      cases q : (more g h a).get? p.1 with
      | none => rfl
      | some o' =>
        rcases more_new C.gk q with q | q
        · rw [(C.mt p hp).2.2.1] at q; cases q
        · exact absurd q (hm p hp)
    kn := fun x hx => by
      rcases List.mem_cons.mp hx with rfl | hx
      · exact more_self.trans e
      · exact At.up (more_le C.gk) (C.kn x hx) }, more_le C.gk⟩

/-- one more thing known -/
theorem Cx.add {x : At} (C : Cx b g₀ L m mu ks g h) (k : x.on g) : Cx b g₀ L m mu (x :: ks) g h :=
  { C with kn := fun y hy => (List.mem_cons.mp hy).elim (fun e => e ▸ k) (C.kn y) }
theorem Cx.less {ks' : List At} (C : Cx b g₀ L m mu ks g h) (k : ∀ x ∈ ks', x ∈ ks) : Cx b g₀ L m mu ks' g h := { C with kn := fun y hy => C.kn y (k y hy) }
theorem Cx.drop {mu' : List (Addr × Obj)} (C : Cx b g₀ L m mu ks g h) (k : mu'.Sublist mu) : Cx b g₀ L m mu' ks g h :=
  { C with mt := fun p hp => C.mt p (k.subset hp), nd := (k.map _).nodup C.nd }

/-- one object of the ledger turned -/
inductive Up (a : Addr) (o o' : Obj) : List (Addr × Obj) → List (Addr × Obj) → Prop
  | head {r} : Up a o o' ((a, o) :: r) ((a, o') :: r)
  | tail {p r r'} : Up a o o' r r' → Up a o o' (p :: r) (p :: r')
theorem Up.mem {a : Addr} {o o' : Obj} {l l' : List (Addr × Obj)} (u : Up a o o' l l') : (a, o) ∈ l := by
  induction u with
  | head => exact .head _
  | tail _ ih => exact .tail _ ih
theorem Up.keys {a : Addr} {o o' : Obj} {l l' : List (Addr × Obj)} (u : Up a o o' l l') : l'.map (·.1) = l.map (·.1) := by
  induction u with
  | head => rfl
  | tail _ ih => rw [List.map_cons, List.map_cons, ih]
theorem Up.back {a : Addr} {o o' : Obj} {l l' : List (Addr × Obj)} (u : Up a o o' l l') (nd : (l.map (·.1)).Nodup) : ∀ p ∈ l', p = (a, o') ∨ (p ∈ l ∧ p.1 ≠ a) := by
  induction u with
  | @head r =>
    intro p hp
    rcases List.mem_cons.mp hp with rfl | hp
    · exact .inl rfl
    · refine .inr ⟨.tail _ hp, fun q => ?_⟩
      rw [List.map_cons, List.nodup_cons] at nd
      exact nd.1 (List.mem_map.mpr ⟨p, hp, q⟩)
  | @tail q r r' u ih =>
    intro p hp
    rw [List.map_cons, List.nodup_cons] at nd
    rcases List.mem_cons.mp hp with rfl | hp
    · refine .inr ⟨.head _, fun e => nd.1 ?_⟩
      rw [e]; exact List.mem_map.mpr ⟨_, u.mem, rfl⟩
    · rcases ih nd.2 p hp with e | ⟨e1, e2⟩
      · exact .inl e
      · exact .inr ⟨.tail _ e1, e2⟩
theorem Cx.upd {a : Addr} {o o' : Obj} {mu' : List (Addr × Obj)} (C : Cx b g₀ L m mu ks g h) (u : Up a o o' mu mu') (hs : Heap.SameBut a h h') (e : h'.get? a = some o') : Cx b g₀ L m mu' ks g h' := by
  have hm := C.mt _ u.mem
  exact
  { ns := C.ns.sameBut hs (Ne.symm hm.2.2.2)
    bk := fun i oi q => hs.extBut i oi (fun z => by rw [z, hm.2.1] at q; cases q) (C.bk i oi q)
    bL := C.bL
    gk := fun i oi q => hs.extBut i oi (fun z => by rw [z, hm.2.2.1] at q; cases q) (C.gk i oi q)
    gg := C.gg
    gn := C.gn
    g0 := C.g0
    mt := fun p hp => by
      rcases u.back C.nd p hp with rfl | ⟨q1, q2⟩
      · exact ⟨e, hm.2⟩
      · exact ⟨hs.extBut _ _ q2 (C.mt p q1).1, (C.mt p q1).2⟩
    nd := by rw [u.keys]; exact C.nd
    kn := C.kn }
theorem Cx.at (C : Cx b g₀ L m mu ks g h) {a : Addr} {o : Obj} (hm : (a, o) ∈ mu) : h.get? a = some o := (C.mt _ hm).1
theorem Cx.ob (C : Cx b g₀ L m mu ks g h) {a : Addr} {o : Obj} (hm : At.ob a o ∈ ks) : g.get? a = some o := C.kn _ hm
theorem Cx.rd (C : Cx b g₀ L m mu ks g h) {v : Value} {d : PyData} (hm : At.rd v d ∈ ks) : Rd g v d := C.kn _ hm
theorem Cx.rds (C : Cx b g₀ L m mu ks g h) {vs : List Value} {ds : List PyData} (hm : At.rds vs ds ∈ ks) : RdAll g vs ds := C.kn _ hm

/-- a changing object that changes no more -/
theorem Cx.freeze {a : Addr} {o : Obj} (C : Cx b g₀ L m ((a, o) :: mu) ks g h) (hL : L < a) : Cx b g₀ L m mu (.ob a o :: ks) (more g h a) h ∧ g.StaysIn (more g h a) := by
  have D := C.drop (List.sublist_cons_self _ _)
  refine D.know (C.mt _ (.head _)).1 hL fun p hp q => ?_
  have := C.nd
  rw [List.map_cons, List.nodup_cons] at this
  exact this.1 (q ▸ List.mem_map.mpr ⟨p, hp, rfl⟩)

theorem Cx.frz {a : Addr} {o : Obj} (C : Cx b g₀ L m ((a, o) :: mu) ks g h) (hL : L < a) : ∃ g', g.StaysIn g' ∧ g'.get? a = some o ∧ Cx b g₀ L m mu ks g' h := by
  obtain ⟨D, le⟩ := C.freeze hL
  exact ⟨_, le, D.ob (.head _), D.less fun x hx => .tail _ hx⟩

/-- behind a call -/
theorem Cx.after {M : List Addr} {s s' : Shared} {g' : Heap} {mu' : List (Addr × Obj)} (C : Cx b g₀ L m mu ks g s.heap) (c : Ct M s g s' g') (hM : ∀ a ∈ M, a ∈ mu.map (·.1))
    (hk : mu'.map (·.1) = mu.map (·.1)) (hv : ∀ p ∈ mu', p.1 ∈ M → s'.heap.get? p.1 = some p.2) (hr : ∀ p ∈ mu', p.1 ∉ M → p ∈ mu) : Cx b g₀ L m mu' ks g' s'.heap := by
  have nM : ∀ a, (∀ p ∈ mu, p.1 ≠ a) → a ∉ M := fun a q z => by
    obtain ⟨p, hp, e⟩ := List.mem_map.mp (hM a z)
    exact q p hp e
  exact
  { ns := C.ns.at' fun o e => c.kp _ _ (nM L fun p hp => (C.mt p hp).2.2.2) e
    bk := fun i o e => c.kp _ _ (nM i fun p hp q => by have := (C.mt p hp).2.1; rw [q, e] at this; cases this) (C.bk i o e)
    bL := C.bL
    gk := c.gs
    gg := fun i o e => c.gg i o (C.gg i o e)
    gn := fun i o e => by
      rcases c.nw i o e with q | q
      · exact C.gn i o q
      · exact .inr (Nat.lt_of_lt_of_le C.lt q)
    g0 := C.g0
    mt := fun p hp => by
      have hp' : p.1 ∈ mu.map (·.1) := hk ▸ List.mem_map.mpr ⟨p, hp, rfl⟩
      obtain ⟨q, hq, e⟩ := List.mem_map.mp hp'
      have z := C.mt q hq
      rw [e] at z
      refine ⟨?_, z.2.1, ?_, z.2.2.2⟩
      · by_cases hpM : p.1 ∈ M
        · exact hv p hp hpM
        · exact c.kp _ _ hpM (C.mt p (hr p hp hpM)).1
      · cases w : g'.get? p.1 with
        | none => rfl
        | some o =>
          rcases c.nw _ _ w with y | y
          · rw [z.2.2.1] at y; cases y
          · exact absurd (Heap.lt_size z.1) (Nat.not_lt.mpr y)
    nd := hk ▸ C.nd
    kn := fun x hx => At.up c.gg (C.kn x hx) }
/-- behind a call that changes nothing -/
theorem Cx.after0 {s s' : Shared} {g' : Heap} (C : Cx b g₀ L m mu ks g s.heap) (c : Ct [] s g s' g') : Cx b g₀ L m mu ks g' s'.heap :=
  C.after c (fun _ h => nomatch h) rfl (fun _ _ h => nomatch h) (fun _ h _ => h)

/-- what a frame's end says to the caller -/
theorem Cx.done {M : List Addr} {s s' : Shared} (C : Cx (hideAll s.heap M) g₀ L m mu ks g s'.heap) (hL : s.heap.objs.size ≤ L) (hs : ∃ h' tk, s' = { s with heap := h', toks := tk }) : Ct M s g₀ s' g where
  sh := hs
  kp := fun a o ha e => C.bk a o (hideAll_get M e ha)
  gg := C.gg
  gs := C.gk
  nw := fun a o e => (C.gn a o e).imp id fun q => Nat.le_of_lt (Nat.lt_of_le_of_lt hL q)
  sz := Nat.le_of_lt (Nat.lt_of_le_of_lt hL C.lt)
end
set_option maxHeartbeats 200000
noncomputable abbrev P0 : Program := PySem.Challenge.pw_nb0231_01
noncomputable def top (i : Nat) : Stmt := P0.main.body.getD i (.Pass ⟨0, 0, 0, 0⟩)
noncomputable def mem (i j : Nat) : Stmt := match top i with | .ClassDef _ _ _ b .. => b.getD j (.Pass ⟨0, 0, 0, 0⟩) | s => s
noncomputable def fobj (s : Stmt) (qual : Str) (dV kV pm : Value) (cd : Addr) : Obj := match s with
  | .FunctionDef n a b _ _ _ sc _ _ _ => { cls := .type "function", data := .func { name := n, qualname := qual, params := a, body := .stmts b, scope := sc, globals := 3, closure := [], defaults := dV, kwdefaults := kV, pyModule := pm, code := .ref cd, builtins := 0 } }
  | _ => default
noncomputable def en (P : Params) (x : Str) (t : Tok) (v : Value) : DictEntry := ⟨PyData.keyHash P x, .str x t, v⟩
noncomputable def o3 (P : Params) : Obj := { cls := (.type "dict"), data := .dict (List.toArray [en P (Str.ofString "__name__") 165 (.str (Str.ofString "law_nb0231_01") 609), en P (Str.ofString "__doc__") 166 .none, en P (Str.ofString "__package__") 167 .none, en P (Str.ofString "__loader__") 168 (.builtin "__main__.__loader__#opaque"), en P (Str.ofString "__spec__") 169 .none, en P (Str.ofString "__annotations__") 170 (.ref 6), en P (Str.ofString "__builtins__") 171 (.ref 4), en P (Str.ofString "__file__") 173 (.str (Str.ofString "/claim/cut.py") 172), en P (Str.ofString "__cached__") 174 .none, en P (Str.ofString "_sre") 275 (.ref 12), en P (Str.ofString "_wall") 288 (.ref 38), en P (Str.ofString "read_uint1") 298 (.ref 45), en P (Str.ofString "read_string1") 307 (.ref 52), en P (Str.ofString "read_unicodestring1") 316 (.ref 59), en P (Str.ofString "_Example") 345 (.ref 76), en P (Str.ofString "tspecials") 381 (.ref 85), en P (Str.ofString "_name_disallowed_re") 407 (.ref 90), en P (Str.ofString "_value_disallowed_re") 441 (.ref 95), en P (Str.ofString "_formatparam") 451 (.ref 103), en P (Str.ofString "Headers") 608 (.ref 224), en P (Str.ofString "_law_take") 619 (.ref 235), en P (Str.ofString "_law_stream") 627 (.ref 242), en P (Str.ofString "_law_utf") 637 (.ref 249), en P (Str.ofString "_law_item") 644 (.ref 256), en P (Str.ofString "_law_low") 650 (.ref 261), en P (Str.ofString "_law_shown") 656 (.ref 266), en P (Str.ofString "_law_read") 662 (.ref 271), en P (Str.ofString "_law_table") 668 (.ref 276), en P (Str.ofString "_law_made") 677 (.ref 283), en P (Str.ofString "_law_sent") 684 (.ref 290), en P (Str.ofString "_law_goes") 690 (.ref 295), en P (Str.ofString "_law_key") 696 (.ref 300), en P (Str.ofString "_law_tells") 702 (.ref 305), en P (Str.ofString "_law_run") 708 (.ref 310), en P (Str.ofString "_law_drawn") 720 (.ref 317), en P (Str.ofString "law") 737 (.ref 324)]) 36 }
noncomputable def o38 : Obj := fobj (top 1) (Str.ofString "_wall") .none .none (.str (Str.ofString "__main__") 164) 37
noncomputable def o37 : Obj := { cls := .type "code", data := .fields #[(.str (Str.ofString "_wall") 282), (.str (Str.ofString "_wall") 283), (.str (Str.ofString "/claim/cut.py") 284), (.int (2) 0), (.int (1) 0), (.int (0) 0), (.int (0) 0), (.int (3) 0), (.ref 32), (.bool true), (.int (276) 0), (.ref 33), .none, (.ref 34), (.ref 35), (.ref 36), (.int (286) 0), (.int (2) 0), (.str (Str.ofString "/claim/cut.py") 287)] }
noncomputable def o45 : Obj := fobj (top 3) (Str.ofString "read_uint1") .none .none (.str (Str.ofString "cpy313.pickletools") 289) 44
noncomputable def o44 : Obj := { cls := .type "code", data := .fields #[(.str (Str.ofString "read_uint1") 291), (.str (Str.ofString "read_uint1") 292), (.str (Str.ofString "/claim/cut.py") 293), (.int (6) 0), (.int (1) 0), (.int (0) 0), (.int (0) 0), (.int (3) 0), (.ref 39), (.bool true), (.int (276) 0), (.ref 40), .none, (.ref 41), (.ref 42), (.ref 43), (.int (296) 0), (.int (6) 0), (.str (Str.ofString "/claim/cut.py") 297)] }
noncomputable def o52 : Obj := fobj (top 4) (Str.ofString "read_string1") .none .none (.str (Str.ofString "cpy313.pickletools") 289) 51
noncomputable def o51 : Obj := { cls := .type "code", data := .fields #[(.str (Str.ofString "read_string1") 299), (.str (Str.ofString "read_string1") 300), (.str (Str.ofString "/claim/cut.py") 301), (.int (11) 0), (.int (1) 0), (.int (0) 0), (.int (0) 0), (.int (3) 0), (.ref 46), (.bool true), (.int (276) 0), (.ref 47), .none, (.ref 48), (.ref 49), (.ref 50), (.int (305) 0), (.int (11) 0), (.str (Str.ofString "/claim/cut.py") 306)] }
noncomputable def o59 : Obj := fobj (top 5) (Str.ofString "read_unicodestring1") .none .none (.str (Str.ofString "cpy313.pickletools") 289) 58
noncomputable def o58 : Obj := { cls := .type "code", data := .fields #[(.str (Str.ofString "read_unicodestring1") 308), (.str (Str.ofString "read_unicodestring1") 309), (.str (Str.ofString "/claim/cut.py") 310), (.int (18) 0), (.int (1) 0), (.int (0) 0), (.int (0) 0), (.int (3) 0), (.ref 53), (.bool true), (.int (276) 0), (.ref 54), .none, (.ref 55), (.ref 56), (.ref 57), (.int (314) 0), (.int (18) 0), (.str (Str.ofString "/claim/cut.py") 315)] }
noncomputable def o73 : Obj := fobj (mem 6 0) (Str.ofString "_Example.__init__") .none .none (.str (Str.ofString "cpy313.pickletools") 289) 72
noncomputable def o72 : Obj := { cls := .type "code", data := .fields #[(.str (Str.ofString "__init__") 329), (.str (Str.ofString "_Example.__init__") 330), (.str (Str.ofString "/claim/cut.py") 331), (.int (27) 0), (.int (2) 0), (.int (0) 0), (.int (0) 0), (.int (3) 0), (.ref 67), (.bool true), (.int (276) 0), (.ref 68), .none, (.ref 69), (.ref 70), (.ref 71), (.int (334) 0), (.int (27) 0), (.str (Str.ofString "/claim/cut.py") 335)] }
noncomputable def o75 (P : Params) : Obj := { cls := (.type "dict"), data := .dict (List.toArray [en P (Str.ofString "__module__") 324 (.str (Str.ofString "cpy313.pickletools") 289), en P (Str.ofString "__firstlineno__") 328 (.int (25) 327), en P (Str.ofString "__init__") 336 (.ref 73), en P (Str.ofString "__static_attributes__") 338 (.ref 74), en P (Str.ofString "__dict__") 340 (.ref 77), en P (Str.ofString "__weakref__") 342 (.ref 78), en P (Str.ofString "__doc__") 343 .none]) 4 }
noncomputable def o76 : Obj := { cls := (.type "type"), data := .cls { name := (Str.ofString "_Example"), bases := [(.type "object")], mro := [(.ref 76), (.type "object")], ns := 75, qualname := (Str.ofString "_Example"), hasDict := true }, slots := #[none, none, (some (.str (Str.ofString "_Example") 317)), (some (.str (Str.ofString "_Example") 325)), (some (.builtin "object.__new__")), (some (.bool true))] }
noncomputable def o84 : Obj := { cls := (.type "tuple"), data := .seq #[(.int (14) 0), (.int (14) 0), (.int (4) 0), (.int (1) 0), (.int (1) 0), (.int (9) 0), (.int (0) 0), (.int (4227896069) 0), (.int (939524097) 0), (.int (0) 0), (.int (0) 0), (.int (0) 0), (.int (0) 0), (.int (0) 0), (.int (0) 0), (.int (13) 0), (.int (11) 0), (.int (9) 0), (.int (0) 0), (.int (4227896069) 0), (.int (939524097) 0), (.int (0) 0), (.int (0) 0), (.int (0) 0), (.int (0) 0), (.int (0) 0), (.int (0) 0), (.int (1) 0)] 0 }
noncomputable def o85 : Obj := { cls := (.type "re.Pattern"), data := .fields #[(.str (Str.ofString "[ \\(\\)<>@,;:\\\\\"/\\[\\]\\?=]") 349), (.int (32) 380), (.int (0) 0), .none, .none, (.ref 84), (.int (0) 0)] }
noncomputable def o89 : Obj := { cls := (.type "tuple"), data := .seq #[(.int (14) 0), (.int (10) 0), (.int (4) 0), (.int (1) 0), (.int (1) 0), (.int (22) 0), (.int (0) 0), (.int (31) 0), (.int (16) 0), (.int (127) 0), (.int (0) 0), (.int (13) 0), (.int (7) 0), (.int (22) 0), (.int (0) 0), (.int (31) 0), (.int (16) 0), (.int (127) 0), (.int (0) 0), (.int (1) 0)] 0 }
noncomputable def o90 : Obj := { cls := (.type "re.Pattern"), data := .fields #[(.str (Str.ofString "[\\x00-\\x1F\\x7F]") 383), (.int (32) 406), (.int (0) 0), .none, .none, (.ref 89), (.int (0) 0)] }
noncomputable def o94 : Obj := { cls := (.type "tuple"), data := .seq #[(.int (14) 0), (.int (14) 0), (.int (4) 0), (.int (1) 0), (.int (1) 0), (.int (9) 0), (.int (4294966783) 0), (.int (0) 0), (.int (0) 0), (.int (2147483648) 0), (.int (0) 0), (.int (0) 0), (.int (0) 0), (.int (0) 0), (.int (0) 0), (.int (13) 0), (.int (11) 0), (.int (9) 0), (.int (4294966783) 0), (.int (0) 0), (.int (0) 0), (.int (2147483648) 0), (.int (0) 0), (.int (0) 0), (.int (0) 0), (.int (0) 0), (.int (0) 0), (.int (1) 0)] 0 }
noncomputable def o95 : Obj := { cls := (.type "re.Pattern"), data := .fields #[(.str (Str.ofString "[\\x00-\\x08\\x0A-\\x1F\\x7F]") 409), (.int (32) 440), (.int (0) 0), .none, .none, (.ref 94), (.int (0) 0)] }
noncomputable def o96 : Obj := { cls := (.type "tuple"), data := .seq #[.none, (.int (1) 442)] 0 }
noncomputable def o103 : Obj := fobj (top 11) (Str.ofString "_formatparam") (.ref 96) .none (.str (Str.ofString "cpy313.wsgiref.headers") 346) 102
noncomputable def o102 : Obj := { cls := .type "code", data := .fields #[(.str (Str.ofString "_formatparam") 443), (.str (Str.ofString "_formatparam") 444), (.str (Str.ofString "/claim/cut.py") 445), (.int (33) 0), (.int (3) 0), (.int (0) 0), (.int (0) 0), (.int (3) 0), (.ref 97), (.bool true), (.int (276) 0), (.ref 98), .none, (.ref 99), (.ref 100), (.ref 101), (.int (449) 0), (.int (33) 0), (.str (Str.ofString "/claim/cut.py") 450)] }
noncomputable def o111 : Obj := { cls := (.type "tuple"), data := .seq #[.none] 0 }
noncomputable def o118 : Obj := fobj (mem 12 0) (Str.ofString "Headers.__init__") (.ref 111) .none (.str (Str.ofString "cpy313.wsgiref.headers") 346) 117
noncomputable def o117 : Obj := { cls := .type "code", data := .fields #[(.str (Str.ofString "__init__") 464), (.str (Str.ofString "Headers.__init__") 465), (.str (Str.ofString "/claim/cut.py") 466), (.int (44) 0), (.int (2) 0), (.int (0) 0), (.int (0) 0), (.int (3) 0), (.ref 112), (.bool true), (.int (276) 0), (.ref 113), .none, (.ref 114), (.ref 115), (.ref 116), (.int (471) 0), (.int (44) 0), (.str (Str.ofString "/claim/cut.py") 472)] }
noncomputable def o125 : Obj := fobj (mem 12 1) (Str.ofString "Headers._convert_string_type") .none .none (.str (Str.ofString "cpy313.wsgiref.headers") 346) 124
noncomputable def o124 : Obj := { cls := .type "code", data := .fields #[(.str (Str.ofString "_convert_string_type") 474), (.str (Str.ofString "Headers._convert_string_type") 475), (.str (Str.ofString "/claim/cut.py") 476), (.int (54) 0), (.int (2) 0), (.int (0) 0), (.int (1) 0), (.int (3) 0), (.ref 119), (.bool true), (.int (276) 0), (.ref 120), .none, (.ref 121), (.ref 122), (.ref 123), (.int (481) 0), (.int (54) 0), (.str (Str.ofString "/claim/cut.py") 482)] }
noncomputable def o132 : Obj := fobj (mem 12 2) (Str.ofString "Headers.__len__") .none .none (.str (Str.ofString "cpy313.wsgiref.headers") 346) 131
noncomputable def o131 : Obj := { cls := .type "code", data := .fields #[(.str (Str.ofString "__len__") 484), (.str (Str.ofString "Headers.__len__") 485), (.str (Str.ofString "/claim/cut.py") 486), (.int (62) 0), (.int (1) 0), (.int (0) 0), (.int (0) 0), (.int (3) 0), (.ref 126), (.bool true), (.int (276) 0), (.ref 127), .none, (.ref 128), (.ref 129), (.ref 130), (.int (488) 0), (.int (62) 0), (.str (Str.ofString "/claim/cut.py") 489)] }
noncomputable def o139 : Obj := fobj (mem 12 3) (Str.ofString "Headers.__setitem__") .none .none (.str (Str.ofString "cpy313.wsgiref.headers") 346) 138
noncomputable def o138 : Obj := { cls := .type "code", data := .fields #[(.str (Str.ofString "__setitem__") 491), (.str (Str.ofString "Headers.__setitem__") 492), (.str (Str.ofString "/claim/cut.py") 493), (.int (65) 0), (.int (3) 0), (.int (0) 0), (.int (0) 0), (.int (3) 0), (.ref 133), (.bool true), (.int (276) 0), (.ref 134), .none, (.ref 135), (.ref 136), (.ref 137), (.int (497) 0), (.int (65) 0), (.str (Str.ofString "/claim/cut.py") 498)] }
noncomputable def o144 : Obj := fobj (mem 12 4) (Str.ofString "Headers.__delitem__") .none .none (.str (Str.ofString "cpy313.wsgiref.headers") 346) 143
noncomputable def o143 : Obj := { cls := .type "code", data := .fields #[(.str (Str.ofString "__delitem__") 500), (.str (Str.ofString "Headers.__delitem__") 501), (.str (Str.ofString "/claim/cut.py") 502), (.int (69) 0), (.int (2) 0), (.int (0) 0), (.int (0) 0), (.int (3) 0), (.ref 140), (.bool true), (.int (276) 0), (.ref 141), .none, .none, .none, (.ref 142), (.int (503) 0), (.int (69) 0), (.str (Str.ofString "/claim/cut.py") 504)] }
noncomputable def o151 : Obj := fobj (mem 12 5) (Str.ofString "Headers.__getitem__") .none .none (.str (Str.ofString "cpy313.wsgiref.headers") 346) 150
noncomputable def o150 : Obj := { cls := .type "code", data := .fields #[(.str (Str.ofString "__getitem__") 506), (.str (Str.ofString "Headers.__getitem__") 507), (.str (Str.ofString "/claim/cut.py") 508), (.int (73) 0), (.int (2) 0), (.int (0) 0), (.int (0) 0), (.int (3) 0), (.ref 145), (.bool true), (.int (276) 0), (.ref 146), .none, (.ref 147), (.ref 148), (.ref 149), (.int (511) 0), (.int (73) 0), (.str (Str.ofString "/claim/cut.py") 512)] }
noncomputable def o158 : Obj := fobj (mem 12 6) (Str.ofString "Headers.__contains__") .none .none (.str (Str.ofString "cpy313.wsgiref.headers") 346) 157
noncomputable def o157 : Obj := { cls := .type "code", data := .fields #[(.str (Str.ofString "__contains__") 514), (.str (Str.ofString "Headers.__contains__") 515), (.str (Str.ofString "/claim/cut.py") 516), (.int (76) 0), (.int (2) 0), (.int (0) 0), (.int (0) 0), (.int (3) 0), (.ref 152), (.bool true), (.int (276) 0), (.ref 153), .none, (.ref 154), (.ref 155), (.ref 156), (.int (519) 0), (.int (76) 0), (.str (Str.ofString "/claim/cut.py") 520)] }
noncomputable def o163 : Obj := fobj (mem 12 7) (Str.ofString "Headers.get_all") .none .none (.str (Str.ofString "cpy313.wsgiref.headers") 346) 162
noncomputable def o162 : Obj := { cls := .type "code", data := .fields #[(.str (Str.ofString "get_all") 522), (.str (Str.ofString "Headers.get_all") 523), (.str (Str.ofString "/claim/cut.py") 524), (.int (79) 0), (.int (2) 0), (.int (0) 0), (.int (0) 0), (.int (3) 0), (.ref 159), (.bool true), (.int (276) 0), (.ref 160), .none, .none, .none, (.ref 161), (.int (525) 0), (.int (79) 0), (.str (Str.ofString "/claim/cut.py") 526)] }
noncomputable def o171 : Obj := fobj (mem 12 8) (Str.ofString "Headers.get") (.ref 164) .none (.str (Str.ofString "cpy313.wsgiref.headers") 346) 170
noncomputable def o170 : Obj := { cls := .type "code", data := .fields #[(.str (Str.ofString "get") 528), (.str (Str.ofString "Headers.get") 529), (.str (Str.ofString "/claim/cut.py") 530), (.int (83) 0), (.int (3) 0), (.int (0) 0), (.int (0) 0), (.int (3) 0), (.ref 165), (.bool true), (.int (276) 0), (.ref 166), .none, (.ref 167), (.ref 168), (.ref 169), (.int (536) 0), (.int (83) 0), (.str (Str.ofString "/claim/cut.py") 537)] }
noncomputable def o176 : Obj := fobj (mem 12 9) (Str.ofString "Headers.keys") .none .none (.str (Str.ofString "cpy313.wsgiref.headers") 346) 175
noncomputable def o175 : Obj := { cls := .type "code", data := .fields #[(.str (Str.ofString "keys") 539), (.str (Str.ofString "Headers.keys") 540), (.str (Str.ofString "/claim/cut.py") 541), (.int (90) 0), (.int (1) 0), (.int (0) 0), (.int (0) 0), (.int (3) 0), (.ref 172), (.bool true), (.int (276) 0), (.ref 173), .none, .none, .none, (.ref 174), (.int (542) 0), (.int (90) 0), (.str (Str.ofString "/claim/cut.py") 543)] }
noncomputable def o181 : Obj := fobj (mem 12 10) (Str.ofString "Headers.values") .none .none (.str (Str.ofString "cpy313.wsgiref.headers") 346) 180
noncomputable def o180 : Obj := { cls := .type "code", data := .fields #[(.str (Str.ofString "values") 545), (.str (Str.ofString "Headers.values") 546), (.str (Str.ofString "/claim/cut.py") 547), (.int (93) 0), (.int (1) 0), (.int (0) 0), (.int (0) 0), (.int (3) 0), (.ref 177), (.bool true), (.int (276) 0), (.ref 178), .none, .none, .none, (.ref 179), (.int (548) 0), (.int (93) 0), (.str (Str.ofString "/claim/cut.py") 549)] }
noncomputable def o188 : Obj := fobj (mem 12 11) (Str.ofString "Headers.items") .none .none (.str (Str.ofString "cpy313.wsgiref.headers") 346) 187
noncomputable def o187 : Obj := { cls := .type "code", data := .fields #[(.str (Str.ofString "items") 551), (.str (Str.ofString "Headers.items") 552), (.str (Str.ofString "/claim/cut.py") 553), (.int (96) 0), (.int (1) 0), (.int (0) 0), (.int (0) 0), (.int (3) 0), (.ref 182), (.bool true), (.int (276) 0), (.ref 183), .none, (.ref 184), (.ref 185), (.ref 186), (.int (555) 0), (.int (96) 0), (.str (Str.ofString "/claim/cut.py") 556)] }
noncomputable def o195 : Obj := fobj (mem 12 12) (Str.ofString "Headers.__repr__") .none .none (.str (Str.ofString "cpy313.wsgiref.headers") 346) 194
noncomputable def o194 : Obj := { cls := .type "code", data := .fields #[(.str (Str.ofString "__repr__") 558), (.str (Str.ofString "Headers.__repr__") 559), (.str (Str.ofString "/claim/cut.py") 560), (.int (99) 0), (.int (1) 0), (.int (0) 0), (.int (0) 0), (.int (3) 0), (.ref 189), (.bool true), (.int (276) 0), (.ref 190), .none, (.ref 191), (.ref 192), (.ref 193), (.int (562) 0), (.int (99) 0), (.str (Str.ofString "/claim/cut.py") 563)] }
noncomputable def o200 : Obj := fobj (mem 12 13) (Str.ofString "Headers.__str__") .none .none (.str (Str.ofString "cpy313.wsgiref.headers") 346) 199
noncomputable def o199 : Obj := { cls := .type "code", data := .fields #[(.str (Str.ofString "__str__") 565), (.str (Str.ofString "Headers.__str__") 566), (.str (Str.ofString "/claim/cut.py") 567), (.int (102) 0), (.int (1) 0), (.int (0) 0), (.int (0) 0), (.int (3) 0), (.ref 196), (.bool true), (.int (276) 0), (.ref 197), .none, .none, .none, (.ref 198), (.int (568) 0), (.int (102) 0), (.str (Str.ofString "/claim/cut.py") 569)] }
noncomputable def o207 : Obj := fobj (mem 12 14) (Str.ofString "Headers.__bytes__") .none .none (.str (Str.ofString "cpy313.wsgiref.headers") 346) 206
noncomputable def o206 : Obj := { cls := .type "code", data := .fields #[(.str (Str.ofString "__bytes__") 571), (.str (Str.ofString "Headers.__bytes__") 572), (.str (Str.ofString "/claim/cut.py") 573), (.int (105) 0), (.int (1) 0), (.int (0) 0), (.int (0) 0), (.int (3) 0), (.ref 201), (.bool true), (.int (276) 0), (.ref 202), .none, (.ref 203), (.ref 204), (.ref 205), (.int (575) 0), (.int (105) 0), (.str (Str.ofString "/claim/cut.py") 576)] }
noncomputable def o214 : Obj := fobj (mem 12 15) (Str.ofString "Headers.setdefault") .none .none (.str (Str.ofString "cpy313.wsgiref.headers") 346) 213
noncomputable def o213 : Obj := { cls := .type "code", data := .fields #[(.str (Str.ofString "setdefault") 578), (.str (Str.ofString "Headers.setdefault") 579), (.str (Str.ofString "/claim/cut.py") 580), (.int (108) 0), (.int (3) 0), (.int (0) 0), (.int (0) 0), (.int (3) 0), (.ref 208), (.bool true), (.int (276) 0), (.ref 209), .none, (.ref 210), (.ref 211), (.ref 212), (.int (584) 0), (.int (108) 0), (.str (Str.ofString "/claim/cut.py") 585)] }
noncomputable def o221 : Obj := fobj (mem 12 16) (Str.ofString "Headers.add_header") .none .none (.str (Str.ofString "cpy313.wsgiref.headers") 346) 220
noncomputable def o220 : Obj := { cls := .type "code", data := .fields #[(.str (Str.ofString "add_header") 587), (.str (Str.ofString "Headers.add_header") 588), (.str (Str.ofString "/claim/cut.py") 589), (.int (111) 0), (.int (3) 0), (.int (0) 0), (.int (0) 0), (.int (11) 0), (.ref 215), (.bool true), (.int (276) 0), (.ref 216), .none, (.ref 217), (.ref 218), (.ref 219), (.int (597) 0), (.int (111) 0), (.str (Str.ofString "/claim/cut.py") 598)] }
noncomputable def o223 (P : Params) : Obj := { cls := (.type "dict"), data := .dict (List.toArray [en P (Str.ofString "__module__") 459 (.str (Str.ofString "cpy313.wsgiref.headers") 346), en P (Str.ofString "__firstlineno__") 463 (.int (42) 462), en P (Str.ofString "__init__") 473 (.ref 118), en P (Str.ofString "_convert_string_type") 483 (.ref 125), en P (Str.ofString "__len__") 490 (.ref 132), en P (Str.ofString "__setitem__") 499 (.ref 139), en P (Str.ofString "__delitem__") 505 (.ref 144), en P (Str.ofString "__getitem__") 513 (.ref 151), en P (Str.ofString "__contains__") 521 (.ref 158), en P (Str.ofString "get_all") 527 (.ref 163), en P (Str.ofString "get") 538 (.ref 171), en P (Str.ofString "keys") 544 (.ref 176), en P (Str.ofString "values") 550 (.ref 181), en P (Str.ofString "items") 557 (.ref 188), en P (Str.ofString "__repr__") 564 (.ref 195), en P (Str.ofString "__str__") 570 (.ref 200), en P (Str.ofString "__bytes__") 577 (.ref 207), en P (Str.ofString "setdefault") 586 (.ref 214), en P (Str.ofString "add_header") 599 (.ref 221), en P (Str.ofString "__static_attributes__") 601 (.ref 222), en P (Str.ofString "__dict__") 603 (.ref 225), en P (Str.ofString "__weakref__") 605 (.ref 226), en P (Str.ofString "__doc__") 606 .none]) 4 }
noncomputable def o224 : Obj := { cls := (.type "type"), data := .cls { name := (Str.ofString "Headers"), bases := [(.type "object")], mro := [(.ref 224), (.type "object")], ns := 223, qualname := (Str.ofString "Headers"), hasDict := true }, slots := #[none, none, (some (.str (Str.ofString "Headers") 452)), (some (.str (Str.ofString "Headers") 460)), (some (.builtin "object.__new__")), (some (.bool true))] }
noncomputable def o235 : Obj := fobj (top 14) (Str.ofString "_law_take") .none .none (.str (Str.ofString "law_nb0231_01") 609) 234
noncomputable def o234 : Obj := { cls := .type "code", data := .fields #[(.str (Str.ofString "_law_take") 611), (.str (Str.ofString "_law_take") 612), (.str (Str.ofString "/claim/cut.py") 613), (.int (125) 0), (.int (2) 0), (.int (0) 0), (.int (0) 0), (.int (3) 0), (.ref 229), (.bool true), (.int (276) 0), (.ref 230), .none, (.ref 231), (.ref 232), (.ref 233), (.int (617) 0), (.int (125) 0), (.str (Str.ofString "/claim/cut.py") 618)] }
noncomputable def o242 : Obj := fobj (top 15) (Str.ofString "_law_stream") .none .none (.str (Str.ofString "law_nb0231_01") 609) 241
noncomputable def o241 : Obj := { cls := .type "code", data := .fields #[(.str (Str.ofString "_law_stream") 620), (.str (Str.ofString "_law_stream") 621), (.str (Str.ofString "/claim/cut.py") 622), (.int (129) 0), (.int (1) 0), (.int (0) 0), (.int (0) 0), (.int (3) 0), (.ref 236), (.bool true), (.int (276) 0), (.ref 237), .none, (.ref 238), (.ref 239), (.ref 240), (.int (625) 0), (.int (129) 0), (.str (Str.ofString "/claim/cut.py") 626)] }
noncomputable def o249 : Obj := fobj (top 16) (Str.ofString "_law_utf") .none .none (.str (Str.ofString "law_nb0231_01") 609) 248
noncomputable def o248 : Obj := { cls := .type "code", data := .fields #[(.str (Str.ofString "_law_utf") 628), (.str (Str.ofString "_law_utf") 629), (.str (Str.ofString "/claim/cut.py") 630), (.int (133) 0), (.int (1) 0), (.int (0) 0), (.int (0) 0), (.int (3) 0), (.ref 243), (.bool true), (.int (276) 0), (.ref 244), .none, (.ref 245), (.ref 246), (.ref 247), (.int (635) 0), (.int (133) 0), (.str (Str.ofString "/claim/cut.py") 636)] }
noncomputable def o256 : Obj := fobj (top 17) (Str.ofString "_law_item") .none .none (.str (Str.ofString "law_nb0231_01") 609) 255
noncomputable def o255 : Obj := { cls := .type "code", data := .fields #[(.str (Str.ofString "_law_item") 638), (.str (Str.ofString "_law_item") 639), (.str (Str.ofString "/claim/cut.py") 640), (.int (146) 0), (.int (1) 0), (.int (0) 0), (.int (0) 0), (.int (3) 0), (.ref 250), (.bool true), (.int (276) 0), (.ref 251), .none, (.ref 252), (.ref 253), (.ref 254), (.int (642) 0), (.int (146) 0), (.str (Str.ofString "/claim/cut.py") 643)] }
noncomputable def o261 : Obj := fobj (top 18) (Str.ofString "_law_low") .none .none (.str (Str.ofString "law_nb0231_01") 609) 260
noncomputable def o260 : Obj := { cls := .type "code", data := .fields #[(.str (Str.ofString "_law_low") 645), (.str (Str.ofString "_law_low") 646), (.str (Str.ofString "/claim/cut.py") 647), (.int (148) 0), (.int (1) 0), (.int (0) 0), (.int (0) 0), (.int (3) 0), (.ref 257), (.bool true), (.int (276) 0), (.ref 258), .none, .none, .none, (.ref 259), (.int (648) 0), (.int (148) 0), (.str (Str.ofString "/claim/cut.py") 649)] }
noncomputable def o266 : Obj := fobj (top 19) (Str.ofString "_law_shown") .none .none (.str (Str.ofString "law_nb0231_01") 609) 265
noncomputable def o265 : Obj := { cls := .type "code", data := .fields #[(.str (Str.ofString "_law_shown") 651), (.str (Str.ofString "_law_shown") 652), (.str (Str.ofString "/claim/cut.py") 653), (.int (150) 0), (.int (2) 0), (.int (0) 0), (.int (0) 0), (.int (3) 0), (.ref 262), (.bool true), (.int (276) 0), (.ref 263), .none, .none, .none, (.ref 264), (.int (654) 0), (.int (150) 0), (.str (Str.ofString "/claim/cut.py") 655)] }
noncomputable def o271 : Obj := fobj (top 20) (Str.ofString "_law_read") .none .none (.str (Str.ofString "law_nb0231_01") 609) 270
noncomputable def o270 : Obj := { cls := .type "code", data := .fields #[(.str (Str.ofString "_law_read") 657), (.str (Str.ofString "_law_read") 658), (.str (Str.ofString "/claim/cut.py") 659), (.int (152) 0), (.int (2) 0), (.int (0) 0), (.int (0) 0), (.int (3) 0), (.ref 267), (.bool true), (.int (276) 0), (.ref 268), .none, .none, .none, (.ref 269), (.int (660) 0), (.int (152) 0), (.str (Str.ofString "/claim/cut.py") 661)] }
noncomputable def o276 : Obj := fobj (top 21) (Str.ofString "_law_table") .none .none (.str (Str.ofString "law_nb0231_01") 609) 275
noncomputable def o275 : Obj := { cls := .type "code", data := .fields #[(.str (Str.ofString "_law_table") 663), (.str (Str.ofString "_law_table") 664), (.str (Str.ofString "/claim/cut.py") 665), (.int (157) 0), (.int (2) 0), (.int (0) 0), (.int (0) 0), (.int (3) 0), (.ref 272), (.bool true), (.int (276) 0), (.ref 273), .none, .none, .none, (.ref 274), (.int (666) 0), (.int (157) 0), (.str (Str.ofString "/claim/cut.py") 667)] }
noncomputable def o283 : Obj := fobj (top 22) (Str.ofString "_law_made") .none .none (.str (Str.ofString "law_nb0231_01") 609) 282
noncomputable def o282 : Obj := { cls := .type "code", data := .fields #[(.str (Str.ofString "_law_made") 669), (.str (Str.ofString "_law_made") 670), (.str (Str.ofString "/claim/cut.py") 671), (.int (160) 0), (.int (2) 0), (.int (0) 0), (.int (0) 0), (.int (3) 0), (.ref 277), (.bool true), (.int (276) 0), (.ref 278), .none, (.ref 279), (.ref 280), (.ref 281), (.int (675) 0), (.int (160) 0), (.str (Str.ofString "/claim/cut.py") 676)] }
noncomputable def o290 : Obj := fobj (top 23) (Str.ofString "_law_sent") .none .none (.str (Str.ofString "law_nb0231_01") 609) 289
noncomputable def o289 : Obj := { cls := .type "code", data := .fields #[(.str (Str.ofString "_law_sent") 678), (.str (Str.ofString "_law_sent") 679), (.str (Str.ofString "/claim/cut.py") 680), (.int (165) 0), (.int (1) 0), (.int (0) 0), (.int (0) 0), (.int (3) 0), (.ref 284), (.bool true), (.int (276) 0), (.ref 285), .none, (.ref 286), (.ref 287), (.ref 288), (.int (682) 0), (.int (165) 0), (.str (Str.ofString "/claim/cut.py") 683)] }
noncomputable def o295 : Obj := fobj (top 24) (Str.ofString "_law_goes") .none .none (.str (Str.ofString "law_nb0231_01") 609) 294
noncomputable def o294 : Obj := { cls := .type "code", data := .fields #[(.str (Str.ofString "_law_goes") 685), (.str (Str.ofString "_law_goes") 686), (.str (Str.ofString "/claim/cut.py") 687), (.int (170) 0), (.int (3) 0), (.int (0) 0), (.int (0) 0), (.int (3) 0), (.ref 291), (.bool true), (.int (276) 0), (.ref 292), .none, .none, .none, (.ref 293), (.int (688) 0), (.int (170) 0), (.str (Str.ofString "/claim/cut.py") 689)] }
noncomputable def o300 : Obj := fobj (top 25) (Str.ofString "_law_key") .none .none (.str (Str.ofString "law_nb0231_01") 609) 299
noncomputable def o299 : Obj := { cls := .type "code", data := .fields #[(.str (Str.ofString "_law_key") 691), (.str (Str.ofString "_law_key") 692), (.str (Str.ofString "/claim/cut.py") 693), (.int (176) 0), (.int (2) 0), (.int (0) 0), (.int (0) 0), (.int (3) 0), (.ref 296), (.bool true), (.int (276) 0), (.ref 297), .none, .none, .none, (.ref 298), (.int (694) 0), (.int (176) 0), (.str (Str.ofString "/claim/cut.py") 695)] }
noncomputable def o305 : Obj := fobj (top 26) (Str.ofString "_law_tells") .none .none (.str (Str.ofString "law_nb0231_01") 609) 304
noncomputable def o304 : Obj := { cls := .type "code", data := .fields #[(.str (Str.ofString "_law_tells") 697), (.str (Str.ofString "_law_tells") 698), (.str (Str.ofString "/claim/cut.py") 699), (.int (179) 0), (.int (4) 0), (.int (0) 0), (.int (0) 0), (.int (3) 0), (.ref 301), (.bool true), (.int (276) 0), (.ref 302), .none, .none, .none, (.ref 303), (.int (700) 0), (.int (179) 0), (.str (Str.ofString "/claim/cut.py") 701)] }
noncomputable def o310 : Obj := fobj (top 27) (Str.ofString "_law_run") .none .none (.str (Str.ofString "law_nb0231_01") 609) 309
noncomputable def o309 : Obj := { cls := .type "code", data := .fields #[(.str (Str.ofString "_law_run") 703), (.str (Str.ofString "_law_run") 704), (.str (Str.ofString "/claim/cut.py") 705), (.int (185) 0), (.int (3) 0), (.int (0) 0), (.int (0) 0), (.int (3) 0), (.ref 306), (.bool true), (.int (276) 0), (.ref 307), .none, .none, .none, (.ref 308), (.int (706) 0), (.int (185) 0), (.str (Str.ofString "/claim/cut.py") 707)] }
noncomputable def o317 : Obj := fobj (top 28) (Str.ofString "_law_drawn") .none .none (.str (Str.ofString "law_nb0231_01") 609) 316
noncomputable def o316 : Obj := { cls := .type "code", data := .fields #[(.str (Str.ofString "_law_drawn") 709), (.str (Str.ofString "_law_drawn") 710), (.str (Str.ofString "/claim/cut.py") 711), (.int (202) 0), (.int (1) 0), (.int (0) 0), (.int (0) 0), (.int (3) 0), (.ref 311), (.bool true), (.int (276) 0), (.ref 312), .none, (.ref 313), (.ref 314), (.ref 315), (.int (718) 0), (.int (202) 0), (.str (Str.ofString "/claim/cut.py") 719)] }
noncomputable def o324 : Obj := fobj (top 29) (Str.ofString "law") .none .none (.str (Str.ofString "law_nb0231_01") 609) 323
noncomputable def o323 : Obj := { cls := .type "code", data := .fields #[(.str (Str.ofString "law") 721), (.str (Str.ofString "law") 722), (.str (Str.ofString "/claim/cut.py") 723), (.int (210) 0), (.int (1) 0), (.int (0) 0), (.int (0) 0), (.int (3) 0), (.ref 318), (.bool true), (.int (276) 0), (.ref 319), .none, (.ref 320), (.ref 321), (.ref 322), (.int (735) 0), (.int (210) 0), (.str (Str.ofString "/claim/cut.py") 736)] }
noncomputable def KF (P : Params) : Frag := [(3, o3 P), (37, o37), (38, o38), (44, o44), (45, o45), (51, o51), (52, o52), (58, o58), (59, o59), (72, o72), (73, o73), (75, o75 P), (76, o76), (84, o84), (85, o85), (89, o89), (90, o90), (94, o94), (95, o95), (96, o96), (102, o102), (103, o103), (111, o111), (117, o117), (118, o118), (124, o124), (125, o125), (131, o131), (132, o132), (138, o138), (139, o139), (143, o143), (144, o144), (150, o150), (151, o151), (157, o157), (158, o158), (162, o162), (163, o163), (170, o170), (171, o171), (175, o175), (176, o176), (180, o180), (181, o181), (187, o187), (188, o188), (194, o194), (195, o195), (199, o199), (200, o200), (206, o206), (207, o207), (213, o213), (214, o214), (220, o220), (221, o221), (223, o223 P), (224, o224), (234, o234), (235, o235), (241, o241), (242, o242), (248, o248), (249, o249), (255, o255), (256, o256), (260, o260), (261, o261), (265, o265), (266, o266), (270, o270), (271, o271), (275, o275), (276, o276), (282, o282), (283, o283), (289, o289), (290, o290), (294, o294), (295, o295), (299, o299), (300, o300), (304, o304), (305, o305), (309, o309), (310, o310), (316, o316), (317, o317), (323, o323), (324, o324)]
noncomputable def kAs : List Addr := [3, 37, 38, 44, 45, 51, 52, 58, 59, 72, 73, 75, 76, 84, 85, 89, 90, 94, 95, 96, 102, 103, 111, 117, 118, 124, 125, 131, 132, 138, 139, 143, 144, 150, 151, 157, 158, 162, 163, 170, 171, 175, 176, 180, 181, 187, 188, 194, 195, 199, 200, 206, 207, 213, 214, 220, 221, 223, 224, 234, 235, 241, 242, 248, 249, 255, 256, 260, 261, 265, 266, 270, 271, 275, 276, 282, 283, 289, 290, 294, 295, 299, 300, 304, 305, 309, 310, 316, 317, 323, 324]
noncomputable def looseN : List Str := [(Str.ofString "_wall"), (Str.ofString "read_uint1"), (Str.ofString "read_string1"), (Str.ofString "read_unicodestring1"), (Str.ofString "_Example"), (Str.ofString "tspecials"), (Str.ofString "_name_disallowed_re"), (Str.ofString "_value_disallowed_re"), (Str.ofString "_formatparam"), (Str.ofString "Headers"), (Str.ofString "_law_take"), (Str.ofString "_law_stream"), (Str.ofString "_law_utf"), (Str.ofString "_law_item"), (Str.ofString "_law_low"), (Str.ofString "_law_shown"), (Str.ofString "_law_read"), (Str.ofString "_law_table"), (Str.ofString "_law_made"), (Str.ofString "_law_sent"), (Str.ofString "_law_goes"), (Str.ofString "_law_key"), (Str.ofString "_law_tells"), (Str.ofString "_law_run"), (Str.ofString "_law_drawn")]
set_option maxHeartbeats 200000
noncomputable def fob0 (s : Stmt) (qual : Str) : Obj := match s with
  | .FunctionDef n a b _ _ _ sc _ _ _ => { cls := .none, data := .func { name := n, qualname := qual, params := a, body := .stmts b, scope := sc, globals := 0, closure := [], defaults := .none, kwdefaults := .none } }
  | _ => default
noncomputable def p_1 (P : Params) : Obj := { cls := (.type "dict"), data := .dict (List.toArray [en P (Str.ofString "builtins") 162 (.ref 4), en P (Str.ofString "__main__") 163 (.ref 5), en P (Str.ofString "_sre") 244 (.ref 12)]) 3 }
noncomputable def p_2 (P : Params) : Obj := { cls := .none, data := .dict (List.toArray [en P (Str.ofString "\x69mport.loaded._sre") 183 (.bool true), en P (Str.ofString "class._frozen_importlib.BuiltinImporter") 185 (.ref 14), en P (Str.ofString "watched.\x69mport") 206 (.ref 18), en P (Str.ofString "class._frozen_importlib.ModuleSpec") 216 (.ref 22), en P (Str.ofString "sys.modules.booked-epoch") 245 (.int (3) 0), en P (Str.ofString "\x69mport.later-laid._sre") 270 (.bool true), en P (Str.ofString "watched.library") 272 (.ref 27), en P (Str.ofString "watched.library-objects") 0 (.str (Str.ofString "\x0c") 0), en P (Str.ofString "watched.library-deep._sre") 273 (.str (Str.ofString "\x04\x00\x00\x0b\x04\x00\x00\x0b\x04\x00\x00\x03\x04\x00\x00\x0b\x08\x04dict\x02") 0)]) 9 }
noncomputable def p_11 (P : Params) : Obj := { cls := (.type "dict"), data := .dict (List.toArray [en P (Str.ofString "__name__") 247 (.str (Str.ofString "_sre") 246), en P (Str.ofString "__doc__") 248 .none, en P (Str.ofString "__package__") 250 (.str (Str.ofString "") 249), en P (Str.ofString "__loader__") 251 (.builtin "off-the-table:_sre.__loader__:shared#opaque"), en P (Str.ofString "__spec__") 252 (.builtin "off-the-table:_sre.__spec__:shared#opaque"), en P (Str.ofString "compile") 253 (.builtin "_sre.compile"), en P (Str.ofString "template") 254 (.builtin "off-the-table:_sre.template:shared#opaque"), en P (Str.ofString "getcodesize") 255 (.builtin "off-the-table:_sre.getcodesize:shared#opaque"), en P (Str.ofString "ascii_iscased") 256 (.builtin "off-the-table:_sre.ascii_iscased:shared#opaque"), en P (Str.ofString "unicode_iscased") 257 (.builtin "off-the-table:_sre.unicode_iscased:shared#opaque"), en P (Str.ofString "ascii_tolower") 258 (.builtin "off-the-table:_sre.ascii_tolower:shared#opaque"), en P (Str.ofString "unicode_tolower") 259 (.builtin "off-the-table:_sre.unicode_tolower:shared#opaque"), en P (Str.ofString "MAGIC") 261 (.int (20230612) 260), en P (Str.ofString "CODESIZE") 263 (.int (4) 262), en P (Str.ofString "MAXREPEAT") 265 (.int (4294967295) 264), en P (Str.ofString "MAXGROUPS") 267 (.int (1073741823) 266), en P (Str.ofString "copyright") 269 (.str (Str.ofString " SRE 2.2.2 Copyright (c) 1997-2002 by Secret Labs AB ") 268)]) 17 }
noncomputable def p_12 : Obj := { cls := (.type "module"), dict := some 11 }
noncomputable def p_13 (P : Params) : Obj := { cls := (.type "dict"), data := .dict (List.toArray [en P (Str.ofString "__module__") 189 (.str (Str.ofString "_frozen_importlib") 186), en P (Str.ofString "__firstlineno__") 190 (.int (971) 187), en P (Str.ofString "__doc__") 191 (.builtin "_frozen_importlib.BuiltinImporter.__doc__:str#opaque"), en P (Str.ofString "_ORIGIN") 192 (.str (Str.ofString "built-in") 188), en P (Str.ofString "find_spec") 193 (.builtin "_frozen_importlib.BuiltinImporter.find_spec#opaque"), en P (Str.ofString "create_module") 194 (.builtin "_frozen_importlib.BuiltinImporter.create_module#opaque"), en P (Str.ofString "exec_module") 195 (.builtin "_frozen_importlib.BuiltinImporter.exec_module#opaque"), en P (Str.ofString "get_code") 196 (.builtin "_frozen_importlib.BuiltinImporter.get_code#opaque"), en P (Str.ofString "get_source") 197 (.builtin "_frozen_importlib.BuiltinImporter.get_source#opaque"), en P (Str.ofString "is_package") 198 (.builtin "_frozen_importlib.BuiltinImporter.is_package#opaque"), en P (Str.ofString "load_module") 199 (.builtin "_frozen_importlib.BuiltinImporter.load_module#opaque"), en P (Str.ofString "__static_attributes__") 200 (.ref 15), en P (Str.ofString "__dict__") 202 (.ref 16), en P (Str.ofString "__weakref__") 204 (.ref 17)]) 14 }
noncomputable def p_14 : Obj := { cls := (.type "type"), data := .cls { name := (Str.ofString "BuiltinImporter"), bases := [(.type "object")], mro := [(.ref 14), (.type "object")], ns := 13, qualname := (Str.ofString "BuiltinImporter"), hasDict := true, slotNames := [], subclasses := [], abstract := false, hasDel := false } }
noncomputable def p_15 : Obj := { cls := (.type "tuple"), data := .seq #[] 0 }
noncomputable def p_16 : Obj := { cls := (.type "getset_descriptor"), data := .fields #[(.str (Str.ofString "__dict__") 201), (.ref 14), (.builtin "function.__dict__"), (.builtin "function.__dict__#set")] }
noncomputable def p_17 : Obj := { cls := (.type "getset_descriptor"), data := .fields #[(.str (Str.ofString "__weakref__") 203), (.ref 14), (.builtin "ExceptionGroup.__weakref__"), .none] }
noncomputable def p_18 : Obj := { cls := .none, data := .seq #[(.int (13) 0), (.str (Str.mk #[6, 189, 10, 95, 95, 109, 111, 100, 117, 108, 101, 95, 95, 6, 186, 17, 95, 102, 114, 111, 122, 101, 110, 95, 105, 109, 112, 111, 114, 116, 108, 105, 98, 6, 190, 15, 95, 95, 102, 105, 114, 115, 116, 108, 105, 110, 101, 110, 111, 95, 95, 4, 187, 0, 971, 6, 191, 7, 95, 95, 100, 111, 99, 95, 95, 9, 52, 95, 102, 114, 111, 122, 101, 110, 95, 105, 109, 112, 111, 114, 116, 108, 105, 98, 46, 66, 117, 105, 108, 116, 105, 110, 73, 109, 112, 111, 114, 116, 101, 114, 46, 95, 95, 100, 111, 99, 95, 95, 58, 115, 116, 114, 35, 111, 112, 97, 113, 117, 101, 6, 192, 7, 95, 79, 82, 73, 71, 73, 78, 6, 188, 8, 98, 117, 105, 108, 116, 45, 105, 110, 6, 193, 9, 102, 105, 110, 100, 95, 115, 112, 101, 99, 9, 50, 95, 102, 114, 111, 122, 101, 110, 95, 105, 109, 112, 111, 114, 116, 108, 105, 98, 46, 66, 117, 105, 108, 116, 105, 110, 73, 109, 112, 111, 114, 116, 101, 114, 46, 102, 105, 110, 100, 95, 115, 112, 101, 99, 35, 111, 112, 97, 113, 117, 101, 6, 194, 13, 99, 114, 101, 97, 116, 101, 95, 109, 111, 100, 117, 108, 101, 9, 54, 95, 102, 114, 111, 122, 101, 110, 95, 105, 109, 112, 111, 114, 116, 108, 105, 98, 46, 66, 117, 105, 108, 116, 105, 110, 73, 109, 112, 111, 114, 116, 101, 114, 46, 99, 114, 101, 97, 116, 101, 95, 109, 111, 100, 117, 108, 101, 35, 111, 112, 97, 113, 117, 101, 6, 195, 11, 101, 120, 101, 99, 95, 109, 111, 100, 117, 108, 101, 9, 52, 95, 102, 114, 111, 122, 101, 110, 95, 105, 109, 112, 111, 114, 116, 108, 105, 98, 46, 66, 117, 105, 108, 116, 105, 110, 73, 109, 112, 111, 114, 116, 101, 114, 46, 101, 120, 101, 99, 95, 109, 111, 100, 117, 108, 101, 35, 111, 112, 97, 113, 117, 101, 6, 196, 8, 103, 101, 116, 95, 99, 111, 100, 101, 9, 49, 95, 102, 114, 111, 122, 101, 110, 95, 105, 109, 112, 111, 114, 116, 108, 105, 98, 46, 66, 117, 105, 108, 116, 105, 110, 73, 109, 112, 111, 114, 116, 101, 114, 46, 103, 101, 116, 95, 99, 111, 100, 101, 35, 111, 112, 97, 113, 117, 101, 6, 197, 10, 103, 101, 116, 95, 115, 111, 117, 114, 99, 101, 9, 51, 95, 102, 114, 111, 122, 101, 110, 95, 105, 109, 112, 111, 114, 116, 108, 105, 98, 46, 66, 117, 105, 108, 116, 105, 110, 73, 109, 112, 111, 114, 116, 101, 114, 46, 103, 101, 116, 95, 115, 111, 117, 114, 99, 101, 35, 111, 112, 97, 113, 117, 101, 6, 198, 10, 105, 115, 95, 112, 97, 99, 107, 97, 103, 101, 9, 51, 95, 102, 114, 111, 122, 101, 110, 95, 105, 109, 112, 111, 114, 116, 108, 105, 98, 46, 66, 117, 105, 108, 116, 105, 110, 73, 109, 112, 111, 114, 116, 101, 114, 46, 105, 115, 95, 112, 97, 99, 107, 97, 103, 101, 35, 111, 112, 97, 113, 117, 101, 6, 199, 11, 108, 111, 97, 100, 95, 109, 111, 100, 117, 108, 101, 9, 52, 95, 102, 114, 111, 122, 101, 110, 95, 105, 109, 112, 111, 114, 116, 108, 105, 98, 46, 66, 117, 105, 108, 116, 105, 110, 73, 109, 112, 111, 114, 116, 101, 114, 46, 108, 111, 97, 100, 95, 109, 111, 100, 117, 108, 101, 35, 111, 112, 97, 113, 117, 101, 6, 200, 21, 95, 95, 115, 116, 97, 116, 105, 99, 95, 97, 116, 116, 114, 105, 98, 117, 116, 101, 115, 95, 95, 4, 0, 0, 15, 6, 202, 8, 95, 95, 100, 105, 99, 116, 95, 95, 4, 0, 0, 16, 6, 204, 11, 95, 95, 119, 101, 97, 107, 114, 101, 102, 95, 95, 4, 0, 0, 17]) 0), (.bool true), (.bool true), (.str (Str.ofString "") 205), (.int (21) 0), (.str (Str.mk #[6, 227, 10, 95, 95, 109, 111, 100, 117, 108, 101, 95, 95, 6, 217, 17, 95, 102, 114, 111, 122, 101, 110, 95, 105, 109, 112, 111, 114, 116, 108, 105, 98, 6, 228, 15, 95, 95, 102, 105, 114, 115, 116, 108, 105, 110, 101, 110, 111, 95, 95, 4, 218, 0, 562, 6, 229, 7, 95, 95, 100, 111, 99, 95, 95, 9, 47, 95, 102, 114, 111, 122, 101, 110, 95, 105, 109, 112, 111, 114, 116, 108, 105, 98, 46, 77, 111, 100, 117, 108, 101, 83, 112, 101, 99, 46, 95, 95, 100, 111, 99, 95, 95, 58, 115, 116, 114, 35, 111, 112, 97, 113, 117, 101, 6, 230, 8, 95, 95, 105, 110, 105, 116, 95, 95, 9, 44, 95, 102, 114, 111, 122, 101, 110, 95, 105, 109, 112, 111, 114, 116, 108, 105, 98, 46, 77, 111, 100, 117, 108, 101, 83, 112, 101, 99, 46, 95, 95, 105, 110, 105, 116, 95, 95, 35, 111, 112, 97, 113, 117, 101, 6, 231, 8, 95, 95, 114, 101, 112, 114, 95, 95, 9, 44, 95, 102, 114, 111, 122, 101, 110, 95, 105, 109, 112, 111, 114, 116, 108, 105, 98, 46, 77, 111, 100, 117, 108, 101, 83, 112, 101, 99, 46, 95, 95, 114, 101, 112, 114, 95, 95, 35, 111, 112, 97, 113, 117, 101, 6, 232, 6, 95, 95, 101, 113, 95, 95, 9, 42, 95, 102, 114, 111, 122, 101, 110, 95, 105, 109, 112, 111, 114, 116, 108, 105, 98, 46, 77, 111, 100, 117, 108, 101, 83, 112, 101, 99, 46, 95, 95, 101, 113, 95, 95, 35, 111, 112, 97, 113, 117, 101, 6, 233, 6, 99, 97, 99, 104, 101, 100, 9, 42, 95, 102, 114, 111, 122, 101, 110, 95, 105, 109, 112, 111, 114, 116, 108, 105, 98, 46, 77, 111, 100, 117, 108, 101, 83, 112, 101, 99, 46, 99, 97, 99, 104, 101, 100, 35, 111, 112, 97, 113, 117, 101, 6, 234, 6, 112, 97, 114, 101, 110, 116, 9, 42, 95, 102, 114, 111, 122, 101, 110, 95, 105, 109, 112, 111, 114, 116, 108, 105, 98, 46, 77, 111, 100, 117, 108, 101, 83, 112, 101, 99, 46, 112, 97, 114, 101, 110, 116, 35, 111, 112, 97, 113, 117, 101, 6, 235, 12, 104, 97, 115, 95, 108, 111, 99, 97, 116, 105, 111, 110, 9, 48, 95, 102, 114, 111, 122, 101, 110, 95, 105, 109, 112, 111, 114, 116, 108, 105, 98, 46, 77, 111, 100, 117, 108, 101, 83, 112, 101, 99, 46, 104, 97, 115, 95, 108, 111, 99, 97, 116, 105, 111, 110, 35, 111, 112, 97, 113, 117, 101, 6, 236, 21, 95, 95, 115, 116, 97, 116, 105, 99, 95, 97, 116, 116, 114, 105, 98, 117, 116, 101, 115, 95, 95, 4, 0, 0, 23, 6, 238, 8, 95, 95, 100, 105, 99, 116, 95, 95, 4, 0, 0, 24, 6, 240, 11, 95, 95, 119, 101, 97, 107, 114, 101, 102, 95, 95, 4, 0, 0, 25, 6, 241, 8, 95, 95, 104, 97, 115, 104, 95, 95, 0]) 0), (.bool true), (.bool true), (.str (Str.ofString "") 242)] 1 }
noncomputable def p_19 : Obj := { cls := (.type "list"), data := .seq #[] 0 }
noncomputable def p_20 (P : Params) : Obj := { cls := (.type "dict"), data := .dict (List.toArray [en P (Str.ofString "name") 208 (.str (Str.ofString "_sre") 207), en P (Str.ofString "loader") 209 (.ref 14), en P (Str.ofString "origin") 210 (.str (Str.ofString "built-in") 184), en P (Str.ofString "loader_state") 211 .none, en P (Str.ofString "submodule_search_locations") 212 .none, en P (Str.ofString "_uninitialized_submodules") 213 (.ref 19), en P (Str.ofString "_set_fileattr") 214 (.bool false), en P (Str.ofString "_cached") 215 .none, en P (Str.ofString "_initializing") 243 (.bool false)]) 9 }
noncomputable def p_21 (P : Params) : Obj := { cls := (.type "dict"), data := .dict (List.toArray [en P (Str.ofString "__module__") 227 (.str (Str.ofString "_frozen_importlib") 217), en P (Str.ofString "__firstlineno__") 228 (.int (562) 218), en P (Str.ofString "__doc__") 229 (.builtin "_frozen_importlib.ModuleSpec.__doc__:str#opaque"), en P (Str.ofString "__init__") 230 (.builtin "_frozen_importlib.ModuleSpec.__init__#opaque"), en P (Str.ofString "__repr__") 231 (.builtin "_frozen_importlib.ModuleSpec.__repr__#opaque"), en P (Str.ofString "__eq__") 232 (.builtin "_frozen_importlib.ModuleSpec.__eq__#opaque"), en P (Str.ofString "cached") 233 (.builtin "_frozen_importlib.ModuleSpec.cached#opaque"), en P (Str.ofString "parent") 234 (.builtin "_frozen_importlib.ModuleSpec.parent#opaque"), en P (Str.ofString "has_location") 235 (.builtin "_frozen_importlib.ModuleSpec.has_location#opaque"), en P (Str.ofString "__static_attributes__") 236 (.ref 23), en P (Str.ofString "__dict__") 238 (.ref 24), en P (Str.ofString "__weakref__") 240 (.ref 25), en P (Str.ofString "__hash__") 241 .none]) 13 }
noncomputable def p_22 : Obj := { cls := (.type "type"), data := .cls { name := (Str.ofString "ModuleSpec"), bases := [(.type "object")], mro := [(.ref 22), (.type "object")], ns := 21, qualname := (Str.ofString "ModuleSpec"), hasDict := true, slotNames := [], subclasses := [], abstract := false, hasDel := false } }
noncomputable def p_23 : Obj := { cls := (.type "tuple"), data := .seq #[(.str (Str.ofString "_cached") 219), (.str (Str.ofString "_set_fileattr") 220), (.str (Str.ofString "_uninitialized_submodules") 221), (.str (Str.ofString "loader") 222), (.str (Str.ofString "loader_state") 223), (.str (Str.ofString "name") 224), (.str (Str.ofString "origin") 225), (.str (Str.ofString "submodule_search_locations") 226)] 0 }
noncomputable def p_24 : Obj := { cls := (.type "getset_descriptor"), data := .fields #[(.str (Str.ofString "__dict__") 237), (.ref 22), (.builtin "function.__dict__"), (.builtin "function.__dict__#set")] }
noncomputable def p_25 : Obj := { cls := (.type "getset_descriptor"), data := .fields #[(.str (Str.ofString "__weakref__") 239), (.ref 22), (.builtin "ExceptionGroup.__weakref__"), .none] }
noncomputable def p_26 : Obj := { cls := (.ref 22), dict := some 20 }
noncomputable def p_27 : Obj := { cls := .none, data := .seq #[(.int (11) 0), (.str (Str.mk #[6, 247, 8, 95, 95, 110, 97, 109, 101, 95, 95, 6, 246, 4, 95, 115, 114, 101, 6, 248, 7, 95, 95, 100, 111, 99, 95, 95, 0, 6, 250, 11, 95, 95, 112, 97, 99, 107, 97, 103, 101, 95, 95, 6, 249, 0, 6, 251, 10, 95, 95, 108, 111, 97, 100, 101, 114, 95, 95, 4, 0, 0, 14, 6, 252, 8, 95, 95, 115, 112, 101, 99, 95, 95, 4, 0, 0, 26, 6, 253, 7, 99, 111, 109, 112, 105, 108, 101, 9, 12, 95, 115, 114, 101, 46, 99, 111, 109, 112, 105, 108, 101, 6, 254, 8, 116, 101, 109, 112, 108, 97, 116, 101, 9, 13, 95, 115, 114, 101, 46, 116, 101, 109, 112, 108, 97, 116, 101, 6, 255, 11, 103, 101, 116, 99, 111, 100, 101, 115, 105, 122, 101, 9, 16, 95, 115, 114, 101, 46, 103, 101, 116, 99, 111, 100, 101, 115, 105, 122, 101, 6, 256, 13, 97, 115, 99, 105, 105, 95, 105, 115, 99, 97, 115, 101, 100, 9, 18, 95, 115, 114, 101, 46, 97, 115, 99, 105, 105, 95, 105, 115, 99, 97, 115, 101, 100, 6, 257, 15, 117, 110, 105, 99, 111, 100, 101, 95, 105, 115, 99, 97, 115, 101, 100, 9, 20, 95, 115, 114, 101, 46, 117, 110, 105, 99, 111, 100, 101, 95, 105, 115, 99, 97, 115, 101, 100, 6, 258, 13, 97, 115, 99, 105, 105, 95, 116, 111, 108, 111, 119, 101, 114, 9, 18, 95, 115, 114, 101, 46, 97, 115, 99, 105, 105, 95, 116, 111, 108, 111, 119, 101, 114, 6, 259, 15, 117, 110, 105, 99, 111, 100, 101, 95, 116, 111, 108, 111, 119, 101, 114, 9, 20, 95, 115, 114, 101, 46, 117, 110, 105, 99, 111, 100, 101, 95, 116, 111, 108, 111, 119, 101, 114, 6, 261, 5, 77, 65, 71, 73, 67, 4, 260, 0, 20230612, 6, 263, 8, 67, 79, 68, 69, 83, 73, 90, 69, 4, 262, 0, 4, 6, 265, 9, 77, 65, 88, 82, 69, 80, 69, 65, 84, 4, 264, 0, 4294967295, 6, 267, 9, 77, 65, 88, 71, 82, 79, 85, 80, 83, 4, 266, 0, 1073741823, 6, 269, 9, 99, 111, 112, 121, 114, 105, 103, 104, 116, 6, 268, 53, 32, 83, 82, 69, 32, 50, 46, 50, 46, 50, 32, 67, 111, 112, 121, 114, 105, 103, 104, 116, 32, 40, 99, 41, 32, 49, 57, 57, 55, 45, 50, 48, 48, 50, 32, 98, 121, 32, 83, 101, 99, 114, 101, 116, 32, 76, 97, 98, 115, 32, 65, 66, 32]) 0), (.bool true), (.bool false), (.str (Str.ofString "_sre") 271)] 0 }
noncomputable def p_29 : Obj := { cls := .none, data := .fields #[(.int (2) 0), (.int (0) 0), (.ref 37), (.int (6) 0), (.int (0) 0), (.ref 44), (.int (11) 0), (.int (0) 0), (.ref 51), (.int (18) 0), (.int (0) 0), (.ref 58), (.int (25) 0), (.int (0) 0), (.ref 65), (.int (33) 0), (.int (0) 0), (.ref 102), (.int (42) 0), (.int (0) 0), (.ref 109), (.int (125) 0), (.int (0) 0), (.ref 234), (.int (129) 0), (.int (0) 0), (.ref 241), (.int (133) 0), (.int (0) 0), (.ref 248), (.int (146) 0), (.int (0) 0), (.ref 255), (.int (148) 0), (.int (0) 0), (.ref 260), (.int (150) 0), (.int (0) 0), (.ref 265), (.int (152) 0), (.int (0) 0), (.ref 270), (.int (157) 0), (.int (0) 0), (.ref 275), (.int (160) 0), (.int (0) 0), (.ref 282), (.int (165) 0), (.int (0) 0), (.ref 289), (.int (170) 0), (.int (0) 0), (.ref 294), (.int (176) 0), (.int (0) 0), (.ref 299), (.int (179) 0), (.int (0) 0), (.ref 304), (.int (185) 0), (.int (0) 0), (.ref 309), (.int (202) 0), (.int (0) 0), (.ref 316), (.int (210) 0), (.int (0) 0), (.ref 323)] }
noncomputable def p_30 : Obj := { cls := (.type "code"), data := .fields #[(.str (Str.ofString "<module>") 277), (.str (Str.ofString "<module>") 278), (.str (Str.ofString "/claim/cut.py") 279), (.int (1) 0), (.int (0) 0), (.int (0) 0), (.int (0) 0), (.int (0) 0), (.ref 28), (.bool false), (.int (276) 0), (.ref 29), .none, .none, .none, .none, (.int (280) 0), (.int (1) 0), (.str (Str.ofString "/claim/cut.py") 281)] }
noncomputable def p_31 : Obj := { cls := (.type "frame"), slots := #[(some (.ref 30)), (some (.ref 3)), (some (.ref 3)), none, (some (.str (Str.ofString "__main__") 164)), none, (some (.ref 0))] }
noncomputable def p_33 : Obj := { cls := .none, data := .fields #[] }
noncomputable def p_34 : Obj := { cls := (.type "tuple"), data := .seq #[(.str (Str.ofString "k") 285)] 0 }
noncomputable def p_36 : Obj := fob0 (top 1) (Str.ofString "_wall")
noncomputable def p_41 : Obj := { cls := (.type "tuple"), data := .seq #[(.str (Str.ofString "f") 294), (.str (Str.ofString "data") 295)] 0 }
noncomputable def p_43 : Obj := fob0 (top 3) (Str.ofString "read_uint1")
noncomputable def p_48 : Obj := { cls := (.type "tuple"), data := .seq #[(.str (Str.ofString "f") 302), (.str (Str.ofString "n") 303), (.str (Str.ofString "data") 304)] 0 }
noncomputable def p_50 : Obj := fob0 (top 4) (Str.ofString "read_string1")
noncomputable def p_55 : Obj := { cls := (.type "tuple"), data := .seq #[(.str (Str.ofString "f") 311), (.str (Str.ofString "n") 312), (.str (Str.ofString "data") 313)] 0 }
noncomputable def p_57 : Obj := fob0 (top 5) (Str.ofString "read_unicodestring1")
noncomputable def p_61 : Obj := { cls := (.type "builtin_function_or_method"), data := .fields #[(.builtin "type.__prepare__"), (.type "type")] }
noncomputable def p_62 (P : Params) : Obj := { cls := (.type "dict"), data := .dict (List.toArray [en P (Str.ofString "__module__") 324 (.str (Str.ofString "cpy313.pickletools") 289), en P (Str.ofString "__qualname__") 326 (.str (Str.ofString "_Example") 325), en P (Str.ofString "__firstlineno__") 328 (.int (25) 327), en P (Str.ofString "__init__") 336 (.ref 73), en P (Str.ofString "__static_attributes__") 338 (.ref 74)]) 5 }
noncomputable def p_64 : Obj := { cls := .none, data := .fields #[(.int (27) 0), (.int (4) 0), (.ref 72)] }
noncomputable def p_65 : Obj := { cls := (.type "code"), data := .fields #[(.str (Str.ofString "_Example") 319), (.str (Str.ofString "_Example") 320), (.str (Str.ofString "/claim/cut.py") 321), (.int (25) 0), (.int (0) 0), (.int (0) 0), (.int (0) 0), (.int (0) 0), (.ref 63), (.bool false), (.int (276) 0), (.ref 64), .none, .none, .none, .none, (.int (322) 0), (.int (25) 0), (.str (Str.ofString "/claim/cut.py") 323)] }
noncomputable def p_66 : Obj := { cls := (.type "frame"), slots := #[(some (.ref 65)), (some (.ref 3)), (some (.ref 62)), none, (some (.str (Str.ofString "cpy313.pickletools") 289)), none, (some (.ref 0))] }
noncomputable def p_69 : Obj := { cls := (.type "tuple"), data := .seq #[(.str (Str.ofString "self") 332), (.str (Str.ofString "value") 333)] 0 }
noncomputable def p_71 : Obj := fob0 (mem 6 0) (Str.ofString "_Example.__init__")
noncomputable def p_74 : Obj := { cls := (.type "tuple"), data := .seq #[(.str (Str.ofString "value") 337)] 0 }
noncomputable def p_77 : Obj := { cls := (.type "getset_descriptor"), data := .fields #[(.str (Str.ofString "__dict__") 339), (.ref 76), (.builtin "function.__dict__"), (.builtin "function.__dict__#set")] }
noncomputable def p_78 : Obj := { cls := (.type "getset_descriptor"), data := .fields #[(.str (Str.ofString "__weakref__") 341), (.ref 76), (.builtin "ExceptionGroup.__weakref__"), .none] }
noncomputable def p_79 : Obj := { cls := (.type "super"), data := .fields #[(.ref 76), (.ref 76), (.ref 76)] }
noncomputable def p_80 : Obj := { cls := (.type "builtin_function_or_method"), data := .fields #[(.builtin "object.__init_subclass__"), (.ref 76)] }
noncomputable def p_81 : Obj := { cls := (.type "list"), data := .seq #[(.int (14) 351), (.int (14) 352), (.int (4) 353), (.int (1) 354), (.int (1) 355), (.int (9) 356), (.int (0) 357), (.int (4227896069) 358), (.int (939524097) 359), (.int (0) 360), (.int (0) 361), (.int (0) 362), (.int (0) 363), (.int (0) 364), (.int (0) 365), (.int (13) 366), (.int (11) 367), (.int (9) 368), (.int (0) 369), (.int (4227896069) 370), (.int (939524097) 371), (.int (0) 372), (.int (0) 373), (.int (0) 374), (.int (0) 375), (.int (0) 376), (.int (0) 377), (.int (1) 378)] 0 }
noncomputable def p_82 (P : Params) : Obj := { cls := (.type "dict"), data := .dict (List.toArray []) 0 }
noncomputable def p_83 : Obj := { cls := (.type "tuple"), data := .seq #[.none] 0 }
noncomputable def p_86 : Obj := { cls := (.type "list"), data := .seq #[(.int (14) 385), (.int (10) 386), (.int (4) 387), (.int (1) 388), (.int (1) 389), (.int (22) 390), (.int (0) 391), (.int (31) 392), (.int (16) 393), (.int (127) 394), (.int (0) 395), (.int (13) 396), (.int (7) 397), (.int (22) 398), (.int (0) 399), (.int (31) 400), (.int (16) 401), (.int (127) 402), (.int (0) 403), (.int (1) 404)] 0 }
noncomputable def p_91 : Obj := { cls := (.type "list"), data := .seq #[(.int (14) 411), (.int (14) 412), (.int (4) 413), (.int (1) 414), (.int (1) 415), (.int (9) 416), (.int (4294966783) 417), (.int (0) 418), (.int (0) 419), (.int (2147483648) 420), (.int (0) 421), (.int (0) 422), (.int (0) 423), (.int (0) 424), (.int (0) 425), (.int (13) 426), (.int (11) 427), (.int (9) 428), (.int (4294966783) 429), (.int (0) 430), (.int (0) 431), (.int (2147483648) 432), (.int (0) 433), (.int (0) 434), (.int (0) 435), (.int (0) 436), (.int (0) 437), (.int (1) 438)] 0 }
noncomputable def p_99 : Obj := { cls := (.type "tuple"), data := .seq #[(.str (Str.ofString "param") 446), (.str (Str.ofString "value") 447), (.str (Str.ofString "quote") 448)] 0 }
noncomputable def p_101 : Obj := fob0 (top 11) (Str.ofString "_formatparam")
noncomputable def p_106 (P : Params) : Obj := { cls := (.type "dict"), data := .dict (List.toArray [en P (Str.ofString "__module__") 459 (.str (Str.ofString "cpy313.wsgiref.headers") 346), en P (Str.ofString "__qualname__") 461 (.str (Str.ofString "Headers") 460), en P (Str.ofString "__firstlineno__") 463 (.int (42) 462), en P (Str.ofString "__init__") 473 (.ref 118), en P (Str.ofString "_convert_string_type") 483 (.ref 125), en P (Str.ofString "__len__") 490 (.ref 132), en P (Str.ofString "__setitem__") 499 (.ref 139), en P (Str.ofString "__delitem__") 505 (.ref 144), en P (Str.ofString "__getitem__") 513 (.ref 151), en P (Str.ofString "__contains__") 521 (.ref 158), en P (Str.ofString "get_all") 527 (.ref 163), en P (Str.ofString "get") 538 (.ref 171), en P (Str.ofString "keys") 544 (.ref 176), en P (Str.ofString "values") 550 (.ref 181), en P (Str.ofString "items") 557 (.ref 188), en P (Str.ofString "__repr__") 564 (.ref 195), en P (Str.ofString "__str__") 570 (.ref 200), en P (Str.ofString "__bytes__") 577 (.ref 207), en P (Str.ofString "setdefault") 586 (.ref 214), en P (Str.ofString "add_header") 599 (.ref 221), en P (Str.ofString "__static_attributes__") 601 (.ref 222)]) 21 }
noncomputable def p_108 : Obj := { cls := .none, data := .fields #[(.int (44) 0), (.int (4) 0), (.ref 117), (.int (54) 0), (.int (4) 0), (.ref 124), (.int (62) 0), (.int (4) 0), (.ref 131), (.int (65) 0), (.int (4) 0), (.ref 138), (.int (69) 0), (.int (4) 0), (.ref 143), (.int (73) 0), (.int (4) 0), (.ref 150), (.int (76) 0), (.int (4) 0), (.ref 157), (.int (79) 0), (.int (4) 0), (.ref 162), (.int (83) 0), (.int (4) 0), (.ref 170), (.int (90) 0), (.int (4) 0), (.ref 175), (.int (93) 0), (.int (4) 0), (.ref 180), (.int (96) 0), (.int (4) 0), (.ref 187), (.int (99) 0), (.int (4) 0), (.ref 194), (.int (102) 0), (.int (4) 0), (.ref 199), (.int (105) 0), (.int (4) 0), (.ref 206), (.int (108) 0), (.int (4) 0), (.ref 213), (.int (111) 0), (.int (4) 0), (.ref 220)] }
noncomputable def p_109 : Obj := { cls := (.type "code"), data := .fields #[(.str (Str.ofString "Headers") 454), (.str (Str.ofString "Headers") 455), (.str (Str.ofString "/claim/cut.py") 456), (.int (42) 0), (.int (0) 0), (.int (0) 0), (.int (0) 0), (.int (0) 0), (.ref 107), (.bool false), (.int (276) 0), (.ref 108), .none, .none, .none, .none, (.int (457) 0), (.int (42) 0), (.str (Str.ofString "/claim/cut.py") 458)] }
noncomputable def p_110 : Obj := { cls := (.type "frame"), slots := #[(some (.ref 109)), (some (.ref 3)), (some (.ref 106)), none, (some (.str (Str.ofString "cpy313.wsgiref.headers") 346)), none, (some (.ref 0))] }
noncomputable def p_114 : Obj := { cls := (.type "tuple"), data := .seq #[(.str (Str.ofString "self") 467), (.str (Str.ofString "headers") 468), (.str (Str.ofString "k") 469), (.str (Str.ofString "v") 470)] 0 }
noncomputable def p_116 : Obj := fob0 (mem 12 0) (Str.ofString "Headers.__init__")
noncomputable def p_121 : Obj := { cls := (.type "tuple"), data := .seq #[(.str (Str.ofString "self") 477), (.str (Str.ofString "value") 478), (.str (Str.ofString "name") 479), (.str (Str.ofString "regex") 480)] 0 }
noncomputable def p_123 : Obj := fob0 (mem 12 1) (Str.ofString "Headers._convert_string_type")
noncomputable def p_128 : Obj := { cls := (.type "tuple"), data := .seq #[(.str (Str.ofString "self") 487)] 0 }
noncomputable def p_130 : Obj := fob0 (mem 12 2) (Str.ofString "Headers.__len__")
noncomputable def p_135 : Obj := { cls := (.type "tuple"), data := .seq #[(.str (Str.ofString "self") 494), (.str (Str.ofString "name") 495), (.str (Str.ofString "val") 496)] 0 }
noncomputable def p_137 : Obj := fob0 (mem 12 3) (Str.ofString "Headers.__setitem__")
noncomputable def p_142 : Obj := fob0 (mem 12 4) (Str.ofString "Headers.__delitem__")
noncomputable def p_147 : Obj := { cls := (.type "tuple"), data := .seq #[(.str (Str.ofString "self") 509), (.str (Str.ofString "name") 510)] 0 }
noncomputable def p_149 : Obj := fob0 (mem 12 5) (Str.ofString "Headers.__getitem__")
noncomputable def p_154 : Obj := { cls := (.type "tuple"), data := .seq #[(.str (Str.ofString "self") 517), (.str (Str.ofString "name") 518)] 0 }
noncomputable def p_156 : Obj := fob0 (mem 12 6) (Str.ofString "Headers.__contains__")
noncomputable def p_161 : Obj := fob0 (mem 12 7) (Str.ofString "Headers.get_all")
noncomputable def p_167 : Obj := { cls := (.type "tuple"), data := .seq #[(.str (Str.ofString "self") 531), (.str (Str.ofString "name") 532), (.str (Str.ofString "default") 533), (.str (Str.ofString "k") 534), (.str (Str.ofString "v") 535)] 0 }
noncomputable def p_169 : Obj := fob0 (mem 12 8) (Str.ofString "Headers.get")
noncomputable def p_174 : Obj := fob0 (mem 12 9) (Str.ofString "Headers.keys")
noncomputable def p_179 : Obj := fob0 (mem 12 10) (Str.ofString "Headers.values")
noncomputable def p_184 : Obj := { cls := (.type "tuple"), data := .seq #[(.str (Str.ofString "self") 554)] 0 }
noncomputable def p_186 : Obj := fob0 (mem 12 11) (Str.ofString "Headers.items")
noncomputable def p_191 : Obj := { cls := (.type "tuple"), data := .seq #[(.str (Str.ofString "self") 561)] 0 }
noncomputable def p_193 : Obj := fob0 (mem 12 12) (Str.ofString "Headers.__repr__")
noncomputable def p_198 : Obj := fob0 (mem 12 13) (Str.ofString "Headers.__str__")
noncomputable def p_203 : Obj := { cls := (.type "tuple"), data := .seq #[(.str (Str.ofString "self") 574)] 0 }
noncomputable def p_205 : Obj := fob0 (mem 12 14) (Str.ofString "Headers.__bytes__")
noncomputable def p_210 : Obj := { cls := (.type "tuple"), data := .seq #[(.str (Str.ofString "self") 581), (.str (Str.ofString "name") 582), (.str (Str.ofString "value") 583)] 0 }
noncomputable def p_212 : Obj := fob0 (mem 12 15) (Str.ofString "Headers.setdefault")
noncomputable def p_217 : Obj := { cls := (.type "tuple"), data := .seq #[(.str (Str.ofString "self") 590), (.str (Str.ofString "_name") 591), (.str (Str.ofString "_value") 592), (.str (Str.ofString "_params") 593), (.str (Str.ofString "parts") 594), (.str (Str.ofString "k") 595), (.str (Str.ofString "v") 596)] 0 }
noncomputable def p_219 : Obj := fob0 (mem 12 16) (Str.ofString "Headers.add_header")
noncomputable def p_222 : Obj := { cls := (.type "tuple"), data := .seq #[(.str (Str.ofString "_headers") 600)] 0 }
noncomputable def p_225 : Obj := { cls := (.type "getset_descriptor"), data := .fields #[(.str (Str.ofString "__dict__") 602), (.ref 224), (.builtin "function.__dict__"), (.builtin "function.__dict__#set")] }
noncomputable def p_226 : Obj := { cls := (.type "getset_descriptor"), data := .fields #[(.str (Str.ofString "__weakref__") 604), (.ref 224), (.builtin "ExceptionGroup.__weakref__"), .none] }
noncomputable def p_227 : Obj := { cls := (.type "super"), data := .fields #[(.ref 224), (.ref 224), (.ref 224)] }
noncomputable def p_228 : Obj := { cls := (.type "builtin_function_or_method"), data := .fields #[(.builtin "object.__init_subclass__"), (.ref 224)] }
noncomputable def p_231 : Obj := { cls := (.type "tuple"), data := .seq #[(.str (Str.ofString "stream") 614), (.str (Str.ofString "size") 615), (.str (Str.ofString "took") 616)] 0 }
noncomputable def p_233 : Obj := fob0 (top 14) (Str.ofString "_law_take")
noncomputable def p_238 : Obj := { cls := (.type "tuple"), data := .seq #[(.str (Str.ofString "octets") 623)] 0 }
noncomputable def p_239 : Obj := { cls := (.type "tuple"), data := .seq #[(.str (Str.ofString "stream") 624)] 0 }
noncomputable def p_240 : Obj := fob0 (top 15) (Str.ofString "_law_stream")
noncomputable def p_245 : Obj := { cls := (.type "tuple"), data := .seq #[(.str (Str.ofString "text") 631), (.str (Str.ofString "octets") 632), (.str (Str.ofString "sign") 633), (.str (Str.ofString "point") 634)] 0 }
noncomputable def p_247 : Obj := fob0 (top 16) (Str.ofString "_law_utf")
noncomputable def p_252 : Obj := { cls := (.type "tuple"), data := .seq #[(.str (Str.ofString "octets") 641)] 0 }
noncomputable def p_254 : Obj := fob0 (top 17) (Str.ofString "_law_item")
noncomputable def p_259 : Obj := fob0 (top 18) (Str.ofString "_law_low")
noncomputable def p_264 : Obj := fob0 (top 19) (Str.ofString "_law_shown")
noncomputable def p_269 : Obj := fob0 (top 20) (Str.ofString "_law_read")
noncomputable def p_274 : Obj := fob0 (top 21) (Str.ofString "_law_table")
noncomputable def p_279 : Obj := { cls := (.type "tuple"), data := .seq #[(.str (Str.ofString "pairs") 672), (.str (Str.ofString "full") 673), (.str (Str.ofString "error") 674)] 0 }
noncomputable def p_281 : Obj := fob0 (top 22) (Str.ofString "_law_made")
noncomputable def p_286 : Obj := { cls := (.type "tuple"), data := .seq #[(.str (Str.ofString "table") 681)] 0 }
noncomputable def p_288 : Obj := fob0 (top 23) (Str.ofString "_law_sent")
noncomputable def p_293 : Obj := fob0 (top 24) (Str.ofString "_law_goes")
noncomputable def p_298 : Obj := fob0 (top 25) (Str.ofString "_law_key")
noncomputable def p_303 : Obj := fob0 (top 26) (Str.ofString "_law_tells")
noncomputable def p_308 : Obj := fob0 (top 27) (Str.ofString "_law_run")
noncomputable def p_313 : Obj := { cls := (.type "tuple"), data := .seq #[(.str (Str.ofString "numbers") 712), (.str (Str.ofString "pairs") 713), (.str (Str.ofString "n") 714), (.str (Str.ofString "name") 715), (.str (Str.ofString "tag") 716), (.str (Str.ofString "value") 717)] 0 }
noncomputable def p_315 : Obj := fob0 (top 28) (Str.ofString "_law_drawn")
noncomputable def p_320 : Obj := { cls := (.type "tuple"), data := .seq #[(.str (Str.ofString "script") 724), (.str (Str.ofString "numbers") 725), (.str (Str.ofString "pairs") 726), (.str (Str.ofString "x") 727), (.str (Str.ofString "at") 728), (.str (Str.ofString "sign") 729), (.str (Str.ofString "inside") 730), (.str (Str.ofString "more") 731), (.str (Str.ofString "refused") 732), (.str (Str.ofString "full") 733), (.str (Str.ofString "due") 734)] 0 }
noncomputable def p_322 : Obj := fob0 (top 29) (Str.ofString "law")
noncomputable def hs (P : Params) : List Obj := [(boot_o_0 P), (p_1 P), (p_2 P), (o3 P), (boot_o_4 P), (boot_o_5 P), (boot_o_6 P), (boot_o_7 P), (boot_o_8 P), (boot_o_9 P), (boot_o_10 P), (p_11 P), p_12, (p_13 P), p_14, p_15, p_16, p_17, p_18, p_19, (p_20 P), (p_21 P), p_22, p_23, p_24, p_25, p_26, p_27, p_15, p_29, p_30, p_31, p_15, p_33, p_34, p_15, p_36, o37, o38, p_15, p_33, p_41, p_15, p_43, o44, o45, p_15, p_33, p_48, p_15, p_50, o51, o52, p_15, p_33, p_55, p_15, p_57, o58, o59, p_15, p_61, (p_62 P), p_15, p_64, p_65, p_66, p_15, p_33, p_69, p_15, p_71, o72, o73, p_74, (o75 P), o76, p_77, p_78, p_79, p_80, p_81, (p_82 P), p_83, o84, o85, p_86, (p_82 P), p_83, o89, o90, p_91, (p_82 P), p_83, o94, o95, o96, p_15, p_33, p_99, p_15, p_101, o102, o103, p_15, p_61, (p_106 P), p_15, p_108, p_109, p_110, o111, p_15, p_33, p_114, p_15, p_116, o117, o118, p_15, p_33, p_121, p_15, p_123, o124, o125, p_15, p_33, p_128, p_15, p_130, o131, o132, p_15, p_33, p_135, p_15, p_137, o138, o139, p_15, p_33, p_142, o143, o144, p_15, p_33, p_147, p_15, p_149, o150, o151, p_15, p_33, p_154, p_15, p_156, o157, o158, p_15, p_33, p_161, o162, o163, p_83, p_15, p_33, p_167, p_15, p_169, o170, o171, p_15, p_33, p_174, o175, o176, p_15, p_33, p_179, o180, o181, p_15, p_33, p_184, p_15, p_186, o187, o188, p_15, p_33, p_191, p_15, p_193, o194, o195, p_15, p_33, p_198, o199, o200, p_15, p_33, p_203, p_15, p_205, o206, o207, p_15, p_33, p_210, p_15, p_212, o213, o214, p_15, p_33, p_217, p_15, p_219, o220, o221, p_222, (o223 P), o224, p_225, p_226, p_227, p_228, p_15, p_33, p_231, p_15, p_233, o234, o235, p_15, p_33, p_238, p_239, p_240, o241, o242, p_15, p_33, p_245, p_15, p_247, o248, o249, p_15, p_33, p_252, p_15, p_254, o255, o256, p_15, p_33, p_259, o260, o261, p_15, p_33, p_264, o265, o266, p_15, p_33, p_269, o270, o271, p_15, p_33, p_274, o275, o276, p_15, p_33, p_279, p_15, p_281, o282, o283, p_15, p_33, p_286, p_15, p_288, o289, o290, p_15, p_33, p_293, o294, o295, p_15, p_33, p_298, o299, o300, p_15, p_33, p_303, o304, o305, p_15, p_33, p_308, o309, o310, p_15, p_33, p_313, p_15, p_315, o316, o317, p_15, p_33, p_320, p_15, p_322, o323, o324]
noncomputable def p_a3 (P : Params) : Obj := { cls := (.type "dict"), data := .dict (List.toArray [en P (Str.ofString "__name__") 165 (.str (Str.ofString "__main__") 164), en P (Str.ofString "__doc__") 166 .none, en P (Str.ofString "__package__") 167 .none, en P (Str.ofString "__loader__") 168 (.builtin "__main__.__loader__#opaque"), en P (Str.ofString "__spec__") 169 .none, en P (Str.ofString "__annotations__") 170 (.ref 6), en P (Str.ofString "__builtins__") 171 (.ref 4), en P (Str.ofString "__file__") 173 (.str (Str.ofString "/claim/cut.py") 172), en P (Str.ofString "__cached__") 174 .none, en P (Str.ofString "_sre") 275 (.ref 12)]) 10 }
noncomputable def ha (P : Params) : List Obj := [(boot_o_0 P), (p_1 P), (p_2 P), (p_a3 P), (boot_o_4 P), (boot_o_5 P), (boot_o_6 P), (boot_o_7 P), (boot_o_8 P), (boot_o_9 P), (boot_o_10 P), (p_11 P), p_12, (p_13 P), p_14, p_15, p_16, p_17, p_18, p_19, (p_20 P), (p_21 P), p_22, p_23, p_24, p_25, p_26, p_27]
-- a: toks 276 life true gens 0
noncomputable def hb (P : Params) : List Obj := [(boot_o_0 P), (p_1 P), (p_2 P), (p_a3 P), (boot_o_4 P), (boot_o_5 P), (boot_o_6 P), (boot_o_7 P), (boot_o_8 P), (boot_o_9 P), (boot_o_10 P), (p_11 P), p_12, (p_13 P), p_14, p_15, p_16, p_17, p_18, p_19, (p_20 P), (p_21 P), p_22, p_23, p_24, p_25, p_26, p_27, p_15, p_33, p_30, p_31]
-- b: toks 282 life true gens 0
noncomputable def p_c3 (P : Params) : Obj := { cls := (.type "dict"), data := .dict (List.toArray [en P (Str.ofString "__name__") 165 (.str (Str.ofString "cpy313.wsgiref.headers") 346), en P (Str.ofString "__doc__") 166 .none, en P (Str.ofString "__package__") 167 .none, en P (Str.ofString "__loader__") 168 (.builtin "__main__.__loader__#opaque"), en P (Str.ofString "__spec__") 169 .none, en P (Str.ofString "__annotations__") 170 (.ref 6), en P (Str.ofString "__builtins__") 171 (.ref 4), en P (Str.ofString "__file__") 173 (.str (Str.ofString "/claim/cut.py") 172), en P (Str.ofString "__cached__") 174 .none, en P (Str.ofString "_sre") 275 (.ref 12), en P (Str.ofString "_wall") 288 (.ref 38), en P (Str.ofString "read_uint1") 298 (.ref 45), en P (Str.ofString "read_string1") 307 (.ref 52), en P (Str.ofString "read_unicodestring1") 316 (.ref 59), en P (Str.ofString "_Example") 345 (.ref 76), en P (Str.ofString "tspecials") 381 (.ref 85), en P (Str.ofString "_name_disallowed_re") 407 (.ref 90), en P (Str.ofString "_value_disallowed_re") 441 (.ref 95), en P (Str.ofString "_formatparam") 451 (.ref 103)]) 19 }
noncomputable def p_c29 : Obj := { cls := .none, data := .fields #[(.int (2) 0), (.int (0) 0), (.ref 37), (.int (6) 0), (.int (0) 0), (.ref 44), (.int (11) 0), (.int (0) 0), (.ref 51), (.int (18) 0), (.int (0) 0), (.ref 58), (.int (25) 0), (.int (0) 0), (.ref 65), (.int (33) 0), (.int (0) 0), (.ref 102)] }
noncomputable def hc (P : Params) : List Obj := (((hs P).take 104).set 3 (p_c3 P)).set 29 p_c29
-- c: toks 452 life true gens 0
noncomputable def p_d3 (P : Params) : Obj := { cls := (.type "dict"), data := .dict (List.toArray [en P (Str.ofString "__name__") 165 (.str (Str.ofString "law_nb0231_01") 609), en P (Str.ofString "__doc__") 166 .none, en P (Str.ofString "__package__") 167 .none, en P (Str.ofString "__loader__") 168 (.builtin "__main__.__loader__#opaque"), en P (Str.ofString "__spec__") 169 .none, en P (Str.ofString "__annotations__") 170 (.ref 6), en P (Str.ofString "__builtins__") 171 (.ref 4), en P (Str.ofString "__file__") 173 (.str (Str.ofString "/claim/cut.py") 172), en P (Str.ofString "__cached__") 174 .none, en P (Str.ofString "_sre") 275 (.ref 12), en P (Str.ofString "_wall") 288 (.ref 38), en P (Str.ofString "read_uint1") 298 (.ref 45), en P (Str.ofString "read_string1") 307 (.ref 52), en P (Str.ofString "read_unicodestring1") 316 (.ref 59), en P (Str.ofString "_Example") 345 (.ref 76), en P (Str.ofString "tspecials") 381 (.ref 85), en P (Str.ofString "_name_disallowed_re") 407 (.ref 90), en P (Str.ofString "_value_disallowed_re") 441 (.ref 95), en P (Str.ofString "_formatparam") 451 (.ref 103), en P (Str.ofString "Headers") 608 (.ref 224)]) 20 }
noncomputable def p_d29 : Obj := { cls := .none, data := .fields #[(.int (2) 0), (.int (0) 0), (.ref 37), (.int (6) 0), (.int (0) 0), (.ref 44), (.int (11) 0), (.int (0) 0), (.ref 51), (.int (18) 0), (.int (0) 0), (.ref 58), (.int (25) 0), (.int (0) 0), (.ref 65), (.int (33) 0), (.int (0) 0), (.ref 102), (.int (42) 0), (.int (0) 0), (.ref 109)] }
noncomputable def hd (P : Params) : List Obj := (((hs P).take 229).set 3 (p_d3 P)).set 29 p_d29
-- d: toks 611 life true gens 0
-- fin toks 738 life same true default true
-- pre steps 12 pos ⟨0, 0, 0, 0⟩; block steps 0 pos ⟨0, 0, 0, 0⟩; frame 31 framePos ⟨0, 0, 0, 0⟩; fin steps 1
-- piece 0 steps 29 pos ⟨2, 0, 4, 12⟩ toks 289
-- piece 1 steps 9 pos ⟨5, 0, 5, 8⟩ toks 291
-- piece 2 steps 30 pos ⟨6, 0, 10, 63⟩ toks 299
-- piece 3 steps 31 pos ⟨11, 0, 17, 91⟩ toks 308
-- piece 4 steps 31 pos ⟨18, 0, 24, 98⟩ toks 317
-- piece 5 steps 222 pos ⟨25, 0, 28, 26⟩ toks 346
-- piece 6 steps 9 pos ⟨29, 0, 29, 8⟩ toks 348
-- piece 7 steps 77 pos ⟨30, 0, 30, 9⟩ toks 382
-- piece 8 steps 69 pos ⟨31, 0, 31, 19⟩ toks 408
-- piece 9 steps 77 pos ⟨32, 0, 32, 20⟩ toks 442
-- piece 10 steps 33 pos ⟨33, 0, 41, 20⟩ toks 452
-- piece 11 steps 726 pos ⟨42, 0, 123, 93⟩ toks 609
-- piece 12 steps 9 pos ⟨124, 0, 124, 8⟩ toks 611
-- piece 13 steps 31 pos ⟨125, 0, 128, 15⟩ toks 620
-- piece 14 steps 30 pos ⟨129, 0, 132, 17⟩ toks 628
-- piece 15 steps 32 pos ⟨133, 0, 145, 17⟩ toks 638
-- piece 16 steps 29 pos ⟨146, 0, 147, 40⟩ toks 645
-- piece 17 steps 26 pos ⟨148, 0, 149, 60⟩ toks 651
-- piece 18 steps 26 pos ⟨150, 0, 151, 90⟩ toks 657
-- piece 19 steps 26 pos ⟨152, 0, 156, 70⟩ toks 663
-- piece 20 steps 26 pos ⟨157, 0, 159, 43⟩ toks 669
-- piece 21 steps 31 pos ⟨160, 0, 164, 25⟩ toks 678
-- piece 22 steps 29 pos ⟨165, 0, 169, 19⟩ toks 685
-- piece 23 steps 26 pos ⟨170, 0, 175, 104⟩ toks 691
-- piece 24 steps 26 pos ⟨176, 0, 178, 60⟩ toks 697
-- piece 25 steps 26 pos ⟨179, 0, 184, 15⟩ toks 703
-- piece 26 steps 26 pos ⟨185, 0, 201, 84⟩ toks 709
-- piece 27 steps 34 pos ⟨202, 0, 209, 16⟩ toks 721
-- piece 28 steps 39 pos ⟨210, 0, 222, 15⟩ toks 738
set_option maxHeartbeats 0
noncomputable def o237 : Obj := { cls := .none, data := .fields #[] }
noncomputable def KH (P : Params) : Frag := (237, o237) :: KF P
noncomputable def headView : Program := { P0 with main := { P0.main with body := [top 0, top 29] } }
noncomputable abbrev headHook : Hook := kHook KH (237 :: kAs) (fun _ => rfl)
noncomputable def halves : List Obj → List Obj × List Obj
  | [] => ([], [])
  | x :: r => (x :: (halves r).2, (halves r).1)
noncomputable def build : Nat → List Obj → BT
  | 0, _ => .nil
  | _ + 1, [] => .nil
  | n + 1, v :: r => .node v (build n (halves r).1) (build n (halves r).2)
theorem halves_get : ∀ (l : List Obj) (i : Nat), (halves l).1[i]? = l[2 * i]? ∧ (halves l).2[i]? = l[2 * i + 1]?
  | [], i => by simp [halves]
  | x :: r, i => by
    have ih := halves_get r
    refine ⟨?_, ?_⟩
    · cases i with
      | zero => rfl
      | succ i => exact (ih i).2
    · exact (ih i).1
theorem halves_len (l : List Obj) : (halves l).1.length ≤ l.length ∧ (halves l).2.length ≤ l.length := by
  induction l with
  | nil => exact ⟨Nat.le_refl _, Nat.le_refl _⟩
  | cons x r ih => exact ⟨Nat.succ_le_succ ih.2, Nat.le_succ_of_le ih.1⟩
theorem build_get : ∀ (n : Nat) (l : List Obj), l.length ≤ n → ∀ i, (build n l).get i = l[i]?
  | 0, l, h, i => by
    obtain rfl : l = [] := List.eq_nil_of_length_eq_zero (Nat.le_zero.mp h)
    rfl
  | n + 1, [], _, i => rfl
  | n + 1, v :: r, h, i => by
    have h := Nat.le_of_succ_le_succ h
    unfold build
    rw [BT.get_node, build_get n _ (Nat.le_trans (halves_len r).1 h), build_get n _ (Nat.le_trans (halves_len r).2 h), (halves_get r _).1, (halves_get r _).2]
    cases i with
    | zero => rfl
    | succ i =>
      rw [if_neg (Nat.succ_ne_zero i), List.getElem?_cons_succ]
      have q := Nat.div_add_mod (i + 1) 2
      by_cases e : (i + 1) % 2 = 1
      · rw [e] at q
        rw [if_pos e, show 2 * ((i + 1) / 2) = i from Nat.succ.inj q]
      · rw [(Nat.mod_two_eq_zero_or_one _).resolve_right e, Nat.add_zero] at q
        rw [if_neg e]
        revert q
        cases (i + 1) / 2 with
        | zero => exact fun q => nomatch q
        | succ d => exact fun q => congrArg (r[·]?) (Nat.succ.inj q)
/-- a state with its heap as a tree -/
noncomputable def toT (s : Shared) : SharedT := ⟨build s.heap.objs.toList.length s.heap.objs.toList, s.heap.objs.toList.length, s.heap.life, s.gens, s.drawn, s.toks, s.os⟩
theorem toT_abs (s : Shared) : (toT s).abs = s := by
  obtain ⟨⟨⟨l⟩, life⟩, g, d, k, os⟩ := s
  show (⟨⟨((List.range l.length).map fun i => ((build l.length l).get i).getD default).toArray, life⟩, g, d, k, os⟩ : Shared) = _
  have : ((List.range l.length).map fun i => ((build l.length l).get i).getD default) = l := by
    apply List.ext_getElem?
    intro i
    rw [List.getElem?_map]
    by_cases h : i < l.length
    · rw [List.getElem?_range h]
      show some (((build l.length l).get i).getD default) = _
      rw [build_get _ _ (Nat.le_refl _), List.getElem?_eq_getElem h]
      rfl
    · rw [List.getElem?_eq_none (Nat.le_of_not_lt (by rwa [List.length_range])), List.getElem?_eq_none (Nat.le_of_not_lt h)]
      rfl
  rw [this]
noncomputable def startT (p : Program) : SharedT := ⟨.nil, 0, (start p).1.heap.life, (start p).1.gens, (start p).1.drawn, (start p).1.toks, (start p).1.os⟩
noncomputable def sh (l : List Obj) (k : Nat) (os : OsState) : Shared := ⟨⟨l.toArray, {}⟩, #[], {}, k, os⟩
noncomputable def env0 : Env := { scope := P0.main.scope, locals := mainNs, globals := mainNs, cells := [], code := .ref 30, frame := some 31 }
noncomputable def body0 : List Stmt := behindTheImports P0
noncomputable def cd0 : Code := .body body0 env0
noncomputable def z0 : Pos := ⟨0, 0, 0, 0⟩
noncomputable def ann0 : Option Value := some (.ref 6)
noncomputable def l1 : List Stmt := body0.take 11
noncomputable def l2 : List Stmt := (body0.drop 11).take 2
noncomputable def l3 : List Stmt := body0.drop 13
theorem body_cut : body0 = l1 ++ (l2 ++ (l3 ++ [])) := by
  show body0 = body0.take 11 ++ ((body0.drop 11).take 2 ++ (body0.drop 13 ++ []))
  rw [List.append_nil, show body0.drop 13 = (body0.drop 11).drop 2 from by rw [List.drop_drop], List.take_append_drop, List.take_append_drop]
theorem run_open (w : World) : ((impGoT treeTable (opening P0) w 798 (startT (opening P0)) (start (opening P0)).2).bind fun r => match r.2.atExitBegin with
    | some [] => (fenceModules? P0 r.1.abs).map fun s => (s.heap, s.gens, s.drawn, s.toks)
    | _ => none) = some (⟨(ha w.params).toArray, {}⟩, #[], {}, 276) := by kernel_rfl
theorem opened (w : World) : (fencedOpening treeTable P0 w 3756).map (fun s => (s.heap, s.gens, s.drawn, s.toks)) = some (⟨(ha w.params).toArray, {}⟩, #[], {}, 276) := by
  obtain ⟨⟨s, t⟩, e, h⟩ := Option.bind_eq_some_iff.mp (run_open w)
  dsimp only at h
  cases ht : t.atExitBegin with
  | none => rw [ht] at h; cases h
  | some l =>
    rw [ht] at h
    cases l with
    | cons a l => cases h
    | nil =>
      have m : importEnds treeTable (opening P0) w 1 s.abs t = some s.abs := by unfold importEnds; rw [ht]
      have m := importEnds_mono 2957 _ _ _ _ (imp_go (impGo_of e) m)
      unfold fencedOpening
      rw [show (start (opening P0)).1 = (startT (opening P0)).abs from rfl, show importEnds treeTable (opening P0) w 3756 (startT (opening P0)).abs (start (opening P0)).2 = some s.abs from m]
      exact h
theorem sized (w : World) : (((⟨(ha w.params).toArray, {}⟩ : Heap).isNs mainGlobals && (#[] : Array GenState).size == 0), (⟨(ha w.params).toArray, {}⟩ : Heap).objs.size, (⟨(ha w.params).toArray, {}⟩ : Heap).nsMap mainGlobals "__annotations__") = (true, 28, ann0) := by kernel_rfl
theorem run_pre (w : World) (os : OsState) : topGo treeTable P0 w 28 ann0 12 (sh (ha w.params) 276 os) (topStub P0) = some (sh (hb w.params) 282 os, ⟨denote treeTable cd0, cd0, z0, [topFrame z0]⟩) := by kernel_rfl
theorem run_blk (w : World) (os : OsState) : segRun treeTable P0 w 28 ann0 1 1 (sh (hb w.params) 282 os) (blockOf body0 env0 cd0 z0 [topFrame z0]) = some (.next, sh (hb w.params) 282 os, cd0, z0) := by kernel_rfl
theorem run_1 (w : World) (os : OsState) : segRunT treeTable P0 w 28 ann0 1 618 (toT (sh (hb w.params) 282 os)) (piecesOf l1 env0 cd0 z0 [topFrame z0]) = some (.next, toT (sh (hc w.params) 452 os), cd0, ⟨33, 0, 41, 20⟩) := by kernel_rfl
theorem run_2 (w : World) (os : OsState) : segRunT treeTable P0 w 28 ann0 1 736 (toT (sh (hc w.params) 452 os)) (piecesOf l2 env0 cd0 ⟨33, 0, 41, 20⟩ [topFrame z0]) = some (.next, toT (sh (hd w.params) 611 os), cd0, ⟨124, 0, 124, 8⟩) := by kernel_rfl
theorem run_3 (w : World) (os : OsState) : segRunT treeTable P0 w 28 ann0 1 464 (toT (sh (hd w.params) 611 os)) (piecesOf l3 env0 cd0 ⟨124, 0, 124, 8⟩ [topFrame z0]) = some (.next, toT (sh (hs w.params) 738 os), cd0, ⟨210, 0, 222, 15⟩) := by kernel_rfl
theorem run_fin (w : World) (os : OsState) : topRun treeTable P0 w 28 ann0 2 (sh (hs w.params) 738 os) ⟨doneF .next, cd0, ⟨210, 0, 222, 15⟩, [topFrame z0]⟩ = some (sh (hs w.params) 738 os) := by kernel_rfl
theorem seg_abs {w : World} {n : Nat} {a b : Shared} {t : Thread} {f : Flow} {c : Code} {q : Pos} (h : segRunT treeTable P0 w 28 ann0 1 n (toT a) t = some (f, toT b, c, q)) : segRun treeTable P0 w 28 ann0 1 n a t = some (f, b, c, q) := by
  have h := segRun_of h
  rwa [toT_abs, toT_abs] at h
theorem run_all (w : World) (os : OsState) : topRun treeTable P0 w 28 ann0 (12 + (1 + (618 + (736 + (464 + 2))))) (sh (ha w.params) 276 os) (topStub P0) = some (sh (hs w.params) 738 os) := by
  refine go_top (run_pre w os) (piece_block (run_blk w os) ?_)
  rw [body_cut]
  exact piece_app (seg_abs (run_1 w os)) (piece_app (seg_abs (run_2 w os)) (piece_app (seg_abs (run_3 w os)) (piece_nil (run_fin w os))))
theorem look_1 (w : World) (os : OsState) : (staticsOk (importedModules P0.main.body) ⟨(ha w.params).toArray, {}⟩ ⟨(hs w.params).toArray, {}⟩ && namesBound P0 ⟨(hs w.params).toArray, {}⟩ && gensDone ⟨⟨(hs w.params).toArray, {}⟩, #[], {}, 738, os⟩ && laidKept ⟨(ha w.params).toArray, {}⟩ ⟨(hs w.params).toArray, {}⟩) = true := by kernel_rfl
theorem look_2 (w : World) (os : OsState) : openSeen headView looseN (importedModules P0.main.body) (fun s => xlAt headView [] s && recOk [] s) true ⟨⟨(hs w.params).toArray, {}⟩, #[], {}, 738, os⟩ = openGood headView looseN := by kernel_rfl
theorem look_3 (w : World) (os : OsState) : Hook.obs headHook ⟨⟨(hs w.params).toArray, {}⟩, #[], {}, 738, os⟩ = Hook.val headHook w := by kernel_rfl
theorem headLeft : LeftO P0 headView looseN (fun s => xlAt headView [] s && recOk [] s) (Hook.obs headHook) (Hook.val headHook) 3756 :=
  LeftO.of_pieces (H₀ := fun P => ⟨(ha P).toArray, {}⟩) (H₁ := fun P => ⟨(hs P).toArray, {}⟩) (gs₀ := #[]) (gs₁ := #[]) (d₀ := {}) (d₁ := {}) (k₀ := 276) (k₁ := 738) (m₀ := 28) (ann := ann0) (M := 12 + (1 + (618 + (736 + (464 + 2))))) opened sized run_all (by rfl) fun w => funext fun os => Prod.ext (look_1 w os) (Prod.ext (look_2 w os) (look_3 w os))
set_option maxHeartbeats 0
theorem two {a b : Bool} (x : a = true) (y : b = true) : (a && b) = true := by rw [x, y]; rfl
theorem said : PySem.Challenge.rw_nb0231_01.wellSaid = true := by
  unfold OpenLaw.wellSaid OpenRow.wellSaid OpenRow.partSaid looksOpen
  repeat' with_reducible refine two ?_ ?_
  all_goals decide +kernel
abbrev row0 : OpenRow := PySem.Challenge.rw_nb0231_01.row
theorem headOk : (chainsOk headView && opensWell row0.prog && (frees row0.toRowW && row0.within.isEmpty)) = true := by kernel_rfl
theorem headOf (d : DefRec) (kwd : List (Str × PySem.Expr)) (hdef : defOf headView row0.name = some (d, kwd)) (hp : row0.prog.theDef row0.name = some (d.params, d.body, d.scope)) (hk : kwWritten? d.params.kwonlyargs d.params.kw_defaults = some kwd)
    (hw : row0.toRowW.promised)
    (call : WalkO headView looseN (XL headView []) (Hook.says headHook) row0.toRowW d kwd fun f vs => PySem.call f vs) : PySem.Challenge.rw_nb0231_01.Holds :=
  holds_law said fun s => holds_open (r := row0) (q := headView) (loose := looseN) (Xt := fun s => xlAt headView [] s && recOk [] s) (XP := XL headView []) (Yf := Hook.obs headHook) (Ya := Hook.val headHook) (YP := Hook.says headHook) (N := 3756)
    headLeft (Hook.of headHook) (Hook.keeps headHook) (fun s e => xl_of s (Bool.and_eq_true_iff.mp e).1) XL.keeps hdef hp hk (fun s e => recFacts_of (Bool.and_eq_true_iff.mp e).2) rfl s headOk ⟨rfl, rfl, rfl, rfl, rfl, by decide +kernel⟩ hw call
set_option maxHeartbeats 200000
/-- what the top has left, as far as the law's call needs it -/
structure Gd (w : World) (g : Heap) : Prop where
  k : (KF w.params).In g
  gl : ∃ mg, g.Ns mainGlobals mg
  bl : ∃ mb, g.Ns builtinsNs mb ∧ ∀ x : Str, x ≠ "__name__" → mb x = bootBuiltins x
  lim : g.NoLimit
  dig : ∃ mc, g.Ns cStatics mc ∧ mc "sys.int_max_str_digits" = none
  bm : ∃ ob, g.get? 4 = some ob ∧ ob.cls = .type "module" ∧ ob.dict = some builtinsNs ∧ ob.data = .plain
theorem Gd.up {w : World} {g g' : Heap} (G : Gd w g) (k : g.StaysIn g') : Gd w g' where
  k := G.k.keeps k
  gl := let ⟨mg, h⟩ := G.gl; ⟨mg, h.keeps k⟩
  bl := let ⟨mb, h, q⟩ := G.bl; ⟨mb, h.keeps k, q⟩
  lim := G.lim.keeps k
  dig := let ⟨mc, h, q⟩ := G.dig; ⟨mc, h.keeps k, q⟩
  bm := let ⟨ob, h, q⟩ := G.bm; ⟨ob, k _ _ h, q⟩

/-- room for n calls more -/
structure Rm (A : Around) (n : Nat) : Prop where
  hd : A.handled = none
  dep : A.depth + n < 900
  un : A.units + 16 * n < 9000
theorem Rm.lt {A : Around} {n : Nat} (R : Rm A n) : A.depth < recursionLimit := by have := R.dep; show A.depth < 1000; omega
theorem Rm.cl {A : Around} {n : Nat} (R : Rm A n) : A.units + 64 < cLine := by have := R.un; show A.units + 64 < 9900; omega
theorem Rm.deeper {A : Around} {n : Nat} {env : Env} (R : Rm A (n + 1)) : Rm (A.deeper env) n :=
  ⟨R.hd, by have := R.dep; show A.depth + 1 + n < 900; omega, by have := R.un; show A.units + 3 + 16 * n < 9000; omega⟩
theorem Rm.le {A : Around} {n k : Nat} (R : Rm A n) (h : k ≤ n := by decide) : Rm A k := ⟨R.hd, by have := R.dep; omega, by have := R.un; omega⟩
theorem Rm.in1 {A : Around} {n : Nat} (R : Rm A (n + 1)) : Rm A.in1 n := ⟨R.hd, by have := R.dep; show A.depth + n < 900; omega, by have := R.un; show A.units + 1 + 16 * n < 9000; omega⟩

section
variable {w : World} {A : Around} {E : Value → Shared → Prop} {s : Shared} {b g₀ g : Heap} {env : Env} {m : Str → Option Value} {mu : List (Addr × Obj)} {ks : List At} {x : Str} {pos : Pos} {v : Value}

theorem Cx.gdh (C : Cx b g₀ env.locals m mu ks g s.heap) (G : Gd w g₀) : Gd w s.heap := (G.up C.gg).up C.gk

theorem nm_local {M : Model} {Q : Value → Shared → Prop} (C : Cx b g₀ env.locals m mu ks g s.heap) (hv : m x = some v) (h : Q v s)
    (hk : env.scope.kind = .function := by rfl) (hl : env.kindOf x = some .local := by rfl) (hd : (x == ("__debug__" : Str)) = false := by decide) :
    wpAny M A (eval (.Name x pos) env) Q E s := wpAny_Name (wpAny_loadName_local hk hl C.ns hv h) hd
theorem nm_glob {Q : Value → Shared → Prop} (C : Cx b g₀ env.locals m mu ks g s.heap) (G : Gd w g₀) (e : nsIn (KF w.params) mainGlobals x = some (some v)) (h : Q v s)
    (hk : env.scope.kind = .function := by rfl) (hl : env.kindOf x = some .globalImplicit := by rfl) (hg : env.globals = mainGlobals := by rfl) (hd : (x == ("__debug__" : Str)) = false := by decide) :
    wpAny (model P0 w) A (eval (.Name x pos) env) Q E s := by
  have G' := C.gdh G
  obtain ⟨mg, hmg⟩ := G'.gl
  exact Name_function_global hk hl (loadGlobal_global (by rw [hg]; exact hmg) (mg_of G'.k hmg e) h) hd
theorem nm_boot {Q : Value → Shared → Prop} (C : Cx b g₀ env.locals m mu ks g s.heap) (G : Gd w g₀) (e : nsIn (KF w.params) mainGlobals x = some none) (hv : bootBuiltins x = some v) (hn : x ≠ "__name__") (h : Q v s)
    (hk : env.scope.kind = .function := by rfl) (hl : env.kindOf x = some .globalImplicit := by rfl) (hg : env.globals = mainGlobals := by rfl) (hb : env.builtins = builtinsNs := by rfl) (hd : (x == ("__debug__" : Str)) = false := by decide) :
    wpAny (model P0 w) A (eval (.Name x pos) env) Q E s := by
  have G' := C.gdh G
  obtain ⟨mg, hmg⟩ := G'.gl
  obtain ⟨mb, hmb, q⟩ := G'.bl
  exact Name_function_global hk hl (loadGlobal_builtin (by rw [hg]; exact hmg) (mg_none_of G'.k hmg e) (by rw [hb]; exact hmb) ((q x hn).trans hv) h) hd

theorem st_local {M : Model} {Q : Unit → Shared → Prop} (C : Cx b g₀ env.locals m mu ks g s.heap)
    (h : ∀ h', Cx b g₀ env.locals (fun y => if y = x then some v else m y) mu ks g h' → Q () { s with heap := h', toks := s.toks + 1 })
    (hk : env.scope.kind = .function := by rfl) (hl : env.kindOf x = some .local := by rfl) :
    wpAny M A (storeName env x v) Q E s :=
  wpAny_storeName_local hl C.ns (fun h' hn hs => h h' (C.set hn hs)) (by rw [hk]; rfl)
theorem st_cell {M : Model} {Q : Unit → Shared → Prop} {c : Addr} {o : Obj} {v₀ : Option Value} {mu' : Obj → List (Addr × Obj)} (C : Cx b g₀ env.locals m mu ks g s.heap) (hc : env.cells.lookup x = some c) (u : ∀ o', Up c o o' mu (mu' o')) (ho : o.data = .cell v₀)
    (h : ∀ h' o', o'.data = .cell (some v) → Cx b g₀ env.locals m (mu' o') ks g h' → Q () { s with heap := h' })
    (hk : env.scope.kind = .function := by rfl) (hl : env.kindOf x = some .cell := by rfl) :
    wpAny M A (storeName env x v) Q E s := by
  refine wpAny_storeName_cell hk hl hc ⟨o, C.at (u o).mem, ho⟩ fun h' hv hs => ?_
  obtain ⟨o', ho', hd'⟩ := hv
  exact h h' o' hd' (C.upd (u o') hs ho')
end

section
variable {w : World} {A : Around} {E : Value → Shared → Prop} {s : Shared} {g : Heap} {Q : Value → Shared → Prop}
  {name qual : Str} {params : Arguments} {body : List Stmt} {scope : Scope} {dV kV doc pm cdv ct : Value} {an : Option Addr} {fo : Obj} {f : Addr} {pos : List Value} {kw : List (Str × Value)} {binds : List (Str × Value)}

/-- a call of a def of the text -/
theorem call_fn (mu : List (Addr × Obj)) (ks : List At) (G : Gd w g) (gs : g.StaysIn s.heap) (hroom : A.depth < recursionLimit) (hf : g.get? f = some fo)
    (hd : fo.data = .func (fnX name qual params body scope [] dV kV doc pm an cdv ct)) (hcd : g.CodeRec cdv qual)
    (hbind : BindsTo s (fnX name qual params body scope [] dV kV doc pm an cdv ct) ⟨pos, kw⟩ binds) (hloc : ∀ y ∈ binds, scope.names.lookup y.1 = some .local)
    (hmu : ∀ p ∈ mu, s.heap.get? p.1 = some p.2 ∧ g.get? p.1 = none) (hnd : (mu.map (·.1)).Nodup) (hks : ∀ x ∈ ks, x.on g)
    (h : ∀ h₁ tk, Cx (hideAll s.heap (mu.map (·.1))) g s.heap.objs.size (fun y => binds.reverse.lookup y) mu ks g h₁ →
      wpAny (model P0 w) (A.deeper (envX qual scope s.heap.objs.size f cdv [])) (execs body (envX qual scope s.heap.objs.size f cdv []))
        (fun fl s' => Q (match fl with | .ret v => v | _ => .none) s')
        (fun e s' => wpAny (model P0 w) (A.deeper (envX qual scope s.heap.objs.size f cdv [])) (leaving (envX qual scope s.heap.objs.size f cdv []) e) (fun _ s'' => E e s'') (fun e' s'' => E e' s'') s')
        { s with heap := h₁, toks := tk })
    (hcell : ∀ x ∈ scope.names, x.2 ≠ .cell) (hco : scope.isCoroutine = false := by rfl) (hgen : scope.isGenerator = false := by rfl) (hk : scope.kind = .function := by rfl) :
    wpAny (model P0 w) A (call (.ref f) pos kw) Q E s := by
  refine wpAny_call (codeAny_call_def (fd := fnX name qual params body scope [] dV kV doc pm an cdv ct) (body := body) (binds := binds) hroom (gs _ _ hf) hd (G.lim.keeps gs) (hcd.keeps gs) rfl hbind hcell hloc (fun h₁ hns hk₁ => ?_) hco hgen hk)
  refine h h₁ _ ⟨hns, fun a o e => hk₁ a o (of_hideAll _ e), Nat.le_of_eq (hideAll_size _ _), fun a o e => hk₁ a o (gs a o e), fun _ _ e => e, fun a o e => .inl e, fun o e => ?_, fun p hp => ?_, hnd, hks⟩
  · exact absurd (Heap.lt_size (gs _ _ e)) (Nat.lt_irrefl _)
  · exact ⟨hk₁ _ _ (hmu p hp).1, hideAll_none _ (List.mem_map_of_mem hp), (hmu p hp).2, Nat.ne_of_lt (Heap.lt_size (hmu p hp).1)⟩
end
set_option maxHeartbeats 200000
theorem noRaise {α : Type} {M : Model} {A : Around} {E : Value → Shared → Prop} {s : Shared} {t : Sem α} {Q : α → Shared → Prop} (h : wpAny M A t Q (fun _ _ => False) s) : wpAny M A t Q E s := wpAny_mono h (fun _ _ x => x) fun _ _ x => x.elim

/-- nothing is let go at this loop's turns -/
noncomputable def NoLet (w : World) (A : Around) (target : Expr) (I : Addr) (St : Nat → Heap → Prop) : Prop :=
  ∀ (i : Nat) (v : Value) (s' : Shared) (Q' : Unit → Shared → Prop), St i s'.heap → Q' () s' → wpAny (model P0 w) A (letOwnedTupleGo target (.ref I) v) Q' (fun _ _ => False) s'
theorem NoLet.name {w : World} {A : Around} {x : Str} {p : Pos} {I : Addr} {St : Nat → Heap → Prop} : NoLet w A (.Name x p) I St := fun _ _ _ _ _ h => wpAny_pure h

section
variable {w : World} {A : Around} {E : Value → Shared → Prop} {s : Shared} {b g₀ g : Heap} {env : Env} {m : Str → Option Value} {mu : List (Addr × Obj)} {ks : List At}
/-- a for over any iterator that walks, no turn of it raising -/
theorem for_walk {target : Expr} {body : List Stmt} {I : Addr} {oI : Obj} {fp : List Addr} {n : Nat} {P : Nat → Value → Prop} {St : Nat → Heap → Prop} {Q : Flow → Shared → Prop} {X : Value → Shared → Prop}
    (C : Cx b g₀ env.locals m ((I, oI) :: mu) ks g s.heap) (W : Walks P0 w A I fp [I] n P St) (hst : St 0 s.heap) (hSI : ∀ i h, St i h → ∃ o, h.get? I = some o) (hfp : ∀ a ∈ fp, a = I ∨ ∃ o, g.get? a = some o) (ht : NoLet w A target I St)
    (J : Nat → (Str → Option Value) → List (Addr × Obj) → List At → Prop) (h0 : J 0 m mu ks)
    (step : ∀ i v m₁ mu₁ ks₁ g₁ h₁ tk₁ o₁, i < n → P i v → J i m₁ mu₁ ks₁ → g.StaysIn g₁ → Cx b g₀ env.locals m₁ ((I, o₁) :: mu₁) ks₁ g₁ h₁ →
      wpAny (model P0 w) A (assign target env v) (fun _ s₂ => wpAny (model P0 w) A (execs body env) (fun fl s₃ =>
        (fl = .next ∧ ∃ m₂ mu₂ ks₂ g₂, Cx b g₀ env.locals m₂ ((I, o₁) :: mu₂) ks₂ g₂ s₃.heap ∧ g.StaysIn g₂ ∧ J (i + 1) m₂ mu₂ ks₂ ∧ ∃ h tk, s₃ = { s with heap := h, toks := tk }) ∨ (∃ r, fl = .ret r ∧ Q (.ret r) s₃)) (fun _ _ => False) s₂) (fun _ _ => False)
        { s with heap := h₁, toks := tk₁ })
    (done : ∀ m₁ mu₁ ks₁ g₁ h₁ tk₁, J n m₁ mu₁ ks₁ → g.StaysIn g₁ → Cx b g₀ env.locals m₁ mu₁ ks₁ g₁ h₁ → Q .next { s with heap := h₁, toks := tk₁ }) :
    codeAny (model P0 w) A (.forLoop target (.ref I) body [] env) (fun r s' => match r with | .ok f => Q f s' | .error e => X e s') s := by
  refine codeAny_forLoop_any
    (fun k s' => ∃ i m₁ mu₁ ks₁ g₁ o₁, i ≤ n ∧ k = n + 1 - i ∧ J i m₁ mu₁ ks₁ ∧ g.StaysIn g₁ ∧ Cx b g₀ env.locals m₁ ((I, o₁) :: mu₁) ks₁ g₁ s'.heap ∧ St i s'.heap ∧ ∃ h tk, s' = { s with heap := h, toks := tk }) ?_ (n + 1)
    ⟨0, m, mu, ks, g, oI, Nat.zero_le _, rfl, h0, fun _ _ e => e, C, hst, s.heap, s.toks, rfl⟩
  rintro k s' ⟨i, m₁, mu₁, ks₁, g₁, o₁, hi, rfl, hJ, hg, C₁, hst₁, h, tk, rfl⟩
  have keepSt : ∀ {j : Nat} {h₁ h₂ : Heap}, St j h₁ → (∀ o, h₁.get? I = some o → h₂.get? I = some o) → (∀ a o, g.get? a = some o → h₁.get? a = some o) → (∀ a o, g.get? a = some o → h₂.get? a = some o) → St j h₂ := fun hs e1 e3 e2 =>
    W.frame _ _ _ hs fun a ha o e => by
      rcases hfp a ha with rfl | ⟨o', q⟩
      · exact e1 o e
      · have z := e3 a o' q
        rw [e] at z; cases z
        exact e2 a o q
  have pin : ∀ {h' : Heap}, (∀ a o, a ∉ [I] → h.get? a = some o → h'.get? a = some o) → ∀ oI', h'.get? I = some oI' → Cx b g₀ env.locals m₁ ((I, oI') :: mu₁) ks₁ g₁ h' := fun hk oI' e =>
    { ns := C₁.ns.at' fun o q => hk _ _ (by simp; exact Ne.symm (C₁.mt _ (.head _)).2.2.2) q
      bk := fun a o q => hk a o (by simp; rintro rfl; rw [(C₁.mt _ (.head _)).2.1] at q; cases q) (C₁.bk a o q)
      bL := C₁.bL
      gk := fun a o q => hk a o (by simp; rintro rfl; rw [(C₁.mt _ (.head _)).2.2.1] at q; cases q) (C₁.gk a o q)
      gg := C₁.gg
      gn := C₁.gn
      g0 := C₁.g0
      mt := fun p hp => by
        rcases List.mem_cons.mp hp with rfl | hp
        · exact ⟨e, (C₁.mt (I, o₁) (.head _)).2⟩
        · have z := C₁.mt p (.tail _ hp)
          refine ⟨hk _ _ ?_ z.1, z.2⟩
          simp
          intro q
          have nd := C₁.nd
          rw [List.map_cons, List.nodup_cons] at nd
          exact nd.1 (q ▸ List.mem_map.mpr ⟨p, hp, rfl⟩)
      nd := C₁.nd
      kn := C₁.kn }
  rcases Nat.lt_or_eq_of_le hi with hlt | heq
  · refine W.item i _ _ _ hlt hst₁ fun v h₂ tk₂ hP hst₂ hk => ?_
    obtain ⟨o₂, ho₂⟩ := hSI _ _ hst₂
    have C₂ := pin hk o₂ ho₂
    refine noRaise (ht (i + 1) v _ _ hst₂ ?_)
    refine noRaise (wpAny_mono (step i v m₁ mu₁ ks₁ g₁ h₂ tk₂ o₂ hlt hP hJ hg C₂) (fun _ s₂ h₃ => noRaise (wpAny_mono h₃ (fun fl s₃ h₄ => ?_) fun _ _ x => x)) fun _ _ x => x)
    rcases h₄ with ⟨rfl, m₂, mu₂, ks₂, g₂, C₃, hg₂, hJ₂, e⟩ | ⟨r, rfl, hq⟩
    · refine ⟨n + 1 - (i + 1), Nat.sub_lt_sub_left (Nat.lt_succ_of_lt hlt) (Nat.lt_succ_self i), i + 1, m₂, mu₂, ks₂, g₂, o₂, hlt, rfl, hJ₂, hg₂, C₃, ?_, e⟩
      refine keepSt hst₂ (fun o q => ?_) (fun a o q => C₂.gk a o (hg a o q)) (fun a o q => C₃.gk a o (hg₂ a o q))
      rw [ho₂] at q; cases q
      exact (C₃.mt _ (.head _)).1
    · exact hq
  · subst heq
    refine W.done _ _ _ hst₁ fun h₂ tk₂ hk => wpAny_execs_nil ?_
    refine done m₁ mu₁ ks₁ g₁ h₂ tk₂ hJ hg ?_
    have D := C₁.drop (List.sublist_cons_self _ _)
    have hI := C₁.mt _ (.head _)
    exact
    { ns := D.ns.at' fun o q => hk _ _ (by simp; exact Ne.symm hI.2.2.2) q
      bk := fun a o q => hk a o (by simp; rintro rfl; rw [hI.2.1] at q; cases q) (D.bk a o q)
      bL := D.bL
      gk := fun a o q => hk a o (by simp; rintro rfl; rw [hI.2.2.1] at q; cases q) (D.gk a o q)
      gg := D.gg
      gn := D.gn
      g0 := D.g0
      mt := fun p hp => by
        have z := D.mt p hp
        refine ⟨hk _ _ ?_ z.1, z.2⟩
        simp
        intro q
        have nd := C₁.nd
        rw [List.map_cons, List.nodup_cons] at nd
        exact nd.1 (q ▸ List.mem_map.mpr ⟨p, hp, rfl⟩)
      nd := D.nd
      kn := D.kn }
end
set_option maxHeartbeats 200000
noncomputable abbrev NoE : Value → Shared → Prop := fun _ _ => False

section
variable {w : World} {A : Around} {R : Result → Shared → Prop} {s : Shared}
theorem compLoop_gen {elt target iter : Expr} {ifs : List Expr} {scope : Scope} {pos : Pos} {it acc : Value} {env : Env} (I : Nat → Shared → Prop)
    (turn : ∀ n s, I n s → wpAny (model P0 w) A (pyNext it) (fun r s₁ => match r with
      | none => R (.ok .next) s₁
      | some v => wpAny (model P0 w) A (letOwnedTupleGo target it v) (fun _ s₁' => wpAny (model P0 w) A (assign target env v) (fun _ s₂ =>
          wpAny (model P0 w) A (forIn ifs true fun c r => if r = true then do let ok ← isTrue c env (eval c env); pure (ForInStep.yield ok) else pure (ForInStep.yield r)) (fun ok s₃ =>
            if ok = true then wpAny (model P0 w) A (eval elt env) (fun x s₄ =>
              wpAny (model P0 w) A (call (.builtin "list.append") [acc, x]) (fun _ s₅ => ∃ m, m < n ∧ I m s₅) NoE s₄) NoE s₃
            else ∃ m, m < n ∧ I m s₃) NoE s₂) NoE s₁') NoE s₁) NoE s)
    (n : Nat) (h : I n s) : codeAny (model P0 w) A (.compLoop (.ListComp elt [⟨target, iter, ifs, 0⟩] scope pos) 0 it acc env) R s := by
  refine codeAny_loop rfl I (fun n s hI => ?_) n h
  show wpAny _ A ((compTurn (.ListComp elt [⟨target, iter, ifs, 0⟩] scope pos) 0 it acc env).onRaise (fun x => do noteFrame x env; theTreesLotGoes x)) _ _ s
  refine wpAny_noted ?_
  rw [compTurn_list]
  refine wpAny_bind (wpAny_standAt (wpAny_bind (noRaise (wpAny_mono (turn n s hI) (fun r s₁ h₁ => ?_) fun _ _ h' => h'))))
  cases r with
  | none => exact wpAny_pure h₁
  | some v =>
    refine wpAny_bind (wpAny_mono h₁ (fun _ s₁' h₁' => ?_) fun _ _ h' => h'.elim)
    refine wpAny_bind (wpAny_mono h₁' (fun _ s₂ h₂ => wpAny_bind (wpAny_mono h₂ (fun ok s₃ h₃ => ?_) fun _ _ h' => h'.elim)) fun _ _ h' => h'.elim)
    cases ok with
    | false => exact wpAny_pure ⟨rfl, h₃⟩
    | true =>
      simp only [if_true] at h₃ ⊢
      exact wpAny_bind (wpAny_bind (wpAny_mono h₃ (fun x s₄ h₄ => wpAny_bind (wpAny_mono h₄ (fun _ s₅ h₅ => wpAny_pure (wpAny_pure ⟨rfl, h₅⟩)) fun _ _ h' => h'.elim)) fun _ _ h' => h'.elim))
end

section
variable {b g₀ g g₁ h₁ h₂ : Heap} {L Lc : Addr} {m m₁ : Str → Option Value} {mu mu₁ : List (Addr × Obj)} {ks ks₁ : List At} {s : Shared}
/-- an inner frame is left: the outer one stands as it stood -/
theorem Cx.leave {h : Heap} (C : Cx b g₀ L m mu ks g h) (D : Cx (hideAll h (mu.map (·.1))) g Lc m₁ mu₁ ks₁ g₁ h₁) (hL : h.objs.size ≤ Lc) (hs : Heap.SameBut Lc h₁ h₂) : Cx b g₀ L m mu₁ ks₁ g₁ h₂ := by
  have nL : L ∉ mu.map (·.1) := fun q => by
    obtain ⟨p, hp, e⟩ := List.mem_map.mp q
    exact (C.mt p hp).2.2.2 e
  have bb : b.StaysIn (hideAll h (mu.map (·.1))) := fun a o e => hideAll_get _ (C.bk a o e) fun q => by
    obtain ⟨p, hp, z⟩ := List.mem_map.mp q
    have := (C.mt p hp).2.1
    rw [z, e] at this; cases this
  have low : ∀ {a : Addr} {o : Obj}, (hideAll h (mu.map (·.1))).get? a = some o → a ≠ Lc := fun e q => by
    rw [q, D.bLn] at e; cases e
  obtain ⟨oL, es, ep, hoL, hr⟩ := C.ns
  have hb' := hideAll_get (mu.map (·.1)) hoL nL
  exact
  { ns := ⟨oL, es, ep, hs.extBut _ _ (low hb') (D.bk _ _ hb'), hr⟩
    bk := fun a o e => hs.extBut _ _ (low (bb a o e)) (D.bk a o (bb a o e))
    bL := C.bL
    gk := fun a o e => hs.extBut _ _ (fun q => by rw [q, D.gL] at e; cases e) (D.gk a o e)
    gg := fun a o e => D.gg a o (C.gg a o e)
    gn := fun a o e => by
      rcases D.gn a o e with q | q
      · exact C.gn a o q
      · exact .inr (Nat.lt_trans (Nat.lt_of_lt_of_le C.lt hL) q)
    g0 := C.g0
    mt := fun p hp => by
      have z := D.mt p hp
      refine ⟨hs.extBut _ _ z.2.2.2 z.1, ?_, z.2.2.1, fun q => ?_⟩
      · cases e : b.get? p.1 with
        | none => rfl
        | some o => have := bb _ _ e; rw [z.2.1] at this; cases this
      · rw [← q, z.2.1] at hb'; cases hb'
    nd := D.nd
    kn := D.kn }

/-- a new inner frame -/
theorem Cx.inner {h h' : Heap} {Lc : Addr} {m' : Str → Option Value} (C : Cx b g₀ L m mu ks g h) (hk : h.StaysIn h') (hn : h'.Ns Lc m') (hL : h.objs.size ≤ Lc) : Cx (hideAll h (mu.map (·.1))) g Lc m' mu ks g h' where
  ns := hn
  bk := fun a o e => hk a o (of_hideAll _ e)
  bL := by rw [hideAll_size]; exact hL
  gk := fun a o e => hk a o (C.gk a o e)
  gg := fun _ _ e => e
  gn := fun _ _ e => .inl e
  g0 := fun o e => absurd (Heap.lt_size (C.gk _ _ e)) (Nat.not_lt.mpr hL)
  mt := fun p hp => ⟨hk _ _ (C.mt p hp).1, hideAll_none _ (List.mem_map_of_mem hp), (C.mt p hp).2.2.1, Nat.ne_of_lt (Nat.lt_of_lt_of_le (C.mu_lt hp) hL)⟩
  nd := C.nd
  kn := C.kn
end

section
variable {w : World} {A : Around} {E : Value → Shared → Prop} {s : Shared} {b g₀ g : Heap} {env : Env} {m : Str → Option Value} {mu : List (Addr × Obj)} {ks : List At}
noncomputable abbrev testsOf (ifs : List Expr) (env : Env) : Sem Bool := forIn ifs true fun c r => if r = true then do let ok ← isTrue c env (eval c env); pure (ForInStep.yield ok) else pure (ForInStep.yield r)

/-- what a turn of a comprehension comes to -/
noncomputable def CompStep (b' g : Heap) (Lc I D : Addr) (o₁ : Obj) (ys : List Value) (nD : Nat) (s : Shared) (K : List (Addr × Obj) → List At → Prop) (s' : Shared) : Prop :=
  ∃ m₂ mu₂ ks₂ g₂, Cx b' g Lc m₂ ((I, o₁) :: (D, lst ys nD) :: mu₂) ks₂ g₂ s'.heap ∧ g.StaysIn g₂ ∧ K mu₂ ks₂ ∧ ∃ h tk, s' = { s with heap := h, toks := tk }

theorem comp_core {elt target iter : Expr} {ifs : List Expr} {scope : Scope} {pos : Pos} {cl : List (Str × Addr)} {I : Addr} {oI : Obj} {fp : List Addr} {n : Nat} {P : Nat → Value → Prop} {St : Nat → Heap → Prop} {RR : Value → Addr → Result → Shared → Prop}
    (C : Cx b g₀ env.locals m ((I, oI) :: mu) ks g s.heap) (W : Walks P0 w A I fp [I] n P St) (hst : St 0 s.heap) (hSI : ∀ i h, St i h → ∃ o, h.get? I = some o) (hfp : ∀ a ∈ fp, a = I ∨ ∃ o, g.get? a = some o) (ht : NoLet w A target I St)
    (hcell : ∀ y ∈ scope.names, y.2 ≠ .cell) (hkind : scope.kind = .function) (hsz : n ≤ sizeLine)
    (J : Nat → List Value → List (Addr × Obj) → List At → Prop) (h0 : J 0 [] mu ks)
    (step : ∀ i v ys b' Lc m₁ mu₁ ks₁ g₁ h₁ tk₁ o₁ D nD, i < n → P i v → J i ys mu₁ ks₁ → g.StaysIn g₁ → Cx b' g Lc m₁ ((I, o₁) :: (D, lst ys nD) :: mu₁) ks₁ g₁ h₁ →
      wpAny (model P0 w) A (assign target (compEnvC scope cl Lc env) v) (fun _ s₂ => wpAny (model P0 w) A (testsOf ifs (compEnvC scope cl Lc env)) (fun ok s₃ =>
        if ok = true then wpAny (model P0 w) A (eval elt (compEnvC scope cl Lc env)) (fun y s₄ => CompStep b' g Lc I D o₁ ys nD s (J (i + 1) (ys ++ [y])) s₄) NoE s₃
        else CompStep b' g Lc I D o₁ ys nD s (J (i + 1) ys) s₃) NoE s₂) NoE { s with heap := h₁, toks := tk₁ })
    (fin : ∀ ys mu₁ ks₁ g₁ h₁ tk₁ nD Lc m₁, J n ys mu₁ ks₁ → g.StaysIn g₁ → s.heap.objs.size ≤ Lc → Cx (hideAll s.heap (I :: mu.map (·.1))) g Lc m₁ ((s.heap.objs.size, lst ys nD) :: mu₁) ks₁ g₁ h₁ → RR (.ref s.heap.objs.size) Lc (.ok .next) { s with heap := h₁, toks := tk₁ }) :
    wpAny (model P0 w) A (newList []) (fun acc s₃ => wpAny (model P0 w) A (newFunctionEnv scope env.globals cl [] env.qual none .none (some env)) (fun cenv s₄ =>
      codeAny (model P0 w) A (.compStart (.ListComp elt [⟨target, iter, ifs, 0⟩] scope pos) 0 (.ref I) acc { cenv with scope := relabel scope env }) (RR acc cenv.locals) s₄) E s₃) E s := by
  refine wpAny_newObj_type (wpAny_newFunctionEnv hcell (by intro y hy; simp at hy) (fun h₁ hns₁ hsb₁ => ?_) hkind)
  dsimp only at hns₁ hsb₁ ⊢
  generalize hH2 : s.heap.push { cls := .type "list", dict := none, data := .seq ([] : List Value).toArray } = H2 at hns₁ hsb₁ ⊢
  have hsz2 : H2.objs.size = s.heap.objs.size + 1 := by rw [← hH2, Heap.size_push]
  have old : s.heap.StaysIn h₁ := fun a o e => hsb₁.extBut a o (by rw [hsz2]; exact Nat.ne_of_lt (Nat.lt_succ_of_lt (Heap.lt_size e))) (Heap.get?_push_of_some _ (hH2 ▸ Heap.get?_push_of_some _ e))
  have hacc : h₁.get? s.heap.objs.size = some (lst [] 0) := hsb₁.extBut _ _ (by rw [hsz2]; exact Nat.ne_of_lt (Nat.lt_succ_self _)) (Heap.get?_push_of_some _ (hH2 ▸ Heap.get?_push_size _ rfl))
  have hle : s.heap.objs.size ≤ H2.objs.size := by rw [hsz2]; exact Nat.le_succ _
  have C1 := C.inner old hns₁ hle
  have C2 : Cx (hideAll s.heap (I :: mu.map (·.1))) g H2.objs.size (fun x => ([] : List (Str × Value)).reverse.lookup x) ((I, oI) :: (s.heap.objs.size, lst [] 0) :: mu) ks g h₁ :=
    { C1 with
      mt := fun p hp => by
        rcases List.mem_cons.mp hp with rfl | hp
        · exact C1.mt _ (.head _)
        · rcases List.mem_cons.mp hp with rfl | hp
          · refine ⟨hacc, ?_, ?_, by rw [hsz2]; exact Nat.ne_of_lt (Nat.lt_succ_self _)⟩
            · cases q : (hideAll s.heap (I :: mu.map (·.1))).get? s.heap.objs.size with
              | none => rfl
              | some o => exact absurd (Heap.lt_size (of_hideAll _ q)) (Nat.lt_irrefl _)
            · exact (C.none_of_ge (Nat.le_refl _)).2.1
          · exact C1.mt _ (.tail _ hp)
      nd := by
        have nd := C.nd
        simp only [List.map_cons, List.nodup_cons, List.mem_cons, not_or] at nd ⊢
        refine ⟨⟨Nat.ne_of_lt (C.mu_lt (.head _)), nd.1⟩, fun q => ?_, nd.2⟩
        obtain ⟨p, hp, e⟩ := List.mem_map.mp q
        exact absurd (C.mu_lt (.tail _ hp)) (by rw [e]; exact Nat.lt_irrefl _) }
  have hst₁ : St 0 h₁ := W.frame _ _ _ hst fun a _ o e => old a o e
  have loop : ∀ s₃ : Shared, s₃ = { s with heap := h₁, toks := s.toks + ([] : List (Str × Value)).length } →
      codeAny (model P0 w) A (.compLoop (.ListComp elt [⟨target, iter, ifs, 0⟩] scope pos) 0 (.ref I) (.ref s.heap.objs.size) (compEnvC scope cl H2.objs.size env)) (RR (.ref s.heap.objs.size) H2.objs.size) s₃ := by
    rintro s₃ rfl
    refine compLoop_gen
      (fun k s' => ∃ i ys nD m₁ mu₁ ks₁ g₁ o₁, i ≤ n ∧ ys.length ≤ i ∧ k = n + 1 - i ∧ J i ys mu₁ ks₁ ∧ g.StaysIn g₁ ∧ Cx (hideAll s.heap (I :: mu.map (·.1))) g H2.objs.size m₁ ((I, o₁) :: (s.heap.objs.size, lst ys nD) :: mu₁) ks₁ g₁ s'.heap ∧ St i s'.heap ∧ ∃ h tk, s' = { s with heap := h, toks := tk }) ?_ (n + 1)
      ⟨0, [], 0, _, mu, ks, g, oI, Nat.zero_le _, Nat.le_refl _, rfl, h0, fun _ _ e => e, C2, hst₁, h₁, _, rfl⟩
    rintro k s' ⟨i, ys, nD, m₁, mu₁, ks₁, g₁, o₁, hi, hys, rfl, hJ, hg, C₁, hst₁, h, tk, rfl⟩
    have keepSt : ∀ {j : Nat} {h₁ h₂ : Heap}, St j h₁ → (∀ o, h₁.get? I = some o → h₂.get? I = some o) → (∀ a o, g.get? a = some o → h₁.get? a = some o) → (∀ a o, g.get? a = some o → h₂.get? a = some o) → St j h₂ := fun hs e1 e3 e2 =>
      W.frame _ _ _ hs fun a ha o e => by
        rcases hfp a ha with rfl | ⟨o', q⟩
        · exact e1 o e
        · have z := e3 a o' q
          rw [e] at z; cases z
          exact e2 a o q
    have hI := C₁.mt _ (.head _)
    have ndI : ∀ p ∈ ((s.heap.objs.size, lst ys nD) :: mu₁), p.1 ≠ I := fun p hp q => by
      have nd := C₁.nd
      rw [List.map_cons, List.nodup_cons] at nd
      exact nd.1 (q ▸ List.mem_map.mpr ⟨p, hp, rfl⟩)
    have pin : ∀ {h' : Heap}, (∀ a o, a ∉ [I] → h.get? a = some o → h'.get? a = some o) → Cx (hideAll s.heap (I :: mu.map (·.1))) g H2.objs.size m₁ ((s.heap.objs.size, lst ys nD) :: mu₁) ks₁ g₁ h' := fun hk =>
      { ns := C₁.ns.at' fun o q => hk _ _ (by simp; exact Ne.symm hI.2.2.2) q
        bk := fun a o q => hk a o (by simp; rintro rfl; rw [hI.2.1] at q; cases q) (C₁.bk a o q)
        bL := C₁.bL
        gk := fun a o q => hk a o (by simp; rintro rfl; rw [hI.2.2.1] at q; cases q) (C₁.gk a o q)
        gg := C₁.gg
        gn := C₁.gn
        g0 := C₁.g0
        mt := fun p hp => ⟨hk _ _ (by simp; exact ndI p hp) (C₁.mt p (.tail _ hp)).1, (C₁.mt p (.tail _ hp)).2⟩
        nd := by have := C₁.nd; rw [List.map_cons, List.nodup_cons] at this; exact this.2
        kn := C₁.kn }
    rcases Nat.lt_or_eq_of_le hi with hlt | heq
    · refine W.item i _ _ _ hlt hst₁ fun v h₂ tk₂ hP hst₂ hk => ?_
      obtain ⟨o₂, ho₂⟩ := hSI _ _ hst₂
      have C₂ := pin hk
      have C₃ : Cx (hideAll s.heap (I :: mu.map (·.1))) g H2.objs.size m₁ ((I, o₂) :: (s.heap.objs.size, lst ys nD) :: mu₁) ks₁ g₁ h₂ :=
        { C₂ with
          mt := fun p hp => by
            rcases List.mem_cons.mp hp with rfl | hp
            · exact ⟨ho₂, hI.2⟩
            · exact C₂.mt p hp
          nd := C₁.nd }
      have next : ∀ {ys' : List Value} {nD' : Nat} {s' : Shared}, ys'.length ≤ i + 1 → CompStep (hideAll s.heap (I :: mu.map (·.1))) g H2.objs.size I s.heap.objs.size o₂ ys' nD' s (J (i + 1) ys') s' →
          ∃ k, k < n + 1 - i ∧ ∃ i ys nD m₁ mu₁ ks₁ g₁ o₁, i ≤ n ∧ ys.length ≤ i ∧ k = n + 1 - i ∧ J i ys mu₁ ks₁ ∧ g.StaysIn g₁ ∧ Cx (hideAll s.heap (I :: mu.map (·.1))) g H2.objs.size m₁ ((I, o₁) :: (s.heap.objs.size, lst ys nD) :: mu₁) ks₁ g₁ s'.heap ∧ St i s'.heap ∧ ∃ h tk, s' = { s with heap := h, toks := tk } := by
        rintro ys' nD' s' hl ⟨m₂, mu₂, ks₂, g₂, C₄, hg₂, hJ₂, e⟩
        refine ⟨n + 1 - (i + 1), Nat.sub_lt_sub_left (Nat.lt_succ_of_lt hlt) (Nat.lt_succ_self i), i + 1, ys', nD', m₂, mu₂, ks₂, g₂, o₂, hlt, hl, rfl, hJ₂, hg₂, C₄, ?_, e⟩
        refine keepSt hst₂ (fun o q => ?_) (fun a o q => C₂.gk a o (hg a o q)) (fun a o q => C₄.gk a o (hg₂ a o q))
        rw [ho₂] at q; cases q
        exact (C₄.mt _ (.head _)).1
      refine ht (i + 1) v _ _ hst₂ ?_
      refine wpAny_mono (step i v ys _ _ m₁ mu₁ ks₁ g₁ h₂ tk₂ o₂ _ nD hlt hP hJ hg C₃) (fun _ s₂ h₃ => wpAny_mono h₃ (fun ok s₃ h₄ => ?_) fun _ _ x => x) fun _ _ x => x
      cases ok with
      | false =>
        simp only [Bool.false_eq_true, if_false] at h₄ ⊢
        exact next (Nat.le_succ_of_le hys) h₄
      | true =>
        simp only [if_true] at h₄ ⊢
        refine wpAny_mono h₄ (fun y s₄ h₅ => ?_) fun _ _ x => x
        obtain ⟨m₂, mu₂, ks₂, g₂, C₄, hg₂, hJ₂, hh, tk, rfl⟩ := h₅
        refine wpAny_list_append_plain (hsz := by simp; omega) ⟨nD, (C₄.mt _ (.tail _ (.head _))).1⟩ fun h₆ hl₆ hs₆ => ?_
        obtain ⟨n6, e6⟩ := hl₆
        have e6' : h₆.get? s.heap.objs.size = some (lst (ys ++ [y]) n6) := by rw [e6]; simp [lst]
        exact next (by simp; omega) ⟨m₂, mu₂, ks₂, g₂, C₄.upd (.tail .head) hs₆ e6', hg₂, hJ₂, _, _, rfl⟩
    · subst heq
      refine W.done _ _ _ hst₁ fun h₂ tk₂ hk => ?_
      exact fin ys mu₁ ks₁ g₁ h₂ tk₂ nD _ m₁ hJ hg hle (pin hk)
  exact codeAny_compStart_list (loop _ rfl) (W.self 0 _ _ _ hst₁ (loop _ rfl))
end
set_option maxHeartbeats 200000
noncomputable def badIter : List String := ["enumerate", "zip", "dict_itemiterator", "dict_reverseitemiterator", "odict_iterator", "itertools.zip_longest", "itertools.pairwise"]
/-- an iterator at its start, over n things -/
structure ItOk (w : World) (A : Around) (g : Heap) (I : Addr) (n : Nat) (P : Nat → Value → Prop) (h : Heap) : Prop where
  ex : ∃ fp St, Walks P0 w A I fp [I] n P St ∧ St 0 h ∧ (∀ i h, St i h → ∃ o nm vs, h.get? I = some o ∧ o.cls = .type nm ∧ o.data = .fields vs ∧ badIter.contains nm = false) ∧ (∀ a ∈ fp, a = I ∨ ∃ o, g.get? a = some o)
theorem noLet_of {w : World} {A : Around} {I : Addr} {St : Nat → Heap → Prop} (hc : ∀ i h, St i h → ∃ o nm vs, h.get? I = some o ∧ o.cls = .type nm ∧ o.data = .fields vs ∧ badIter.contains nm = false) (target : Expr) : NoLet w A target I St := by
  intro i v s' Q' hst hQ
  obtain ⟨o, nm, vs, ho, h1, h2, h3⟩ := hc _ _ hst
  unfold letOwnedTupleGo
  split
  all_goals first
    | exact wpAny_pure hQ
    | skip
  all_goals
    cases v with
    | ref a =>
      refine wpAny_bind (wpAny_load ho ?_)
      rw [h1, h2]
      show wpAny _ A (if (badIter.contains nm && vs[0]? == some (rawInt a)) = true then _ else _) Q' _ s'
      rw [h3]
      exact wpAny_pure hQ
    | _ => exact wpAny_pure hQ

section
variable {w : World} {A : Around} {E : Value → Shared → Prop} {s : Shared} {b g₀ g : Heap} {L : Addr} {env : Env} {m : Str → Option Value} {mu : List (Addr × Obj)} {ks : List At}

theorem it_str {x : Str} {t : Tok} {Q : Value → Shared → Prop} (C : Cx b g₀ L m mu ks g s.heap) (hh : A.handled = none)
    (k : ∀ I oI h', ItOk w A g I x.cps.size (SignAt x) h' → Cx b g₀ L m ((I, oI) :: mu) ks g h' → Q (.ref I) { s with heap := h' }) : wpAny (model P0 w) A (pyIter (.str x t)) Q E s := by
  have hk : ∀ o : Obj, s.heap.StaysIn (s.heap.push o) := fun o a oa e => Heap.get?_push_of_some _ e
  cases ha : x.cps.all (· < 128)
  · refine wpAny_pyIter_wide ha (k _ _ _ ⟨[s.heap.objs.size], _, Walks.strWide hh _ x t, ⟨_, Heap.get?_push_size _ rfl, rfl, rfl⟩, fun i h ⟨o, ho, h1, h2⟩ => ⟨o, _, _, ho, h1, h2, rfl⟩, fun a ha => .inl (List.mem_singleton.mp ha)⟩
      (C.addMu (hk _) (Nat.le_refl _) (Heap.get?_push_size _ rfl)))
  · refine wpAny_pyIter_ascii ha (k _ _ _ ⟨[s.heap.objs.size], _, Walks.strAscii hh _ x t, ⟨_, Heap.get?_push_size _ rfl, rfl, rfl⟩, fun i h ⟨o, ho, h1, h2⟩ => ⟨o, _, _, ho, h1, h2, rfl⟩, fun a ha => .inl (List.mem_singleton.mp ha)⟩
      (C.addMu (hk _) (Nat.le_refl _) (Heap.get?_push_size _ rfl)))
theorem it_list {l : Addr} {items : Array Value} {Q : Value → Shared → Prop} (C : Cx b g₀ L m mu ks g s.heap) (hh : A.handled = none) (hl : g.IsList l items)
    (k : ∀ I oI h', ItOk w A g I items.size (fun i v => items[i]? = some v) h' → Cx b g₀ L m ((I, oI) :: mu) ks g h' → Q (.ref I) { s with heap := h' }) : wpAny (model P0 w) A (pyIter (.ref l)) Q E s := by
  have hk : ∀ o : Obj, s.heap.StaysIn (s.heap.push o) := fun o a oa e => Heap.get?_push_of_some _ e
  obtain ⟨ol, hol, r⟩ := hl
  have hl' : s.heap.IsList l items := ⟨ol, C.gk _ _ hol, r⟩
  have hne : l ≠ s.heap.objs.size := Nat.ne_of_lt (Heap.lt_size (C.gk _ _ hol))
  refine wpAny_pyIter_list hl' (k _ _ _ ⟨[s.heap.objs.size, l], _, Walks.list hh _ l hne items, ⟨⟨_, Heap.get?_push_size _ rfl, rfl, rfl⟩, ⟨ol, Heap.get?_push_of_some _ (C.gk _ _ hol), r⟩⟩, fun i h ⟨⟨o, ho, h1, h2⟩, _⟩ => ⟨o, _, _, ho, h1, h2, rfl⟩, fun a ha => ?_⟩
      (C.addMu (hk _) (Nat.le_refl _) (Heap.get?_push_size _ rfl)))
  simp at ha
  rcases ha with rfl | rfl
  · exact .inl rfl
  · exact .inr ⟨ol, hol⟩
theorem it_tuple {l : Addr} {items : Array Value} {Q : Value → Shared → Prop} (C : Cx b g₀ L m mu ks g s.heap) (hh : A.handled = none) (hl : g.IsTuple l items)
    (k : ∀ I oI h', ItOk w A g I items.size (fun i v => items[i]? = some v) h' → Cx b g₀ L m ((I, oI) :: mu) ks g h' → Q (.ref I) { s with heap := h' }) : wpAny (model P0 w) A (pyIter (.ref l)) Q E s := by
  have hk : ∀ o : Obj, s.heap.StaysIn (s.heap.push o) := fun o a oa e => Heap.get?_push_of_some _ e
  obtain ⟨ol, hol, r⟩ := hl
  have hl' : s.heap.IsTuple l items := ⟨ol, C.gk _ _ hol, r⟩
  have hne : l ≠ s.heap.objs.size := Nat.ne_of_lt (Heap.lt_size (C.gk _ _ hol))
  refine wpAny_pyIter_tuple hl' (k _ _ _ ⟨[s.heap.objs.size, l], _, Walks.tuple hh _ l hne items, ⟨⟨_, Heap.get?_push_size _ rfl, rfl, rfl⟩, ⟨ol, Heap.get?_push_of_some _ (C.gk _ _ hol), r⟩⟩, fun i h ⟨⟨o, ho, h1, h2⟩, _⟩ => ⟨o, _, _, ho, h1, h2, rfl⟩, fun a ha => ?_⟩
      (C.addMu (hk _) (Nat.le_refl _) (Heap.get?_push_size _ rfl)))
  simp at ha
  rcases ha with rfl | rfl
  · exact .inl rfl
  · exact .inr ⟨ol, hol⟩
theorem it_lst {l : Addr} {vs : List Value} {n : Nat} {Q : Value → Shared → Prop} (C : Cx b g₀ L m mu ks g s.heap) (hh : A.handled = none) (hl : g.get? l = some (lst vs n))
    (k : ∀ I oI h', ItOk w A g I vs.length (fun i v => vs[i]? = some v) h' → Cx b g₀ L m ((I, oI) :: mu) ks g h' → Q (.ref I) { s with heap := h' }) : wpAny (model P0 w) A (pyIter (.ref l)) Q E s := by
  refine it_list (items := vs.toArray) C hh ⟨_, hl, rfl, _, rfl⟩ fun I oI h' it C' => k I oI h' ?_ C'
  simpa using it
theorem it_range {r : Addr} {a e c : Int} {t u v : Tok} {n : Nat} {Q : Value → Shared → Prop} (C : Cx b g₀ L m mu ks g s.heap) (hh : A.handled = none) (hr : IsRange s.heap r a e c t u v) (hsmall : Builtin.Range.small a e c = true)
    (hn : Builtin.Range.rangeSize a e c = n)
    (k : ∀ I oI h', ItOk w A g I n (fun i v => ∃ t, v = .int (a + i * c) t) h' → Cx b g₀ L m ((I, oI) :: mu) ks g h' → Q (.ref I) { s with heap := h' }) : wpAny (model P0 w) A (pyIter (.ref r)) Q E s := by
  have hk : ∀ o : Obj, s.heap.StaysIn (s.heap.push o) := fun o a oa e => Heap.get?_push_of_some _ e
  refine wpAny_pyIter_range hr hsmall (k _ _ _ ⟨[s.heap.objs.size], _, Walks.range hh _ a c n, ?_, fun i h ho => ⟨_, _, _, ho, rfl, rfl, rfl⟩, fun a ha => .inl (List.mem_singleton.mp ha)⟩
      (C.addMu (hk _) (Nat.le_refl _) (Heap.get?_push_size _ rfl)))
  show IsRangeIter _ _ _ _ _
  rw [hn]
  simpa using Heap.get?_push_size _ rfl
end

section
variable {w : World} {A : Around} {E : Value → Shared → Prop} {s : Shared} {b g₀ g : Heap} {env : Env} {m : Str → Option Value} {mu : List (Addr × Obj)} {ks : List At}
/-- a for, no turn of it raising -/
theorem for_it {target : Expr} {body : List Stmt} {I : Addr} {oI : Obj} {n : Nat} {P : Nat → Value → Prop} {Q : Flow → Shared → Prop} {X : Value → Shared → Prop}
    (it : ItOk w A g I n P s.heap) (C : Cx b g₀ env.locals m ((I, oI) :: mu) ks g s.heap)
    (J : Nat → (Str → Option Value) → List (Addr × Obj) → List At → Prop) (h0 : J 0 m mu ks)
    (step : ∀ i v m₁ mu₁ ks₁ g₁ h₁ tk₁ o₁, i < n → P i v → J i m₁ mu₁ ks₁ → g.StaysIn g₁ → Cx b g₀ env.locals m₁ ((I, o₁) :: mu₁) ks₁ g₁ h₁ →
      wpAny (model P0 w) A (assign target env v) (fun _ s₂ => wpAny (model P0 w) A (execs body env) (fun fl s₃ =>
        (fl = .next ∧ ∃ m₂ mu₂ ks₂ g₂, Cx b g₀ env.locals m₂ ((I, o₁) :: mu₂) ks₂ g₂ s₃.heap ∧ g.StaysIn g₂ ∧ J (i + 1) m₂ mu₂ ks₂ ∧ ∃ h tk, s₃ = { s with heap := h, toks := tk }) ∨ (∃ r, fl = .ret r ∧ Q (.ret r) s₃)) NoE s₂) NoE
        { s with heap := h₁, toks := tk₁ })
    (done : ∀ m₁ mu₁ ks₁ g₁ h₁ tk₁, J n m₁ mu₁ ks₁ → g.StaysIn g₁ → Cx b g₀ env.locals m₁ mu₁ ks₁ g₁ h₁ → Q .next { s with heap := h₁, toks := tk₁ }) :
    codeAny (model P0 w) A (.forLoop target (.ref I) body [] env) (fun r s' => match r with | .ok f => Q f s' | .error e => X e s') s := by
  obtain ⟨fp, St, W, hst, hc, hfp⟩ := it.ex
  exact for_walk C W hst (fun i h q => let ⟨o, _, _, ho, _⟩ := hc i h q; ⟨o, ho⟩) hfp (noLet_of hc _) J h0 step done

/-- a comprehension, its iterator made -/
noncomputable def CompAt (w : World) (A : Around) (env : Env) (elt target iter : Expr) (ifs : List Expr) (scope : Scope) (pos : Pos) (cl : List (Str × Addr)) (use : Option (Value → Sem Unit)) (Q : Value → Shared → Prop) (E : Value → Shared → Prop) (it : Value) (s : Shared) : Prop :=
  wpAny (model P0 w) A (newList []) (fun acc s₃ => wpAny (model P0 w) A (newFunctionEnv scope env.globals cl [] env.qual none .none (some env)) (fun cenv s₄ =>
    codeAny (model P0 w) A (.compStart (.ListComp elt [⟨target, iter, ifs, 0⟩] scope pos) 0 it acc { cenv with scope := relabel scope env }) (compPost (model P0 w) A E use Q acc cenv.locals) s₄) E s₃) E s
theorem ListComp_ {elt target iter : Expr} {ifs : List Expr} {scope : Scope} {pos : Pos} {cl : List (Str × Addr)} {Q : Value → Shared → Prop}
    (h : wpAny (model P0 w) A (eval iter env) (fun xv s₁ => wpAny (model P0 w) A (pyIter xv) (fun it s₂ => CompAt w A env elt target iter ifs scope pos cl none Q E it s₂) E s₁) E s)
    (hclos : closureFor scope env = pure cl := by rfl) (hkind : scope.kind = .function := by rfl) (hnames : ∀ y ∈ scope.names, y.2 = .local → scope.names.lookup y.1 = some .local := by decide)
    (hs : ∀ x, foldedSetIterable iter env x = pure x := by intro _; rfl) :
    wpAny (model P0 w) A (eval (.ListComp elt [⟨target, iter, ifs, 0⟩] scope pos) env) Q E s := by
  rw [eval_ListComp]
  exact wpAny_comprehension_free (use := none) rfl hs hclos hkind hnames h
theorem Assign_ListComp_ {elt target iter : Expr} {ifs : List Expr} {scope : Scope} {pos py spos : Pos} {y : Str} {cl : List (Str × Addr)} {Q : Flow → Shared → Prop}
    (hsw : swapsWith (.ListComp elt [⟨target, iter, ifs, 0⟩] scope pos) (some (.Name y py)) spos.line env = pure true)
    (h : wpAny (model P0 w) A (eval iter env) (fun xv s₁ => wpAny (model P0 w) A (pyIter xv) (fun it s₂ => CompAt w A env elt target iter ifs scope pos cl (some (assign (.Name y py) env)) (fun _ s' => Q .next s') E it s₂) E s₁) E s)
    (hclos : closureFor scope env = pure cl := by rfl) (hkind : scope.kind = .function := by rfl) (hnames : ∀ y ∈ scope.names, y.2 = .local → scope.names.lookup y.1 = some .local := by decide)
    (hs : ∀ x, foldedSetIterable iter env x = pure x := by intro _; rfl) :
    wpAny (model P0 w) A (exec (.Assign [.Name y py] (.ListComp elt [⟨target, iter, ifs, 0⟩] scope pos) spos) env) Q E s := by
  rw [exec_Assign_Name_used _ _ _ _ hsw]
  refine wpAny_bind (wpAny_standAt (wpAny_bind ?_))
  show wpAny _ A (do let _ ← comprehension (.ListComp elt [⟨target, iter, ifs, 0⟩] scope pos) scope env _ (newList []) false (eval iter env) (some (assign (.Name y py) env))) _ _ s
  exact wpAny_bind (wpAny_mono (wpAny_comprehension_free (use := some (assign (.Name y py) env)) (Q := fun _ s' => Q .next s') rfl hs hclos hkind hnames h) (fun _ s' hq => wpAny_pure (wpAny_pure hq)) fun _ _ e => e)

theorem comp_it {elt target iter : Expr} {ifs : List Expr} {scope : Scope} {pos : Pos} {cl : List (Str × Addr)} {I : Addr} {oI : Obj} {n : Nat} {P : Nat → Value → Prop} {Q : Value → Shared → Prop}
    (it : ItOk w A g I n P s.heap) (C : Cx b g₀ env.locals m ((I, oI) :: mu) ks g s.heap) (hsz : n ≤ 1000000)
    (J : Nat → List Value → List (Addr × Obj) → List At → Prop) (h0 : J 0 [] mu ks)
    (step : ∀ i v ys b' Lc m₁ mu₁ ks₁ g₁ h₁ tk₁ o₁ D nD, i < n → P i v → J i ys mu₁ ks₁ → g.StaysIn g₁ → Cx b' g Lc m₁ ((I, o₁) :: (D, lst ys nD) :: mu₁) ks₁ g₁ h₁ →
      wpAny (model P0 w) A (assign target (compEnvC scope cl Lc env) v) (fun _ s₂ => wpAny (model P0 w) A (testsOf ifs (compEnvC scope cl Lc env)) (fun ok s₃ =>
        if ok = true then wpAny (model P0 w) A (eval elt (compEnvC scope cl Lc env)) (fun y s₄ => CompStep b' g Lc I D o₁ ys nD s (J (i + 1) (ys ++ [y])) s₄) NoE s₃
        else CompStep b' g Lc I D o₁ ys nD s (J (i + 1) ys) s₃) NoE s₂) NoE { s with heap := h₁, toks := tk₁ })
    (fin : ∀ ys mu₁ ks₁ g₁ h₁ tk₁ D nD, J n ys mu₁ ks₁ → g.StaysIn g₁ → env.locals < D → Cx b g₀ env.locals m ((D, lst ys nD) :: mu₁) ks₁ g₁ h₁ → Q (.ref D) { s with heap := h₁, toks := tk₁ })
    (hcell : ∀ y ∈ scope.names, y.2 ≠ .cell := by decide) (hkind : scope.kind = .function := by rfl) :
    CompAt w A env elt target iter ifs scope pos cl none Q E (.ref I) s := by
  obtain ⟨fp, St, W, hst, hc, hfp⟩ := it.ex
  refine comp_core (RR := fun acc Lc => compPost (model P0 w) A E none Q acc Lc) C W hst (fun i h q => let ⟨o, _, _, ho, _⟩ := hc i h q; ⟨o, ho⟩) hfp (noLet_of hc _) hcell hkind (Nat.le_trans hsz (by decide)) J h0 step ?_
  intro ys mu₁ ks₁ g₁ h₁ tk₁ nD Lc m₁ hJ hg hL C₁
  exact ⟨m₁, C₁.ns, fun h' hs => fin ys mu₁ ks₁ g₁ h' tk₁ _ nD hJ hg C.lt (C.leave C₁ hL hs)⟩
theorem comp_asg {elt target iter : Expr} {ifs : List Expr} {scope : Scope} {pos py : Pos} {y : Str} {cl : List (Str × Addr)} {I : Addr} {oI : Obj} {n : Nat} {P : Nat → Value → Prop} {Q : Value → Shared → Prop}
    (it : ItOk w A g I n P s.heap) (C : Cx b g₀ env.locals m ((I, oI) :: mu) ks g s.heap) (hsz : n ≤ 1000000)
    (J : Nat → List Value → List (Addr × Obj) → List At → Prop) (h0 : J 0 [] mu ks)
    (step : ∀ i v ys b' Lc m₁ mu₁ ks₁ g₁ h₁ tk₁ o₁ D nD, i < n → P i v → J i ys mu₁ ks₁ → g.StaysIn g₁ → Cx b' g Lc m₁ ((I, o₁) :: (D, lst ys nD) :: mu₁) ks₁ g₁ h₁ →
      wpAny (model P0 w) A (assign target (compEnvC scope cl Lc env) v) (fun _ s₂ => wpAny (model P0 w) A (testsOf ifs (compEnvC scope cl Lc env)) (fun ok s₃ =>
        if ok = true then wpAny (model P0 w) A (eval elt (compEnvC scope cl Lc env)) (fun y s₄ => CompStep b' g Lc I D o₁ ys nD s (J (i + 1) (ys ++ [y])) s₄) NoE s₃
        else CompStep b' g Lc I D o₁ ys nD s (J (i + 1) ys) s₃) NoE s₂) NoE { s with heap := h₁, toks := tk₁ })
    (fin : ∀ ys mu₁ ks₁ g₁ h₁ tk₁ D nD, J n ys mu₁ ks₁ → g.StaysIn g₁ → env.locals < D → Cx b g₀ env.locals (fun z => if z = y then some (.ref D) else m z) ((D, lst ys nD) :: mu₁) ks₁ g₁ h₁ → Q .none { s with heap := h₁, toks := tk₁ })
    (hk : env.scope.kind = .function := by rfl) (hl : env.kindOf y = some .local := by rfl)
    (hcell : ∀ y ∈ scope.names, y.2 ≠ .cell := by decide) (hkind : scope.kind = .function := by rfl) :
    CompAt w A env elt target iter ifs scope pos cl (some (assign (.Name y py) env)) Q E (.ref I) s := by
  obtain ⟨fp, St, W, hst, hc, hfp⟩ := it.ex
  refine comp_core (RR := fun acc Lc => compPost (model P0 w) A E (some (assign (.Name y py) env)) Q acc Lc) C W hst (fun i h q => let ⟨o, _, _, ho, _⟩ := hc i h q; ⟨o, ho⟩) hfp (noLet_of hc _) hcell hkind (Nat.le_trans hsz (by decide)) J h0 step ?_
  intro ys mu₁ ks₁ g₁ h₁ tk₁ nD Lc m₁ hJ hg hL C₁
  have CO := C.leave C₁ hL (Heap.SameBut.refl _ _)
  have hne : Lc ≠ env.locals := fun q => absurd C.lt (by rw [← q]; exact Nat.not_lt.mpr hL)
  show wpAny _ A (assign (.Name y py) env (.ref s.heap.objs.size)) _ _ _
  refine wpAny_assign_Name (wpAny_storeName_local hl CO.ns (fun h₂ hn₂ hs₂ => ?_) (by rw [hk]; rfl))
  have CO2 := CO.set hn₂ hs₂
  have n2 := C₁.ns.sameBut hs₂ hne
  refine ⟨m₁, n2, fun h' hs => fin ys mu₁ ks₁ g₁ h' _ _ nD hJ hg C.lt ?_⟩
  -- the inner frame's own object is no one's here
  have off : ∀ {a : Addr} {o : Obj}, (hideAll s.heap (I :: mu.map (·.1))).get? a = some o → a ≠ Lc := fun e q => by rw [q, C₁.bLn] at e; cases e
  have bb : b.StaysIn (hideAll s.heap (I :: mu.map (·.1))) := fun a o e => hideAll_get _ (C.bk a o e) fun q => by
    have q : a ∈ (((I, oI) :: mu).map (·.1)) := q
    obtain ⟨p, hp, z⟩ := List.mem_map.mp q
    have := (C.mt p hp).2.1
    rw [z, e] at this; cases this
  exact
  { ns := CO2.ns.sameBut hs (Ne.symm hne)
    bk := fun a o e => hs.extBut _ _ (off (bb a o e)) (CO2.bk a o e)
    bL := CO2.bL
    gk := fun a o e => hs.extBut _ _ (fun q => by rw [q, C₁.gL] at e; cases e) (CO2.gk a o e)
    gg := CO2.gg
    gn := CO2.gn
    g0 := CO2.g0
    mt := fun p hp => ⟨hs.extBut _ _ (C₁.mt p hp).2.2.2 (CO2.mt p hp).1, (CO2.mt p hp).2⟩
    nd := CO2.nd
    kn := CO2.kn }
end
set_option maxHeartbeats 200000
section
variable {M : Model} {w : World} {A : Around} {E : Value → Shared → Prop} {s : Shared} {b g₀ g : Heap} {L : Addr} {env : Env} {m : Str → Option Value} {mu : List (Addr × Obj)} {ks : List At}
theorem newList_ {vs : List Value} {Q : Value → Shared → Prop} (C : Cx b g₀ L m mu ks g s.heap) (hz : vs.length ≤ 1000000)
    (h : ∀ a h', L < a → Cx b g₀ L m ((a, lst vs 0) :: mu) ks g h' → Q (.ref a) { s with heap := h' }) : wpAny M A (newList vs) Q E s :=
  wpAny_newObj_type (h _ _ C.lt (C.addMu (fun _ _ e => Heap.get?_push_of_some _ e) (Nat.le_refl _) (Heap.get?_push_size _ rfl))) (by show vs.toArray.size ≤ sizeLine; rw [List.size_toArray]; exact Nat.le_trans hz (by decide))
theorem ldn_local {x : Str} {v : Value} {Q : Value → Shared → Prop} (C : Cx b g₀ env.locals m mu ks g s.heap) (hv : m x = some v) (h : Q v s)
    (hk : env.scope.kind = .function := by rfl) (hl : env.kindOf x = some .local := by rfl) : wpAny M A (loadName env x) Q E s := wpAny_loadName_local hk hl C.ns hv h
theorem newTuple_ {vs : List Value} {Q : Value → Shared → Prop} (C : Cx b g₀ L m mu ks g s.heap) (hz : vs.length ≤ 1000000)
    (h : ∀ a h', L < a → Cx b g₀ L m ((a, tup vs) :: mu) ks g h' → Q (.ref a) { s with heap := h' }) : wpAny M A (newTuple vs) Q E s :=
  wpAny_newObj_type (h _ _ C.lt (C.addMu (fun _ _ e => Heap.get?_push_of_some _ e) (Nat.le_refl _) (Heap.get?_push_size _ rfl))) (by show vs.toArray.size ≤ sizeLine; rw [List.size_toArray]; exact Nat.le_trans hz (by decide))
end
inductive UpF (a : Addr) (o : Obj) : List (Addr × Obj) → (Obj → List (Addr × Obj)) → Prop
  | head {r} : UpF a o ((a, o) :: r) (fun o' => (a, o') :: r)
  | tail {p r f} : UpF a o r f → UpF a o (p :: r) (fun o' => p :: f o')
theorem UpF.up {a : Addr} {o : Obj} {l : List (Addr × Obj)} {f : Obj → List (Addr × Obj)} (u : UpF a o l f) (o' : Obj) : Up a o o' l (f o') := by
  induction u with
  | head => exact .head
  | tail _ ih => exact .tail ih
set_option maxHeartbeats 200000
theorem slot_list_iadd : Slot "list" (dunderI "add") "list.__iadd__" :=
  .of (owner := "list") (n := "__iadd__") (by rw [typeLookup_type, builtinLookup_eq_fast]; kernel_rfl) (by decide +kernel) (by decide +kernel) (by decide +kernel)
    (by first | exact .inl (by decide +kernel) | exact .inr (by decide +kernel)) (by rw [isSubtype_type]; kernel_rfl)
theorem entry_list_iadd : entryFor table "list.__iadd__" = some Builtin.«list.__iadd__» := entryFor_of_tree (by kernel_rfl)
theorem args_list_iadd (a b : Value) : argsOk "list.__iadd__" ⟨[a, b], []⟩ := by unfold argsOk; kernel_rfl
theorem fillsI_list : fillsInplaceSlot (.type "list") "add" (Operator.Add == .Add) = pure false := by
  unfold fillsInplaceSlot
  show (typeLookup (.type "list") (dunderI "add") >>= fun fi => pure (fi.isSome && !isSeqSlot fi)) = pure false
  rw [slot_list_iadd.lookup]
  show (pure (true && !isSeqSlot (some (.builtin "list.__iadd__"))) : Sem Bool) = pure false
  rw [show isSeqSlot (some (.builtin "list.__iadd__")) = true from by decide +kernel]; rfl
section
variable {w : World} {A : Around} {E : Value → Shared → Prop} {s : Shared}
theorem iadd_list {l l2 : Addr} {xs ys : List Value} {n : Nat} {Q : Value → Shared → Prop} (hl : s.heap.get? l = some (lst xs n)) (h2 : s.heap.IsList l2 ys.toArray) (hz : xs.length + ys.length ≤ 1000000)
    (h : ∀ h' n', Heap.SameBut l s.heap h' → h'.get? l = some (lst (xs ++ ys) n') → Q (.ref l) { s with heap := h' }) : wpAny (model P0 w) A (inplaceOp .Add (.ref l) (.ref l2)) Q E s := by
  have hL : s.heap.IsList l xs.toArray := ⟨_, hl, rfl, n, rfl⟩
  unfold inplaceOp
  refine wpAny_holding ?_
  refine wpAny_bind (wpAny_typeOf hL.typeIs (wpAny_bind (wpAny_of_eq fillsI_list ?_)))
  show wpAny _ A (if false = true then _ else _) Q E s
  rw [if_neg Bool.false_ne_true]
  refine wpAny_bind (wpAny_binaryOp1_none (nm := "add") hL.typeIs h2.typeIs noFill_list_add ?_)
  refine wpAny_bind (wpAny_of_eq (PySem.seqSlot_of slot_list_iadd.lookup (by decide +kernel)) ?_)
  refine wpAny_bind (wpAny_rule ?_)
  refine wpAny_call_entry slot_list_iadd hL.typeIs entry_list_iadd ?_ (args_list_iadd _ _)
  show wpAny _ A.in1 (Builtin.List.listExtendWith (.ref l) (.ref l2) (.ref l)) _ _ s
  obtain ⟨o2, ho2, hc2, n2, hd2⟩ := h2
  unfold Builtin.List.listExtendWith
  refine wpAny_bind (wpAny_typeOf ⟨o2, ho2, hc2⟩ ?_)
  have h1 : (Builtin.List.listSameRef (.ref l) (.ref l2) || Value.type "list" == Value.type "list" || Value.type "list" == Value.type "tuple") = true := by simp
  simp only [h1, if_true]
  refine wpAny_bind ?_
  unfold Builtin.List.listItems
  refine wpAny_bind (wpAny_seqItems ho2 hd2 (wpAny_pure ?_))
  refine wpAny_bind ?_
  refine wpAny_bind (wpAny_seqItems hl rfl (wpAny_pure ?_))
  have hlong : (!(xs.toArray).isEmpty && Builtin.List.listTooLong (xs.toArray.size + ys.toArray.size)) = false := by
    have : Builtin.List.listTooLong (xs.toArray.size + ys.toArray.size) = false := by
      unfold Builtin.List.listTooLong
      simp
      exact Nat.le_trans hz (by decide)
    rw [this, Bool.and_false]
  rw [hlong]
  show wpAny _ A.in1 (updateSeq l (· ++ ys.toArray) >>= fun _ => ret (.ref l)) _ _ s
  refine wpAny_bind (wpAny_updateSeq hl rfl ?_)
  refine wpAny_pure ⟨_, rfl, h _ _ (Heap.SameBut.update ..) (?_ : _ = some (lst (xs ++ ys) (if (xs ++ ys).toArray.size == xs.toArray.size then n else n + 1)))⟩
  refine (Heap.get?_update_self _ hl rfl).trans ?_
  simp [Obj.mapSeq, lst]
end
section
variable {w : World} {A : Around} {E : Value → Shared → Prop} {s : Shared} {b g₀ g : Heap} {L : Addr} {m : Str → Option Value} {mu : List (Addr × Obj)} {ks : List At}
theorem append_ {l : Addr} {xs : List Value} {n : Nat} {v : Value} {mu' : Obj → List (Addr × Obj)} {Q : Value → Shared → Prop} (C : Cx b g₀ L m mu ks g s.heap) (u : UpF l (lst xs n) mu mu') (hz : xs.length ≤ 1000000)
    (h : ∀ h' n', Cx b g₀ L m (mu' (lst (xs ++ [v]) n')) ks g h' → Q .none { s with heap := h' }) : wpAny (model P0 w) A (call (.builtin "list.append") [.ref l, v]) Q E s := by
  refine wpAny_list_append_plain (hsz := by simp; exact Nat.le_trans hz (by decide)) ⟨n, C.at (u.up default).mem⟩ fun h' hl hs => ?_
  obtain ⟨n', e⟩ := hl
  exact h h' n' (C.upd (u.up _) hs (by rw [e]; simp [lst]))
theorem iadd_ {l l2 : Addr} {xs ys : List Value} {n n2 : Nat} {mu' : Obj → List (Addr × Obj)} {Q : Value → Shared → Prop} (C : Cx b g₀ L m mu ks g s.heap) (u : UpF l (lst xs n) mu mu') (h2 : (l2, lst ys n2) ∈ mu) (hz : xs.length + ys.length ≤ 1000000)
    (h : ∀ h' n', Cx b g₀ L m (mu' (lst (xs ++ ys) n')) ks g h' → Q (.ref l) { s with heap := h' }) : wpAny (model P0 w) A (inplaceOp .Add (.ref l) (.ref l2)) Q E s :=
  iadd_list (C.at (u.up default).mem) ⟨_, C.at h2, rfl, n2, rfl⟩ hz fun h' n' hs e => h h' n' (C.upd (u.up _) hs e)
end
theorem Cx.pushRd {b g₀ g h : Heap} {L : Addr} {m : Str → Option Value} {mu : List (Addr × Obj)} {ks : List At} {ys : List Value} {ds : List PyData} {y : Value} {d : PyData} (C : Cx b g₀ L m mu (.rds ys ds :: ks) g h) (r : Rd g y d) :
    Cx b g₀ L m mu (.rds (ys ++ [y]) (ds ++ [d]) :: ks) g h :=
  (C.add (x := .rds (ys ++ [y]) (ds ++ [d])) ((C.rds (.head _)).append (.cons r .nil))).less fun x hx => by
    rcases List.mem_cons.mp hx with rfl | hx
    · exact .head _
    · exact .tail _ (.tail _ hx)
theorem Cx.kin {w : World} {b g₀ g h : Heap} {L : Addr} {m : Str → Option Value} {mu : List (Addr × Obj)} {ks : List At} (C : Cx b g₀ L m mu ks g h) (G : Gd w g₀) : (KF w.params).In h := (G.up C.up0).k
section
variable {w : World} {A : Around} {E : Value → Shared → Prop} {s : Shared} {b g₀ g : Heap} {L : Addr} {m : Str → Option Value} {mu : List (Addr × Obj)} {ks : List At}
theorem len_lst {a : Addr} {vs : List Value} {n : Nat} {Q : Value → Shared → Prop} (e : s.heap.get? a = some (lst vs n)) (hz : vs.length ≤ 1000000) (h : Q (.int vs.length (s.toks + 1)) { s with toks := s.toks + 1 + 1 }) :
    wpAny (model P0 w) A (call (.builtin "len") [.ref a]) Q E s :=
  Calls.call_len_list (items := vs.toArray) ⟨_, e, rfl, n, rfl⟩ (by simp; omega) (by simpa using h)
theorem add_ {l l2 : Addr} {xs ys : List Value} {n n2 : Nat} {Q : Value → Shared → Prop} (C : Cx b g₀ L m mu ks g s.heap) (e1 : s.heap.get? l = some (lst xs n)) (e2 : s.heap.get? l2 = some (lst ys n2)) (hz : xs.length + ys.length ≤ 1000000)
    (h : ∀ a h', L < a → Cx b g₀ L m ((a, lst (xs ++ ys) 0) :: mu) ks g h' → Q (.ref a) { s with heap := h' }) : wpAny (model P0 w) A (binaryOp .Add (.ref l) (.ref l2)) Q E s := by
  refine PySem.P.add_list e1 e2 (h _ _ C.lt (C.addMu (fun _ _ e => Heap.get?_push_of_some _ e) (Nat.le_refl _) ?_)) (by simp; exact Nat.le_trans hz (by decide))
  rw [Heap.get?_push_size _ rfl]
  simp
theorem asg_tup {env : Env} {elts : List Expr} {x1} {pos : Pos} {t : Addr} {vs : List Value} {Q : Unit → Shared → Prop} (C : Cx b g₀ L m mu ks g s.heap) (e : s.heap.get? t = some (tup vs)) (hh : A.handled = none)
    (hn : (assignEach elts env).length = vs.length) (hstar : (assignEach elts env).findIdx? (·.1) = none)
    (h : ∀ h', Cx b g₀ L m mu ks g h' → wpAny (model P0 w) A (assignInOrder ((assignEach elts env).map (·.2)) vs) Q E { s with heap := h' }) : wpAny (model P0 w) A (assign (.Tuple elts x1 pos) env (.ref t)) Q E s :=
  assign_Tuple_tuple (items := vs.toArray) hh ⟨_, e, rfl, 0, rfl⟩ (by simpa using hn) hstar fun h' he => h h' (C.keep fun a o q => he a o (Nat.ne_of_lt (Heap.lt_size q)) q)
end
section
variable {w : World} {A : Around} {E : Value → Shared → Prop} {s : Shared} {b g₀ g : Heap} {L : Addr} {m : Str → Option Value} {mu : List (Addr × Obj)} {ks : List At}
/-- a call that changes nothing, by its contract -/
theorem cx_call {M : Model} {α : Type} {t : Sem α} {P : α → Heap → Prop} {Q : α → Shared → Prop} (C : Cx b g₀ L m mu ks g s.heap) (h : wpAny M A t (fun v s' => Done (∃ g', Ct [] s g s' g' ∧ P v g')) E s)
    (k : ∀ v g' h' tk, g.StaysIn g' → P v g' → Cx b g₀ L m mu ks g' h' → Q v { s with heap := h', toks := tk }) : wpAny M A t Q E s := by
  refine wpAny_mono h (fun v s' q => ?_) fun _ _ x => x
  obtain ⟨g', c, hp⟩ := q.out
  have C' := C.after0 c
  obtain ⟨h', tk, rfl⟩ := c.sh
  exact k v g' h' tk c.gg hp C'
end
set_option maxHeartbeats 200000
theorem cellsAre_keys {cm : Str → Option Value} : ∀ {cs : List (Str × Addr)} {cells : List (Addr × Obj)}, CellsAre cm cs cells → cells.map (·.1) = cs.map (·.2)
  | _, _, .nil => rfl
  | _, _, .cons _ r => by rw [List.map_cons, List.map_cons, cellsAre_keys r]
section
variable {w : World} {A : Around} {E : Value → Shared → Prop} {s : Shared} {g : Heap} {Q : Value → Shared → Prop}
  {name qual : Str} {params : Arguments} {body : List Stmt} {scope : Scope} {dV kV doc pm cdv ct : Value} {an : Option Addr} {fo : Obj} {f : Addr} {pos : List Value} {kw : List (Str × Value)} {binds : List (Str × Value)}
/-- a call of a def of the text whose frame has cells -/
theorem call_fnC (mu : List (Addr × Obj)) (ks : List At) (G : Gd w g) (gs : g.StaysIn s.heap) (hroom : A.depth < recursionLimit) (hf : g.get? f = some fo)
    (hd : fo.data = .func (fnX name qual params body scope [] dV kV doc pm an cdv ct)) (hcd : g.CodeRec cdv qual)
    (hbind : BindsTo s (fnX name qual params body scope [] dV kV doc pm an cdv ct) ⟨pos, kw⟩ binds) (hkind : (binds.all fun y => scope.names.lookup y.1 == some .local || scope.names.lookup y.1 == some .cell) = true)
    (hndc : ((cellsFrom 0 scope.names []).map (·.1)).Nodup)
    (hmu : ∀ p ∈ mu, s.heap.get? p.1 = some p.2 ∧ g.get? p.1 = none) (hnd : (mu.map (·.1)).Nodup) (hks : ∀ x ∈ ks, x.on g)
    (h : ∀ h₁ tk cells, CellsAre (bindC (envX qual scope s.heap.objs.size f cdv (cellsFrom (s.heap.objs.size + 1) scope.names [])).kindOf binds fun _ => none) (cellsFrom (s.heap.objs.size + 1) scope.names []) cells →
      (∀ p ∈ cells, s.heap.objs.size < p.1) →
      Cx (hideAll s.heap (mu.map (·.1))) g s.heap.objs.size (bindL (envX qual scope s.heap.objs.size f cdv (cellsFrom (s.heap.objs.size + 1) scope.names [])).kindOf binds fun _ => none) (cells ++ mu) ks g h₁ →
      wpAny (model P0 w) (A.deeper (envX qual scope s.heap.objs.size f cdv (cellsFrom (s.heap.objs.size + 1) scope.names []))) (execs body (envX qual scope s.heap.objs.size f cdv (cellsFrom (s.heap.objs.size + 1) scope.names [])))
        (fun fl s' => Q (match fl with | .ret v => v | _ => .none) s')
        (fun e s' => wpAny (model P0 w) (A.deeper (envX qual scope s.heap.objs.size f cdv (cellsFrom (s.heap.objs.size + 1) scope.names []))) (leaving (envX qual scope s.heap.objs.size f cdv (cellsFrom (s.heap.objs.size + 1) scope.names [])) e) (fun _ s'' => E e s'') (fun e' s'' => E e' s'') s')
        { s with heap := h₁, toks := tk })
    (hco : scope.isCoroutine = false := by rfl) (hgen : scope.isGenerator = false := by rfl) (hk : scope.kind = .function := by rfl) :
    wpAny (model P0 w) A (call (.ref f) pos kw) Q E s := by
  refine wpAny_call (codeAny_call_function hroom (gs _ _ hf) hd hco hgen rfl (hcd.keeps gs) (hbind _ _ _ _ ?_))
  refine wpAny_newFunctionEnv_cells hk (kindsX hkind _) fun env' he s' x => ?_
  subst he
  refine ⟨(G.lim.keeps gs).keeps x.toInCall.keep, codeAny_func ?_⟩
  obtain ⟨h₁, tk, rfl⟩ := x.toInCall.same
  have hk₁ := x.toInCall.keep
  obtain ⟨cells, NC, Y⟩ := Cl.news (h₀ := s.heap) (Nat.le_refl _) fun n c hm => ⟨x.cell n c (lookup_of_mem_nodup (cellsFrom_names scope.names 0 (s.heap.objs.size + 1) [] [] rfl ▸ hndc) hm), x.above n c hm⟩
  have up : ∀ p ∈ cells, s.heap.objs.size < p.1 := fun p hp => by
    have : p.1 ∈ (cellsFrom (s.heap.objs.size + 1) scope.names []).map (·.2) := cellsAre_keys Y ▸ List.mem_map_of_mem hp
    obtain ⟨q, hq, e⟩ := List.mem_map.mp this
    rw [← e]
    exact x.above q.1 q.2 hq
  refine h h₁ tk cells Y up ⟨x.toInCall.ns, fun a o e => hk₁ a o (of_hideAll _ e), Nat.le_of_eq (hideAll_size _ _), fun a o e => hk₁ a o (gs a o e), fun _ _ e => e, fun a o e => .inl e, fun o e => ?_, fun p hp => ?_, ?_, hks⟩
  · exact absurd (Heap.lt_size (gs _ _ e)) (Nat.lt_irrefl _)
  · rcases List.mem_append.mp hp with hp | hp
    · refine ⟨(NC p hp).1, ?_, ?_, (NC p hp).2.1⟩
      · cases q : (hideAll s.heap (mu.map (·.1))).get? p.1 with
        | none => rfl
        | some o => have := of_hideAll _ q; rw [(NC p hp).2.2] at this; cases this
      · cases q : g.get? p.1 with
        | none => rfl
        | some o => have := gs _ _ q; rw [(NC p hp).2.2] at this; cases this
    · exact ⟨hk₁ _ _ (hmu p hp).1, hideAll_none _ (List.mem_map_of_mem hp), (hmu p hp).2, Nat.ne_of_lt (Heap.lt_size (hmu p hp).1)⟩
  · rw [List.map_append, List.nodup_append]
    refine ⟨?_, hnd, fun a ha b hb e => ?_⟩
    · rw [cellsAre_keys Y]
      exact List.pairwise_map.mpr x.apart
    · obtain ⟨p, hp, rfl⟩ := List.mem_map.mp ha
      obtain ⟨q, hq, rfl⟩ := List.mem_map.mp hb
      have h1 := up p hp
      have h2 := Heap.lt_size (hmu q hq).1
      rw [← e] at h2
      exact absurd h2 (Nat.not_lt.mpr (Nat.le_of_lt h1))
end
section
variable {w : World} {A : Around} {E : Value → Shared → Prop} {s : Shared} {b g₀ g : Heap} {env : Env} {m : Str → Option Value} {mu : List (Addr × Obj)} {ks : List At} {x : Str} {pos : Pos} {v : Value}
theorem nm_cellG {M : Model} {Q : Value → Shared → Prop} {c : Addr} {o : Obj} (hc : env.cells.lookup x = some c) (he : s.heap.get? c = some o) (ho : o.data = .cell (some v)) (h : Q v s)
    (hk : env.scope.kind = .function := by rfl) (hl : env.kindOf x = some .cell := by rfl) (hd : (x == ("__debug__" : Str)) = false := by decide) :
    wpAny M A (eval (.Name x pos) env) Q E s := wpAny_Name (wpAny_loadName_cell hk hl hc ⟨o, he, ho⟩ h) hd
theorem nm_free {M : Model} {Q : Value → Shared → Prop} {c : Addr} {o : Obj} (hc : env.cells.lookup x = some c) (he : s.heap.get? c = some o) (ho : o.data = .cell (some v)) (h : Q v s)
    (hk : env.scope.kind = .function := by rfl) (hl : env.kindOf x = some .free := by rfl) (hd : (x == ("__debug__" : Str)) = false := by decide) (hn : (x == ("__classdict__" : Str)) = false := by decide) :
    wpAny M A (eval (.Name x pos) env) Q E s := wpAny_Name (wpAny_loadName_free hk hl hc ⟨o, he, ho⟩ h hn) hd
theorem st_cellF {M : Model} {Q : Unit → Shared → Prop} {c : Addr} {o : Obj} {v₀ : Option Value} {f : Obj → List (Addr × Obj)} (C : Cx b g₀ env.locals m mu ks g s.heap) (hc : env.cells.lookup x = some c) (u : UpF c o mu f) (ho : o.data = .cell v₀)
    (h : ∀ h' o', o'.data = .cell (some v) → Cx b g₀ env.locals m (f o') ks g h' → Q () { s with heap := h' })
    (hk : env.scope.kind = .function := by rfl) (hl : env.kindOf x = some .cell := by rfl) :
    wpAny M A (storeName env x v) Q E s := st_cell C hc (fun o' => u.up o') ho h hk hl
end
set_option maxHeartbeats 1000000
section
variable {w : World} {A : Around} {E : Value → Shared → Prop} {s : Shared} {b g₀ g : Heap} {L : Addr} {m : Str → Option Value} {mu : List (Addr × Obj)} {ks : List At}
  {x dx Cl f : Addr} {sl : Array (Option Value)} {es es' : List DictEntry} {n n' : Nat} {name : Str} {v : Value}
theorem inst_at {h : Heap} (e1 : h.get? x = some ⟨.ref Cl, some dx, .plain, sl⟩) (e2 : h.get? dx = some (dictOf es n)) : InstAt h x ⟨.ref Cl, some dx, .plain, sl⟩ Cl (some (dictOf es n)) := ⟨e1, rfl, rfl, e2⟩
theorem get_attr {expr : Bool} {attr : Option Value} {Q : Value → Shared → Prop} (C : Cx b g₀ L m mu ks g s.heap) (G : Gd w g₀) (e1 : s.heap.get? x = some ⟨.ref Cl, some dx, .plain, sl⟩) (e2 : s.heap.get? dx = some (dictOf es n))
    (hg : plainGet (KF w.params) Cl name = true) (hh : hasDictIn (KF w.params) Cl = true) (ha : findIn (KF w.params) (.ref Cl) name = some attr) (hn : noGet (KF w.params) attr = true) (hl : getL name es = some (some v)) (hv : handedIn v = true)
    (h : Q v { s with toks := s.toks + 1 }) : wpAny (model P0 w) A (getAttr (.ref x) name expr) Q E s :=
  get_value (C.kin G) (inst_at e1 e2) (plainGet_of hg).1 (findObj_own hh ha hn hl) hv h
theorem get_meth {pl : Sem Bool} {Q : Value × List Value → Shared → Prop} (C : Cx b g₀ L m mu ks g s.heap) (G : Gd w g₀) (e1 : s.heap.get? x = some ⟨.ref Cl, some dx, .plain, sl⟩) (e2 : s.heap.get? dx = some (dictOf es n))
    (hg : plainGet (KF w.params) Cl name = true) (hf : findIn (KF w.params) (.ref Cl) name = some (some (.ref f))) (ht : isFn (KF w.params) (.ref f) = true) (hl : getL name es = some none)
    (h : Q (.ref f, [.ref x]) s) : wpAny (model P0 w) A (getMethod (.ref x) name pl) Q E s :=
  method_fn (C.kin G) (inst_at e1 e2) (plainGet_of hg).1 (plainGet_of hg).2 hf (beq_iff_eq.mp ht) (by show (lookIn name (dictOf es n)).map _ = _; rw [lookIn_dict, hl]; rfl) h
theorem set_attr {f : Obj → List (Addr × Obj)} {Q : Unit → Shared → Prop} (C : Cx b g₀ L m mu ks g s.heap) (G : Gd w g₀) (e1 : s.heap.get? x = some ⟨.ref Cl, some dx, .plain, sl⟩) (u : UpF dx (dictOf es n) mu f)
    (hs : findIn (KF w.params) (.ref Cl) "__setattr__" = some (some (.builtin "object.__setattr__"))) (hp : plainOver (KF w.params) Cl = true) (ht : takerIn (KF w.params) Cl name = some none) (hh : hasDictIn (KF w.params) Cl = true) (hl : (getL name es).isSome = true)
    (e : (putL name (PyData.keyHash w.params name) (.str name (s.toks + 1)) v es, putN name es n) = (es', n')) (hz : es'.length ≤ 1000)
    (h : ∀ h', Cx b g₀ L m (f (dictOf es' n')) ks g h' → Q () { s with heap := h', toks := s.toks + 2 }) : wpAny (model P0 w) A (setAttr (.ref x) name v) Q E s := by
  obtain ⟨q1, q2⟩ := Prod.mk.inj e
  have X := C.kin G
  have X' : (KF w.params).In ({ s with toks := s.toks + 1 } : Shared).heap := X
  have D := C.at (u.up default).mem
  have I := inst_at (x := x) e1 D
  refine set_plain X I hs ?_
  refine osa_open (s := { s with toks := s.toks + 1 }) X I hp ht fun b' => ?_
  obtain ⟨cd, hc, hd'⟩ := any_some hh
  have e0 : Obj.putName name (PyData.keyHash w.params name) (.str name (s.toks + 1)) v (dictOf es n) = dictOf es' n' := by rw [putName_dict, q1, q2]
  have D' : (s.heap.update dx (Obj.putName name (PyData.keyHash w.params name) (.str name (s.toks + 1)) v)).get? dx = some (dictOf es' n') := (Heap.get?_update_self _ D (by rw [e0]; rfl)).trans (by rw [e0])
  refine wpAny_bind (wpAny_pure (wpAny_bind (wpAny_bind (wpAny_loadPart e1 (wpAny_bind ((looks_clsIn X' hc).here (s := { s with toks := s.toks + 1 }) ?_))))))
  rw [hd']
  refine wpAny_pure (a := some dx) (wpAny_bind (wpAny_pure (wpAny_bind ?_)))
  unfold nsSet
  refine wpAny_bind (wpAny_bind (wpAny_askSetting (wpAny_pure (wpAny_bind (wpAny_mkText (wpAny_bind (wpAny_loadPart D ?_)))))))
  have c : (!es.toArray.any (·.key.isStr name) && es.toArray.any (·.refKey)) = false := by
    rw [← Array.any_toList, ← Array.any_toList]
    unfold getL at hl
    split at hl
    · rename_i en he
      rw [List.any_eq_true.mpr ⟨en, List.mem_of_find?_eq_some he, List.find?_some he⟩]; rfl
    · split at hl
      · cases hl
      · rename_i z; rw [Bool.not_eq_true] at z; rw [z, Bool.and_false]
  show wpAny _ _ (match (dictOf es n).data with | _ => _) _ _ _
  dsimp only [dictOf]
  rw [aRefKeyMayBeTheName_at, c]
  refine wpAny_updatePart D ?_
  refine wpAny_bind (wpAny_lookBehind D' (pastItsLine_dict (by rw [List.size_toArray, sizeLine_eq]; omega)) ?_)
  exact wpAny_pure (h _ (C.upd (u.up _) (Heap.SameBut.update ..) D'))
theorem Rm.under {A : Around} {n : Nat} {C : Addr} {rest : List Value} {kw : List (Str × Value)} (R : Rm A (n + 1)) : Rm (A.under (.builtin "type.__call__" ⟨.ref C :: rest, kw⟩)) n := by
  refine ⟨R.hd, ?_, ?_⟩
  · have := R.dep
    show A.depth + (Code.builtin "type.__call__" ⟨.ref C :: rest, kw⟩).weight + n < 900
    rw [show (Code.builtin "type.__call__" ⟨.ref C :: rest, kw⟩).weight = 1 from rfl]; omega
  · have := R.un
    have e : (Code.builtin "type.__call__" ⟨.ref C :: rest, kw⟩).cUnits ≤ 16 := by
      rw [show (Code.builtin "type.__call__" ⟨.ref C :: rest, kw⟩).cUnits = 1 from rfl]; decide
    show A.units + (Code.builtin "type.__call__" ⟨.ref C :: rest, kw⟩).cUnits + 16 * n < 9000
    omega
/-- an object of a class is made -/
theorem make_cx {fI : Addr} {pos : List Value} {kw : List (Str × Value)} {Q : Value → Shared → Prop} (C : Cx b g₀ L m mu ks g s.heap) (G : Gd w g₀) (hm : makesIn (KF w.params) Cl = true)
    (hi : findIn (KF w.params) (.ref Cl) "__init__" = some (some (.ref fI))) (hf : isFn (KF w.params) (.ref fI) = true)
    (h : ∀ x dx h', L < dx → dx < x → Cx b g₀ L m ((x, instObj Cl dx) :: (dx, dictOf [] 0) :: mu) ks g h' →
      codeAny (model P0 w) (A.under (.builtin "type.__call__" ⟨.ref Cl :: pos, kw⟩)) (.call (.ref fI) ⟨.ref x :: pos, kw⟩) (InitBack x fun r s' => match r with | .ok (.ret v) => Q v s' | .ok _ => False | .error e => E e s') { s with heap := h' }) :
    wpAny (model P0 w) A (call (.ref Cl) pos kw) Q E s := by
  have X := C.kin G
  obtain ⟨hh, gg, dd, tt, oo⟩ := s
  refine wpAny_call (make_core (makes_of X hm) (looks_findIn X hi) (fun self => bind_fn X self (beq_iff_eq.mp hf)) (.inl rfl) ?_)
  refine h _ _ _ C.lt (Nat.lt_succ_self _) ?_
  have C1 := C.addMu (o := dictOf [] 0) (h' := hh.push emptyDict) (fun _ _ e => Heap.get?_push_of_some _ e) (Nat.le_refl _) (Heap.get?_push_size _ rfl)
  refine C1.addMu (fun _ _ e => Heap.get?_push_of_some _ e) (by rw [Heap.size_push]; exact Nat.le_refl _) ?_
  have := Heap.get?_push_size (hh.push emptyDict) (o := instObj Cl hh.objs.size) rfl
  rwa [Heap.size_push] at this
end
section
variable {w : World} {A : Around} {E : Value → Shared → Prop} {s : Shared} {g : Heap} {Q : Value → Shared → Prop}
  {name qual : Str} {params : Arguments} {body : List Stmt} {scope : Scope} {dV kV doc pm cdv ct : Value} {an : Option Addr} {fo : Obj} {f : Addr} {pos : List Value} {kw : List (Str × Value)} {binds : List (Str × Value)}
/-- the same, as code -/
theorem code_fn (mu : List (Addr × Obj)) (ks : List At) (G : Gd w g) (gs : g.StaysIn s.heap) (hroom : A.depth < recursionLimit) (hf : g.get? f = some fo)
    (hd : fo.data = .func (fnX name qual params body scope [] dV kV doc pm an cdv ct)) (hcd : g.CodeRec cdv qual)
    (hbind : BindsTo s (fnX name qual params body scope [] dV kV doc pm an cdv ct) ⟨pos, kw⟩ binds) (hloc : ∀ y ∈ binds, scope.names.lookup y.1 = some .local)
    (hmu : ∀ p ∈ mu, s.heap.get? p.1 = some p.2 ∧ g.get? p.1 = none) (hnd : (mu.map (·.1)).Nodup) (hks : ∀ x ∈ ks, x.on g)
    (h : ∀ h₁ tk, Cx (hideAll s.heap (mu.map (·.1))) g s.heap.objs.size (fun y => binds.reverse.lookup y) mu ks g h₁ →
      wpAny (model P0 w) (A.deeper (envX qual scope s.heap.objs.size f cdv [])) (execs body (envX qual scope s.heap.objs.size f cdv []))
        (fun fl s' => Q (match fl with | .ret v => v | _ => .none) s')
        (fun e s' => wpAny (model P0 w) (A.deeper (envX qual scope s.heap.objs.size f cdv [])) (leaving (envX qual scope s.heap.objs.size f cdv []) e) (fun _ s'' => E e s'') (fun e' s'' => E e' s'') s')
        { s with heap := h₁, toks := tk })
    (hcell : ∀ x ∈ scope.names, x.2 ≠ .cell) (hco : scope.isCoroutine = false := by rfl) (hgen : scope.isGenerator = false := by rfl) (hk : scope.kind = .function := by rfl) :
    codeAny (model P0 w) A (.call (.ref f) ⟨pos, kw⟩) (fun r s' => match r with | .ok (.ret v) => Q v s' | .ok _ => False | .error e => E e s') s := by
  refine (codeAny_call_def (fd := fnX name qual params body scope [] dV kV doc pm an cdv ct) (body := body) (binds := binds) hroom (gs _ _ hf) hd (G.lim.keeps gs) (hcd.keeps gs) rfl hbind hcell hloc (fun h₁ hns hk₁ => ?_) hco hgen hk)
  refine h h₁ _ ⟨hns, fun a o e => hk₁ a o (of_hideAll _ e), Nat.le_of_eq (hideAll_size _ _), fun a o e => hk₁ a o (gs a o e), fun _ _ e => e, fun a o e => .inl e, fun o e => ?_, fun p hp => ?_, hnd, hks⟩
  · exact absurd (Heap.lt_size (gs _ _ e)) (Nat.lt_irrefl _)
  · exact ⟨hk₁ _ _ (hmu p hp).1, hideAll_none _ (List.mem_map_of_mem hp), (hmu p hp).2, Nat.ne_of_lt (Heap.lt_size (hmu p hp).1)⟩
end
set_option maxHeartbeats 1000000
/-- a slice is about to be taken -/
noncomputable def SliceAt (w : World) (A : Around) (E : Value → Shared → Prop) (value slice : PySem.Expr) (o vl vu : Value) (Q : Value → Shared → Prop) (s : Shared) : Prop :=
  wpAny (model P0 w) A (subscriptTail value slice o (.ref s.heap.objs.size)) Q E { s with heap := s.heap.push { cls := .type "slice", data := .fields #[vl, vu, .none] } }
section
variable {w : World} {A : Around} {E : Value → Shared → Prop} {s : Shared} {b g₀ g : Heap} {L : Addr} {env : Env} {m : Str → Option Value} {mu : List (Addr × Obj)} {ks : List At}
theorem sub_slice {value : PySem.Expr} {lower upper : Option PySem.Expr} {p pos : Pos} {Q : Value → Shared → Prop}
    (h : wpAny (model P0 w) A (eval value env) (fun o s₁ => wpAny (model P0 w) A (evalPart lower env) (fun vl s₂ => wpAny (model P0 w) A (evalPart upper env) (fun vu s₃ => SliceAt w A E value (.Slice lower upper none p) o vl vu Q s₃) E s₂) E s₁) E s) :
    wpAny (model P0 w) A (eval (.Subscript value (.Slice lower upper none p) pos) env) Q E s :=
  Subscript_ (wpAny_mono h (fun _ _ h₁ => wpAny_Slice (wpAny_mono h₁ (fun _ _ h₂ => wpAny_mono h₂ (fun _ _ h₃ => wpAny_evalPart_none h₃) fun _ _ e => e) fun _ _ e => e)) fun _ _ e => e)
theorem slice_lst {value slice : PySem.Expr} {l : Addr} {vs : List Value} {n : Nat} {vl vu : Value} {lo hi : Option Int} {Q : Value → Shared → Prop} (C : Cx b g₀ L m mu ks g s.heap) (e : s.heap.get? l = some (lst vs n)) (pl : IsPart vl lo) (pu : IsPart vu hi)
    (hsz : vs.length ≤ 1000000)
    (h : ∀ a h', L < a → Cx b g₀ L m ((a, lst (slicePick vs.toArray lo hi none).toList 0) :: mu) ks g h' → Q (.ref a) { s with heap := h' })
    (hs : subscripted slice false (.ref l) (.ref s.heap.objs.size) = operate [.ref s.heap.objs.size, .ref l] (getItem (.ref l) (.ref s.heap.objs.size)) := by with_unfolding_all rfl)
 : SliceAt w A E value slice (.ref l) vl vu Q s := by
  have hl : s.heap.IsList l vs.toArray := ⟨_, e, rfl, n, rfl⟩
  unfold SliceAt
  refine kba_turn (value' := .Name (Str.ofString "") ⟨0, 0, 0, 0⟩) (fun _ => rfl) ?_
  refine subscriptTail_ops (Heap.IsList.typeIs (s := { s with heap := s.heap.push { cls := .type "slice", data := .fields #[vl, vu, .none] } }) (hl.push _)) list_getitem_lookup
    (wpAny_getItem_list_slice (hl.push _) (Heap.IsSliceOf.new ..) pl pu .none (by simp) ?_ (by rw [List.size_toArray]; exact Nat.le_trans hsz (by decide))) hs (fun _ => rfl)
  have C1 := C.keep (h' := s.heap.push { cls := .type "slice", data := .fields #[vl, vu, .none] }) fun _ _ e => Heap.get?_push_of_some _ e
  exact h _ _ C1.lt (C1.addMu (fun _ _ e => Heap.get?_push_of_some _ e) (Nat.le_refl _) (by rw [Heap.get?_push_size _ rfl]))
theorem slice_bytes {value slice : PySem.Expr} {by_ : Array UInt8} {t : Tok} {vl vu : Value} {lo hi : Option Int} {Q : Value → Shared → Prop} (C : Cx b g₀ L m mu ks g s.heap) (pl : IsPart vl lo) (pu : IsPart vu hi) (hz : by_.size ≤ 1000000)
    (h : ∀ h' t' k, Cx b g₀ L m mu ks g h' → Q (.bytes (KBy.picked by_ lo hi) t') { s with heap := h', toks := k })
    (hs : subscripted slice false (.bytes by_ t) (.ref s.heap.objs.size) = operate [.ref s.heap.objs.size, .bytes by_ t] (getItem (.bytes by_ t) (.ref s.heap.objs.size)) := by with_unfolding_all rfl)
    (ht : ∀ r, letTemporaryGo value (.bytes by_ t) r = pure () := by intro _; with_unfolding_all rfl) : SliceAt w A E value slice (.bytes by_ t) vl vu Q s :=
  tail_of_ItemOn ⟨"bytes", _, FB.slot_bytes_getitem.lookup, typeIs_bytes _ _ _, getItem_meets (typeIs_bytes _ _ _) (by decide) FB.slot_bytes_getitem FB.entry_bytes_getitem (FB.args_bytes_getitem_2 _ _) (KBc.meets_slice2 by_ t _ pl pu)
    ⟨Heap.IsSliceOf.new _ _ _ _, Nat.le_trans (KBc.size_picked_le by_ lo hi) (Nat.le_trans hz (by decide)), fun t' k => h _ _ _ (C.keep fun _ _ e => Heap.get?_push_of_some _ e)⟩⟩ hs ht
theorem sub_tup {value slice : PySem.Expr} {t : Addr} {vs : List Value} {k : Int} {u : Tok} {x : Value} {Q : Value → Shared → Prop} (e : s.heap.get? t = some (tup vs)) (h0 : 0 ≤ k) (hfit : k < 1000000) (hx : vs[k.toNat]? = some x) (h : Q x s)
    (hs : subscripted slice false (.ref t) (.int k u) = operate [.ref t, .int k u] (getItem (.ref t) (.int k u)) := by with_unfolding_all rfl) : wpAny (model P0 w) A (subscriptTail value slice (.ref t) (.int k u)) Q E s := by
  have hlt : k.toNat < vs.length := (List.getElem?_eq_some_iff.mp hx).1
  refine kba_turn (value' := .Name (Str.ofString "") ⟨0, 0, 0, 0⟩) (fun _ => rfl) ?_
  refine item_tupleL (j := k.toNat) ⟨_, e, rfl, 0, rfl⟩ (by omega) (by omega) ?_ hx h hs (fun _ => rfl)
  have h1 : k < (vs.length : Int) := by omega
  simp [seqIndex?, Int.not_lt.mpr h0, h0, h1]
theorem sub_lst {value slice : PySem.Expr} {t : Addr} {vs : List Value} {n : Nat} {k : Int} {u : Tok} {x : Value} {Q : Value → Shared → Prop} (e : s.heap.get? t = some (lst vs n)) (h0 : 0 ≤ k) (hfit : k < 1000000) (hx : vs[k.toNat]? = some x) (h : Q x s)
    (hs : subscripted slice false (.ref t) (.int k u) = operate [.ref t, .int k u] (getItem (.ref t) (.int k u)) := by with_unfolding_all rfl) : wpAny (model P0 w) A (subscriptTail value slice (.ref t) (.int k u)) Q E s := by
  refine kba_turn (value' := .Name (Str.ofString "") ⟨0, 0, 0, 0⟩) (fun _ => rfl) ?_
  exact item_listL ⟨_, e, rfl, n, rfl⟩ h0 (by omega) hx h hs (fun _ => rfl)
theorem sliceBounds_all (n : Nat) : sliceBounds none none none n = (0, (n : Int), 1) := by simp [sliceBounds]
theorem set_all {l sl D : Addr} {xs ys : List Value} {n n2 : Nat} {Q : Unit → Shared → Prop} (hl : s.heap.get? l = some (lst xs n)) (hD : s.heap.get? D = some (lst ys n2)) (hne : l ≠ D) (hs : s.heap.IsSliceOf sl .none .none .none) (hz : xs.length + ys.length ≤ 1000000)
    (h : ∀ h' n', Heap.SameBut l s.heap h' → h'.get? l = some (lst ys n') → Q () { s with heap := h' }) : wpAny (model P0 w) A (setItem (.ref l) (.ref sl) (.ref D)) Q E s := by
  have hL : s.heap.IsList l xs.toArray := ⟨_, hl, rfl, n, rfl⟩
  have hDl : s.heap.IsList D ys.toArray := ⟨_, hD, rfl, n2, rfl⟩
  obtain ⟨os, hos, hcs, hds⟩ := id hs
  have hTs : s.TypeIs (.ref sl) "slice" := ⟨os, hos, hcs⟩
  unfold setItem
  try with_reducible refine wpAny_holding ?_
  first | refine wpAny_bind (wpAny_pure ?_) | skip
  refine wpAny_bind (wpAny_sequenceKey hL.typeIs (by decide) ?_)
  refine wpAny_bind (wpAny_callSpecial?_slot (name := Str.ofString "__setitem__") hL.typeIs slot_list_setitem
    (wpAny_call_entry slot_list_setitem hL.typeIs entry_list_setitem ?_ (args_list_setitem _ _ _)))
  show wpAny _ _ (Builtin.List.listSubscript? (.ref sl) >>= _) _ _ s
  refine wpAny_bind ?_
  unfold Builtin.List.listSubscript?
  refine wpAny_bind (wpAny_specialOf hTs slice_no_index ?_)
  simp only [Option.isNone_none, if_true]
  refine wpAny_pure ?_
  show wpAny _ _ (typeOf (.ref sl) >>= _) _ _ s
  refine wpAny_bind (wpAny_typeOf hTs ?_)
  rw [if_neg (by decide)]
  rw [listSliceParts_eq]
  refine wpAny_bind (wpAny_bind (wpAny_field hos hds (x := .none) rfl (wpAny_bind (wpAny_listPart .none ?_))))
  rw [if_neg (by decide)]
  refine wpAny_bind (wpAny_field hos hds (x := .none) rfl (wpAny_bind (wpAny_listPart .none ?_)))
  refine wpAny_bind (wpAny_field hos hds (x := .none) rfl (wpAny_bind (wpAny_listPart .none (wpAny_pure ?_))))
  have hsame : Builtin.List.listSameRef (.ref l) (.ref D) = false := by
    show (l == D) = false
    exact beq_eq_false_iff_ne.mpr hne
  dsimp only
  rw [hsame]
  refine wpAny_bind ?_
  show wpAny _ _ (Builtin.List.listAllItems (.ref D) _) _ _ s
  unfold Builtin.List.listAllItems Builtin.List.listItems
  refine wpAny_bind (wpAny_typeOf hDl.typeIs ?_)
  simp only [beq_self_eq_true, Bool.true_or, if_true]
  refine wpAny_bind (wpAny_seqItems hD rfl (wpAny_pure ?_))
  refine wpAny_bind (wpAny_bind (wpAny_seqItems hl rfl (wpAny_pure ?_)))
  refine wpAny_bind (wpAny_of_eq ((sliceIndices_raw none none none xs.toArray.size (by simp)).trans (congrArg pure (sliceBounds_all _))) ?_)
  have hlong : Builtin.List.listTooLong (xs.toArray.size + ys.toArray.size) = false := by
    unfold Builtin.List.listTooLong
    simp
    exact Nat.le_trans hz (by decide)
  dsimp only
  rw [if_pos (by decide)]
  refine wpAny_bind (wpAny_rule ?_)
  rw [hlong]
  show wpAny _ A.in1 (updateSeq l (fun xs_1 => xs_1.extract 0 (0 : Int).toNat ++ ys.toArray ++ xs_1.extract (max (0 : Int) (xs.toArray.size : Int)).toNat xs_1.size) >>= _) _ _ s
  have eA : xs.toArray.extract 0 (0 : Int).toNat ++ ys.toArray ++ xs.toArray.extract (max (0 : Int) (xs.toArray.size : Int)).toNat xs.toArray.size = ys.toArray := by
    rw [show (0 : Int).toNat = 0 from rfl, Int.max_eq_right (Int.natCast_nonneg _), Int.toNat_natCast]
    have a : ∀ z : Array Value, z.extract 0 0 = #[] := by intro z; simp
    have b : ∀ z : Array Value, z.extract z.size z.size = #[] := by intro z; simp
    rw [a, b]
    simp
  refine wpAny_bind (wpAny_updateSeq hl rfl ?_ (_hz' := by
    rw [eA, List.size_toArray, sizeLine_eq]
    exact Nat.le_trans (Nat.le_add_left _ _) (Nat.le_trans hz (by decide))))
  refine wpAny_bind (wpAny_letGo ?_)
  refine wpAny_pure ⟨_, rfl, wpAny_pure (h _ _ (Heap.SameBut.update ..) (?_ : _ = some (lst ys (if ys.toArray.size == xs.toArray.size then n else n + 1))))⟩
  refine (Heap.get?_update_self _ hl rfl).trans ?_
  simp [Obj.mapSeq, lst]
end
set_option maxHeartbeats 1000000
section
theorem plain_rePattern : PlainAttrs "re.Pattern" :=
  ⟨⟨"object.__getattribute__", by rw [typeLookup_type, builtinLookup_eq_fast]; kernel_rfl, by decide +kernel⟩, by rw [typeLookup_type, builtinLookup_eq_fast]; kernel_rfl⟩
theorem slot_search : Slot "re.Pattern" "search" "re.Pattern.search" :=
  .of (owner := "re.Pattern") (n := "search") (by rw [typeLookup_type, builtinLookup_eq_fast]; kernel_rfl) (by decide +kernel) (by decide +kernel) (by decide +kernel)
    (by first | exact .inl (by decide +kernel) | exact .inr (by decide +kernel)) (by rw [isSubtype_type]; kernel_rfl)
theorem type_search : typeOf (.builtin "re.Pattern.search") = pure (.type "method_descriptor") := by show builtinType _ = _; rw [builtinType_eq_fast]; kernel_rfl
theorem entry_search : entryFor table "re.Pattern.search" = some Builtin.«re.Pattern.search» := entryFor_of_tree (by kernel_rfl)
theorem args_search (a b : Value) : argsOk "re.Pattern.search" ⟨[a, b], []⟩ := by unfold argsOk; kernel_rfl
noncomputable def nameCode : Array Nat := #[14, 10, 4, 1, 1, 22, 0, 31, 16, 127, 0, 13, 7, 22, 0, 31, 16, 127, 0, 1]
noncomputable def valueCode : Array Nat := #[14, 14, 4, 1, 1, 9, 4294966783, 0, 0, 2147483648, 0, 0, 0, 0, 0, 13, 11, 9, 4294966783, 0, 0, 2147483648, 0, 0, 0, 0, 0, 1]
noncomputable def codeOf (nm : Bool) : Array Nat := if nm then nameCode else valueCode
/-- a control sign that is refused -/
noncomputable def bad (nm : Bool) (c : Nat) : Bool := if nm then decide (c ≤ 31) || c == 127 else (decide (c ≤ 31) && !(c == 9)) || c == 127
theorem inSet_name (c : Nat) (seen : Sre.Seen) : ∃ s', Sre.inSet nameCode c nameCode.size 5 true seen = .ok (bad true c, s') := by
  have e : Sre.inSet nameCode c nameCode.size 5 true seen = if (decide (0 ≤ c) && decide (c ≤ 31)) = true then .ok (true, seen.add 22) else if (c == 127) = true then .ok (true, (seen.add 22).add 16) else .ok (!true, ((seen.add 22).add 16).add 0) := rfl
  rw [e]
  unfold bad
  by_cases h : c ≤ 31
  · simp [h]
  · by_cases h2 : c = 127
    · subst h2; exact ⟨_, rfl⟩
    · simp [h, h2]
theorem set_value : ∀ c : Fin 256, ((valueCode.getD (5 + (1 + c.val / 32)) 0).testBit (c.val % 32)) = bad false c.val := by decide +kernel
theorem inSet_value (c : Nat) (seen : Sre.Seen) : ∃ s', Sre.inSet valueCode c valueCode.size 5 true seen = .ok (bad false c, s') := by
  have e : Sre.inSet valueCode c valueCode.size 5 true seen = if (decide (c < 256) && (valueCode.getD (5 + (1 + c / 32)) 0).testBit (c % 32)) = true then .ok (true, seen.add 9) else .ok (!true, (seen.add 9).add 0) := rfl
  rw [e]
  by_cases h : c < 256
  · rw [set_value ⟨c, h⟩]
    cases q : bad false c <;> simp [h]
  · have : bad false c = false := by
      have h1 : ¬ c ≤ 31 := by omega
      have h2 : c ≠ 127 := by omega
      simp [bad, h1, h2]
    rw [this]
    simp [h]
theorem inSet_any (nm : Bool) (c : Nat) (seen : Sre.Seen) : ∃ s', Sre.inSet (codeOf nm) c (codeOf nm).size 5 true seen = .ok (bad nm c, s') := by
  cases nm
  · exact inSet_value c seen
  · exact inSet_name c seen
theorem admitted_none {nm : Bool} {m : Sre.M} (hc : m.code = codeOf nm) (ht : ∀ i < m.lim, bad nm (m.text.getD i 0) = false) : ∀ (fuel s : Nat) (seen : Sre.Seen), ∃ s', m.admitted fuel s seen = .ok (none, s')
  | 0, s, seen => ⟨_, rfl⟩
  | fuel + 1, s, seen => by
    unfold Sre.M.admitted
    split
    · exact ⟨_, rfl⟩
    · rename_i h
      obtain ⟨s1, e1⟩ := inSet_any nm (m.text.getD s 0) seen
      rw [hc, e1, ht s (by omega)]
      exact admitted_none hc ht fuel (s + 1) s1
theorem search_none {nm : Bool} {text : Array Nat} (ht : ∀ c ∈ text.toList, bad nm c = false) : ∃ m', (Sre.forSearch (codeOf nm) text 0 0 text.size false).runFor 4 = m' ∧ m'.outcome = some .failed := by
  refine ⟨_, rfl, ?_⟩
  have key : ∀ m : Sre.M, m.answer = some false → m.frames = [] → m.outcome = none → (m.runFor 4).outcome = some .failed := by
    intro m h1 h2 h3
    have e : m.step = { m with outcome := some .failed } := by
      unfold Sre.M.step
      rw [h3, h1, h2]; rfl
    unfold Sre.M.runFor
    rw [h3, e]
    rfl
  have hd : ∀ i < text.size, bad nm (text.getD i 0) = false := fun i hi => ht _ (by simp [Array.getD, hi])
  unfold Sre.forSearch
  dsimp only
  split
  · apply key
    · rfl
    · rfl
    · rfl
  · have hf : ∀ m : Sre.M, m.code = codeOf nm → m.text = text → m.lim = text.size → m.frames = [] → m.outcome = none → ((m.attemptFrom 0 true).runFor 4).outcome = some .failed := by
      intro m h1 h2 h3 h4 h5
      obtain ⟨s', e⟩ := admitted_none (nm := nm) h1 (by rw [h2, h3]; exact hd) (m.lim + 1 - 0) 0 m.seen
      unfold Sre.M.attemptFrom
      have hs : m.hasFirstSet = true := by unfold Sre.M.hasFirstSet; rw [h1]; cases nm <;> rfl
      rw [hs, e]
      apply key
      · rfl
      · exact h4
      · exact h5
    apply hf <;> rfl
section
variable {w : World} {M : Model} {A : Around} {E : Value → Shared → Prop} {s : Shared}
open Builtin.Re
theorem named_search (v : Value) (id : String) : reNamed id "search" ["string", "pos", "endpos"] 1 [v] [] = pure [some v, none, none] := rfl
theorem target_ {p ct : Addr} {o oc : Obj} {f0 f1 f3 f4 : Value} {t2 t6 n : Nat} {items : Array Value} {code : Array Nat} {x : Str} {t : Tok} {Q : ReTarget → Shared → Prop} (ho : s.heap.get? p = some o) (hd : o.data = .fields #[f0, f1, .int 0 t2, f3, f4, .ref ct, .int 0 t6])
    (hct : s.heap.get? ct = some oc) (hoc : oc.data = .seq items n) (hcode : (items.map reRawOf).map (·.toNat) = code)
    (h : Q ⟨.ref p, .str x t, code, x.cps, 0, 0, 0, min (9223372036854775807 : Nat) x.cps.size⟩ s) : wpAny M A (reTarget "re.Pattern.search" "search" ⟨[.ref p, .str x t], []⟩) Q E s := by
  unfold reTarget
  dsimp only
  refine wpAny_bind (wpAny_of_eq (named_search _ _) ?_)
  dsimp only
  refine wpAny_bind (wpAny_pure (wpAny_bind (wpAny_pure (wpAny_bind (wpAny_fieldsOf ho hd ?_)))))
  refine wpAny_bind (wpAny_of_eq (a := (x.cps, 0)) rfl ?_)
  dsimp only
  rw [if_neg (by show ¬ (((0 : Nat) == 0 && (0 : Nat) == 1) = true); decide), if_neg (by show ¬ (((0 : Nat) == 1 && (0 : Nat) == 0) = true); decide)]
  refine wpAny_bind (wpAny_of_eq (a := ()) rfl ?_)
  refine wpAny_bind ?_
  show wpAny M A (reRawItems (.ref ct)) _ _ _
  unfold reRawItems
  refine wpAny_bind (wpAny_seqItems hct hoc (wpAny_pure (wpAny_pure ?_)))
  subst hcode
  exact h
theorem rules_ {f : Nat → Bool} {g : Nat → String} {Q : PUnit → Shared → Prop} : ∀ (l : List Nat) (s : Shared), Q ⟨⟩ s → wpAny M A (forIn l PUnit.unit fun i r => if f i = true then do rule (g i); pure (ForInStep.yield PUnit.unit) else pure (ForInStep.yield PUnit.unit)) Q E s
  | [], s, h => wpAny_pure h
  | a :: l, s, h => by
    rw [List.forIn_cons]
    refine wpAny_bind ?_
    split
    · exact wpAny_bind (wpAny_rule (wpAny_pure (rules_ l s h)))
    · exact wpAny_pure (rules_ l s h)
theorem drive_ {m m' : Sre.M} (e : m.runFor 4 = m') (ho : m'.outcome.isSome = true) (n : Nat) : reDrive (n + 1) m = pure m' := by
  have e' : m.runFor reTurnSteps = m' := e
  rw [reDrive]
  simp only [e', ho, if_true]
theorem answer_none {t : ReTarget} {m m' : Sre.M} {Q : Fin → Shared → Prop} (e : m.runFor 4 = m') (ho : m'.outcome = some .failed) (h : Q (.done (.ret .none)) s) : wpAny M A (reAnswer t m) Q E s := by
  unfold reAnswer reRunToEnd
  refine wpAny_bind (wpAny_bind ?_)
  rw [show (2 ^ 64 : Nat) = 18446744073709551615 + 1 from rfl, drive_ e (by rw [ho]; rfl)]
  refine wpAny_pure (wpAny_bind (rules_ _ _ ?_))
  rw [ho]
  exact wpAny_pure (wpAny_pure h)
theorem answer_some {t : ReTarget} {m m' : Sre.M} {Q : Fin → Shared → Prop} (ht : t.groups = 0) (e : m.runFor 4 = m') (ho : m'.outcome = some .matched)
    (h : ∀ a h' o, s.heap.StaysIn h' → s.heap.objs.size ≤ a → h'.get? a = some o → o.cls = .type "re.Match" → o.dict = none → Q (.done (.ret (.ref a))) { s with heap := h' }) : wpAny M A (reAnswer t m) Q E s := by
  unfold reAnswer reRunToEnd
  refine wpAny_bind (wpAny_bind ?_)
  rw [show (2 ^ 64 : Nat) = 18446744073709551615 + 1 from rfl, drive_ e (by rw [ho]; rfl)]
  refine wpAny_pure (wpAny_bind (rules_ _ _ ?_))
  rw [ho]
  refine wpAny_pure ?_
  dsimp only
  rw [ht]
  refine wpAny_bind ?_
  unfold reNewMatch
  dsimp only
  rw [show List.range 0 = [] from rfl]
  simp only [List.any_nil, Bool.false_eq_true, if_false, List.flatMap_nil]
  refine wpAny_bind (wpAny_newObj_type (wpAny_newObj_type (wpAny_pure (h _ _ _ (fun _ _ q => Heap.get?_push_of_some _ (Heap.get?_push_of_some _ q)) ?_ (Heap.get?_push_size _ rfl) rfl rfl))))
  rw [Heap.size_push]
  exact Nat.le_succ _
end
/-- the pattern's address -/
noncomputable def pat (nm : Bool) : Addr := if nm then 90 else 95
section
variable {w : World} {A : Around} {E : Value → Shared → Prop} {s : Shared} {g : Heap}
open Builtin.Re
theorem search_ok {nm : Bool} {x : Str} {t : Tok} {Q : Value → Shared → Prop} (G : Gd w s.heap) (hz : x.length ≤ 1000000) (hx : ∀ c ∈ x.cps.toList, bad nm c = false) (h : Q .none s) :
    wpAny (model P0 w) A (call (.builtin "re.Pattern.search") [.ref (pat nm), .str x t]) Q E s := by
  have hmin : min (9223372036854775807 : Nat) x.cps.size = x.cps.size := Nat.min_eq_right (Nat.le_trans hz (by decide))
  obtain ⟨m', e, ho⟩ := search_none (nm := nm) (text := x.cps) hx
  cases nm with
  | true =>
    refine wpAny_call_entry slot_search ⟨_, G.k 90 _ rfl, rfl⟩ entry_search ?_ (args_search _ _)
    show wpAny _ A.in1 (do let t ← reTarget "re.Pattern.search" "search" ⟨[.ref 90, .str x t], []⟩; reAnswer t (Sre.forSearch t.code t.text t.groups t.pos t.lim false)) _ _ s
    refine wpAny_bind (target_ (code := codeOf true) (G.k 90 _ rfl) rfl (G.k 89 _ rfl) rfl (by decide +kernel) ?_)
    rw [hmin]
    exact answer_none e ho ⟨_, rfl, h⟩
  | false =>
    refine wpAny_call_entry slot_search ⟨_, G.k 95 _ rfl, rfl⟩ entry_search ?_ (args_search _ _)
    show wpAny _ A.in1 (do let t ← reTarget "re.Pattern.search" "search" ⟨[.ref 95, .str x t], []⟩; reAnswer t (Sre.forSearch t.code t.text t.groups t.pos t.lim false)) _ _ s
    refine wpAny_bind (target_ (code := codeOf false) (G.k 95 _ rfl) rfl (G.k 94 _ rfl) rfl (by decide +kernel) ?_)
    rw [hmin]
    exact answer_none e ho ⟨_, rfl, h⟩
theorem found_ (nm : Bool) (c : Nat) (hc : c ∈ [0, 9, 10, 31, 127]) (hb : bad nm c = true) : ((Sre.forSearch (codeOf nm) #[98, c] 0 0 2 false).runFor 4).outcome = some .matched := by
  have key : ∀ nm : Bool, ∀ c ∈ [0, 9, 10, 31, 127], bad nm c = true → (match ((Sre.forSearch (codeOf nm) #[98, c] 0 0 2 false).runFor 4).outcome with | some .matched => true | _ => false) = true := by decide +kernel
  have := key nm c hc hb
  split at this
  · assumption
  · cases this
theorem search_bad {nm : Bool} {c : Nat} {t : Tok} {Q : Value → Shared → Prop} (G : Gd w s.heap) (hc : c ∈ [0, 9, 10, 31, 127]) (hb : bad nm c = true)
    (h : ∀ a h' o, s.heap.StaysIn h' → s.heap.objs.size ≤ a → h'.get? a = some o → o.cls = .type "re.Match" → o.dict = none → Q (.ref a) { s with heap := h' }) :
    wpAny (model P0 w) A (call (.builtin "re.Pattern.search") [.ref (pat nm), .str ⟨#[98, c]⟩ t]) Q E s := by
  have ho := found_ nm c hc hb
  cases nm with
  | true =>
    refine wpAny_call_entry slot_search ⟨_, G.k 90 _ rfl, rfl⟩ entry_search ?_ (args_search _ _)
    show wpAny _ A.in1 (do let t ← reTarget "re.Pattern.search" "search" ⟨[.ref 90, .str _ t], []⟩; reAnswer t (Sre.forSearch t.code t.text t.groups t.pos t.lim false)) _ _ s
    exact wpAny_bind (target_ (code := codeOf true) (G.k 90 _ rfl) rfl (G.k 89 _ rfl) rfl (by decide +kernel) (answer_some rfl rfl ho fun a h' o k l e e1 e2 => ⟨_, rfl, h a h' o k l e e1 e2⟩))
  | false =>
    refine wpAny_call_entry slot_search ⟨_, G.k 95 _ rfl, rfl⟩ entry_search ?_ (args_search _ _)
    show wpAny _ A.in1 (do let t ← reTarget "re.Pattern.search" "search" ⟨[.ref 95, .str _ t], []⟩; reAnswer t (Sre.forSearch t.code t.text t.groups t.pos t.lim false)) _ _ s
    exact wpAny_bind (target_ (code := codeOf false) (G.k 95 _ rfl) rfl (G.k 94 _ rfl) rfl (by decide +kernel) (answer_some rfl rfl ho fun a h' o k l e e1 e2 => ⟨_, rfl, h a h' o k l e e1 e2⟩))
theorem method_search {nm : Bool} {pl : Sem Bool} {Q : Value × List Value → Shared → Prop} (G : Gd w s.heap) (h : Q (.builtin "re.Pattern.search", [.ref (pat nm)]) s) : wpAny (model P0 w) A (getMethod (.ref (pat nm)) "search" pl) Q E s := by
  cases nm with
  | true => exact getMethod_builtin ⟨_, G.k 90 _ rfl, rfl⟩ plain_rePattern slot_search type_search (fun a e => by cases e; exact ⟨_, G.k 90 _ rfl, rfl⟩) h
  | false => exact getMethod_builtin ⟨_, G.k 95 _ rfl, rfl⟩ plain_rePattern slot_search type_search (fun a e => by cases e; exact ⟨_, G.k 95 _ rfl, rfl⟩) h
end
end
set_option maxHeartbeats 1000000
/-- the text's globals and the methods of its class, by name -/
noncomputable def gtab : List (Str × Nat) := [(Str.ofString "_wall", 38), (Str.ofString "read_uint1", 45), (Str.ofString "read_string1", 52), (Str.ofString "read_unicodestring1", 59), (Str.ofString "_Example", 76), (Str.ofString "tspecials", 85), (Str.ofString "_name_disallowed_re", 90), (Str.ofString "_value_disallowed_re", 95), (Str.ofString "_formatparam", 103), (Str.ofString "Headers", 224), (Str.ofString "_law_take", 235), (Str.ofString "_law_stream", 242), (Str.ofString "_law_utf", 249), (Str.ofString "_law_item", 256), (Str.ofString "_law_low", 261), (Str.ofString "_law_shown", 266), (Str.ofString "_law_read", 271), (Str.ofString "_law_table", 276), (Str.ofString "_law_made", 283), (Str.ofString "_law_sent", 290), (Str.ofString "_law_goes", 295), (Str.ofString "_law_key", 300), (Str.ofString "_law_tells", 305), (Str.ofString "_law_run", 310), (Str.ofString "_law_drawn", 317), (Str.ofString "law", 324)]
noncomputable def globOf (x : Str) : Option Nat := (gtab.find? (·.1 == x)).map (·.2)
noncomputable def mtab : List (Str × Nat) := [(Str.ofString "_convert_string_type", 125), (Str.ofString "items", 188), (Str.ofString "get_all", 163), (Str.ofString "add_header", 221)]
noncomputable def methOf (x : Str) : Option Nat := (mtab.find? (·.1 == x)).map (·.2)
theorem gtab_ok (P : Params) : gtab.map (fun p => nsIn (KF P) mainGlobals p.1) = gtab.map (fun p => some (some (.ref p.2))) := by rfl
theorem mtab_ok (P : Params) : mtab.map (fun p => (findIn (KF P) (.ref 224) p.1, isFn (KF P) (.ref p.2))) = mtab.map (fun p => (some (some (.ref p.2)), true)) := by rfl
theorem plain224 (P : Params) (x : Str) : plainGet (KF P) 224 x = true := by rfl
noncomputable def keepL : List Nat := [45, 52, 59, 76, 103, 125, 144, 163, 188, 200, 207, 221, 224, 235, 242, 249, 256, 261, 266, 271, 276, 283, 290, 295, 300, 305, 310, 317, 324]
theorem keep_ok (P : Params) : keepL.all (fun n => keepIn (KF P) (.ref n)) = true := by rfl
theorem keepAt {P : Params} {n : Nat} (h : keepL.contains n = true) : keepIn (KF P) (.ref n) = true := List.all_eq_true.mp (keep_ok P) n (List.contains_iff_mem.mp h)
theorem tab_at {t : List (Str × Nat)} {x : Str} {n : Nat} (h : (t.find? (·.1 == x)).map (·.2) = some n) : (x, n) ∈ t := by
  cases e : t.find? (·.1 == x) with
  | none => rw [e] at h; cases h
  | some p =>
    rw [e] at h; cases h
    have q : (p.1 == x) = true := List.find?_some (p := fun y : Str × Nat => y.1 == x) e
    rw [← eq_of_beq q]
    exact List.mem_of_find?_eq_some e
section
variable {w : World} {A : Around} {E : Value → Shared → Prop} {s : Shared} {b g₀ g : Heap} {m : Str → Option Value} {mu : List (Addr × Obj)} {ks : List At}
theorem nm_globT {env : Env} {x : Str} {pos : Pos} {n : Nat} {Q : Value → Shared → Prop} (C : Cx b g₀ env.locals m mu ks g s.heap) (G : Gd w g₀) (e : globOf x = some n) (h : Q (.ref n) s)
    (hk : env.scope.kind = .function := by rfl) (hl : env.kindOf x = some .globalImplicit := by rfl) (hg : env.globals = mainGlobals := by rfl) (hd : (x == ("__debug__" : Str)) = false := by decide) :
    wpAny (model P0 w) A (eval (.Name x pos) env) Q E s := nm_glob C G (List.map_inj_left.mp (gtab_ok w.params) _ (tab_at e)) h hk hl hg hd
theorem callWith_pair {pos : Pos} {f : Value} {l : List Value} {args : List (Bool × Sem Value)} {kws : List (Option Str × Sem Value)} {M : Model} {Q : Value → Shared → Prop} (h : wpAny M A (callWith pos f l args kws) Q E s) : wpAny M A (callWith pos (f, l).1 (f, l).2 args kws) Q E s := h
theorem get_methT {L x dx f Cl : Addr} {sl : Array (Option Value)} {es : List DictEntry} {n : Nat} {name : Str} {pl : Sem Bool} {Q : Value × List Value → Shared → Prop} (C : Cx b g₀ L m mu ks g s.heap) (G : Gd w g₀) (e1 : s.heap.get? x = some ⟨.ref Cl, some dx, .plain, sl⟩) (e2 : s.heap.get? dx = some (dictOf es n)) (hC : Cl = 224)
    (hf : methOf name = some f) (hl : getL name es = some none) (h : Q (.ref f, [.ref x]) s) : wpAny (model P0 w) A (getMethod (.ref x) name pl) Q E s := by
  subst hC
  have k := List.map_inj_left.mp (mtab_ok w.params) _ (tab_at hf)
  exact get_meth C G e1 e2 (plain224 _ _) (congrArg Prod.fst k) (congrArg Prod.snd k) hl h
end
theorem meth_in {h : Heap} {x dx Cl : Addr} {sl : Array (Option Value)} {es : List DictEntry} {n : Nat} {P : Prop} (e1 : h.get? x = some ⟨.ref Cl, some dx, .plain, sl⟩) (e2 : h.get? dx = some (dictOf es n)) (k : h.get? x = some ⟨.ref Cl, some dx, .plain, sl⟩ → h.get? dx = some (dictOf es n) → P) : P := k e1 e2
theorem own_meth {w : World} {A : Around} {E : Value → Shared → Prop} {s : Shared} {b g₀ g : Heap} {L x dx Cl : Addr} {m : Str → Option Value} {mu : List (Addr × Obj)} {ks : List At} {sl : Array (Option Value)} {es : List DictEntry} {n : Nat} {name : Str} {v : Value} {pl : Sem Bool} {Q : Value × List Value → Shared → Prop}
    (C : Cx b g₀ L m mu ks g s.heap) (G : Gd w g₀) (e1 : s.heap.get? x = some ⟨.ref Cl, some dx, .plain, sl⟩) (e2 : s.heap.get? dx = some (dictOf es n))
    (hg : plainGet (KF w.params) Cl name = true) (hh : hasDictIn (KF w.params) Cl = true) (ha : findIn (KF w.params) (.ref Cl) name = some none) (hl : getL name es = some (some v)) (hv : handedIn v = true)
    (h : Q (v, []) { s with toks := s.toks + 1 }) : wpAny (model P0 w) A (getMethod (.ref x) name pl) Q E s :=
  method_usual (r := none) (C.kin G) (inst_at e1 e2) (plainGet_of hg).1 (plainGet_of hg).2 ha rfl (get_attr C G e1 e2 hg hh ha rfl hl hv h)
theorem lines : True := by
  (k_with "m asm" => with_reducible assumption)
  (k_with "m mem" => first | exact List.Mem.head _ | with_reducible assumption | (refine List.Mem.tail _ ?_; walk_at "mem"))
  (k_with "m up" => first | exact UpF.head | exact UpF.tail (UpF.head) | exact UpF.tail (UpF.tail (UpF.head)) | exact UpF.tail (UpF.tail (UpF.tail (UpF.head))) | exact UpF.tail (UpF.tail (UpF.tail (UpF.tail (UpF.head)))) | exact UpF.tail (UpF.tail (UpF.tail (UpF.tail (UpF.tail (UpF.head))))) | exact UpF.tail (UpF.tail (UpF.tail (UpF.tail (UpF.tail (UpF.tail (UpF.head)))))) | exact UpF.tail (UpF.tail (UpF.tail (UpF.tail (UpF.tail (UpF.tail (UpF.tail (UpF.head))))))) | exact UpF.tail (UpF.tail (UpF.tail (UpF.tail (UpF.tail (UpF.tail (UpF.tail (UpF.tail (UpF.head)))))))))
  (k_with "m room" => first | with_reducible assumption | exact Rm.le (by with_reducible assumption) | exact Rm.le (Rm.deeper (by with_reducible assumption)) | exact Rm.le (Rm.in1 (Rm.deeper (by with_reducible assumption))))
  (k_with "m gd" => exact Gd.up (by with_reducible assumption) (Cx.gg (by with_reducible assumption)))
  (k_with "m gk" => exact Cx.gk (by with_reducible assumption))
  (k_with "m hh" => (rename Rm _ _ => rR; exact rR.hd))
  (k_with "m get" => first | exact Cx.at (by with_reducible assumption) (by walk_at "mem") | exact Cx.gk (by with_reducible assumption) _ _ (Cx.ob (by with_reducible assumption) (by walk_at "mem")) | exact Cx.gk (by with_reducible assumption) _ _ (by with_reducible assumption) | exact Cx.up0 (by with_reducible assumption) _ _ (by with_reducible assumption) | exact Cx.gk (by with_reducible assumption) _ _ (by assumption) | exact Cx.up0 (by with_reducible assumption) _ _ (by assumption))
  (k_with "m kin" => exact Cx.kin (by with_reducible assumption) (by with_reducible assumption))
  (k_with "m le" => first | exact Nat.le_of_ble_eq_true rfl | (simp; done) | omega | (simp; omega) | (simp at *; omega))
  (k_with "m ite" => first | with_reducible refine ite_tt ?_ | with_reducible refine ite_ff ?_)
  (k_with "m eval Name" => (fail_if_success plain_pass); k_dflt (first
    | refine nm_local (by with_reducible assumption) (by first | rfl | assumption) ?_
    | refine nm_cellG (by rfl) (by walk_at "get") (by assumption) ?_
    | refine nm_free (by rfl) (by walk_at "get") (by assumption) ?_
    | refine nm_globT (by with_reducible assumption) (by with_reducible assumption) (by rfl) ?_
    | refine nm_boot (by with_reducible assumption) (by with_reducible assumption) (by rfl) (by boot_by_name) (by decide) ?_))
  (k_with "m storeName" => (fail_if_success plain_pass); k_dflt (rename Cx _ _ _ _ _ _ _ _ => cO; first
    | (refine st_local cO ?_; clear cO; intro _ _; try dsimp only)
    | (refine st_cellF cO (by rfl) (by walk_at "up") (by assumption) ?_; clear cO; intro _ _ _ _; try dsimp only)))
  (k_with "m newList" => (fail_if_success plain_pass); k_dflt (rename Cx _ _ _ _ _ _ _ _ => cO; refine newList_ cO (by first | exact Nat.le_of_ble_eq_true rfl | simp) ?_; intro _ _ _ _; clear cO; try dsimp only))
  (k_with "m newTuple" => (fail_if_success plain_pass); k_dflt (rename Cx _ _ _ _ _ _ _ _ => cO; refine newTuple_ cO (by first | exact Nat.le_of_ble_eq_true rfl | simp) ?_; intro _ _ _ _; clear cO; try dsimp only))
  (k_with "m loadName" => (fail_if_success plain_pass); k_dflt (refine ldn_local (by with_reducible assumption) (by first | rfl | assumption) ?_))
  (k_with "m exec For" => (fail_if_success plain_pass); k_dflt (refine wpAny_For ?_))
  (k_with "m eval ListComp" => (fail_if_success plain_pass); k_dflt (refine ListComp_ ?_))
  (k_with "m assign Tuple" => ((with_reducible show wpAny _ _ (assign (Expr.Tuple _ _ _) _ (Value.ref _)) _ _ _); k_dflt (rename Cx _ _ _ _ _ _ _ _ => cO; refine asg_tup cO (by walk_at "get") (by walk_at "hh") (by rfl) (by rfl) ?_; clear cO; intro _ _; try dsimp only)))
  (k_with "m callWith" => ((with_reducible show wpAny _ _ (callWith _ (Prod.fst _) _ _ _) _ _ _); with_reducible refine callWith_pair ?_))
  (k_with "m callWith ref" => (fail_if_success plain_pass); k_dflt (first
    | ((with_reducible show wpAny _ _ (callWith _ (Prod.fst _) _ _ _) _ _ _); with_reducible refine callWith_pair ?_)
    | ((with_reducible show wpAny _ _ (callWith _ _ _ _ (backToKw _ _)) _ _ _); first
      | refine callWith_KW (K := KF _) (f := Value.ref _) (by walk_at "kin") (by exact keepAt (by rfl)) (by rfl) ?_
      | refine callWith_KW0 (K := KF _) (f := Value.ref _) (by walk_at "kin") (by exact keepAt (by rfl)) (by rfl) ?_)
    | refine callWith_K (K := KF _) (f := Value.ref _) (by walk_at "kin") (by exact keepAt (by rfl)) ?_
    | (refine callWith_K0 (K := KF _) (f := Value.ref _) (by walk_at "kin") (by exact keepAt (by rfl)) ?_; try dsimp only [List.nil_append, List.cons_append])
    | refine callWith_F ⟨_, _, _, _, by walk_at "get"⟩ ?_))
  (k_with "m And" => ((first | ((with_reducible show Frag.In (KF _) _ ∧ _); refine ⟨by walk_at "kin", ?_⟩) | ((with_reducible show FnAt _ _ ∧ _); k_dflt (refine ⟨⟨_, _, _, _, by walk_at "get"⟩, ?_⟩))); try dsimp only [List.nil_append, List.cons_append]))
  (k_with "m call builtin:len" => ((with_reducible show wpAny _ _ (call (Value.builtin "len") [Value.ref _]) _ _ _); refine len_lst (by walk_at "get") (by walk_at "le") ?_; try dsimp only))
  (k_with "m binaryOp Add ref ref" => (rename Cx _ _ _ _ _ _ _ _ => cO; refine add_ cO (by walk_at "get") (by walk_at "get") (by walk_at "le") ?_; intro _ _ _ _; clear cO; try dsimp only))
  (k_with "m getMethod ref" => (fail_if_success plain_pass); k_dflt (first
    | ((with_reducible show wpAny _ _ (getMethod (Value.ref _) (Str.ofString "append") _) _ _ _); refine getMethod_list_append (Cx.at (by with_reducible assumption) (by walk_at "mem")) rfl rfl ?_)
    | (refine meth_in (by walk_at "get") (by walk_at "get") ?_; intro e1 e2; (first
      | refine get_methT (by with_reducible assumption) (by with_reducible assumption) e1 e2 (by rfl) (by rfl) (by rfl) ?_
      | refine get_meth (by with_reducible assumption) (by with_reducible assumption) e1 e2 (by rfl) (by rfl) (by rfl) (by rfl) ?_
      | (refine own_meth (by with_reducible assumption) (by with_reducible assumption) e1 e2 (by rfl) (by rfl) (by rfl) (by rfl) (by rfl) ?_; try dsimp only)); clear e1 e2)))
  (k_with "m callWith builtin:list.append" => (fail_if_success plain_pass); k_dflt (first
    | ((with_reducible show wpAny _ _ (callWith _ (Prod.fst _) _ _ _) _ _ _); with_reducible refine callWith_pair ?_)
    | refine callWith_method1 ?_))
  (k_with "m call builtin:list.append" => (fail_if_success plain_pass); k_dflt (rename Cx _ _ _ _ _ _ _ _ => cO; refine append_ cO (by walk_at "up") (by walk_at "le") ?_; clear cO; intro _ _ _))
  (k_with "m inplaceOp Add ref ref" => (fail_if_success plain_pass); k_dflt (rename Cx _ _ _ _ _ _ _ _ => cO; refine iadd_ cO (by walk_at "up") (by walk_at "mem") (by walk_at "le") ?_; clear cO; intro _ _ _))
  (k_with "m call type:type" => ((with_reducible show wpAny _ _ (call (Value.type "type") [Value.ref _]) _ _ _); k_dflt (refine call_type_of ⟨_, by walk_at "get", rfl⟩ (by decide) ?_)))
  (k_with "m exec Assign" => ((with_reducible show wpAny _ _ (exec (Stmt.Assign [Expr.Attribute _ _ _] _ _) _) _ _ _); with_reducible refine plainObj_wpAny_Assign_Attribute ?_ ?_; rotate_left; with_unfolding_all rfl))
  (k_with "m eval Call Attribute" => ((with_reducible show wpAny _ _ (eval (Expr.Call (Expr.Attribute _ _ _) _ (_ :: _) _) _) _ _ _); refine methodCall_KW ?_))
  (k_with "m evalAll" => (first | refine kwAll_cons ?_ | refine kwAll_nil ?_))
  (k_with "m setAttr ref" => (fail_if_success plain_pass); k_dflt (rename Cx _ _ _ _ _ _ _ _ => cO; refine set_attr cO (by with_reducible assumption) (by walk_at "get") (by walk_at "up") (by rfl) (by rfl) (by rfl) (by rfl) (by rfl) (by rfl) (by exact Nat.le_of_ble_eq_true rfl) ?_; clear cO; intro _ _; try dsimp only))
  (k_with "m getAttr ref" => (fail_if_success plain_pass); k_dflt (refine get_attr (by with_reducible assumption) (by with_reducible assumption) (by walk_at "get") (by walk_at "get") (by rfl) (by rfl) (by rfl) (by rfl) (by rfl) (by rfl) ?_; try dsimp only))
  (k_with "m subscriptTail" => ((with_reducible show wpAny _ _ (subscriptTail _ _ (Value.ref _) (Value.int _ _)) _ _ _); k_dflt (first
    | refine sub_lst (by walk_at "get") (by first | with_reducible assumption | exact Int.natCast_nonneg _ | decide | omega) (by first | with_reducible assumption | decide | omega) (by first | rfl | assumption) ?_
    | refine sub_tup (by walk_at "get") (by decide) (by decide) (by rfl) ?_)))
  (k_with "m eval Subscript" => ((with_reducible show wpAny _ _ (eval (Expr.Subscript _ (Expr.Slice _ _ none _) _) _) _ _ _); k_dflt (refine sub_slice ?_)))
  trivial
local macro_rules | `(tactic| walk_at $s:str) => do `(tactic| k_extra $(Lean.Syntax.mkStrLit ("m " ++ s.getString)):str)
set_option maxHeartbeats 1000000
noncomputable def utf1 (c : Nat) : List Nat :=
  if c < 128 then [c] else if c < 2048 then [192 + c / 64, 128 + c % 64] else if c < 65536 then [224 + c / 4096, 128 + c / 64 % 64, 128 + c % 64]
  else [240 + c / 262144, 128 + c / 4096 % 64, 128 + c / 64 % 64, 128 + c % 64]
noncomputable def utfL (l : List Nat) : List Nat := l.flatMap utf1
noncomputable def utfS (x : Str) : List Nat := utfL x.cps.toList
noncomputable def intsD (l : List Nat) : PyData := .list (l.map fun (n : Nat) => .int (n : Int))
/-- values that are these ints -/
noncomputable def AreInts (vs : List Value) (l : List Nat) : Prop := IntsAre vs (l.map fun (n : Nat) => (n : Int))

theorem AreInts.append {vs us : List Value} {l k : List Nat} (h : AreInts vs l) (h' : AreInts us k) : AreInts (vs ++ us) (l ++ k) := by
  unfold AreInts at *
  rw [List.map_append]
  exact h.append h'
theorem utfL_take {l : List Nat} {i c : Nat} (h : l[i]? = some c) : utfL (l.take (i + 1)) = utfL (l.take i) ++ utf1 c := by
  unfold utfL
  rw [List.take_add_one, h, List.flatMap_append]
  simp
theorem AreInts.nil : AreInts [] [] := IntsAre.nil
theorem AreInts.cons {a : Int} {t : Tok} {n : Nat} {vs : List Value} {l : List Nat} (e : a = (n : Int)) (h : AreInts vs l) : AreInts (.int a t :: vs) (n :: l) := by
  subst e
  exact IntsAre.cons _ _ h
theorem fdiv_nat (c k : Nat) : Int.fdiv (c : Int) (k : Int) = ((c / k : Nat) : Int) := by
  rw [Int.fdiv_eq_ediv_of_nonneg _ (Int.natCast_nonneg k)]; rfl
theorem fmod_nat (c k : Nat) : Int.fmod (c : Int) (k : Int) = ((c % k : Nat) : Int) := by
  rw [Int.fmod_eq_emod_of_nonneg _ (Int.natCast_nonneg k)]; rfl
/-- a list of ints, read -/
theorem AreInts.all {g : Heap} : ∀ {vs : List Value} {l : List Nat}, AreInts vs l → RdAll g vs (l.map fun (n : Nat) => .int (n : Int)) := by
  have key : ∀ {vs : List Value} {ns : List Int}, IntsAre vs ns → RdAll g vs (ns.map .int) := by
    intro vs ns h
    induction h with
    | nil => exact .nil
    | cons n t _ ih => exact .cons (.int _ _) ih
  intro vs l h
  have := key h
  rw [List.map_map] at this
  exact this
theorem AreInts.reads {g : Heap} {a : Addr} {vs : List Value} {n : Nat} {l : List Nat} (h : AreInts vs l) (e : g.get? a = some (lst vs n)) : Rd g (.ref a) (intsD l) := .list e h.all
theorem AreInts.of_all {g : Heap} {vs : List Value} {l : List Nat} : RdAll g vs (l.map fun (n : Nat) => .int (n : Int)) → AreInts vs l := by
  induction l generalizing vs with
  | nil => intro h; rw [List.map_nil] at h; cases h; exact .nil
  | cons a r ih =>
    intro h
    rw [List.map_cons] at h
    cases h with
    | cons h1 h2 => cases h1; exact .cons rfl (ih h2)
theorem Rd.ints {g : Heap} {v : Value} {l : List Nat} (h : Rd g v (intsD l)) : ∃ a vs n, v = .ref a ∧ g.get? a = some (lst vs n) ∧ AreInts vs l := by
  cases h with
  | list e r => exact ⟨_, _, _, rfl, e, .of_all r⟩
theorem AreInts.length {vs : List Value} {l : List Nat} (h : AreInts vs l) : vs.length = l.length := by
  have := IntsAre.length h
  simpa using this

theorem utf_spec {w : World} {A : Around} {E : Value → Shared → Prop} {s : Shared} {g : Heap} {x : Str} {t : Tok} (G : Gd w g) (gs : g.StaysIn s.heap) (R : Rm A 3) (hx : x.length ≤ 10000) (hc : ∀ c ∈ x.cps.toList, c < 1114112) :
    wpAny (model P0 w) A (call (.ref 249) [.str x t]) (fun v s' => Done (∃ g', Ct [] s g s' g' ∧ Rd g' v (intsD (utfS x)))) E s := by
  refine call_fn (binds := [(Str.ofString "text", .str x t)]) [] [] G gs R.lt (G.k 249 _ rfl) rfl (codeRec_of G.k rfl) (BindsTo.of_eq rfl) (locs rfl) (fun _ h => nomatch h) .nil (fun _ h => nomatch h) ?_ (by decide)
  intro h₁ tk C
  have hL := C.lt
  repeat walk1
  rename Cx _ _ _ _ _ _ _ _ => C1
  rename_i l _ hl _
  refine it_str C1 R.hd ?_
  clear C1
  intro I oI h' it C1
  refine for_it it C1 (fun i m₁ mu₁ ks₁ => ks₁ = [] ∧ m₁ (Str.ofString "octets") = some (.ref l) ∧ ∃ vs n, mu₁ = [(l, lst vs n)] ∧ AreInts vs (utfL (x.cps.toList.take i)) ∧ vs.length ≤ 4 * i) ⟨rfl, rfl, [], 0, rfl, .nil, Nat.le_refl _⟩ ?_ ?_
  · rintro i v m₁ mu₁ ks₁ g₁ h₂ tk₁ o₁ hi ⟨c, u, hcx, rfl⟩ ⟨rfl, hm, vs, n, rfl, hA, hlen⟩ hg C2
    clear C1
    have hxs : x.cps.size ≤ 10000 := hx
    repeat' walk1
    all_goals rename Cx _ _ _ _ _ _ _ _ => C3
    · refine .inl ⟨rfl, _, _, _, _, C3, hg, ⟨rfl, hm, _, _, rfl, ?_, ?_⟩, _, _, rfl⟩
      · rw [utfL_take (c := c) (by simpa using hcx)]
        refine hA.append ?_
        rw [utf1, if_pos (by omega)]
        exact .cons rfl .nil
      · simp; omega
    · refine .inl ⟨rfl, _, _, _, _, C3.drop (List.sublist_cons_self _ _), hg, ⟨rfl, rfl, _, _, rfl, ?_, ?_⟩, _, _, rfl⟩
      · rw [utfL_take (c := c) (by simpa using hcx)]
        refine hA.append ?_
        rw [utf1, if_neg (by omega), if_pos (by omega)]
        refine .cons ?_ (.cons ?_ .nil)
        · exact congrArg (192 + ·) (fdiv_nat c 64)
        · exact congrArg (128 + ·) (fmod_nat c 64)
      · simp; omega
    · refine .inl ⟨rfl, _, _, _, _, C3.drop (List.sublist_cons_self _ _), hg, ⟨rfl, rfl, _, _, rfl, ?_, ?_⟩, _, _, rfl⟩
      · rw [utfL_take (c := c) (by simpa using hcx)]
        refine hA.append ?_
        rw [utf1, if_neg (by omega), if_neg (by omega), if_pos (by omega)]
        refine .cons ?_ (.cons ?_ (.cons ?_ .nil))
        · exact congrArg (224 + ·) (fdiv_nat c 4096)
        · have h1 := fdiv_nat c 64; have h2 := fmod_nat (c / 64) 64; rw [← h1] at h2; exact congrArg (128 + ·) h2
        · exact congrArg (128 + ·) (fmod_nat c 64)
      · simp; omega
    · refine .inl ⟨rfl, _, _, _, _, C3.drop (List.sublist_cons_self _ _), hg, ⟨rfl, rfl, _, _, rfl, ?_, ?_⟩, _, _, rfl⟩
      · rw [utfL_take (c := c) (by simpa using hcx)]
        refine hA.append ?_
        rw [utf1, if_neg (by omega), if_neg (by omega), if_neg (by omega)]
        refine .cons ?_ (.cons ?_ (.cons ?_ (.cons ?_ .nil)))
        · exact congrArg (240 + ·) (fdiv_nat c 262144)
        · have h1 := fdiv_nat c 4096; have h2 := fmod_nat (c / 4096) 64; rw [← h1] at h2; exact congrArg (128 + ·) h2
        · have h1 := fdiv_nat c 64; have h2 := fmod_nat (c / 64) 64; rw [← h1] at h2; exact congrArg (128 + ·) h2
        · exact congrArg (128 + ·) (fmod_nat c 64)
      · simp; omega
  · rintro m₁ mu₁ ks₁ g₁ h₂ tk₁ ⟨rfl, hm, vs, n, rfl, hA, hlen⟩ hg C2
    clear C1
    repeat walk1
    obtain ⟨C3, le⟩ := C2.freeze hl
    refine Done.mk ⟨_, C3.done (Nat.le_refl _) ⟨_, _, rfl⟩, ?_⟩
    have e := C3.ob (.head _)
    have q : x.cps.toList.take x.cps.size = x.cps.toList := List.take_of_length_le (Nat.le_of_eq Array.length_toList)
    rw [q] at hA
    exact hA.reads e
set_option maxHeartbeats 1000000
/-- octets as bytes -/
noncomputable def byN (l : List Nat) : Array UInt8 := (l.map fun n => n.toUInt8).toArray
theorem byteArr_byN (l : List Nat) : byteArr (l.map fun (n : Nat) => (n : Int)) = byN l := by
  unfold byteArr byN; simp
theorem item_spec {w : World} {A : Around} {E : Value → Shared → Prop} {s : Shared} {g : Heap} {v : Value} {l : List Nat} (G : Gd w g) (gs : g.StaysIn s.heap) (R : Rm A 3) (hr : Rd g v (intsD l))
    (hb : ∀ n ∈ l, n < 256) (hl : l.length < 256) :
    wpAny (model P0 w) A (call (.ref 256) [v]) (fun v s' => Done ((∃ t, v = .bytes (byN (l.length :: l)) t) ∧ Ct [] s g s' g)) E s := by
  obtain ⟨a, vs, n, rfl, ha, hA⟩ := hr.ints
  have hlen := hA.length
  refine call_fn (binds := [(Str.ofString "octets", .ref a)]) [] [] G gs R.lt (G.k 256 _ rfl) rfl (codeRec_of G.k rfl) (BindsTo.of_eq rfl) (locs rfl) (fun _ h => nomatch h) .nil (fun _ h => nomatch h) ?_ (by decide)
  intro h₁ tk C
  repeat walk1
  rename Cx _ _ _ _ _ _ _ _ => C1
  have hI : AreInts ([.int (vs.length : Int) (tk + 1)] ++ vs) (l.length :: l) := .cons (by rw [hlen]) hA
  refine call_bytes_ints (ns := (l.length :: l).map fun (n : Nat) => (n : Int)) ⟨_, C1.at (.head _), rfl, 0, rfl⟩ hI ?_ (by simp; exact Nat.le_trans (Nat.le_of_lt (by omega : vs.length + 1 < 1000)) (by decide)) R.hd ?_
  · intro n hn
    obtain ⟨k, hk, rfl⟩ := List.mem_map.mp hn
    rcases List.mem_cons.mp hk with rfl | hk
    · omega
    · have := hb k hk; omega
  · intro h' t k hk
    exact ⟨⟨t, by rw [byteArr_byN]⟩, (C1.keep hk).done (Nat.le_refl _) ⟨_, _, rfl⟩⟩
noncomputable abbrev S (l : List Nat) : Str := ⟨l.toArray⟩
theorem S_length (l : List Nat) : (S l).length = l.length := by show l.toArray.size = _; simp
theorem utf1_len (c : Nat) : (utf1 c).length ≤ 4 := by unfold utf1; split <;> (try split) <;> (try split) <;> simp
theorem utf1_lt {c : Nat} (h : c < 1114112) : ∀ n ∈ utf1 c, n < 256 := by
  have m : ∀ x : Nat, 128 + x % 64 < 256 := fun x => Nat.add_lt_add_left (Nat.lt_of_lt_of_le (Nat.mod_lt _ (by decide)) (by decide : 64 ≤ 128)) 128
  have one : ∀ {a n : Nat}, a < 256 → n ∈ [a] → n < 256 := fun h k => by rw [List.mem_singleton.mp k]; exact h
  have more : ∀ {a n : Nat} {l : List Nat}, a < 256 → (n ∈ l → n < 256) → n ∈ a :: l → n < 256 := fun h k q => by
    rcases List.mem_cons.mp q with rfl | q
    · exact h
    · exact k q
  intro n
  unfold utf1
  split
  · exact one (Nat.lt_trans ‹c < 128› (by decide))
  split
  · exact more (Nat.add_lt_add_left (Nat.div_lt_of_lt_mul (k := 64) (Nat.lt_of_lt_of_le ‹c < 2048› (by decide : 2048 ≤ 64 * 64))) 192) (one (m _))
  split
  · exact more (Nat.add_lt_add_left (Nat.div_lt_of_lt_mul (k := 32) (Nat.lt_of_lt_of_le ‹c < 65536› (by decide : 65536 ≤ 4096 * 32))) 224) (more (m _) (one (m _)))
  · exact more (Nat.add_lt_add_left (Nat.div_lt_of_lt_mul (k := 16) (Nat.lt_of_lt_of_le h (by decide : 1114112 ≤ 262144 * 16))) 240) (more (m _) (more (m _) (one (m _))))
theorem utfL_len (l : List Nat) : (utfL l).length ≤ 4 * l.length := by
  induction l with
  | nil => simp [utfL]
  | cons a r ih =>
    have := utf1_len a
    simp only [utfL, List.flatMap_cons, List.length_append, List.length_cons] at ih ⊢
    omega
theorem utfL_lt {l : List Nat} (h : ∀ c ∈ l, c < 1114112) : ∀ n ∈ utfL l, n < 256 := by
  intro n hn
  obtain ⟨c, hc, hn⟩ := List.mem_flatMap.mp hn
  exact utf1_lt (h c hc) n hn
theorem AreInts.at {vs : List Value} {l : List Nat} (h : AreInts vs l) {i : Nat} {v : Value} (e : vs[i]? = some v) : ∃ (n : Nat) (t : Tok), l[i]? = some n ∧ v = .int (n : Int) t := by
  have : RdAll ({} : Heap) vs (l.map fun (n : Nat) => .int (n : Int)) := h.all
  obtain ⟨d, hd, r⟩ := this.at e
  rw [List.getElem?_map] at hd
  cases q : l[i]? with
  | none => rw [q] at hd; cases hd
  | some n =>
    rw [q] at hd; cases hd
    cases r with
    | int _ t => exact ⟨n, t, rfl, rfl⟩
/-- texts of one sign each -/
noncomputable def ones (l : List Nat) : List Str := l.map fun n => S [n]
theorem join_ones (l : List Nat) : Str.join (Str.ofString "") (ones l) = S l := by
  have key : ∀ (l : List Nat), Str.join (⟨#[]⟩ : Str) (ones l) = S l := by
    intro l
    induction l with
    | nil => rfl
    | cons a r ih =>
      cases r with
      | nil => rfl
      | cons b r =>
        have : Str.join (⟨#[]⟩ : Str) (ones (a :: b :: r)) = S [a] ++ ⟨#[]⟩ ++ Str.join (⟨#[]⟩ : Str) (ones (b :: r)) := rfl
        rw [this, ih]
        show (⟨#[a] ++ #[] ++ (b :: r).toArray⟩ : Str) = _
        simp [S]
  exact key l
theorem ones_weight (l : List Nat) : ((ones l).map (·.length)).sum + (ones l).length = 2 * l.length := by
  induction l with
  | nil => rfl
  | cons a r ih =>
    simp only [ones, List.map_cons, List.sum_cons, List.length_cons] at ih ⊢
    rw [S_length]
    simp only [List.length_cons, List.length_nil]
    omega
theorem low_spec {w : World} {A : Around} {E : Value → Shared → Prop} {s : Shared} {g : Heap} {x : Str} {t : Tok} (G : Gd w g) (gs : g.StaysIn s.heap) (R : Rm A 5) (hx : x.length ≤ 10000) (hc : ∀ c ∈ x.cps.toList, c < 1114112) :
    wpAny (model P0 w) A (call (.ref 261) [.str x t]) (fun v s' => Done (∃ g', Ct [] s g s' g' ∧ ∃ t, v = .str (S (utfS x)) t)) E s := by
  refine call_fn (binds := [(Str.ofString "text", .str x t)]) [] [] G gs R.lt (G.k 261 _ rfl) rfl (codeRec_of G.k rfl) (BindsTo.of_eq rfl) (locs rfl) (fun _ h => nomatch h) .nil (fun _ h => nomatch h) ?_ (by decide)
  intro h₁ tk C
  repeat walk1
  repeat walk1
  refine cx_call C (utf_spec (by walk_at "gd") (by walk_at "gk") (by walk_at "room") hx hc) ?_
  clear C
  intro v g' h' tk' hg hr C
  obtain ⟨l, vs, n, rfl, hl, hA⟩ := hr.ints
  have hlen := hA.length
  have G' := G.up hg
  have hu : (utfS x).length ≤ 40000 := by have := utfL_len x.cps.toList; have : x.cps.toList.length = x.length := by simp [Str.length]
                                          unfold utfS; omega
  refine it_lst C R.hd hl ?_
  intro I oI h₂ it C2
  clear C
  refine comp_it it C2 (by omega) (fun i ys mu₁ ks₁ => StrsAre ys (ones ((utfS x).take i)) ∧ mu₁ = [] ∧ ks₁ = []) ⟨.nil, rfl, rfl⟩ ?_ ?_
  · rintro i v ys b' Lc m₁ mu₁ ks₁ g₁ h₃ tk₃ o₁ D nD hi hv ⟨hS, rfl, rfl⟩ hg₁ C3
    obtain ⟨c, u, hc', rfl⟩ := hA.at hv
    have hlt : c < 256 := utfL_lt hc c (List.mem_of_getElem? hc')
    clear C2
    repeat walk1
    rename Cx _ _ _ _ _ _ _ _ => C4
    refine ⟨_, _, _, _, C4, hg₁, ⟨?_, rfl, rfl⟩, _, _, rfl⟩
    rw [List.take_add_one, hc']
    simp only [Option.toList, ones, List.map_append] at hS ⊢
    exact hS.append' (.cons _ _ .nil)
  · rintro ys mu₁ ks₁ g₁ h₃ tk₃ D nD ⟨hS, rfl, rfl⟩ hg₁ hD C3
    rw [hlen, List.take_length] at hS
    repeat walk1
    refine join_listW ⟨_, C3.at (.head _), rfl, _, rfl⟩ (by simpa using hS) (by decide) (by rw [ones_weight]; omega) ?_
    intro t' k
    rw [show Txt.join (Str.ofString "") (ones (utfS x)) = S (utfS x) from (beq_iff_eq.mp (join_plain_closes _ _)).trans (join_ones _)]
    repeat walk1
    exact Done.mk ⟨_, C3.done (Nat.le_refl _) ⟨_, _, rfl⟩, _, rfl⟩
set_option maxHeartbeats 1000000
noncomputable abbrev Pair := Str × Str
noncomputable def pairD (p : Pair) : PyData := .tuple [.str p.1, .str p.2]
noncomputable def pairsD (ps : List Pair) : PyData := .list (ps.map pairD)
noncomputable def lowS (x : Str) : Str := S (utfS x)
noncomputable def shownP (full : Bool) (ps : List Pair) : List Pair := if full then ps else ps.map fun p => (lowS p.1, lowS p.2)
/-- a text within bounds -/
structure Tx (x : Str) : Prop where
  len : x.length ≤ 1000
  cps : ∀ c ∈ x.cps.toList, c < 1114112
noncomputable def TxP (p : Pair) : Prop := Tx p.1 ∧ Tx p.2
theorem Rd.pair {g : Heap} {v : Value} {p : Pair} (h : Rd g v (pairD p)) : ∃ a t u, v = .ref a ∧ g.get? a = some (Mine.tup [.str p.1 t, .str p.2 u]) := by
  cases h with
  | tup e r =>
    cases r with
    | cons a r => cases r with
      | cons b r => cases r with
        | nil => cases a with
          | str _ t => cases b with
            | str _ u => exact ⟨_, t, u, rfl, e⟩
theorem Rd.mkPair {g : Heap} {a : Addr} {x y : Str} {t u : Tok} (e : g.get? a = some (Mine.tup [.str x t, .str y u])) : Rd g (.ref a) (pairD (x, y)) :=
  .tup e (.cons (.str _ _) (.cons (.str _ _) .nil))
theorem Rd.pairs {g : Heap} {v : Value} {ps : List Pair} (h : Rd g v (pairsD ps)) : ∃ a vs n, v = .ref a ∧ g.get? a = some (lst vs n) ∧ RdAll g vs (ps.map pairD) := by
  cases h with
  | list e r => exact ⟨_, _, _, rfl, e, r⟩
theorem RdAll.pairAt {g : Heap} {vs : List Value} {ps : List Pair} (h : RdAll g vs (ps.map pairD)) {i : Nat} {v : Value} (e : vs[i]? = some v) : ∃ p a t u, ps[i]? = some p ∧ v = .ref a ∧ g.get? a = some (Mine.tup [.str p.1 t, .str p.2 u]) := by
  obtain ⟨d, hd, r⟩ := h.at e
  rw [List.getElem?_map] at hd
  cases q : ps[i]? with
  | none => rw [q] at hd; cases hd
  | some p =>
    rw [q] at hd; cases hd
    obtain ⟨a, t, u, rfl, e'⟩ := r.pair
    exact ⟨p, a, t, u, rfl, rfl, e'⟩
theorem shown_spec {w : World} {A : Around} {E : Value → Shared → Prop} {s : Shared} {g : Heap} {v : Value} {full : Bool} {ps : List Pair} (G : Gd w g) (gs : g.StaysIn s.heap) (R : Rm A 7) (hr : Rd g v (pairsD ps)) (hn : ps.length ≤ 100) (hp : ∀ p ∈ ps, TxP p) :
    wpAny (model P0 w) A (call (.ref 266) [v, .bool full]) (fun v s' => Done (∃ g', Ct [] s g s' g' ∧ Rd g' v (pairsD (shownP full ps)))) E s := by
  obtain ⟨a, vs, n, rfl, ha, hA⟩ := hr.pairs
  have hlen := hA.length
  refine call_fn (binds := [(Str.ofString "pairs", .ref a), (Str.ofString "full", .bool full)]) [] [] G gs R.lt (G.k 266 _ rfl) rfl (codeRec_of G.k rfl) (BindsTo.of_eq rfl) (locs rfl) (fun _ h => nomatch h) .nil (fun _ h => nomatch h) ?_ (by decide)
  intro h₁ tk C
  cases full with
  | true =>
    repeat walk1
    exact Done.mk ⟨_, C.done (Nat.le_refl _) ⟨_, _, rfl⟩, hr⟩
  | false =>
    repeat walk1
    refine it_lst C R.hd ha ?_
    intro I oI h₂ it C2
    refine comp_it it (C2.add (x := .rds [] []) .nil) (by simp at hlen; omega) (fun i ys mu₁ ks₁ => mu₁ = [] ∧ ks₁ = [.rds ys ((shownP false (ps.take i)).map pairD)]) ⟨rfl, rfl⟩ ?_ ?_
    · rintro i v ys b' Lc m₁ mu₁ ks₁ g₁ h₃ tk₃ o₁ D nD hi hv ⟨rfl, rfl⟩ hg₁ C3
      obtain ⟨p, a, t, u, hpi, rfl, hpa⟩ := hA.pairAt hv
      clear C2 C
      have hP := hp p (List.mem_of_getElem? hpi)
      have G' := G.up (fun _ _ e => e : g.StaysIn g)
      repeat walk1
      (rename Cx _ _ _ _ _ _ _ _ => cO; refine cx_call cO (low_spec (by walk_at "gd") (by walk_at "gk") (by walk_at "room") (Nat.le_trans hP.1.len (by decide)) hP.1.cps) ?_; clear cO)
      rintro _ g₂ h₄ tk₄ hg₂ ⟨t₁, rfl⟩ C4
      repeat walk1
      (rename Cx _ _ _ _ _ _ _ _ => cO; refine cx_call cO (low_spec (by walk_at "gd") (by walk_at "gk") (by walk_at "room") (Nat.le_trans hP.2.len (by decide)) hP.2.cps) ?_; clear cO)
      rintro _ g₃ h₅ tk₅ hg₃ ⟨t₂, rfl⟩ C5
      repeat walk1
      rename Cx _ _ _ _ _ _ _ _ => C6
      obtain ⟨g₄, hg₄, e₄, C7⟩ := C6.frz (by assumption)
      have r := C7.rds (.head _)
      refine ⟨_, _, _, _, (C7.add (x := .rds (ys ++ _) _) (r.append (.cons (Rd.mkPair e₄) .nil))).less (by intro x hx; rw [List.mem_singleton] at hx; subst hx; exact .head _), (fun a o e => hg₄ a o (hg₃ a o (hg₂ a o (hg₁ a o e)))), ⟨rfl, ?_⟩, _, _, rfl⟩
      rw [List.take_add_one, hpi]
      simp [shownP, lowS]
    · rintro ys mu₁ ks₁ g₁ h₃ tk₃ D nD ⟨rfl, rfl⟩ hg₁ hD C3
      rw [show ps.take vs.length = ps from List.take_of_length_le (by simp at hlen; omega)] at C3
      repeat walk1
      obtain ⟨g₄, hg₄, e₄, C7⟩ := C3.frz hD
      exact Done.mk ⟨_, C7.done (Nat.le_refl _) ⟨_, _, rfl⟩, .list e₄ (C7.rds (.head _))⟩
set_option maxHeartbeats 1000000
section
variable {w : World} {A : Around} {E : Value → Shared → Prop} {s : Shared} {b g₀ g : Heap} {L : Addr} {env : Env} {m : Str → Option Value} {mu : List (Addr × Obj)} {ks : List At}
/-- a dict display with texts as keys, at its end -/
noncomputable def DictEnd (w : World) (d : Addr) (Q : Value → Shared → Prop) (vs : List (Value × Value)) (s₁ : Shared) : Prop :=
  ∃ kvs, Carries (strKind P0 w) vs kvs ∧ s₁.heap.DictOf (strKind P0 w) d [] ∧ ∀ h', h'.DictOf (strKind P0 w) d (merged [] kvs) → Heap.SameBut d s₁.heap h' → Q (.ref d) { s₁ with heap := h', toks := s₁.toks + vs.length }
theorem dict_str {keys : List (Option Expr)} {values : List Expr} {pos : Pos} {Q : Value → Shared → Prop} (C : Cx b g₀ L m mu ks g s.heap) (G : Gd w g₀)
    (h : ∀ d h' o, L < d → (d == sysModules) = false → o.IsDictOf (strKind P0 w) [] → Cx b g₀ L m ((d, o) :: mu) ks g h' →
      wpAny (model P0 w) A (evalPairs (pairTrees keys values env pos)) (DictEnd w d Q) E { s with heap := h' })
    (hall : keys.all (·.isSome) = true := by rfl) (hl : keys.length = values.length := by rfl) (h0 : keys ≠ [] := by exact List.cons_ne_nil _ _) (hlen : keys.length ≤ 15 := by decide) :
    wpAny (model P0 w) A (eval (.Dict keys values pos) env) Q E s := by
  obtain ⟨o, ho, hd⟩ := Heap.dictOf_iff.mp (Heap.DictOf.new (knd := strKind P0 w) s.heap)
  exact wpAny_Dict_walk (knd := strKind P0 w) hall hl h0 hlen (h _ _ o C.lt (beq_eq_false_iff_ne.mpr (Nat.ne_of_gt (modules_low (G.up C.up0).lim))) hd (C.addMu (fun _ _ e => Heap.get?_push_of_some _ e) (Nat.le_refl _) ho))
theorem dict_end {d : Addr} {o : Obj} {vs : List (Value × Value)} {f : Obj → List (Addr × Obj)} {Q : Value → Shared → Prop} (C : Cx b g₀ L m mu ks g s.heap) (u : UpF d o mu f) (hd : o.IsDictOf (strKind P0 w) []) (hk : allStrKeys vs = true) (hn : ((strPairs vs).map (·.1)).Nodup)
    (h : ∀ h' o', o'.IsDictOf (strKind P0 w) (strPairs vs) → Cx b g₀ L m (f o') ks g h' → Q (.ref d) { s with heap := h', toks := s.toks + vs.length }) : DictEnd w d Q vs s := by
  refine display_done_str hk hn (Heap.dictOf_iff.mpr ⟨o, C.at (u.up o).mem, hd⟩) fun h' hm hs => ?_
  obtain ⟨o', ho', hd'⟩ := Heap.dictOf_iff.mp hm
  exact h h' o' hd' (C.upd (u.up o') hs ho')
end
theorem lines_dict : True := by
  (k_with "m eval Dict" => k_dflt (rename Cx _ _ _ _ _ _ _ _ => cO; refine dict_str cO (by with_reducible assumption) ?_; clear cO; intro _ _ _ _ _ _ _; try dsimp only))
  (k_with "m DictEnd" => k_dflt (rename Cx _ _ _ _ _ _ _ _ => cO; refine dict_end cO (by walk_at "up") (by assumption) (by rfl) (by exact of_decide_eq_true (by rfl)) ?_; clear cO; intro _ _ _ _; try dsimp only))
  trivial
noncomputable def small (full : Bool) (c : Nat) : Nat := if c = 65 then 97 else if full then (if c = 201 then 233 else if c = 222 then 254 else c) else c
noncomputable def keyS (full : Bool) (x : Str) : Str := S (x.cps.toList.map (small full))
theorem S_inj {a b : List Nat} (h : S a = S b) : a = b := by
  have := congrArg (fun x : Str => x.cps.toList) h
  simpa using this
theorem look_false (c : Nat) : (Spec.lookup (.str (S [c])) [(.str (Str.ofString "A"), .str (Str.ofString "a"))]).getD (.str (S [c])) = .str (S [small false c]) := by
  rw [show Str.ofString "A" = S [65] from by decide, show Str.ofString "a" = S [97] from by decide]
  simp only [Spec.lookup, PyProof.V.same_str]
  by_cases h : c = 65
  · subst h; rfl
  · rw [show decide (S [65] = S [c]) = false from decide_eq_false fun e => h (by have := S_inj e; simp at this; exact this.symm)]
    simp [small, h]
theorem look_true (c : Nat) : (Spec.lookup (.str (S [c])) [(.str (Str.ofString "A"), .str (Str.ofString "a")), (.str (Str.ofString "É"), .str (Str.ofString "é")), (.str (Str.ofString "Þ"), .str (Str.ofString "þ"))]).getD (.str (S [c])) = .str (S [small true c]) := by
  rw [show Str.ofString "A" = S [65] from by decide, show Str.ofString "a" = S [97] from by decide, show Str.ofString "É" = S [201] from by decide, show Str.ofString "é" = S [233] from by decide, show Str.ofString "Þ" = S [222] from by decide, show Str.ofString "þ" = S [254] from by decide]
  simp only [Spec.lookup, PyProof.V.same_str]
  by_cases h : c = 65
  · subst h; rfl
  · by_cases h2 : c = 201
    · subst h2; rfl
    · by_cases h3 : c = 222
      · subst h3; rfl
      · have ne : ∀ k : Nat, c ≠ k → decide (S [k] = S [c]) = false := fun k hk => decide_eq_false fun e => hk (by have := S_inj e; simp at this; exact this.symm)
        rw [ne 65 h, ne 201 h2, ne 222 h3]
        simp [small, h, h2, h3]
theorem key_spec {w : World} {A : Around} {E : Value → Shared → Prop} {s : Shared} {g : Heap} {x : Str} {t : Tok} {full : Bool} (G : Gd w g) (gs : g.StaysIn s.heap) (R : Rm A 3) (hx : x.length ≤ 1000) :
    wpAny (model P0 w) A (call (.ref 300) [.str x t, .bool full]) (fun v s' => Done (∃ g', Ct [] s g s' g' ∧ ∃ t, v = .str (keyS full x) t)) E s := by
  refine call_fnC (binds := [(Str.ofString "name", .str x t), (Str.ofString "full", .bool full)]) [] [] G gs R.lt (G.k 300 _ rfl) rfl (codeRec_of G.k rfl) (BindsTo.of_eq rfl) rfl (by decide) (fun _ h => nomatch h) .nil (fun _ h => nomatch h) ?_
  intro h₁ tk cells Y up C
  obtain ⟨oc, rfl, dc⟩ := CellsAre.one Y
  clear Y
  replace dc : oc.data = .cell none := dc
  simp only [List.cons_append, List.nil_append] at C
  cases full
  all_goals
    repeat walk1
    rename Cx _ _ _ _ _ _ _ _ => C1
    rename_i d h2 o hLd lo hd0 h3 od hod h4 oc' hoc
    refine it_str C1 R.hd ?_
    clear C1
    intro I oI h5 it C1
  · refine comp_it it C1 (Nat.le_trans hx (by decide)) (fun i ys mu₁ ks₁ => mu₁ = [(d, od), (s.heap.objs.size + 1, oc')] ∧ ks₁ = [] ∧ StrsAre ys (ones ((x.cps.toList.map (small false)).take i))) ⟨rfl, rfl, .nil⟩ ?_ ?_
    · rintro i v ys b' Lc m₁ mu₁ ks₁ g₁ h₃ tk₃ o₁ D nD hi ⟨c, u, hcx, rfl⟩ ⟨rfl, rfl, hS⟩ hg₁ C3
      clear C1
      repeat walk1
      rename Cx _ _ _ _ _ _ _ _ => C4
      refine getMethod_strTab_get (TabAt.ofObj lo (C4.at (by walk_at "mem")) hod (flatPairs_str _ (by rfl) (by rfl))) ?_
      repeat walk1
      refine call_get2_strTab (TabAt.ofObj lo (C4.at (by walk_at "mem")) hod (flatPairs_str _ (by rfl) (by rfl))) (.str _ _) ?_
      intro v hv
      replace hv : PyProof.V.Flat v (.str (S [small false c])) := by rw [← look_false c]; exact hv
      obtain ⟨t', rfl⟩ := PyProof.V.Flat.str_inv hv
      repeat walk1
      refine ⟨_, _, _, _, C4, hg₁, ⟨rfl, rfl, ?_⟩, _, _, rfl⟩
      rw [List.take_add_one, List.getElem?_map, show x.cps.toList[i]? = some c from by simpa using hcx]
      simp only [Option.toList, Option.map_some, ones, List.map_append] at hS ⊢
      exact hS.append' (.cons _ _ .nil)
    · rintro ys mu₁ ks₁ g₁ h₃ tk₃ D nD ⟨rfl, rfl, hS⟩ hg₁ hD C3
      rw [List.take_of_length_le (by simp)] at hS
      repeat walk1
      refine join_listW ⟨_, C3.at (.head _), rfl, _, rfl⟩ (by simpa using hS) (by decide) (by rw [ones_weight]; have : x.cps.size ≤ 1000 := hx; simp; omega) ?_
      intro t' k
      rw [show Txt.join (Str.ofString "") (ones _) = S _ from (beq_iff_eq.mp (join_plain_closes _ _)).trans (join_ones _)]
      repeat walk1
      exact Done.mk ⟨_, C3.done (Nat.le_refl _) ⟨_, _, rfl⟩, _, rfl⟩
  · refine comp_it it C1 (Nat.le_trans hx (by decide)) (fun i ys mu₁ ks₁ => mu₁ = [(d, od), (s.heap.objs.size + 1, oc')] ∧ ks₁ = [] ∧ StrsAre ys (ones ((x.cps.toList.map (small true)).take i))) ⟨rfl, rfl, .nil⟩ ?_ ?_
    · rintro i v ys b' Lc m₁ mu₁ ks₁ g₁ h₃ tk₃ o₁ D nD hi ⟨c, u, hcx, rfl⟩ ⟨rfl, rfl, hS⟩ hg₁ C3
      clear C1
      repeat walk1
      rename Cx _ _ _ _ _ _ _ _ => C4
      refine getMethod_strTab_get (TabAt.ofObj lo (C4.at (by walk_at "mem")) hod (flatPairs_str _ (by rfl) (by rfl))) ?_
      repeat walk1
      refine call_get2_strTab (TabAt.ofObj lo (C4.at (by walk_at "mem")) hod (flatPairs_str _ (by rfl) (by rfl))) (.str _ _) ?_
      intro v hv
      replace hv : PyProof.V.Flat v (.str (S [small true c])) := by rw [← look_true c]; exact hv
      obtain ⟨t', rfl⟩ := PyProof.V.Flat.str_inv hv
      repeat walk1
      refine ⟨_, _, _, _, C4, hg₁, ⟨rfl, rfl, ?_⟩, _, _, rfl⟩
      rw [List.take_add_one, List.getElem?_map, show x.cps.toList[i]? = some c from by simpa using hcx]
      simp only [Option.toList, Option.map_some, ones, List.map_append] at hS ⊢
      exact hS.append' (.cons _ _ .nil)
    · rintro ys mu₁ ks₁ g₁ h₃ tk₃ D nD ⟨rfl, rfl, hS⟩ hg₁ hD C3
      rw [List.take_of_length_le (by simp)] at hS
      repeat walk1
      refine join_listW ⟨_, C3.at (.head _), rfl, _, rfl⟩ (by simpa using hS) (by decide) (by rw [ones_weight]; have : x.cps.size ≤ 1000 := hx; simp; omega) ?_
      intro t' k
      rw [show Txt.join (Str.ofString "") (ones _) = S _ from (beq_iff_eq.mp (join_plain_closes _ _)).trans (join_ones _)]
      repeat walk1
      exact Done.mk ⟨_, C3.done (Nat.le_refl _) ⟨_, _, rfl⟩, _, rfl⟩
set_option maxHeartbeats 1000000
theorem conv_ok {w : World} {A : Around} {E : Value → Shared → Prop} {s : Shared} {g : Heap} {x : Str} {t : Tok} {sv : Value} {nm : Bool} (G : Gd w g) (gs : g.StaysIn s.heap) (R : Rm A 3) (hx : x.length ≤ 1000) (hb : ∀ c ∈ x.cps.toList, bad nm c = false) :
    wpAny (model P0 w) A (call (.ref 125) [sv, .str x t] [(Str.ofString "name", .bool nm)]) (fun v s' => Done (∃ g', Ct [] s g s' g' ∧ v = .str x t)) E s := by
  refine call_fn (binds := [(Str.ofString "self", sv), (Str.ofString "value", .str x t), (Str.ofString "name", .bool nm)]) [] [] G gs R.lt (G.k 125 _ rfl) rfl (codeRec_of G.k rfl) (BindsTo.of_eq rfl) (locs rfl) (fun _ h => nomatch h) .nil (fun _ h => nomatch h) ?_ (by decide)
  intro h₁ tk C
  cases nm
  all_goals repeat walk1
  all_goals rename Cx _ _ _ _ _ _ _ _ => C1
  · refine method_search (nm := false) (G.up C1.up0) ?_
    repeat walk1
    refine search_ok (nm := false) (G.up C1.up0) (Nat.le_trans hx (by decide)) hb ?_
    repeat walk1
    exact Done.mk ⟨_, C1.done (Nat.le_refl _) ⟨_, _, rfl⟩, rfl⟩
  · refine method_search (nm := true) (G.up C1.up0) ?_
    repeat walk1
    refine search_ok (nm := true) (G.up C1.up0) (Nat.le_trans hx (by decide)) hb ?_
    repeat walk1
    exact Done.mk ⟨_, C1.done (Nat.le_refl _) ⟨_, _, rfl⟩, rfl⟩
set_option maxHeartbeats 1000000
/-- the dict of a Headers -/
noncomputable abbrev hdD (w : World) (t : Tok) (l : Addr) : Obj := dictOf [⟨PyData.keyHash w.params (Str.ofString "_headers"), .str (Str.ofString "_headers") t, .ref l⟩] 1
/-- pairs that Headers takes -/
noncomputable def OkP (p : Pair) : Prop := (∀ c ∈ p.1.cps.toList, bad true c = false) ∧ (∀ c ∈ p.2.cps.toList, bad false c = false) ∧ p.1.length ≤ 1000 ∧ p.2.length ≤ 1000
theorem init_ok {w : World} {A : Around} {E : Value → Shared → Prop} {s : Shared} {g : Heap} {x dx l : Addr} {vs : List Value} {n : Nat} {ps : List Pair} (G : Gd w g) (gs : g.StaysIn s.heap) (R : Rm A 6)
    (hx : g.get? x = some (instObj 224 dx)) (hdx : s.heap.get? dx = some (dictOf [] 0)) (hgd : g.get? dx = none) (hl : g.get? l = some (lst vs n)) (hv : RdAll g vs (ps.map pairD)) (hp : ∀ p ∈ ps, OkP p) (hn : ps.length ≤ 1000) :
    codeAny (model P0 w) A (.call (.ref 118) ⟨[.ref x, .ref l], []⟩) (fun r s' => match r with | .ok (.ret v) => Done (v = .none ∧ ∃ g' t, Ct [dx] s g s' g' ∧ s'.heap.get? dx = some (hdD w t l)) | .ok _ => False | .error e => E e s') s := by
  have hlen := hv.length
  refine code_fn (Q := fun v s' => Done (v = .none ∧ ∃ g' t, Ct [dx] s g s' g' ∧ s'.heap.get? dx = some (hdD w t l))) (binds := [(Str.ofString "self", .ref x), (Str.ofString "headers", .ref l)]) [(dx, dictOf [] 0)] [] G gs R.lt (G.k 118 _ rfl) rfl (codeRec_of G.k rfl) (binds_K (G.k.keeps gs) rfl rfl rfl rfl rfl) (locs rfl) ?_ (by simp) (fun _ h => nomatch h) ?_ (by decide)
  · intro p hp; simp at hp; subst hp; exact ⟨hdx, hgd⟩
  intro h₁ tk C
  repeat walk1
  rename Cx _ _ _ _ _ _ _ _ => C1
  refine it_lst C1 R.hd hl ?_
  intro I oI h₂ it C2
  clear C1
  refine for_it it C2 (fun i m₁ mu₁ ks₁ => m₁ (Str.ofString "self") = some (.ref x) ∧ ks₁ = [] ∧ ∃ t, mu₁ = [(dx, hdD w t l)]) ⟨rfl, rfl, _, rfl⟩ ?_ ?_
  · rintro i v m₁ mu₁ ks₁ g₁ h₃ tk₃ o₁ hi hvi ⟨hm, rfl, t', rfl⟩ hg₁ C3
    obtain ⟨p, a, t, u, hpi, rfl, hpa⟩ := hv.pairAt hvi
    have hP := hp p (List.mem_of_getElem? hpi)
    clear C2
    repeat walk1
    (rename Cx _ _ _ _ _ _ _ _ => cO; refine cx_call cO (conv_ok (nm := true) (by walk_at "gd") (by walk_at "gk") (by walk_at "room") hP.2.2.1 hP.1) ?_; clear cO)
    rintro _ g₂ h₄ tk₄ hg₂ rfl C4
    repeat walk1
    (rename Cx _ _ _ _ _ _ _ _ => cO; refine cx_call cO (conv_ok (nm := false) (by walk_at "gd") (by walk_at "gk") (by walk_at "room") hP.2.2.2 hP.2.1) ?_; clear cO)
    rintro _ g₃ h₅ tk₅ hg₃ rfl C5
    repeat walk1
    exact .inl ⟨rfl, _, _, _, _, C5, fun a o e => hg₃ a o (hg₂ a o (hg₁ a o e)), ⟨hm, rfl, t', rfl⟩, _, _, rfl⟩
  · rintro m₁ mu₁ ks₁ g₁ h₃ tk₃ ⟨hm, rfl, t', rfl⟩ hg₁ C3
    clear C2
    repeat walk1
    refine Done.mk ⟨rfl, _, t', C3.done (M := [dx]) (Nat.le_refl _) ⟨_, _, rfl⟩, C3.at (.head _)⟩
set_option maxHeartbeats 1000000
theorem Ct.forget {M : List Addr} {s s' : Shared} {g g' : Heap} {l : Addr} (c : Ct M s (more g s.heap l) s' g') (gs : g.StaysIn s.heap) (hl : g.get? l = none) (hs : l < s.heap.objs.size) :
    ∃ g'', Ct M s g s' g'' ∧ (∀ a o, g'.get? a = some o → a ≠ l → g''.get? a = some o) := by
  have key : ∀ a o, (only g' fun i => i != l).get? a = some o → g'.get? a = some o ∧ a ≠ l := fun a o e => by
    rw [only_get] at e
    split at e
    · rename_i q; exact ⟨e, by simpa using q⟩
    · cases e
  have back : ∀ a o, g'.get? a = some o → a ≠ l → (only g' fun i => i != l).get? a = some o := fun a o e q => by
    rw [only_get, if_pos (by simpa using q)]; exact e
  refine ⟨only g' fun i => i != l, ⟨c.sh, c.kp, fun a o e => ?_, fun a o e => c.gs a o (key a o e).1, fun a o e => ?_, c.sz⟩, back⟩
  · exact back a o (c.gg a o (more_le gs a o e)) fun q => by rw [q, hl] at e; cases e
  · obtain ⟨e1, e2⟩ := key a o e
    rcases c.nw a o e1 with q | q
    · rcases more_new gs q with q | q
      · exact .inl q
      · exact absurd q e2
    · exact .inr q
theorem items_spec {w : World} {A : Around} {E : Value → Shared → Prop} {s : Shared} {g : Heap} {T dx l : Addr} {t : Tok} {vs : List Value} {n : Nat} (G : Gd w g) (gs : g.StaysIn s.heap) (R : Rm A 3)
    (hT : g.get? T = some (instObj 224 dx)) (hdx : g.get? dx = some (hdD w t l)) (hl : s.heap.get? l = some (lst vs n)) (hgl : g.get? l = none) (hz : vs.length ≤ 1000) :
    wpAny (model P0 w) A (call (.ref 188) [.ref T]) (fun v s' => Done (∃ g', Ct [] s g s' g' ∧ ∃ a k, v = .ref a ∧ g'.get? a = some (lst vs k))) E s := by
  have gs1 : (more g s.heap l).StaysIn s.heap := more_in
  have up := more_le (a := l) gs
  have G1 := G.up up
  have hT1 := up _ _ hT
  have hdx1 := up _ _ hdx
  have hl1 : (more g s.heap l).get? l = some (lst vs n) := more_self.trans hl
  refine call_fn (binds := [(Str.ofString "self", .ref T)]) [] [] G1 gs1 R.lt (G1.k 188 _ rfl) rfl (codeRec_of G1.k rfl) (BindsTo.of_eq rfl) (locs rfl) (fun _ h => nomatch h) .nil (fun _ h => nomatch h) ?_ (by decide)
  intro h₁ tk C
  repeat walk1
  refine slice_lst C (by walk_at "get") .none .none (Nat.le_trans hz (by decide)) ?_
  intro a h' hL C1
  rw [slicePick_all] at C1
  clear C
  repeat walk1
  obtain ⟨g₄, hg₄, e₄, C7⟩ := C1.frz hL
  obtain ⟨g', c, back⟩ := (C7.done (M := []) (Nat.le_refl _) ⟨_, _, rfl⟩).forget gs hgl (Heap.lt_size hl)
  exact Done.mk ⟨g', c, a, 0, rfl, back _ _ e₄ (Nat.ne_of_gt (Nat.lt_trans (Heap.lt_size hl) hL))⟩
theorem rdAll_strs {α : Type} (f : α → Str) {g g' : Heap} {l : List α} {vs : List Value} : RdAll g vs (l.map fun p => .str (f p)) → RdAll g' vs (l.map fun p => .str (f p)) := by
  induction l generalizing vs with
  | nil => intro h; rw [List.map_nil] at h ⊢; cases h; exact .nil
  | cons a r ih =>
    intro h
    rw [List.map_cons] at h ⊢
    cases h with
    | cons h1 h2 => cases h1; exact .cons (.str _ _) (ih h2)
theorem getall_spec {w : World} {A : Around} {E : Value → Shared → Prop} {s : Shared} {g : Heap} {T dx l : Addr} {t u : Tok} {vs : List Value} {n : Nat} {x : Str} {ps : List Pair} (G : Gd w g) (gs : g.StaysIn s.heap) (R : Rm A 6)
    (hT : g.get? T = some (instObj 224 dx)) (hdx : g.get? dx = some (hdD w t l)) (hl : s.heap.get? l = some (lst vs n)) (hgl : g.get? l = none) (hz : ps.length ≤ 1000) (hv : RdAll g vs (ps.map pairD)) (hx : x.length ≤ 300) (hb : ∀ c ∈ (Txt.lower x).cps.toList, bad true c = false)
    (hp : ∀ p ∈ ps, p.1.length ≤ 300) :
    wpAny (model P0 w) A (call (.ref 163) [.ref T, .str x u]) (fun v s' => Done (∃ g', Ct [] s g s' g' ∧ Rd g' v (.list ((ps.filter fun p => Txt.lower p.1 == Txt.lower x).map fun p => .str p.2)))) E s := by
  have gs1 : (more g s.heap l).StaysIn s.heap := more_in
  have up := more_le (a := l) gs
  have G1 := G.up up
  have hT1 := up _ _ hT
  have hdx1 := up _ _ hdx
  have hl1 : (more g s.heap l).get? l = some (lst vs n) := more_self.trans hl
  have hv1 := hv.up up
  have hlen := hv.length
  refine call_fnC (binds := [(Str.ofString "self", .ref T), (Str.ofString "name", .str x u)]) [] [] G1 gs1 R.lt (G1.k 163 _ rfl) rfl (codeRec_of G1.k rfl) (BindsTo.of_eq rfl) rfl (by decide) (fun _ h => nomatch h) .nil (fun _ h => nomatch h) ?_
  intro h₁ tk cells Y up C
  obtain ⟨oc, rfl, dc⟩ := CellsAre.one Y
  clear Y
  replace dc : oc.data = .cell (some (.str x u)) := dc
  simp only [List.cons_append, List.nil_append] at C
  repeat walk1
  (rename Cx _ _ _ _ _ _ _ _ => cO; refine cx_call cO (conv_ok (nm := true) (by walk_at "gd") (by walk_at "gk") (by walk_at "room") (by omega) hb) ?_; clear cO)
  rintro _ g₂ h₂ tk₂ hg₂ rfl C2
  have G2 := G1.up hg₂
  repeat walk1
  rename Cx _ _ _ _ _ _ _ _ => C3
  rename_i oc' hoc
  refine it_lst C3 R.hd (hg₂ _ _ hl1) ?_
  clear C3
  intro I oI h₃ it C3
  refine comp_it it (C3.add (x := .rds [] []) .nil) (by simp at hlen; omega) (fun i ys mu₁ ks₁ => mu₁ = [(s.heap.objs.size + 1, oc')] ∧ ks₁ = [.rds ys (((ps.take i).filter fun p => Txt.lower p.1 == Txt.lower x).map fun p => .str p.2)]) ⟨rfl, rfl⟩ ?_ ?_
  · rintro i v ys b' Lc m₁ mu₁ ks₁ g₃ h₄ tk₄ o₁ D nD hi hvi ⟨rfl, rfl⟩ hg₃ C4
    obtain ⟨p, a, t₁, t₂, hpi, rfl, hpa⟩ := hv1.pairAt hvi
    have hpa2 := hg₂ _ _ hpa
    have hP := hp p (List.mem_of_getElem? hpi)
    clear C3
    repeat' walk1
    all_goals rename Cx _ _ _ _ _ _ _ _ => C5
    all_goals rename_i hq
    all_goals first
      | (refine ⟨_, _, _, _, C5, hg₃, ⟨rfl, ?_⟩, _, _, rfl⟩
         rw [List.take_add_one, hpi]
         simp [hq]; done)
      | (refine ⟨_, _, _, _, C5.pushRd (y := .str p.2 t₂) (.str _ _), hg₃, ⟨rfl, ?_⟩, _, _, rfl⟩
         rw [List.take_add_one, hpi]
         simp [hq])
  · rintro ys mu₁ ks₁ g₃ h₄ tk₄ D nD ⟨rfl, rfl⟩ hg₃ hD C4
    rw [show ps.take vs.length = ps from List.take_of_length_le (by simp at hlen; omega)] at C4
    repeat walk1
    obtain ⟨g₄, hg₄, e₄, C7⟩ := C4.frz hD
    have hr := C7.rds (.head _)
    obtain ⟨g', c, back⟩ := (C7.done (M := []) (Nat.le_refl _) ⟨_, _, rfl⟩).forget gs hgl (Heap.lt_size hl)
    refine Done.mk ⟨g', c, .list (back _ _ e₄ (Nat.ne_of_gt (Nat.lt_trans (Heap.lt_size hl) hD))) ?_⟩
    exact rdAll_strs (fun p : Pair => p.2) hr
set_option maxHeartbeats 1000000
/-- what was known to stay may change from here on -/
theorem Cx.thaw {b b' g₀ g₁ g h : Heap} {L l : Addr} {m : Str → Option Value} {mu : List (Addr × Obj)} {ks : List At} {o : Obj} (C : Cx b g₁ L m mu ks g h) (k0 : g₀.StaysIn g₁) (kb : b'.StaysIn b) (hs : b'.objs.size ≤ L)
    (hl : g₁.get? l = some o) (h1 : ∀ a o, g₁.get? a = some o → g₀.get? a = some o ∨ a = l) (h0 : g₀.get? l = none) (hb : b'.get? l = none) :
    Cx b' g₀ L m ((l, o) :: mu) [] (only g fun i => i != l) h ∧ (∀ a o, g.get? a = some o → a ≠ l → (only g fun i => i != l).get? a = some o) := by
  have key : ∀ a o, (only g fun i => i != l).get? a = some o → g.get? a = some o ∧ a ≠ l := fun a o e => by
    rw [only_get] at e
    split at e
    · rename_i q; exact ⟨e, by simpa using q⟩
    · cases e
  have back : ∀ a o, g.get? a = some o → a ≠ l → (only g fun i => i != l).get? a = some o := fun a o e q => by
    rw [only_get, if_pos (by simpa using q)]; exact e
  have none' : ∀ a, g.get? a = none → (only g fun i => i != l).get? a = none := fun a e => by
    rw [only_get]; split
    · exact e
    · rfl
  refine ⟨⟨C.ns, fun a o e => C.bk a o (kb a o e), hs, fun a o e => C.gk a o (key a o e).1, fun a o e => ?_, fun a o e => ?_, fun o e => C.g0 o (k0 _ _ e), fun p hp => ?_, ?_, fun _ h => nomatch h⟩, back⟩
  · exact back a o (C.gg a o (k0 a o e)) fun q => by rw [q, h0] at e; cases e
  · obtain ⟨e1, e2⟩ := key a o e
    rcases C.gn a o e1 with q | q
    · exact .inl ((h1 a o q).resolve_right e2)
    · exact .inr q
  · rcases List.mem_cons.mp hp with rfl | hp
    · refine ⟨C.gk _ _ (C.gg _ _ hl), hb, ?_, fun q => C.g0 o (q ▸ hl)⟩
      rw [only_get]; simp
    · have z := C.mt p hp
      refine ⟨z.1, ?_, none' _ z.2.2.1, z.2.2.2⟩
      cases q : b'.get? p.1 with
      | none => rfl
      | some o' => have := kb _ _ q; rw [z.2.1] at this; cases this
  · rw [List.map_cons, List.nodup_cons]
    refine ⟨fun q => ?_, C.nd⟩
    obtain ⟨p, hp, e⟩ := List.mem_map.mp q
    have := (C.mt p hp).2.2.1
    rw [e, C.gg _ _ hl] at this
    cases this
theorem filter_step {α : Type} {f : α → Bool} {l : List α} {i : Nat} {p : α} (h : l[i]? = some p) : (l.take (i + 1)).filter f = (l.take i).filter f ++ if f p then [p] else [] := by
  rw [List.take_add_one, h, List.filter_append]
  simp only [Option.toList, List.filter_cons, List.filter_nil]
theorem del_spec {w : World} {A : Around} {E : Value → Shared → Prop} {s : Shared} {g : Heap} {T dx l : Addr} {t u : Tok} {vs : List Value} {n : Nat} {x : Str} {ps : List Pair} (G : Gd w g) (gs : g.StaysIn s.heap) (R : Rm A 6)
    (hT : g.get? T = some (instObj 224 dx)) (hdx : g.get? dx = some (hdD w t l)) (hl : s.heap.get? l = some (lst vs n)) (hgl : g.get? l = none) (hz : ps.length ≤ 1000) (hv : RdAll g vs (ps.map pairD)) (hx : x.length ≤ 300) (hb : ∀ c ∈ (Txt.lower x).cps.toList, bad true c = false)
    (hp : ∀ p ∈ ps, p.1.length ≤ 300) :
    wpAny (model P0 w) A (call (.ref 144) [.ref T, .str x u]) (fun v s' => Done (∃ g', Ct [l] s g s' g' ∧ v = .none ∧ ∃ vs' k, s'.heap.get? l = some (lst vs' k) ∧ RdAll g vs' ((ps.filter fun p => !(Txt.lower p.1 == Txt.lower x)).map pairD))) E s := by
  have gs1 : (more g s.heap l).StaysIn s.heap := more_in
  have up1 := more_le (a := l) gs
  have G1 := G.up up1
  have hT1 := up1 _ _ hT
  have hdx1 := up1 _ _ hdx
  have hl1 : (more g s.heap l).get? l = some (lst vs n) := more_self.trans hl
  have hlen := hv.length
  refine call_fnC (binds := [(Str.ofString "self", .ref T), (Str.ofString "name", .str x u)]) [] [] G1 gs1 R.lt (G1.k 144 _ rfl) rfl (codeRec_of G1.k rfl) (BindsTo.of_eq rfl) rfl (by decide) (fun _ h => nomatch h) .nil (fun _ h => nomatch h) ?_
  intro h₁ tk cells Y up C
  obtain ⟨oc, rfl, dc⟩ := CellsAre.one Y
  clear Y
  replace dc : oc.data = .cell (some (.str x u)) := dc
  simp only [List.cons_append, List.nil_append] at C
  repeat walk1
  (rename Cx _ _ _ _ _ _ _ _ => cO; refine cx_call cO (conv_ok (nm := true) (by walk_at "gd") (by walk_at "gk") (by walk_at "room") (by omega) hb) ?_; clear cO)
  rintro _ g₂ h₂ tk₂ hg₂ rfl C2
  have G2 := G1.up hg₂
  repeat walk1
  rename Cx _ _ _ _ _ _ _ _ => C3
  rename_i oc' hoc
  refine it_lst C3 R.hd (hg₂ _ _ hl1) ?_
  clear C3
  intro I oI h₃ it C3
  refine comp_it it C3 (by simp at hlen; omega) (fun i ys mu₁ ks₁ => mu₁ = [(s.heap.objs.size + 1, oc')] ∧ ks₁ = [] ∧ RdAll g ys (((ps.take i).filter fun p => !(Txt.lower p.1 == Txt.lower x)).map pairD)) ⟨rfl, rfl, .nil⟩ ?_ ?_
  · rintro i v ys b' Lc m₁ mu₁ ks₁ g₃ h₄ tk₄ o₁ D nD hi hvi ⟨rfl, rfl, hys⟩ hg₃ C4
    obtain ⟨p, a, t₁, t₂, hpi, rfl, hpa⟩ := hv.pairAt hvi
    have hpa2 := hg₂ _ _ (up1 _ _ hpa)
    have hP := hp p (List.mem_of_getElem? hpi)
    clear C3
    repeat' walk1
    all_goals rename Cx _ _ _ _ _ _ _ _ => C5
    all_goals rename_i hq
    all_goals refine ⟨_, _, _, _, C5, hg₃, ⟨rfl, rfl, ?_⟩, _, _, rfl⟩
    all_goals rw [filter_step hpi]
    all_goals cases hf : (!(Txt.lower p.1 == Txt.lower x))
    all_goals simp only [Bool.false_eq_true, if_false, List.append_nil, if_true, List.map_append, List.map_cons, List.map_nil]
    all_goals first
      | exact absurd (hf.symm.trans hq) (by decide)
      | exact hys
      | exact hys.append (.cons (Rd.mkPair hpa) .nil)
  · rintro ys mu₁ ks₁ g₃ h₄ tk₄ D nD ⟨rfl, rfl, hys⟩ hg₃ hD C4
    rw [show ps.take vs.length = ps from List.take_of_length_le (by simp at hlen; omega)] at hys
    clear C3
    obtain ⟨C5, back⟩ := C4.thaw (b' := hideAll s.heap [l]) (g₀ := g) up1 (fun a o e => hideAll_get _ (of_hideAll _ e) (fun h => nomatch h)) (by rw [hideAll_size]; exact Nat.le_refl _) hl1 (fun a o e => more_new gs e) hgl (hideAll_none _ (.head _))
    clear C4
    repeat walk1
    have C6 := C5.keep (h' := h₄.push { cls := .type "slice", data := .fields #[.none, .none, .none] }) fun _ _ e => Heap.get?_push_of_some _ e
    have hne : l ≠ D := fun q => absurd (Nat.lt_trans (Heap.lt_size hl) hD) (by rw [q]; exact Nat.lt_irrefl _)
    refine set_all (C6.at (.head _)) (C6.at (.tail _ (.head _))) hne (Heap.IsSliceOf.new _ _ _ _) (by have := hys.length; simp at this hlen; have h2 := List.length_filter_le (fun p : Pair => !(Txt.lower p.1 == Txt.lower x)) ps; omega) ?_
    intro h₅ n₅ hs₅ e₅
    have C7 := C6.upd .head hs₅ e₅
    clear C6 C5
    repeat walk1
    exact Done.mk ⟨_, C7.done (M := [l]) (Nat.le_refl _) ⟨_, _, rfl⟩, rfl, _, _, e₅, hys⟩
set_option maxHeartbeats 1000000
theorem mod_tup {w : World} {A : Around} {E : Value → Shared → Prop} {s : Shared} {X X' T : Str} {t : Tok} {b : Addr} {vs : List Value} {Q : Value → Shared → Prop} (e : s.heap.get? b = some (tup vs)) (hX : X = X')
    (hm : Meets (Builtin.«str.__mod__» ⟨[.str X' t, .ref b], []⟩) (fun _ R s => IsTup s.heap b vs.toArray ∧ ∀ t' k, R (.ok (.ret (.str T t'))) { s with toks := k }))
    (h : ∀ t' k, Q (.str T t') { s with toks := k }) : wpAny (model P0 w) A (binaryOp .Mod (.str X t) (.ref b)) Q E s := by
  subst hX
  have ht : IsTup s.heap b vs.toArray := ⟨_, e, rfl, 0, rfl⟩
  exact KPt.bin_left (T := "str") (U := "tuple") (op := .Mod) (by decide) (typeIs_str s X t) ⟨_, e, rfl⟩ F.fills_str_mod KPt.fills_tuple F.slot_str_mod
    (call_meets F.slot_str_mod (typeIs_str s X t) F.entry_str_mod (F.args_str_mod_2 _ _) hm ⟨ht, fun t' k => ⟨(fun e => nomatch e), h t' k⟩⟩)
theorem mod_line {x y : Str} {t t1 t2 : Tok} {b : Addr} (hx : x.length ≤ 1000) (hy : y.length ≤ 1000) : Meets (Builtin.«str.__mod__» ⟨[.str ⟨#[37,115,58,32,37,115]⟩ t, .ref b], []⟩) (fun _ R s => IsTup s.heap b #[.str x t1, .str y t2] ∧ ∀ t' k, R (.ok (.ret (.str (x ++ Str.ofString ": " ++ y) t'))) { s with toks := k }) := by
  kpt_run
noncomputable def lineS (p : Pair) : Str := p.1 ++ S [58, 32] ++ p.2
noncomputable def textS (ps : List Pair) : Str := Str.join (S [13, 10]) (ps.map lineS ++ [S [], S []])
theorem str_spec {w : World} {A : Around} {E : Value → Shared → Prop} {s : Shared} {g : Heap} {T dx l : Addr} {t : Tok} {vs : List Value} {n : Nat} {ps : List Pair} (G : Gd w g) (gs : g.StaysIn s.heap) (R : Rm A 6)
    (hT : g.get? T = some (instObj 224 dx)) (hdx : g.get? dx = some (hdD w t l)) (hl : s.heap.get? l = some (lst vs n)) (hgl : g.get? l = none) (hz : ps.length ≤ 100) (hv : RdAll g vs (ps.map pairD))
    (hp : ∀ p ∈ ps, p.1.length ≤ 1000 ∧ p.2.length ≤ 1000) :
    wpAny (model P0 w) A (call (.ref 200) [.ref T]) (fun v s' => Done (∃ g', Ct [] s g s' g' ∧ ∃ t, v = .str (textS ps) t)) E s := by
  have gs1 : (more g s.heap l).StaysIn s.heap := more_in
  have up := more_le (a := l) gs
  have G1 := G.up up
  have hT1 := up _ _ hT
  have hdx1 := up _ _ hdx
  have hl1 : (more g s.heap l).get? l = some (lst vs n) := more_self.trans hl
  have hlen := hv.length
  refine call_fn (binds := [(Str.ofString "self", .ref T)]) [] [] G1 gs1 R.lt (G1.k 200 _ rfl) rfl (codeRec_of G1.k rfl) (BindsTo.of_eq rfl) (locs rfl) (fun _ h => nomatch h) .nil (fun _ h => nomatch h) ?_ (by decide)
  intro h₁ tk C
  repeat walk1
  refine it_lst C R.hd hl1 ?_
  clear C
  intro I oI h₂ it C2
  refine comp_it it C2 (by simp at hlen; omega) (fun i ys mu₁ ks₁ => mu₁ = [] ∧ ks₁ = [] ∧ StrsAre ys ((ps.take i).map lineS)) ⟨rfl, rfl, .nil⟩ ?_ ?_
  · rintro i v ys b' Lc m₁ mu₁ ks₁ g₃ h₄ tk₄ o₁ D nD hi hvi ⟨rfl, rfl, hS⟩ hg₃ C4
    obtain ⟨p, a, t₁, t₂, hpi, rfl, hpa⟩ := hv.pairAt hvi
    have hpa2 := up _ _ hpa
    have hP := hp p (List.mem_of_getElem? hpi)
    clear C2
    repeat walk1
    rename Cx _ _ _ _ _ _ _ _ => C5
    refine mod_tup (C5.up0 _ _ hpa2) (by decide) (mod_line hP.1 hP.2) ?_
    intro t' k
    refine ⟨_, _, _, _, C5, hg₃, ⟨rfl, rfl, ?_⟩, _, _, rfl⟩
    rw [List.take_add_one, hpi, List.map_append]
    exact hS.append' (.cons _ _ .nil)
  · rintro ys mu₁ ks₁ g₃ h₄ tk₄ D nD ⟨rfl, rfl, hS⟩ hg₃ hD C4
    clear C2
    rw [show ps.take vs.length = ps from List.take_of_length_le (by simp at hlen; omega)] at hS
    have hys := hS.len_eq
    repeat walk1
    rename Cx _ _ _ _ _ _ _ _ => C5
    refine join_listW (ys := ps.map lineS ++ [Str.ofString "", Str.ofString ""]) ⟨_, C5.at (.head _), rfl, _, rfl⟩ (by simpa using hS.append' (.cons _ _ (.cons _ _ .nil))) (by decide) ?_ ?_
    · have : ∀ l : List Pair, (∀ p ∈ l, p.1.length ≤ 1000 ∧ p.2.length ≤ 1000) → ((l.map lineS).map (·.length)).sum ≤ 2002 * l.length := by
        intro l hl
        induction l with
        | nil => simp
        | cons a r ih =>
          have h1 := hl a (.head _)
          have h2 := ih fun p hp => hl p (.tail _ hp)
          have h3 : (lineS a).length = a.1.length + 2 + a.2.length := by simp [lineS, Str.length_append, S_length]
          simp only [List.map_cons, List.sum_cons, List.length_cons]
          omega
      have := this ps hp
      simp only [List.map_append, List.map_cons, List.map_nil, List.sum_append, List.sum_cons, List.sum_nil, List.length_append, List.length_map, List.length_cons, List.length_nil]
      have e : (Str.ofString "").length = 0 := by decide
      rw [e]
      omega
    intro t' k
    rw [beq_iff_eq.mp (join_plain_closes _ _)]
    repeat walk1
    obtain ⟨g', c, back⟩ := (C5.done (M := []) (Nat.le_refl _) ⟨_, _, rfl⟩).forget gs hgl (Heap.lt_size hl)
    exact Done.mk ⟨g', c, _, rfl⟩
set_option maxHeartbeats 1000000
/-- every c turned to z -/
noncomputable def swp (c : Nat) (z l : List Nat) : List Nat := l.flatMap fun a => if a = c then z else [a]
theorem swp_append (c : Nat) (z a b : List Nat) : swp c z (a ++ b) = swp c z a ++ swp c z b := List.flatMap_append
theorem swp_free {c : Nat} {z : List Nat} : ∀ {l : List Nat}, c ∉ l → swp c z l = l
  | [], _ => rfl
  | k :: r, h => by
    have h1 : ¬ k = c := fun e => h (e ▸ List.mem_cons_self ..)
    have h2 : c ∉ r := fun m => h (List.mem_cons_of_mem _ m)
    have := swp_free (z := z) h2
    simp only [swp, List.flatMap_cons, if_neg h1] at this ⊢
    rw [this]; rfl
theorem swp_join (c : Nat) (z : List Nat) : ∀ parts : List Str, (∀ p ∈ parts, c ∉ p.cps.toList) → swp c z (Str.join ⟨#[c]⟩ parts).cps.toList = (Str.join (S z) parts).cps.toList
  | [], _ => rfl
  | [p], h => swp_free (h p (List.mem_singleton.mpr rfl))
  | p :: q :: r, h => by
    have ih := swp_join c z (q :: r) fun a ha => h a (List.mem_cons_of_mem _ ha)
    show swp c z (p ++ ⟨#[c]⟩ ++ Str.join ⟨#[c]⟩ (q :: r)).cps.toList = (p ++ S z ++ Str.join (S z) (q :: r)).cps.toList
    simp only [Str.cps_append, Array.toList_append]
    rw [swp_append, swp_append, ih, swp_free (h p (List.mem_cons_self ..))]
    simp [swp]
theorem replace_swp (x : Str) (c : Nat) (z : List Nat) : Txt.replace x ⟨#[c]⟩ (S z) = S (swp c z x.cps.toList) := by
  have : (Txt.replace x ⟨#[c]⟩ (S z)).cps.toList = swp c z x.cps.toList := by
    rw [StrLaws.replace_one, ← swp_join c z _ (StrLaws.split_free x c), StrLaws.join_split]
  rw [← this]
theorem swp_len (c : Nat) (z l : List Nat) (hz : z.length ≤ 2) : (swp c z l).length ≤ 2 * l.length := by
  induction l with
  | nil => simp [swp]
  | cons a r ih =>
    have e : (swp c z (a :: r)).length = (if a = c then z else [a]).length + (swp c z r).length := by
      simp only [swp, List.flatMap_cons, List.length_append]
    rw [e, List.length_cons]
    split
    · omega
    · rw [List.length_singleton]; omega
open Builtin Builtin.Str in
theorem replaceT {w : World} {A : Around} {E : Value → Shared → Prop} {s : Shared} {x y z : Str} {t u v : Tok} {Q : Value → Shared → Prop} (hu : u ≠ 0) (hv : v ≠ 0) (huv : u ≠ v) (hyz : (y == z) = false) (hx : x.length ≤ 1000) (hz : z.length ≤ 10)
    (hq : ∀ t' k, s.toks ≤ k → Q (.str (Txt.replace x y z) t') { s with toks := k }) : wpAny (model P0 w) A (call (.builtin "str.replace") [.str x t, .str y u, .str z v]) Q E s := by
  have hb : x.length + (x.length + 1) * z.length ≤ 16777216 := by
    have : (x.length + 1) * z.length ≤ 1001 * 10 := Nat.mul_le_mul (by omega) hz
    omega
  have e : (2 : Nat) ^ 24 = 16777216 := by decide
  have hl : tooLong (x.length + (occurrences x y 0 x.length (x.length + 1)).length * z.length) = false := by
    have h1 := StrLaws.occ_length_le x y 0 x.length (x.length + 1)
    have h2 : (occurrences x y 0 x.length (x.length + 1)).length * z.length ≤ (x.length + 1) * z.length := Nat.mul_le_mul_right _ h1
    unfold tooLong sizeLine
    exact decide_eq_false (by omega)
  refine call_gives F.slot_str_replace (typeIs_str _ _ _) F.entry_str_replace (F.args_str_replace_3 _ _ _)
    (gives_str_replace x y z t u v fun _ => ⟨by simp [hu, hv], by simp [huv], hyz, hl⟩) ?_
  have hq' := hq
  unfold Txt.replace at hq'
  cases hc : ((occurrences x y 0 x.length (x.length + 1)).isEmpty || (y.length == 0 && z.length == 0))
  · rw [hc] at hq'
    simp only [Bool.false_eq_true, if_false] at hq' ⊢
    exact ⟨fits_replaced y hb, hq' _ _ (by first | exact Nat.le_refl _ | exact Nat.le_succ _)⟩
  · rw [hc] at hq'
    simp only [if_true] at hq' ⊢
    exact hq' _ _ (by first | exact Nat.le_refl _ | exact Nat.le_succ _)
theorem lines_rep : True := by
  (k_with "m call builtin:str.replace" => k_dflt (refine replaceT (by first | omega | (dsimp only; omega) | (simp; done) | (simp; omega)) (by first | omega | (dsimp only; omega) | (simp; done) | (simp; omega)) (by first | omega | (dsimp only; omega) | (simp; done) | (simp; omega)) (by first | decide | assumption) (by first | omega | assumption) (by decide) ?_; intro _ _ hk; (try dsimp only at hk); revert hk; intro _; (try dsimp only)))
  (k_with "m And" => ((with_reducible show PySem.Str.length (_ ++ _) ≤ sizeLine ∧ wpAny _ _ (joinParts _ _) _ _ _); refine ⟨by (rw [sizeLine_eq]; simp only [Str.length_append]; omega), ?_⟩))
  trivial
/-- the text within the quotation marks -/
noncomputable def escL (l : List Nat) : List Nat := swp 34 [92, 34] (swp 92 [92, 92] l)
noncomputable def fmtS (x y : Str) : Str := if y.length = 0 then x else x ++ S [61, 34] ++ S (escL y.cps.toList) ++ S [34]
theorem fmt_spec {w : World} {A : Around} {E : Value → Shared → Prop} {s : Shared} {g : Heap} {x y : Str} {t u : Tok} (G : Gd w g) (gs : g.StaysIn s.heap) (R : Rm A 3) (hx : x.length ≤ 300) (hy : y.length ≤ 300) :
    wpAny (model P0 w) A (call (.ref 103) [.str x t, .str y u]) (fun v s' => Done (∃ g', Ct [] s g s' g' ∧ ∃ t, v = .str (fmtS x y) t)) E s := by
  refine call_fn (binds := [(Str.ofString "param", .str x t), (Str.ofString "value", .str y u), (Str.ofString "quote", .int 1 _)]) [] [] G gs R.lt (G.k 103 _ rfl) rfl (codeRec_of G.k rfl) (binds_K (G.k.keeps gs) rfl rfl rfl rfl rfl) (locs rfl) (fun _ h => nomatch h) .nil (fun _ h => nomatch h) ?_ (by decide)
  intro h₁ tk C
  have hr : Txt.replace y (Str.ofString "\\") (Str.ofString "\\\\") = S (swp 92 [92, 92] y.cps.toList) := replace_swp y 92 [92, 92]
  have hyl : y.cps.toList.length = y.length := by simp [Str.length]
  have hrl : (Txt.replace y (Str.ofString "\\") (Str.ofString "\\\\")).length ≤ 600 := by
    rw [hr, S_length]
    have := swp_len 92 [92, 92] y.cps.toList (by decide)
    omega
  repeat' walk1
  · rename_i hpos t₁ k₁ hk₁
    rw [hr] at hrl ⊢
    have h0 : (0 : Nat) < k₁ := by omega
    refine replaceT (Nat.ne_of_gt h0) (Nat.succ_ne_zero _) (Nat.ne_of_lt (Nat.lt_succ_self _)) (by decide) (Nat.le_trans hrl (by decide)) (by decide) ?_
    intro t₂ k₂ hk₂
    rw [show Txt.replace (S (swp 92 [92, 92] y.cps.toList)) (Str.ofString "\"") (Str.ofString "\\\"") = S (escL y.cps.toList) from replace_swp _ 34 [92, 34]]
    have hel : (S (escL y.cps.toList)).length ≤ 1200 := by
      rw [S_length]
      have h1 := swp_len 34 [92, 34] (swp 92 [92, 92] y.cps.toList) (by decide)
      rw [S_length] at hrl
      unfold escL
      omega
    have l0 : Str.empty.length = 0 := rfl
    have l1 : (Str.ofString "=\"").length = 2 := by decide
    have l2 : (Str.ofString "\"").length = 1 := by decide
    repeat walk1
    rename Cx _ _ _ _ _ _ _ _ => C5
    refine Done.mk ⟨_, C5.done (Nat.le_refl _) ⟨_, _, rfl⟩, ?_⟩
    rw [fmtS, if_neg (by omega)]
    have e1 : Str.empty ++ x = x := by
      show (⟨#[] ++ x.cps⟩ : Str) = x
      simp
    refine ⟨_, congrArg (fun z => Value.str z _) ?_⟩
    rw [e1, show Str.ofString "=\"" = S [61, 34] from by decide, show Str.ofString "\"" = S [34] from by decide]
  · rename_i hq
    have hz : y.length = 0 := by omega
    refine Done.mk ⟨_, C.done (Nat.le_refl _) ⟨_, _, rfl⟩, ?_⟩
    rw [fmtS, if_pos hz]
    exact ⟨_, rfl⟩
set_option maxHeartbeats 1000000
noncomputable abbrev kwD (w : World) (t : Tok) (k : Str) (v : Value) : Obj := dictOf [⟨PyData.keyHash w.params k, .str k t, v⟩] 1
theorem nsSet_one {w : World} {A : Around} {E : Value → Shared → Prop} {s : Shared} {d : Addr} {k : Str} {v : Value} {Q : Unit → Shared → Prop} (D : s.heap.get? d = some (dictOf [] 0))
    (h : ∀ h', Heap.SameBut d s.heap h' → h'.get? d = some (kwD w s.toks k v) → Q () { s with heap := h', toks := s.toks + 1 }) : wpAny (model P0 w) A (nsSet d k v) Q E s := by
  have e : Obj.putName k (PyData.keyHash w.params k) (.str k s.toks) v (dictOf [] 0) = kwD w s.toks k v := by
    rw [putName_dict]; rfl
  have D' : (s.heap.update d (Obj.putName k (PyData.keyHash w.params k) (.str k s.toks) v)).get? d = some (kwD w s.toks k v) := (Heap.get?_update_self _ D (by rw [e]; rfl)).trans (by rw [e])
  unfold nsSet
  refine wpAny_bind (wpAny_bind (wpAny_askSetting (wpAny_pure (wpAny_bind (wpAny_mkText (wpAny_bind (wpAny_loadPart D ?_)))))))
  dsimp only [dictOf]
  rw [show aRefKeyMayBeTheName k ([] : List DictEntry).toArray = false from by rw [aRefKeyMayBeTheName_at]; simp]
  exact wpAny_updatePart D (h _ (Heap.SameBut.update ..) D')
section
variable {w : World} {A : Around} {E : Value → Shared → Prop} {s : Shared} {g : Heap} {Q : Value → Shared → Prop}
  {name qual : Str} {params : Arguments} {body : List Stmt} {scope : Scope} {dV kV doc pm cdv ct : Value} {an : Option Addr} {fo : Obj} {f : Addr} {pos : List Value} {kn pn : Str} {kv : Value} {front : List (Str × Value)}
/-- a call of a def of the text, one of the names gathered in a dict -/
theorem call_kw (mu : List (Addr × Obj)) (ks : List At) (G : Gd w g) (gs : g.StaysIn s.heap) (hroom : A.depth < recursionLimit) (hf : g.get? f = some fo)
    (hd : fo.data = .func (fnX name qual params body scope [] dV kV doc pm an cdv ct)) (hcd : g.CodeRec cdv qual)
    (hbind : bindArgs (fnX name qual params body scope [] dV kV doc pm an cdv ct) ⟨pos, [(kn, kv)]⟩ = (do
      let d ← alloc { cls := .type "dict", data := .dict #[] }
      forIn [(kn, kv)] PUnit.unit (fun x _ => (nsSet d x.1 x.2 >>= fun _ => pure (ForInStep.yield PUnit.unit)))
      pure (front ++ [(pn, .ref d)])))
    (hloc : ∀ D, ∀ y ∈ front ++ [(pn, Value.ref D)], scope.names.lookup y.1 = some .local)
    (hmu : ∀ p ∈ mu, s.heap.get? p.1 = some p.2 ∧ g.get? p.1 = none) (hnd : (mu.map (·.1)).Nodup) (hks : ∀ x ∈ ks, x.on g)
    (h : ∀ d L t h₁ tk, s.heap.objs.size ≤ L → (d == sysModules) = false → Cx (hideAll s.heap (mu.map (·.1))) g L (fun y => (front ++ [(pn, Value.ref d)]).reverse.lookup y) ((d, kwD w t kn kv) :: mu) ks g h₁ →
      wpAny (model P0 w) (A.deeper (envX qual scope L f cdv [])) (execs body (envX qual scope L f cdv []))
        (fun fl s' => Q (match fl with | .ret v => v | _ => .none) s')
        (fun e s' => wpAny (model P0 w) (A.deeper (envX qual scope L f cdv [])) (leaving (envX qual scope L f cdv []) e) (fun _ s'' => E e s'') (fun e' s'' => E e' s'') s')
        { s with heap := h₁, toks := tk })
    (hcell : ∀ x ∈ scope.names, x.2 ≠ .cell) (hco : scope.isCoroutine = false := by rfl) (hgen : scope.isGenerator = false := by rfl) (hk : scope.kind = .function := by rfl) :
    wpAny (model P0 w) A (call (.ref f) pos [(kn, kv)]) Q E s := by
  refine wpAny_call (codeAny_call_function hroom (gs _ _ hf) hd hco hgen rfl (hcd.keeps gs) ?_)
  rw [hbind]
  refine wpAny_bind (wpAny_alloc (wpAny_bind ?_))
  rw [List.forIn_cons]
  refine wpAny_bind (wpAny_bind (nsSet_one (s := { s with heap := s.heap.push { cls := .type "dict", data := .dict #[] } }) (Heap.get?_push_size _ rfl) fun h₂ hs₂ e₂ => wpAny_pure ?_))
  refine wpAny_pure (wpAny_pure ?_)
  have keep2 : s.heap.StaysIn h₂ := fun a o e => hs₂.extBut a o (Nat.ne_of_lt (Heap.lt_size e)) (Heap.get?_push_of_some _ e)
  refine wpAny_newFunctionEnv hcell (hloc _) (fun h₃ hns₃ hsb₃ => ?_) hk
  have hlt : s.heap.objs.size < h₂.objs.size := Heap.lt_size e₂
  have keep3 : h₂.StaysIn h₃ := fun a o e => hsb₃.extBut a o (Nat.ne_of_lt (Heap.lt_size e)) (Heap.get?_push_of_some _ e)
  refine ⟨(((G.lim.keeps gs).keeps keep2).fresh _ hsb₃), codeAny_func ?_⟩
  have old : s.heap.StaysIn h₃ := fun a o e => keep3 a o (keep2 a o e)
  refine h s.heap.objs.size _ s.toks h₃ _ (Nat.le_of_lt hlt) (beq_eq_false_iff_ne.mpr (Nat.ne_of_gt (modules_low (G.lim.keeps gs))))
    ⟨hns₃, fun a o e => old a o (of_hideAll _ e), by rw [hideAll_size]; exact Nat.le_of_lt hlt, fun a o e => old a o (gs a o e), fun _ _ e => e, fun a o e => .inl e, fun o e => ?_, fun p hp => ?_, ?_, hks⟩
  · exact absurd (Heap.lt_size (gs _ _ e)) (Nat.not_lt.mpr (Nat.le_of_lt hlt))
  · rcases List.mem_cons.mp hp with rfl | hp
    · refine ⟨keep3 _ _ e₂, ?_, ?_, Nat.ne_of_lt hlt⟩
      · cases q : (hideAll s.heap (mu.map (·.1))).get? s.heap.objs.size with
        | none => rfl
        | some o => exact absurd (Heap.lt_size (of_hideAll _ q)) (Nat.lt_irrefl _)
      · cases q : g.get? s.heap.objs.size with
        | none => rfl
        | some o => exact absurd (Heap.lt_size (gs _ _ q)) (Nat.lt_irrefl _)
    · exact ⟨old _ _ (hmu p hp).1, hideAll_none _ (List.mem_map_of_mem hp), (hmu p hp).2, Nat.ne_of_lt (Nat.lt_trans (Heap.lt_size (hmu p hp).1) hlt)⟩
  · rw [List.map_cons, List.nodup_cons]
    refine ⟨fun q => ?_, hnd⟩
    obtain ⟨p, hp, e⟩ := List.mem_map.mp q
    exact absurd (Heap.lt_size (hmu p hp).1) (by rw [e]; exact Nat.lt_irrefl _)
end
set_option maxHeartbeats 1000000
theorem kwD_is {w : World} {t : Tok} {k : Str} {v : Value} : (kwD w t k v).IsDictOf (strKind P0 w) [(k, v)] := kp_isDict (prog := P0) (w := w) (ex := [(k, v)]) t 1 (by simp)
theorem kwD_at {w : World} {h : Heap} {d : Addr} {t : Tok} {k : Str} {v : Value} (e : h.get? d = some (kwD w t k v)) : h.DictAt (strKind P0 w) d [(k, v)] 1 := by
  obtain ⟨es, n, h1, h2, h3, h4, h5⟩ := kwD_is (w := w) (t := t) (k := k) (v := v)
  cases h2
  exact ⟨_, _, e, h1, rfl, h3, h4, h5⟩
section
variable {b g₀ g h h' : Heap} {L : Addr} {m : Str → Option Value} {mu : List (Addr × Obj)} {ks : List At}
theorem Cx.but {I : Addr} {oI oI' : Obj} (C : Cx b g₀ L m ((I, oI) :: mu) ks g h) (hk : ∀ a o, a ≠ I → h.get? a = some o → h'.get? a = some o) (e : h'.get? I = some oI') : Cx b g₀ L m ((I, oI') :: mu) ks g h' :=
  have hI := C.mt _ (.head _)
  have nd := C.nd
  { ns := C.ns.at' fun o q => hk _ _ (Ne.symm hI.2.2.2) q
    bk := fun a o q => hk a o (by rintro rfl; rw [hI.2.1] at q; cases q) (C.bk a o q)
    bL := C.bL
    gk := fun a o q => hk a o (by rintro rfl; rw [hI.2.2.1] at q; cases q) (C.gk a o q)
    gg := C.gg
    gn := C.gn
    g0 := C.g0
    mt := fun p hp => by
      rcases List.mem_cons.mp hp with rfl | hp
      · exact ⟨e, hI.2⟩
      · have z := C.mt p (.tail _ hp)
        refine ⟨hk _ _ (fun q => ?_) z.1, z.2⟩
        rw [List.map_cons, List.nodup_cons] at nd
        exact nd.1 (q ▸ List.mem_map.mpr ⟨p, hp, rfl⟩)
    nd := nd
    kn := C.kn }
theorem Cx.put {a : Addr} {o : Obj} (C : Cx b g₀ L m mu ks g h) (e : h.get? a = some o) (hb : b.get? a = none) (hg : g.get? a = none) (hL : a ≠ L) (hm : ∀ p ∈ mu, p.1 ≠ a) : Cx b g₀ L m ((a, o) :: mu) ks g h :=
  { C with
    mt := fun p hp => by
      rcases List.mem_cons.mp hp with rfl | hp
      · exact ⟨e, hb, hg, hL⟩
      · exact C.mt p hp
    nd := by
      rw [List.map_cons, List.nodup_cons]
      refine ⟨fun q => ?_, C.nd⟩
      obtain ⟨p, hp, q⟩ := List.mem_map.mp q
      exact hm p hp q }
end
noncomputable abbrev itObj (d : Addr) (i : Nat) (ok ov : Value) : Obj := { cls := .type "dict_itemiterator", data := .fields #[.none, .bool false, .ref d, .int i 0, .int (1 : Nat) 0, .int (1 : Nat) 0, ok, ov] }
section
variable {w : World} {A : Around} {s : Shared} {b g₀ g : Heap} {env : Env} {m : Str → Option Value} {mu : List (Addr × Obj)} {ks : List At}
/-- a for over the items of a dict with one name -/
theorem for_one {elts : List PySem.Expr} {x1} {pos : Pos} {body : List Stmt} {I d : Addr} {t : Tok} {k : Str} {v : Value} {Q : Flow → Shared → Prop} {X : Value → Shared → Prop}
    (C : Cx b g₀ env.locals m ((I, itObj d 0 .none .none) :: mu) ks g s.heap) (hd : (d, kwD w t k v) ∈ mu) (hh : A.handled = none)
    (J : (Str → Option Value) → List (Addr × Obj) → List At → Prop)
    (step : ∀ a tt h₁ oI, env.locals < a → Cx b g₀ env.locals m ((a, tup [.str k tt, v]) :: (I, oI) :: mu) ks g h₁ →
      wpAny (model P0 w) A (assign (.Tuple elts x1 pos) env (.ref a)) (fun _ s₂ => wpAny (model P0 w) A (execs body env) (fun fl s₃ =>
        Done (fl = .next ∧ ∃ m₂ mu₂ ks₂ g₂, Cx b g₀ env.locals m₂ ((I, oI) :: mu₂) ks₂ g₂ s₃.heap ∧ (d, kwD w t k v) ∈ mu₂ ∧ g.StaysIn g₂ ∧ J m₂ mu₂ ks₂ ∧ ∃ h tk, s₃ = { s with heap := h, toks := tk })) NoE s₂) NoE { s with heap := h₁ })
    (done : ∀ m₁ mu₁ ks₁ g₁ h₁ tk₁, J m₁ mu₁ ks₁ → g.StaysIn g₁ → Cx b g₀ env.locals m₁ mu₁ ks₁ g₁ h₁ → Q .next { s with heap := h₁, toks := tk₁ }) :
    codeAny (model P0 w) A (.forLoop (.Tuple elts x1 pos) (.ref I) body [] env) (fun r s' => match r with | .ok f => Q f s' | .error e => X e s') s := by
  refine codeAny_forLoop_any
    (fun n s' => (n = 1 ∧ s' = s) ∨ (n = 0 ∧ ∃ m₁ mu₁ ks₁ g₁ ok ov, Cx b g₀ env.locals m₁ ((I, itObj d 1 ok ov) :: mu₁) ks₁ g₁ s'.heap ∧ (d, kwD w t k v) ∈ mu₁ ∧ g.StaysIn g₁ ∧ J m₁ mu₁ ks₁ ∧ ∃ h tk, s' = { s with heap := h, toks := tk })) ?_ 1 (.inl ⟨rfl, rfl⟩)
  rintro n s' (⟨rfl, rfl⟩ | ⟨rfl, m₁, mu₁, ks₁, g₁, ok, ov, C₁, hd₁, hg₁, hJ, h, tk, rfl⟩)
  · refine wpAny_pyNext_items_item (knd := strKind P0 w) (d := d) (i := 0) (ep := 1) (kvs := [(k, v)]) (C.at (.head _)) (kwD_at (C.at (.tail _ hd))) rfl ?_
    intro key h' hkey hit htup hsz hk
    obtain ⟨tt, rfl⟩ : ∃ tt, key = .str k tt := by
      cases key with
      | str y tt =>
        have : (y == k) = true := hkey
        rw [beq_iff_eq.mp this]; exact ⟨_, rfl⟩
      | _ => cases hkey
    have C1 := C.but hk hit
    have fr := C.none_of_ge (Nat.le_refl _)
    have C2 : Cx b g₀ env.locals m ((s'.heap.objs.size, tup [.str k tt, v]) :: _) ks g h' := C1.put htup fr.1 fr.2.1 fr.2.2 fun p hp q => by
      have hlt : p.1 < s'.heap.objs.size := by
        rcases List.mem_cons.mp hp with rfl | hp
        · exact C.mu_lt (p := (I, itObj d 0 .none .none)) (.head _)
        · exact C.mu_lt (.tail _ hp)
      rw [q] at hlt
      exact Nat.lt_irrefl _ hlt
    refine noRaise (wpAny_letOwnedTupleGo_items hit ?_)
    intro h'' hit'' hs''
    have C3 := C2.upd (.tail .head) hs'' hit''
    refine noRaise (wpAny_mono (step _ tt h'' _ C.lt C3) (fun _ s₂ h₃ => noRaise (wpAny_mono h₃ (fun fl s₃ h₄ => ?_) fun _ _ x => x)) fun _ _ x => x)
    obtain ⟨rfl, m₂, mu₂, ks₂, g₂, C4, hd2, hg₂, hJ₂, e⟩ := h₄.out
    exact ⟨0, by decide, .inr ⟨rfl, m₂, mu₂, ks₂, g₂, _, _, C4, hd2, hg₂, hJ₂, e⟩⟩
  · refine wpAny_pyNext_items_end (knd := strKind P0 w) (d := d) (i := 1) (ep := 1) (kvs := [(k, v)]) hh (C₁.at (.head _)) (kwD_at (C₁.at (.tail _ hd₁))) rfl ?_
    intro h' he
    refine wpAny_execs_nil (done m₁ mu₁ ks₁ g₁ h' _ hJ hg₁ ?_)
    have D := C₁.drop (List.sublist_cons_self _ _)
    have hI := C₁.mt _ (.head _)
    exact
    { ns := D.ns.at' fun o q => he _ _ (Ne.symm hI.2.2.2) q
      bk := fun a o q => he a o (by rintro rfl; rw [hI.2.1] at q; cases q) (D.bk a o q)
      bL := D.bL
      gk := fun a o q => he a o (by rintro rfl; rw [hI.2.2.1] at q; cases q) (D.gk a o q)
      gg := D.gg
      gn := D.gn
      g0 := D.g0
      mt := fun p hp => by
        have z := D.mt p hp
        refine ⟨he _ _ (fun q => ?_) z.1, z.2⟩
        have nd := C₁.nd
        rw [List.map_cons, List.nodup_cons] at nd
        exact nd.1 (q ▸ List.mem_map.mpr ⟨p, hp, rfl⟩)
      nd := D.nd
      kn := D.kn }
end
noncomputable def addedP (p : Pair) : Pair := (p.1, p.2 ++ S [59, 32] ++ fmtS (S [112]) p.2)
theorem add_spec {w : World} {A : Around} {E : Value → Shared → Prop} {s : Shared} {g : Heap} {T dx l : Addr} {t u u1 u2 : Tok} {vs : List Value} {n : Nat} {x y : Str} {ps : List Pair} (G : Gd w g) (gs : g.StaysIn s.heap) (R : Rm A 6)
    (hT : g.get? T = some (instObj 224 dx)) (hdx : g.get? dx = some (hdD w t l)) (hl : s.heap.get? l = some (lst vs n)) (hgl : g.get? l = none) (hz : ps.length ≤ 1000) (hv : RdAll g vs (ps.map pairD)) (hp : OkP (x, y)) (hy : y.length ≤ 300) :
    wpAny (model P0 w) A (call (.ref 221) [.ref T, .str x u, .str y u1] [(Str.ofString "p", .str y u2)]) (fun v s' => Done (∃ g', Ct [l] s g s' g' ∧ v = .none ∧ ∃ vs' k, s'.heap.get? l = some (lst vs' k) ∧ RdAll g' vs' ((ps ++ [addedP (x, y)]).map pairD))) E s := by
  have hlen := hv.length
  refine call_kw (front := [(Str.ofString "self", .ref T), (Str.ofString "_name", .str x u), (Str.ofString "_value", .str y u1)]) (pn := Str.ofString "_params") [(l, lst vs n)] [] G gs R.lt (G.k 221 _ rfl) rfl (codeRec_of G.k rfl) rfl (fun D => locs rfl) (fun p hp => by simp at hp; subst hp; exact ⟨hl, hgl⟩) (by simp) (fun _ h => nomatch h) ?_ (by decide)
  intro d L td h₁ tk hL lo C
  repeat walk1
  (rename Cx _ _ _ _ _ _ _ _ => cO; refine cx_call cO (conv_ok (nm := false) (by walk_at "gd") (by walk_at "gk") (by walk_at "room") hp.2.2.2 hp.2.1) ?_; clear cO)
  rintro _ g₂ h₂ tk₂ hg₂ rfl C2
  repeat walk1
  rename Cx _ _ _ _ _ _ _ _ => C3
  refine getMethod_builtin ⟨_, C3.at (by walk_at "mem"), rfl⟩ PySem.F.plainAttrs_dict PySem.F.slot_dict_items PySem.F.type_dict_items (fun a e => by cases e; exact ⟨_, C3.at (by walk_at "mem"), rfl⟩) ?_
  repeat walk1
  refine call_meetsIn PySem.F.slot_dict_items ⟨_, C3.at (by walk_at "mem"), rfl⟩ PySem.F.entry_dict_items (PySem.F.args_dict_items_1 _) (meets_dict_items (strKind P0 w) d lo) ⟨⟨_, Heap.dictOf_iff.mpr ⟨_, C3.at (by walk_at "mem"), kwD_is⟩⟩, ?_⟩
  have C4 := C3.addMu (fun _ _ e => Heap.get?_push_of_some _ e) (Nat.le_refl _) (Heap.get?_push_size _ (o := { cls := .type "dict_items", data := .fields #[.ref d] }) rfl)
  clear C3
  refine wpAny_pyIter_items (d := d) (knd := strKind P0 w) ⟨_, C4.at (.head _), rfl, rfl⟩ (kwD_at (C4.at (by walk_at "mem"))) ?_
  have C5 := C4.addMu (fun _ _ e => Heap.get?_push_of_some _ e) (Nat.le_refl _) (Heap.get?_push_size _ (o := { cls := .type "dict_itemiterator", data := .fields #[.none, .bool false, .ref d, .int 0 0, .int ([(Str.ofString "p", Value.str y u2)] : List (Str × Value)).length 0, .int (1 : Nat) 0, .none, .none] }) rfl)
  clear C4
  rename_i pa _ hpa _ _ _ _
  refine for_one C5 (by walk_at "mem") R.hd (fun m₁ mu₁ ks₁ => m₁ (Str.ofString "self") = some (.ref T) ∧ m₁ (Str.ofString "_name") = some (.str x u) ∧ m₁ (Str.ofString "parts") = some (.ref pa) ∧ ks₁ = [] ∧ ∃ tf kp, mu₁ = [(pa, lst [.str y u1, .str (fmtS (S [112]) y) tf] kp), (d, kwD w td (Str.ofString "p") (.str y u2)), (l, lst vs n)]) ?_ ?_
  · intro a tt h₃ oI hLa C6
    clear C5
    repeat walk1
    (rename Cx _ _ _ _ _ _ _ _ => cO; refine cx_call cO (conv_ok (nm := true) (x := Str.ofString "p") (by walk_at "gd") (by walk_at "gk") (by walk_at "room") (by decide) (by decide)) ?_; clear cO)
    rintro _ g₃ h₄ tk₄ hg₃ rfl C7
    repeat walk1
    (rename Cx _ _ _ _ _ _ _ _ => cO; refine cx_call cO (conv_ok (nm := false) (by walk_at "gd") (by walk_at "gk") (by walk_at "room") hp.2.2.2 hp.2.1) ?_; clear cO)
    rintro _ g₄ h₅ tk₅ hg₄ rfl C8
    repeat walk1
    refine replaceT (Nat.succ_ne_zero _) (Nat.succ_ne_zero _) (Nat.ne_of_lt (Nat.lt_succ_self _)) (by decide) (by decide) (by decide) ?_
    intro t₆ k₆ hk₆
    rw [show Txt.replace (Str.ofString "p") (Str.ofString "_") (Str.ofString "-") = S [112] from (replace_swp _ 95 [45]).trans (by decide)]
    dsimp only
    repeat walk1
    (rename Cx _ _ _ _ _ _ _ _ => cO; refine cx_call cO (fmt_spec (by walk_at "gd") (by walk_at "gk") (by walk_at "room") (by decide) hy) ?_; clear cO)
    rintro _ g₅ h₆ tk₆ hg₅ ⟨tf, rfl⟩ C9
    repeat walk1
    rename Cx _ _ _ _ _ _ _ _ => C10
    exact Done.mk ⟨rfl, _, _, _, _, C10.drop (List.Sublist.cons _ (List.Sublist.cons₂ _ (List.Sublist.cons _ (List.Sublist.refl _)))), by walk_at "mem", fun a o e => hg₅ a o (hg₄ a o (hg₃ a o e)), ⟨rfl, rfl, rfl, rfl, tf, _, rfl⟩, _, _, rfl⟩
  · rintro m₁ mu₁ ks₁ g₃ h₃ tk₃ ⟨hm1, hm2, hm3, rfl, tf, kp, rfl⟩ hg₃ C6
    clear C5
    repeat walk1
    (rename Cx _ _ _ _ _ _ _ _ => cO; refine cx_call cO (conv_ok (nm := true) (by walk_at "gd") (by walk_at "gk") (by walk_at "room") hp.2.2.1 hp.1) ?_; clear cO)
    rintro _ g₄ h₄ tk₄ hg₄ rfl C7
    repeat walk1
    have hfl : (fmtS (S [112]) y).length ≤ 5000 := by
      unfold fmtS
      split
      · decide
      · have h1 := swp_len 34 [92, 34] (swp 92 [92, 92] y.cps.toList) (by decide)
        have h2 := swp_len 92 [92, 92] y.cps.toList (by decide)
        have h3 : y.cps.toList.length = y.length := by simp [Str.length]
        simp only [Str.length_append, S_length, escL, List.length_cons, List.length_nil]
        omega
    refine join_listW (ys := [y, fmtS (S [112]) y]) ⟨_, C7.at (.head _), rfl, _, rfl⟩ (.cons _ _ (.cons _ _ .nil)) (by decide) (by simp only [List.map_cons, List.map_nil, List.sum_cons, List.sum_nil, List.length_cons, List.length_nil]; omega) ?_
    intro t' k
    rw [show Txt.join (Str.ofString "; ") [y, fmtS (S [112]) y] = (addedP (x, y)).2 from (beq_iff_eq.mp (join_plain_closes _ _)).trans (by show y ++ Str.ofString "; " ++ fmtS (S [112]) y = _; rw [show Str.ofString "; " = S [59, 32] from by decide]; rfl)]
    have hvl : vs.length ≤ 1000 := by simp at hlen; omega
    repeat walk1
    rename Cx _ _ _ _ _ _ _ _ => C8
    obtain ⟨g₅, hg₅, e₅, C9⟩ := C8.frz (by assumption)
    refine Done.mk ⟨_, C9.done (M := [l]) hL ⟨_, _, rfl⟩, rfl, _, _, C9.at (by walk_at "mem"), ?_⟩
    rw [List.map_append]
    exact (hv.up fun a o e => hg₅ a o (hg₄ a o (hg₃ a o (hg₂ a o e)))).append (.cons (Rd.mkPair e₅) .nil)
set_option maxHeartbeats 1000000
/-- the dict of a stream -/
noncomputable abbrev exD (w : World) (t1 t2 tb : Tok) (b : Array UInt8) (f : Addr) : Obj := dictOf [⟨PyData.keyHash w.params (Str.ofString "value"), .str (Str.ofString "value") t1, .bytes b tb⟩, ⟨PyData.keyHash w.params (Str.ofString "read"), .str (Str.ofString "read") t2, .ref f⟩] 2
theorem byN_size (l : List Nat) : (byN l).size = l.length := by simp [byN]
theorem byN_toList (l : List Nat) : (byN l).toList = l.map fun n => n.toUInt8 := by simp [byN]
theorem clip_nat (n k : Nat) : clipAt n (k : Int) = min k n := by
  unfold clipAt
  rw [if_neg (Int.not_lt.mpr (Int.natCast_nonneg _))]
  rcases Nat.le_total k n with h | h
  · rw [Int.min_eq_left (Int.ofNat_le.mpr h), Nat.min_eq_left h, Int.max_eq_right (Int.natCast_nonneg _), Int.toNat_natCast]
  · rw [Int.min_eq_right (Int.ofNat_le.mpr h), Nat.min_eq_right h, Int.max_eq_right (Int.natCast_nonneg _), Int.toNat_natCast]
theorem picked_upto (l : List Nat) (k : Nat) : KBy.picked (byN l) none (some (k : Int)) = byN (l.take k) := by
  rw [KBc.picked_eq, byN_toList, byN_size]
  show (List.take (clipAt l.length (k : Int) - 0) (List.drop 0 (l.map _))).toArray = ((l.take k).map _).toArray
  rw [clip_nat, List.drop_zero, Nat.sub_zero, List.map_take]
  congr 1
  rcases Nat.le_total k l.length with h | h
  · rw [Nat.min_eq_left h]
  · rw [Nat.min_eq_right h, List.take_of_length_le (by simp), List.take_of_length_le (by simpa using h)]
theorem picked_from (l : List Nat) (k : Nat) : KBy.picked (byN l) (some (k : Int)) none = byN (l.drop k) := by
  rw [KBc.picked_eq, byN_toList, byN_size]
  show (List.take (l.length - clipAt l.length (k : Int)) (List.drop (clipAt l.length (k : Int)) (l.map _))).toArray = ((l.drop k).map _).toArray
  rw [clip_nat, List.map_drop]
  congr 1
  rcases Nat.le_total k l.length with h | h
  · rw [Nat.min_eq_left h, List.take_of_length_le (by simp)]
  · rw [Nat.min_eq_right h, List.drop_of_length_le (by simp), List.drop_of_length_le (by simpa using h), List.take_nil]
theorem take_spec {w : World} {A : Around} {E : Value → Shared → Prop} {s : Shared} {g : Heap} {T dx f : Addr} {t1 t2 tb u : Tok} {l : List Nat} {k : Nat} (G : Gd w g) (gs : g.StaysIn s.heap) (R : Rm A 3)
    (hT : g.get? T = some (instObj 76 dx)) (hd : s.heap.get? dx = some (exD w t1 t2 tb (byN l) f)) (hgd : g.get? dx = none) (hz : l.length ≤ 100000) (hk : k ≤ 100000) :
    wpAny (model P0 w) A (call (.ref 235) [.ref T, .int (k : Int) u]) (fun v s' => Done (∃ g', Ct [dx] s g s' g' ∧ (∃ t, v = .bytes (byN (l.take k)) t) ∧ ∃ tb', s'.heap.get? dx = some (exD w t1 t2 tb' (byN (l.drop k)) f))) E s := by
  refine call_fn (binds := [(Str.ofString "stream", .ref T), (Str.ofString "size", .int (k : Int) u)]) [(dx, exD w t1 t2 tb (byN l) f)] [] G gs R.lt (G.k 235 _ rfl) rfl (codeRec_of G.k rfl) (BindsTo.of_eq rfl) (locs rfl) (fun p hp => by simp at hp; subst hp; exact ⟨hd, hgd⟩) (by simp) (fun _ h => nomatch h) ?_ (by decide)
  intro h₁ tk C
  repeat walk1
  refine slice_bytes C .none (.int _ _) (by rw [byN_size]; omega) ?_
  intro h₂ t' k₂ C2
  clear C
  rw [picked_upto]
  repeat walk1
  refine len_bytes (by rw [byN_size]; simp; omega) ?_
  rw [byN_size]
  repeat walk1
  rename Cx _ _ _ _ _ _ _ _ => C3
  refine slice_bytes C3 (.int _ _) .none (by rw [byN_size]; omega) ?_
  intro h₃ t'' k₃ C4
  clear C3
  rw [picked_from]
  repeat walk1
  rename Cx _ _ _ _ _ _ _ _ => C5
  refine Done.mk ⟨_, C5.done (M := [dx]) (Nat.le_refl _) ⟨_, _, rfl⟩, ⟨_, rfl⟩, t'', ?_⟩
  rw [show l.drop (l.take k).length = l.drop k from ?_] at C5
  · exact C5.at (.head _)
  · rw [List.length_take]
    rcases Nat.le_total k l.length with h | h
    · rw [Nat.min_eq_left h]
    · rw [Nat.min_eq_right h, List.drop_length, List.drop_of_length_le h]
set_option maxHeartbeats 1000000
theorem exinit_code {w : World} {A : Around} {E : Value → Shared → Prop} {s : Shared} {g : Heap} {x dx : Addr} {v : Value} (G : Gd w g) (gs : g.StaysIn s.heap) (R : Rm A 3)
    (hx : g.get? x = some (instObj 76 dx)) (hdx : s.heap.get? dx = some (dictOf [] 0)) (hgd : g.get? dx = none) :
    codeAny (model P0 w) A (.call (.ref 73) ⟨[.ref x, v], []⟩) (fun r s' => match r with | .ok (.ret v') => Done (v' = .none ∧ ∃ t, Ct [dx] s g s' g ∧ s'.heap.get? dx = some (kwD w t (Str.ofString "value") v)) | .ok _ => False | .error e => E e s') s := by
  refine code_fn (Q := fun v' s' => Done (v' = .none ∧ ∃ t, Ct [dx] s g s' g ∧ s'.heap.get? dx = some (kwD w t (Str.ofString "value") v))) (binds := [(Str.ofString "self", .ref x), (Str.ofString "value", v)]) [(dx, dictOf [] 0)] [] G gs R.lt (G.k 73 _ rfl) rfl (codeRec_of G.k rfl) (BindsTo.of_eq rfl) (locs rfl) (fun p hp => by simp at hp; subst hp; exact ⟨hdx, hgd⟩) (by simp) (fun _ h => nomatch h) ?_ (by decide)
  intro h₁ tk C
  repeat walk1
  rename Cx _ _ _ _ _ _ _ _ => C1
  exact Done.mk ⟨rfl, _, C1.done (M := [dx]) (Nat.le_refl _) ⟨_, _, rfl⟩, C1.at (.head _)⟩
/-- an object of a class made, its __init__ by a contract -/
theorem make_call {w : World} {A : Around} {E : Value → Shared → Prop} {s : Shared} {b g₀ g : Heap} {L Cl fI : Addr} {m : Str → Option Value} {mu : List (Addr × Obj)} {ks : List At} {pos : List Value} {kw : List (Str × Value)} {Q : Value → Shared → Prop} {P : Addr → Addr → Obj → Prop}
    (C : Cx b g₀ L m mu ks g s.heap) (G : Gd w g₀) (hm : makesIn (KF w.params) Cl = true) (hi : findIn (KF w.params) (.ref Cl) "__init__" = some (some (.ref fI))) (hf : isFn (KF w.params) (.ref fI) = true)
    (spec : ∀ x dx g₁ h₁, g.StaysIn g₁ → g₁.StaysIn h₁ → g₁.get? x = some (instObj Cl dx) → h₁.get? dx = some (dictOf [] 0) → g₁.get? dx = none →
      codeAny (model P0 w) (A.under (.builtin "type.__call__" ⟨.ref Cl :: pos, kw⟩)) (.call (.ref fI) ⟨.ref x :: pos, kw⟩)
        (fun r s' => match r with | .ok (.ret v') => Done (v' = .none ∧ ∃ g' o', Ct [dx] { s with heap := h₁ } g₁ s' g' ∧ s'.heap.get? dx = some o' ∧ P x dx o') | .ok _ => False | .error e => E e s') { s with heap := h₁ })
    (k : ∀ x dx o' g' h' tk, L < x → L < dx → g.StaysIn g' → g'.get? x = some (instObj Cl dx) → P x dx o' → Cx b g₀ L m ((dx, o') :: mu) ks g' h' → Q (.ref x) { s with heap := h', toks := tk }) :
    wpAny (model P0 w) A (call (.ref Cl) pos kw) Q E s := by
  refine make_cx C G hm hi hf fun x dx h₁ hL hlt C1 => ?_
  obtain ⟨g₁, hg₁, e₁, C2⟩ := C1.frz (Nat.lt_trans hL hlt)
  refine codeAny_mono (spec x dx g₁ h₁ hg₁ C2.gk e₁ (C2.at (.head _)) (C2.mt _ (.head _)).2.2.1) fun r s' hr => ?_
  unfold InitBack
  split at hr
  · obtain ⟨rfl, g', o', c, e', hP⟩ := hr.out
    have C3 := Cx.after (s := { s with heap := h₁ }) (mu' := (dx, o') :: mu) C2 c (fun a ha => by simp at ha; subst ha; exact .head _) rfl (fun p hp hM => by
      rcases List.mem_cons.mp hp with rfl | hp
      · exact e'
      · have nd := C2.nd
        rw [List.map_cons, List.nodup_cons] at nd
        simp at hM
        exact absurd (hM ▸ List.mem_map.mpr ⟨p, hp, rfl⟩) nd.1) (fun p hp hM => by
      rcases List.mem_cons.mp hp with rfl | hp
      · simp at hM
      · exact .tail _ hp)
    obtain ⟨h', tk, rfl⟩ := c.sh
    exact ⟨rfl, k x dx o' g' h' tk (Nat.lt_trans hL hlt) hL (fun a o q => c.gg a o (hg₁ a o q)) (c.gg _ _ e₁) hP C3⟩
  · exact hr.elim
  · exact hr
set_option maxHeartbeats 1000000
theorem Cx.updE {b g₀ g h h' : Heap} {L a : Addr} {m : Str → Option Value} {mu mu' : List (Addr × Obj)} {ks : List At} {o o' : Obj} (C : Cx b g₀ L m mu ks g h) (u : Up a o o' mu mu') (hx : Heap.ExtBut a h h') (e : h'.get? a = some o') : Cx b g₀ L m mu' ks g h' := by
  have hm := C.mt _ u.mem
  exact
  { ns := C.ns.extBut hx (Ne.symm hm.2.2.2)
    bk := fun i oi q => hx i oi (fun z => by rw [z, hm.2.1] at q; cases q) (C.bk i oi q)
    bL := C.bL
    gk := fun i oi q => hx i oi (fun z => by rw [z, hm.2.2.1] at q; cases q) (C.gk i oi q)
    gg := C.gg
    gn := C.gn
    g0 := C.g0
    mt := fun p hp => by
      rcases u.back C.nd p hp with rfl | ⟨q1, q2⟩
      · exact ⟨e, hm.2⟩
      · exact ⟨hx _ _ q2 (C.mt p q1).1, (C.mt p q1).2⟩
    nd := by rw [u.keys]; exact C.nd
    kn := C.kn }
theorem Cx.swap {b g₀ g h : Heap} {L : Addr} {m : Str → Option Value} {mu : List (Addr × Obj)} {ks : List At} {p q : Addr × Obj} (C : Cx b g₀ L m (p :: q :: mu) ks g h) : Cx b g₀ L m (q :: p :: mu) ks g h :=
  { C with
    mt := fun r hr => C.mt r (by
      rcases List.mem_cons.mp hr with rfl | hr
      · exact .tail _ (.head _)
      · rcases List.mem_cons.mp hr with rfl | hr
        · exact .head _
        · exact .tail _ (.tail _ hr))
    nd := by
      have := C.nd
      simp only [List.map_cons, List.nodup_cons, List.mem_cons, not_or] at this ⊢
      exact ⟨⟨Ne.symm this.1.1, this.2.1⟩, this.1.2, this.2.2⟩ }
/-- the code table of _law_stream: empty, or the lambda's code in it -/
noncomputable def TabIs (g : Heap) (pos : Pos) (qual : Str) (ps : Array Value) : Prop := ps = #[] ∨ ∃ c', ps = #[rawInt pos.line, rawInt pos.col, .ref c'] ∧ g.CodeRec (.ref c') qual
theorem UpF.self {a : Addr} {o : Obj} {l : List (Addr × Obj)} {f : Obj → List (Addr × Obj)} (u : UpF a o l f) : l = f o := by
  induction u with
  | head => rfl
  | tail _ ih => exact congrArg _ ih
theorem lam_ {w : World} {A : Around} {E : Value → Shared → Prop} {s : Shared} {b g₀ g : Heap} {m : Str → Option Value} {mu : List (Addr × Obj)} {ks : List At} {env : Env} {params : Arguments} {body : PySem.Expr} {scope : Scope} {pos : Pos} {ps : Array Value} {fm : Obj → List (Addr × Obj)} {clos : List (Str × Addr)} {Q : Value → Shared → Prop}
    (C : Cx b g₀ env.locals m mu ks g s.heap) (G : Gd w g₀) (u : UpF 237 (tabObj ps) mu fm) (hps : TabIs g pos (env.qual ++ "<lambda>") ps) (hcl : closureFor scope env = pure clos)
    (h : ∀ f c' ctv pm g' h' tk, env.locals < f → g.StaysIn g' → g'.CodeRec (.ref c') (env.qual ++ "<lambda>") → Cx b g₀ env.locals m ((f, kla_obj "<lambda>" (env.qual ++ "<lambda>") params body scope clos pm c' ctv) :: fm (tabObj #[rawInt pos.line, rawInt pos.col, .ref c'])) ks g' h' → Q (.ref f) { s with heap := h', toks := tk })
    (hcode : env.code = .ref 241 := by rfl) (hge : env.globals = mainGlobals := by rfl) (hdef : defaultsOf params env = ([], []) := by rfl) :
    wpAny (model P0 w) A (eval (.Lambda params body scope pos) env) Q E s := by
  have G' := G.up C.up0
  have hP := C.at (u.up default).mem
  obtain ⟨mg, hg⟩ := G'.gl
  obtain ⟨ob, hob, o1, o2, o3⟩ := G'.bm
  have hbm : mg "__builtins__" = some (.ref 4) := mg_of G'.k hg rfl
  have hb : s.heap.BuiltinsAt mg 237 := ⟨4, ob, hbm, by decide, by decide, by decide, hob, o1, o2, o3⟩
  have hC : CodeHd s.heap 241 237 := ⟨_, _, _, _, _, _, _, _, _, G'.k 241 _ rfl, rfl, rfl, rfl, rfl, rfl, rfl, rfl, rfl, by decide⟩
  refine kla_eval hdef ?_
  rcases hps with rfl | ⟨c', rfl, hrec⟩
  · refine kla_makeFunction (mg := mg) hcl hge hg hcode hC hP trivial rfl (by decide) hb fun c' ctv h' tk hx hgc hlt hrec htb => ?_
    have C1 := C.updE (u.up _) hx htb
    obtain ⟨c₂, oc, vs, t, e2, hoc, hd, hv⟩ := hrec
    cases e2
    have hLc : env.locals < c' := Nat.lt_of_lt_of_le C.lt hgc
    obtain ⟨C2, le⟩ := C1.know hoc hLc (fun p hp q => by
      have : p.1 ∈ mu.map (·.1) := (u.up (tabObj (#[] ++ #[rawInt pos.line, rawInt pos.col, .ref c']))).keys ▸ List.mem_map_of_mem hp
      obtain ⟨r, hr, e⟩ := List.mem_map.mp this
      have h1 := C.mu_lt hr
      rw [e, q] at h1
      exact absurd h1 (Nat.not_lt.mpr hgc))
    have C3 := (C2.less (ks' := ks) fun x hx => .tail _ hx).addMu (fun _ _ e => Heap.get?_push_of_some _ e) (Nat.le_refl _) (Heap.get?_push_size _ (o := kla_obj "<lambda>" (env.qual ++ "<lambda>") params body scope clos ((mg "__name__").getD .none) c' ctv) rfl)
    exact h _ c' ctv _ _ _ tk (Nat.lt_trans hLc hlt) le ⟨c', oc, vs, t, rfl, more_self.trans hoc, hd, hv⟩ C3
  · refine kla_makeFunctionHit (mg := mg) hcl hge hg hcode hC hP (by exact trivial) (cv := .ref c') ?_ hb fun ctv h' tk hk hsz => ?_
    · simp [codeAmong, rawInt]
    · have C1 := C.keep hk
      have C2 := C1.addMu (fun _ _ e => Heap.get?_push_of_some _ e) (Nat.le_refl _) (Heap.get?_push_size _ (o := kla_obj "<lambda>" (env.qual ++ "<lambda>") params body scope clos ((mg "__name__").getD .none) c' ctv) rfl)
      exact h _ c' ctv _ _ _ tk (Nat.lt_of_lt_of_le C.lt hsz) (fun _ _ e => e) hrec (u.self ▸ C2)
/-- the lambda of _law_stream, out of the row -/
noncomputable def lamOf : Stmt → Arguments × PySem.Expr × Scope × Pos
  | .FunctionDef _ _ (_ :: .Assign _ (.Lambda a b sc p) _ :: _) _ _ _ _ _ _ _ => (a, b, sc, p)
  | _ => (default, .Constant .none 0 ⟨0, 0, 0, 0⟩, default, ⟨0, 0, 0, 0⟩)
noncomputable abbrev lamE : Arguments × PySem.Expr × Scope × Pos := lamOf (top 15)
noncomputable abbrev lamQ : Str := Str.ofString "_law_stream" ++ ".<locals>." ++ "<lambda>"
/-- a stream whose octets lie in the dict dx -/
structure Strm (g : Heap) (T dx f : Addr) : Prop where
  t : g.get? T = some (instObj 76 dx)
  f : ∃ pm c' ctv cell oc, g.get? f = some (kla_obj "<lambda>" lamQ lamE.1 lamE.2.1 lamE.2.2.1 [(Str.ofString "stream", cell)] pm c' ctv) ∧ g.CodeRec (.ref c') lamQ ∧ g.get? cell = some oc ∧ oc.data = .cell (some (.ref T))
theorem Strm.up {g g' : Heap} {T dx f : Addr} (S : Strm g T dx f) (k : g.StaysIn g') : Strm g' T dx f :=
  ⟨k _ _ S.t, let ⟨pm, c', ctv, cell, oc, h1, h2, h3, h4⟩ := S.f; ⟨pm, c', ctv, cell, oc, k _ _ h1, h2.keeps k, k _ _ h3, h4⟩⟩
theorem stream_spec {w : World} {A : Around} {E : Value → Shared → Prop} {s : Shared} {g : Heap} {l : List Nat} {u : Tok} {ps : Array Value} (G : Gd w g) (gs : g.StaysIn s.heap) (R : Rm A 6) (ht : s.heap.get? 237 = some (tabObj ps)) (hgt : g.get? 237 = none) (hps : TabIs g lamE.2.2.2 lamQ ps) :
    wpAny (model P0 w) A (call (.ref 242) [.bytes (byN l) u]) (fun v s' => Done (∃ g' T dx f t1 t2 ps', Ct [237] s g s' g' ∧ v = .ref T ∧ Strm g' T dx f ∧ s.heap.objs.size ≤ dx ∧ g'.get? dx = none ∧ s'.heap.get? dx = some (exD w t1 t2 u (byN l) f) ∧ s'.heap.get? 237 = some (tabObj ps') ∧ TabIs g' lamE.2.2.2 lamQ ps')) E s := by
  refine call_fnC (binds := [(Str.ofString "octets", .bytes (byN l) u)]) [(237, tabObj ps)] [] G gs R.lt (G.k 242 _ rfl) rfl (codeRec_of G.k rfl) (BindsTo.of_eq rfl) rfl (by decide) (fun p hp => by simp at hp; subst hp; exact ⟨ht, hgt⟩) (by simp) (fun _ h => nomatch h) ?_
  intro h₁ tk cells Y up C
  obtain ⟨oc, rfl, dc⟩ := CellsAre.one Y
  clear Y
  replace dc : oc.data = .cell none := dc
  simp only [List.cons_append, List.nil_append] at C
  repeat walk1
  refine make_call (P := fun x dx o' => ∃ t, o' = kwD w t (Str.ofString "value") (.bytes (byN l) u)) C G (by rfl) (by rfl) (by rfl) ?_ ?_
  · intro x dx g₁ h₂ hg hk hx hdx hgd
    refine codeAny_mono (exinit_code (E := NoE) (G.up hg) (s := ⟨h₂, _, _, _, _⟩) hk (R.deeper.under.le) hx hdx hgd) fun r s' hr => ?_
    split at hr
    · obtain ⟨rfl, t, c, e⟩ := hr.out
      exact Done.mk ⟨rfl, _, _, c, e, t, rfl⟩
    · exact hr.elim
    · exact hr.elim
  rintro x dx _ g₂ h₂ tk₂ hLx hLd hg₂ hx ⟨tv, rfl⟩ C2
  clear C
  repeat walk1
  rename Cx _ _ _ _ _ _ _ _ => C3
  rename_i oc' hoc
  refine lam_ C3 G (by walk_at "up") (by exact hps.elim .inl (fun ⟨c', e, q⟩ => .inr ⟨c', e, q.keeps hg₂⟩)) rfl ?_
  intro f c' ctv pm g₃ h₃ tk₃ hLf hg₃ hrec C4
  clear C3
  have hx3 := hg₃ _ _ hx
  repeat walk1
  rename Cx _ _ _ _ _ _ _ _ => C5
  obtain ⟨g₄, hg₄, e₄, C6⟩ := C5.frz hLf
  obtain ⟨g₅, hg₅, e₅, C7⟩ := C6.swap.frz (Nat.lt_succ_self _)
  have hrec5 := (hrec.keeps hg₄).keeps hg₅
  refine Done.mk ⟨g₅, x, dx, f, _, _, _, C7.done (M := [237]) (Nat.le_refl _) ⟨_, _, rfl⟩, rfl, ⟨hg₅ _ _ (hg₄ _ _ hx3), pm, c', ctv, _, _, hg₅ _ _ e₄, hrec5, e₅, hoc⟩, Nat.le_of_lt hLd, (C7.mt _ (.head _)).2.2.1, C7.at (.head _), C7.at (.tail _ (.head _)), .inr ⟨c', rfl, hrec5⟩⟩
set_option maxHeartbeats 1000000
/-- a call that changes one object -/
theorem cx_call1 {α : Type} {M : Model} {A : Around} {E : Value → Shared → Prop} {s : Shared} {b g₀ g : Heap} {L dx : Addr} {m : Str → Option Value} {mu : List (Addr × Obj)} {ks : List At} {o : Obj} {fm : Obj → List (Addr × Obj)} {t : Sem α} {R : α → Heap → Shared → Prop} {P : α → Heap → Obj → Prop} {Q : α → Shared → Prop}
    (C : Cx b g₀ L m mu ks g s.heap) (u : UpF dx o mu fm) (h : wpAny M A t (fun v s' => Done (∃ g', Ct [dx] s g s' g' ∧ R v g' s')) E s) (hR : ∀ v g' s', R v g' s' → ∃ o', s'.heap.get? dx = some o' ∧ P v g' o')
    (k : ∀ v g' h' tk o', g.StaysIn g' → P v g' o' → Cx b g₀ L m (fm o') ks g' h' → Q v { s with heap := h', toks := tk }) : wpAny M A t Q E s := by
  refine wpAny_mono h (fun v s' q => ?_) fun _ _ x => x
  obtain ⟨g', c, r⟩ := q.out
  obtain ⟨o', e, hP⟩ := hR _ _ _ r
  have ud := u.up o'
  have C' := C.after (mu' := fm o') c (fun a ha => by rw [List.mem_singleton] at ha; subst ha; exact List.mem_map_of_mem ud.mem) ud.keys (fun p hp hM => by
    rw [List.mem_singleton] at hM
    rcases ud.back C.nd p hp with rfl | ⟨_, q2⟩
    · exact e
    · exact absurd hM q2) (fun p hp hM => by
    rcases ud.back C.nd p hp with rfl | ⟨q1, _⟩
    · exact absurd (.head _) hM
    · exact q1)
  obtain ⟨h', tk, rfl⟩ := c.sh
  exact k v g' h' tk o' c.gg hP C'
/-- a call of the stream's lambda -/
theorem read_spec {w : World} {A : Around} {E : Value → Shared → Prop} {s : Shared} {g : Heap} {T dx f : Addr} {t1 t2 tb u : Tok} {l : List Nat} {k : Nat} (G : Gd w g) (gs : g.StaysIn s.heap) (R : Rm A 5)
    (hS : Strm g T dx f) (hd : s.heap.get? dx = some (exD w t1 t2 tb (byN l) f)) (hgd : g.get? dx = none) (hz : l.length ≤ 100000) (hk : k ≤ 100000) :
    wpAny (model P0 w) A (call (.ref f) [.int (k : Int) u]) (fun v s' => Done (∃ g', Ct [dx] s g s' g' ∧ (∃ t, v = .bytes (byN (l.take k)) t) ∧ ∃ tb', s'.heap.get? dx = some (exD w t1 t2 tb' (byN (l.drop k)) f))) E s := by
  obtain ⟨hT, pm, c', ctv, cell, oc, hf, hrec, hcell, hoc⟩ := hS
  refine wpAny_call (kla_callFunE R.lt (gs _ _ hf) rfl rfl rfl rfl (hrec.keeps gs) ?_)
  rw [show bindArgs (kla_fn "<lambda>" lamQ lamE.1 lamE.2.1 lamE.2.2.1 [(Str.ofString "stream", cell)] pm (.ref c') ctv) ⟨[.int (k : Int) u], []⟩ = pure [(Str.ofString "size", .int (k : Int) u)] from rfl]
  have n1 : ∀ x ∈ lamE.2.2.1.names, x.2 ≠ .cell := by decide
  have n2 : ∀ x ∈ [(Str.ofString "size", Value.int (k : Int) u)], lamE.2.2.1.names.lookup x.1 = some .local := by
    intro x hx
    rw [List.mem_singleton] at hx
    subst hx
    rfl
  refine wpAny_pure (wpAny_newFunctionEnv n1 n2 (fun h₁ hns hsb => ⟨(G.lim.keeps gs).fresh _ hsb, ?_⟩) rfl)
  have hk₁ : s.heap.StaysIn h₁ := fun b o e => hsb.extBut b o (Nat.ne_of_lt (Heap.lt_size e)) (Heap.get?_push_of_some _ e)
  have C : Cx (hideAll s.heap [dx]) g s.heap.objs.size (fun y => [(Str.ofString "size", Value.int (k : Int) u)].reverse.lookup y) [(dx, exD w t1 t2 tb (byN l) f)] [] g h₁ :=
    ⟨hns, fun a o e => hk₁ a o (of_hideAll _ e), Nat.le_of_eq (hideAll_size _ _), fun a o e => hk₁ a o (gs a o e), fun _ _ e => e, fun _ _ e => .inl e, fun o e => absurd (Heap.lt_size (gs _ _ e)) (Nat.lt_irrefl _), fun p hp => by
      rw [List.mem_singleton] at hp
      subst hp
      exact ⟨hk₁ _ _ hd, hideAll_none _ (.head _), hgd, Nat.ne_of_lt (Heap.lt_size hd)⟩, by simp, fun _ h => nomatch h⟩
  show codeAny (model P0 w) A (.expr lamE.2.1 (envX lamQ lamE.2.2.1 s.heap.objs.size f (.ref c') [(Str.ofString "stream", cell)])) _ _
  refine kla_codeExpr ?_
  have key : ∀ {a : Arguments} {bd : PySem.Expr} {sc : Scope} {p : Pos} {Q' : Value → Shared → Prop} {E' : Value → Shared → Prop} {s' : Shared}, lamE = (a, bd, sc, p) →
      wpAny (model P0 w) (A.deeper (envX lamQ sc s.heap.objs.size f (.ref c') [(Str.ofString "stream", cell)])) (eval bd (envX lamQ sc s.heap.objs.size f (.ref c') [(Str.ofString "stream", cell)])) Q' NoE s' →
      wpAny (model P0 w) (A.deeper (envX lamQ lamE.2.2.1 s.heap.objs.size f (.ref c') [(Str.ofString "stream", cell)])) (eval lamE.2.1 (envX lamQ lamE.2.2.1 s.heap.objs.size f (.ref c') [(Str.ofString "stream", cell)])) Q' E' s' := by
    intro a bd sc p Q' E' s' e h
    rw [e]
    exact noRaise h
  refine key rfl ?_
  dsimp only
  repeat walk1
  refine cx_call1 (P := fun v g' o' => (∃ t, v = .bytes (byN (l.take k)) t) ∧ ∃ tb', o' = exD w t1 t2 tb' (byN (l.drop k)) f) C (by walk_at "up") (take_spec (by walk_at "gd") (by walk_at "gk") (by walk_at "room") hT (C.at (.head _)) hgd hz hk) (fun v g' s' ⟨a, tb', e⟩ => ⟨_, e, a, tb', rfl⟩) ?_
  rintro _ g₂ h₂ tk₂ _ hg₂ ⟨⟨t', rfl⟩, tb', rfl⟩ C2
  repeat walk1
  exact Done.mk ⟨_, C2.done (M := [dx]) (Nat.le_refl _) ⟨_, _, rfl⟩, ⟨_, rfl⟩, tb', C2.at (.head _)⟩
set_option maxHeartbeats 1000000
theorem uint_spec {w : World} {A : Around} {E : Value → Shared → Prop} {s : Shared} {g : Heap} {T dx f : Addr} {t1 t2 tb : Tok} {l : List Nat} {k : Nat} (G : Gd w g) (gs : g.StaysIn s.heap) (R : Rm A 7)
    (hS : Strm g T dx f) (hd : s.heap.get? dx = some (exD w t1 t2 tb (byN (k :: l)) f)) (hgd : g.get? dx = none) (hz : l.length ≤ 50000) (hk : k < 256) :
    wpAny (model P0 w) A (call (.ref 45) [.ref T]) (fun v s' => Done (∃ g', Ct [dx] s g s' g' ∧ (∃ t, v = .int (k : Int) t) ∧ ∃ tb', s'.heap.get? dx = some (exD w t1 t2 tb' (byN l) f))) E s := by
  obtain ⟨hT, pm, c', ctv, cell, oc, hf, hrec, hcell, hoc⟩ := id hS
  refine call_fn (binds := [(Str.ofString "f", .ref T)]) [(dx, exD w t1 t2 tb (byN (k :: l)) f)] [] G gs R.lt (G.k 45 _ rfl) rfl (codeRec_of G.k rfl) (BindsTo.of_eq rfl) (locs rfl) (fun p hp => by simp at hp; subst hp; exact ⟨hd, hgd⟩) (by simp) (fun _ h => nomatch h) ?_ (by decide)
  intro h₁ tk C
  repeat walk1
  refine cx_call1 (P := fun v g' o' => (∃ t, v = .bytes (byN [k]) t) ∧ ∃ tb', o' = exD w t1 t2 tb' (byN l) f) C (by walk_at "up") (read_spec (k := 1) (by walk_at "gd") (by walk_at "gk") (by walk_at "room") hS (C.at (.head _)) hgd (by simp; omega) (by decide)) (fun v g' s' ⟨a, tb', e⟩ => ⟨_, e, a, tb', rfl⟩) ?_
  rintro _ g₂ h₂ tk₂ _ hg₂ ⟨⟨t', rfl⟩, tb', rfl⟩ C2
  clear C
  repeat walk1
  refine truthy_bytes (by rw [byN_size]; simp) ?_
  rw [show (((byN [k]).size : Int) != 0) = true from rfl]
  repeat walk1
  rename Cx _ _ _ _ _ _ _ _ => C3
  refine KBy.item_N (x := [k.toUInt8]) (by simp) (by decide) (by simp) ?_
  repeat walk1
  refine Done.mk ⟨_, C3.done (M := [dx]) (Nat.le_refl _) ⟨_, _, rfl⟩, ⟨_, congrArg (fun z : Int => Value.int z _) ?_⟩, tb', C3.at (.head _)⟩
  show ((k.toUInt8.toNat : Nat) : Int) = (k : Int)
  rw [show k.toUInt8.toNat = k % 256 from by simp, Nat.mod_eq_of_lt hk]
set_option maxHeartbeats 1000000
section
open Builtin Builtin._codecs
/-- a decoder's steps, sign by sign -/
inductive Steps (d : Decoder) (b : Array UInt8) : Nat → List Nat → Prop
  | nil {p} : b.size ≤ p → Steps d b p []
  | cons {p c next cs} : p < b.size → p < next → d.find true b p = .text [c] next → Steps d b next cs → Steps d b p (c :: cs)
theorem steps_loop {d : Decoder} {b : Array UInt8} {f : Nat → Nat × Array Nat × Faults → Sem (ForInStep (Nat × Array Nat × Faults))}
    (h1 : ∀ x p out st, out.size ≤ 10000 → b.size ≤ p → f x (p, out, st) = pure (.done (p, out, st)))
    (h2 : ∀ x p out st c next, out.size ≤ 10000 → p < b.size → d.find true b p = .text [c] next → f x (p, out, st) = pure (.yield (next, out ++ #[c], st))) :
    ∀ (L : List Nat) (p : Nat) (out : Array Nat) (st : Faults) (cs : List Nat), Steps d b p cs → b.size - p ≤ L.length → out.size + cs.length ≤ 10000 → ∃ q, forIn L (p, out, st) f = pure (q, out ++ cs.toArray, st)
  | [], p, out, st, cs, hs, hL, hz => by
    cases hs with
    | nil _ => exact ⟨p, by simp⟩
    | cons hp _ _ _ => simp at hL; omega
  | x :: r, p, out, st, cs, hs, hL, hz => by
    rw [List.forIn_cons]
    cases hs with
    | nil hp => exact ⟨p, by rw [h1 x p out st (by simp at hz; omega) hp]; simp⟩
    | @cons _ c next cs hp hn e hs =>
      obtain ⟨q, eq⟩ := steps_loop h1 h2 r next (out ++ #[c]) st cs hs (by simp at hL; omega) (by simp at hz ⊢; omega)
      refine ⟨q, ?_⟩
      rw [h2 x p out st c next (by simp at hz; omega) hp e]
      show forIn r (next, out ++ #[c], st) f = _
      rw [eq]
      simp
theorem runDecoder_steps {id : String} {d : Decoder} {errors : Option Str} {b : Array UInt8} {cs : List Nat} (h : Steps d b 0 cs) (hz : cs.length ≤ 10000) : ∃ p, runDecoder id d errors true b 0 [] = pure (cs.toArray, p) := by
  have big : ∀ out : Array Nat, out.size ≤ 10000 → ¬ out.size > sizeLine := fun out ho => by rw [sizeLine_eq]; omega
  have main : ∀ f : Nat → Nat × Array Nat × Faults → Sem (ForInStep (Nat × Array Nat × Faults)),
      (∀ x p out st, out.size ≤ 10000 → b.size ≤ p → f x (p, out, st) = pure (.done (p, out, st))) →
      (∀ x p out st c next, out.size ≤ 10000 → p < b.size → d.find true b p = .text [c] next → f x (p, out, st) = pure (.yield (next, out ++ #[c], st))) →
      ∃ p, (forIn (List.range' 0 ((b.size - 0 + 1 - 1) / 1)) (0, #[], ({ held := [] } : Faults)) f >>= fun s => pure (s.2.1, s.1)) = (pure (cs.toArray, p) : Sem (Array Nat × Nat)) := by
    intro f h1 h2
    obtain ⟨q, e⟩ := steps_loop h1 h2 (List.range' 0 ((b.size - 0 + 1 - 1) / 1)) 0 #[] { held := [] } cs h (by simp) (by simpa using hz)
    refine ⟨q, ?_⟩
    rw [e]
    simp
  unfold runDecoder
  simp only [Std.Legacy.Range.forIn_eq_forIn_range', Std.Legacy.Range.size]
  refine main _ ?_ ?_
  · intro x p out st ho hp
    dsimp only
    rw [if_neg (big out ho), if_pos hp]
  · intro x p out st c next ho hp hf
    dsimp only
    rw [if_neg (big out ho), if_neg (Nat.not_le.mpr hp), hf]
theorem steps_latin : ∀ (l pre : List Nat), (∀ n ∈ l, n < 256) → Steps latin1Decoder (byN (pre ++ l)) pre.length l
  | [], pre, _ => .nil (by rw [byN_size]; simp)
  | c :: r, pre, h => by
    have ih := steps_latin r (pre ++ [c]) fun n hn => h n (.tail _ hn)
    rw [List.append_assoc] at ih
    refine .cons (by rw [byN_size]; simp) (Nat.lt_succ_self _) ?_ (by simpa using ih)
    show Found.text [((byN (pre ++ c :: r)).getD pre.length 0).toNat] _ = _
    have : (byN (pre ++ c :: r)).getD pre.length 0 = c.toUInt8 := by
      simp [byN, Array.getD]
    rw [this, show c.toUInt8.toNat = c % 256 from by simp, Nat.mod_eq_of_lt (h c (.head _))]
theorem run_latin {id : String} {errors : Option Str} {l : List Nat} (h : ∀ n ∈ l, n < 256) (hz : l.length ≤ 10000) : ∃ p, runDecoder id latin1Decoder errors true (byN l) 0 [] = pure (l.toArray, p) := runDecoder_steps (steps_latin l [] h) hz
end
set_option maxHeartbeats 1000000
section
open Builtin Builtin._codecs Builtin.Bytes
theorem byN_get {l : List Nat} {i n : Nat} (h : l[i]? = some n) : (byN l)[i]? = some n.toUInt8 := by simp [byN, h]
theorem u8 {n : Nat} (hn : n < 256) : n.toUInt8.toNat = n := Nat.mod_eq_of_lt hn
theorem byN_getD {l : List Nat} {i n : Nat} (h : l[i]? = some n) (hn : n < 256) : ((byN l).getD i 0).toNat = n := by
  rw [Array.getD_eq_getD_getElem?, byN_get h]
  exact u8 hn
theorem at_pre {pre m post : List Nat} {i n : Nat} (h : m[i]? = some n) : (pre ++ (m ++ post))[pre.length + i]? = some n := by
  rw [List.getElem?_append_right (Nat.le_add_right _ _), Nat.add_sub_cancel_left]
  have : i < m.length := (List.getElem?_eq_some_iff.mp h).1
  rw [List.getElem?_append_left this]
  exact h
/-- what UTF-8 can hold -/
noncomputable def Scalar (c : Nat) : Prop := c < 55296 ∨ (57344 ≤ c ∧ c < 1114112)
/-- how many octets follow the first, and the second's bounds -/
noncomputable def shp (c : Nat) : Option (Nat × Nat × Nat) :=
    if 0xC2 ≤ c && c ≤ 0xDF then some (1, 0x80, 0xBF)
    else if c == 0xE0 then some (2, 0xA0, 0xBF)
    else if c == 0xED then some (2, 0x80, 0x9F)
    else if 0xE1 ≤ c && c ≤ 0xEF then some (2, 0x80, 0xBF)
    else if c == 0xF0 then some (3, 0x90, 0xBF)
    else if 0xF1 ≤ c && c ≤ 0xF3 then some (3, 0x80, 0xBF)
    else if c == 0xF4 then some (3, 0x80, 0x8F)
    else none
theorem shp2 : ∀ a < 32, 2 ≤ a → shp (192 + a) = some (1, 128, 191) ∧ 192 + a < 256 ∧ ¬ 192 + a < 128 ∧ (192 + a) % 32 = a := by decide
theorem shp3 : ∀ a < 16, shp (224 + a) = some (2, if a = 0 then 160 else 128, if a = 13 then 159 else 191) ∧ 224 + a < 256 ∧ ¬ 224 + a < 128 ∧ (224 + a) % 16 = a := by decide
theorem shp4 : ∀ a < 5, shp (240 + a) = some (3, if a = 0 then 144 else 128, if a = 4 then 143 else 191) ∧ 240 + a < 256 ∧ ¬ 240 + a < 128 ∧ (240 + a) % 8 = a := by decide
theorem x6 : ∀ x < 64, 128 + x < 256 ∧ (128 + x) % 64 = x := by decide
/-- what the second octet may be: from the number of all together -/
theorem sq {a b d f n : Nat} (h : n * 64 ≤ (a * 64 + d) * 64 + f) (hf : f < 64) (hb : b + a * 64 = n) : b ≤ d := by omega
theorem sq' {a b d f n : Nat} (h : (a * 64 + d) * 64 + f < n * 64) (hb : b + a * 64 = n) : d < b := by omega
/-- one octet more -/
noncomputable def stp (b : Array UInt8) (p lo hi : Nat) (acc : Except (Nat × String) Nat) (k : Nat) : Except (Nat × String) Nat :=
  acc.bind fun v =>
    match b[p + k]? with
    | none => .error (b.size, "unexpected end of data")
    | some x =>
      if (if k == 1 then lo else 0x80) ≤ x.toNat && x.toNat ≤ (if k == 1 then hi else 0xBF) then .ok (v * 64 + x.toNat % 64)
      else .error (p + k, "invalid continuation byte")
theorem at_of {b : Array UInt8} {p c more lo hi v : Nat} (h0 : (b.getD p 0).toNat = c) (h1 : ¬ c < 128) (hs : shp c = some (more, lo, hi))
    (hf : ((List.range more).map (· + 1)).foldl (stp b p lo hi) (.ok (c % (if more == 1 then 32 else if more == 2 then 16 else 8))) = .ok v) : utf8At b p = (.char v, p + more + 1) := by
  subst h0
  show (if (b.getD p 0).toNat < 0x80 then _ else (match shp (b.getD p 0).toNat with | none => _ | some (more, lo, hi) => (match ((List.range more).map (· + 1)).foldl (stp b p lo hi) (.ok ((b.getD p 0).toNat % (if more == 1 then 32 else if more == 2 then 16 else 8))) with | .ok v => _ | .error (stop, reason) => _))) = _
  rw [if_neg h1, hs]
  dsimp only
  rw [hf]
theorem stp_ok {b : Array UInt8} {p lo hi v k x : Nat} (h : b[p + k]? = some (128 + x).toUInt8) (hx : x < 64) (l : (if k == 1 then lo else 0x80) ≤ 128 + x) (u : 128 + x ≤ (if k == 1 then hi else 0xBF)) :
    stp b p lo hi (.ok v) k = .ok (v * 64 + x) := by
  unfold stp Except.bind
  have e : (128 + x).toUInt8.toNat = 128 + x := u8 (x6 x hx).1
  show (match b[p + k]? with | none => _ | some x => _) = _
  rw [h]
  show (if (decide _ && decide _) = true then Except.ok (v * 64 + (128 + x).toUInt8.toNat % 64) else _) = _
  rw [e, decide_eq_true l, decide_eq_true u, (x6 x hx).2]
  rfl
theorem stp_ok' {b : Array UInt8} {p lo hi v k x : Nat} (h : b[p + k]? = some (128 + x).toUInt8) (hx : x < 64) (hk : (k == 1) = false) : stp b p lo hi (.ok v) k = .ok (v * 64 + x) :=
  stp_ok h hx (by rw [hk]; exact Nat.le_add_right _ _) (by rw [hk]; exact Nat.add_le_add_left (Nat.le_of_lt_succ hx) 128)
theorem d6 (c : Nat) : c / 64 * 64 + c % 64 = c := Nat.div_add_mod' c 64
theorem d12 (c : Nat) : c / 4096 = c / 64 / 64 := (Nat.div_div_eq_div_mul c 64 64).symm
theorem d18 (c : Nat) : c / 262144 = c / 4096 / 64 := (Nat.div_div_eq_div_mul c 4096 64).symm
theorem l6 (x : Nat) : x % 64 < 64 := Nat.mod_lt _ (by decide)
theorem ite_le {P : Prop} [Decidable P] {a b c : Nat} (h : P → a ≤ c) (k : b ≤ c) : (if P then a else b) ≤ c := by
  split
  · exact h ‹_›
  · exact k
theorem le_ite {P : Prop} [Decidable P] {a b c : Nat} (h : P → c ≤ a) (k : c ≤ b) : c ≤ (if P then a else b) := by
  split
  · exact h ‹_›
  · exact k
theorem sr {a b d f m n : Nat} (h : n * 4096 ≤ ((a * 64 + d) * 64 + f) * 64 + m) (hf : f < 64) (hm : m < 64) (hb : b + a * 64 = n) : b ≤ d := by omega
theorem sr' {a b d f m n : Nat} (h : ((a * 64 + d) * 64 + f) * 64 + m < n * 4096) (hb : b + a * 64 = n) : d < b := by omega
theorem utf8At_enc {c : Nat} (hc : Scalar c) (pre post : List Nat) : utf8At (byN (pre ++ (utf1 c ++ post))) pre.length = (.char c, pre.length + (utf1 c).length) := by
  have g0 : ∀ {x : Nat}, (utf1 c)[0]? = some x → x < 256 → ((byN (pre ++ (utf1 c ++ post))).getD pre.length 0).toNat = x := fun {x} h hx => byN_getD (at_pre (pre := pre) (post := post) (i := 0) h) hx
  have g : ∀ {i x : Nat}, (utf1 c)[i]? = some x → (byN (pre ++ (utf1 c ++ post)))[pre.length + i]? = some x.toUInt8 := fun h => byN_get (at_pre h)
  generalize byN (pre ++ (utf1 c ++ post)) = b at g g0
  by_cases h1 : c < 128
  · have e : utf1 c = [c] := if_pos h1
    rw [e] at g0 ⊢
    unfold utf8At
    rw [g0 (x := c) rfl (Nat.lt_trans h1 (by decide))]
    exact if_pos h1
  have b6 := l6 c
  by_cases h2 : c < 2048
  · have e : utf1 c = [192 + c / 64, 128 + c % 64] := (if_neg h1).trans (if_pos h2)
    rw [e] at g0 g ⊢
    have q1 := g (i := 1) (x := 128 + c % 64) rfl
    have ha : c / 64 < 32 := Nat.div_lt_of_lt_mul h2
    have ha' : 2 ≤ c / 64 := (Nat.le_div_iff_mul_le (by decide)).mpr (Nat.le_of_not_lt h1)
    have e6 := d6 c
    generalize c / 64 = a at *
    have k0 := g0 (x := 192 + a) rfl (shp2 a ha ha').2.1
    refine (at_of (more := 1) k0 (shp2 a ha ha').2.2.1 (shp2 a ha ha').1 (v := c) ?_)
    rw [show (192 + a) % (if 1 == 1 then 32 else if 1 == 2 then 16 else 8) = a from by show (192 + a) % 32 = a; exact (shp2 a ha ha').2.2.2]
    show stp b pre.length 128 191 (.ok a) 1 = _
    rw [stp_ok q1 b6 (Nat.le_add_right _ _) (Nat.add_le_add_left (Nat.le_of_lt_succ b6) 128), e6]
  have e6 := d6 c
  have e12 := d6 (c / 64)
  have b12 := l6 (c / 64)
  rw [← d12] at e12
  by_cases h3 : c < 65536
  · have e : utf1 c = [224 + c / 4096, 128 + c / 64 % 64, 128 + c % 64] := (if_neg h1).trans ((if_neg h2).trans (if_pos h3))
    rw [e] at g0 g ⊢
    have q1 := g (i := 1) (x := 128 + c / 64 % 64) rfl
    have q2 := g (i := 2) (x := 128 + c % 64) rfl
    have ha : c / 4096 < 16 := Nat.div_lt_of_lt_mul h3
    have k0 := g0 (x := 224 + c / 4096) rfl (shp3 _ ha).2.1
    generalize c / 4096 = a at *
    generalize c / 64 % 64 = d at *
    generalize c % 64 = f at *
    generalize c / 64 = m at *
    subst e12
    subst e6
    have h3' : (a * 64 + d) * 64 + f < 55296 ∨ 57344 ≤ (a * 64 + d) * 64 + f := hc.imp id And.left
    refine (at_of (more := 2) k0 (shp3 a ha).2.2.1 (shp3 a ha).1 (v := (a * 64 + d) * 64 + f) ?_)
    rw [show (224 + a) % (if 2 == 1 then 32 else if 2 == 2 then 16 else 8) = a from by show (224 + a) % 16 = a; exact (shp3 a ha).2.2.2]
    show stp b pre.length _ _ (stp b pre.length _ _ (.ok a) 1) 2 = _
    have lo : (if a = 0 then 160 else 128) ≤ 128 + d := ite_le (fun h => Nat.add_le_add_left (sq (b := 32) (n := 32) (Nat.le_of_not_lt h2) b6 (by rw [h])) 128) (Nat.le_add_right _ _)
    have hi : 128 + d ≤ (if a = 13 then 159 else 191) := le_ite (fun h => Nat.add_le_add_left (h3'.elim (fun k => Nat.le_of_lt_succ (sq' (b := 32) (n := 864) k (by rw [h]))) (fun k => absurd (sq (b := 64) (n := 896) k b6 (by rw [h])) (Nat.not_le.mpr b12))) 128) (Nat.add_le_add_left (Nat.le_of_lt_succ b12) 128)
    rw [stp_ok (k := 1) (lo := if a = 0 then 160 else 128) (hi := if a = 13 then 159 else 191) q1 b12 lo hi, stp_ok' q2 b6 rfl]
  · have e : utf1 c = [240 + c / 262144, 128 + c / 4096 % 64, 128 + c / 64 % 64, 128 + c % 64] := (if_neg h1).trans ((if_neg h2).trans (if_neg h3))
    rw [e] at g0 g ⊢
    have q1 := g (i := 1) (x := 128 + c / 4096 % 64) rfl
    have q2 := g (i := 2) (x := 128 + c / 64 % 64) rfl
    have q3 := g (i := 3) (x := 128 + c % 64) rfl
    have e18 := d6 (c / 4096)
    have b18 := l6 (c / 4096)
    rw [← d18] at e18
    have h4 : c < 1114112 := hc.elim (fun h => Nat.lt_trans h (by decide)) And.right
    have ha : c / 262144 < 5 := Nat.div_lt_of_lt_mul (Nat.lt_of_lt_of_le h4 (by decide))
    have k0 := g0 (x := 240 + c / 262144) rfl (shp4 _ ha).2.1
    generalize c / 262144 = a at *
    generalize c / 4096 % 64 = d at *
    generalize c / 64 % 64 = f at *
    generalize c % 64 = n at *
    generalize c / 4096 = k at *
    generalize c / 64 = m at *
    subst e18
    subst e12
    subst e6
    refine (at_of (more := 3) k0 (shp4 a ha).2.2.1 (shp4 a ha).1 (v := ((a * 64 + d) * 64 + f) * 64 + n) ?_)
    rw [show (240 + a) % (if 3 == 1 then 32 else if 3 == 2 then 16 else 8) = a from by show (240 + a) % 8 = a; exact (shp4 a ha).2.2.2]
    show stp b pre.length _ _ (stp b pre.length _ _ (stp b pre.length _ _ (.ok a) 1) 2) 3 = _
    have lo : (if a = 0 then 144 else 128) ≤ 128 + d := ite_le (fun h => Nat.add_le_add_left (sr (b := 16) (n := 16) (Nat.le_of_not_lt h3) b12 b6 (by rw [h])) 128) (Nat.le_add_right _ _)
    have hi : 128 + d ≤ (if a = 4 then 143 else 191) := le_ite (fun h => Nat.add_le_add_left (Nat.le_of_lt_succ (sr' (b := 16) (n := 272) h4 (by rw [h]))) 128) (Nat.add_le_add_left (Nat.le_of_lt_succ b18) 128)
    rw [stp_ok (k := 1) (lo := if a = 0 then 144 else 128) (hi := if a = 4 then 143 else 191) q1 b18 lo hi, stp_ok' q2 b12 rfl, stp_ok' q3 b6 rfl]
theorem steps_utf : ∀ (l pre : List Nat), (∀ c ∈ l, Scalar c) → Steps utf8Decoder (byN (pre ++ utfL l)) pre.length l
  | [], pre, _ => .nil (by rw [byN_size]; simp [utfL])
  | c :: r, pre, h => by
    have ih := steps_utf r (pre ++ utf1 c) fun n hn => h n (.tail _ hn)
    have e : utfL (c :: r) = utf1 c ++ utfL r := List.flatMap_cons
    have hpos : 0 < (utf1 c).length := by unfold utf1; split <;> (try split) <;> (try split) <;> simp
    rw [e]
    rw [List.append_assoc, List.length_append] at ih
    refine .cons (by rw [byN_size]; simp; omega) (Nat.lt_add_of_pos_right hpos) ?_ ih
    show (match utf8At (byN (pre ++ (utf1 c ++ utfL r))) pre.length with | (.char c, nx) => Found.char c nx | (.bad _ stop reason, _) => _) = _
    rw [utf8At_enc (h c (.head _))]
    rfl
theorem run_utf {id : String} {errors : Option Str} {l : List Nat} (h : ∀ c ∈ l, Scalar c) (hz : l.length ≤ 10000) : ∃ p, runDecoder id utf8Decoder errors true (byN (utfL l)) 0 [] = pure (l.toArray, p) := runDecoder_steps (steps_utf l [] h) hz
end
set_option maxHeartbeats 1000000
section
open Builtin
theorem entry_lat {c : UInt8} {cs : List UInt8} {t t1 : Tok} : «bytes.decode» ⟨[.bytes (c :: cs).toArray t, .str (Str.ofString "latin-1") t1], []⟩ = (mkStr (Str.ofString "utf-8") >>= fun _ => mkStr (Str.ofString "latin-1") >>= fun e => mkStr (Str.ofString "bytes.decode") >>= fun d =>
    call (.builtin "_codecs.decode.text") [.bytes (c :: cs).toArray t, e, .none, d] >>= fun v => ret v) := by kernel_rfl
theorem entry_lat0 {t t1 : Tok} : «bytes.decode» ⟨[.bytes #[] t, .str (Str.ofString "latin-1") t1], []⟩ = (rule "bytes.decode.empty" >>= fun _ => retStr Str.empty) := by kernel_rfl
theorem road_lat {id : String} {b : Array UInt8} : _codecs.decodeRoad id b (Str.ofString "latin-1") none [] = (_codecs.runDecoder id _codecs.latin1Decoder none true b 0 [] >>= fun r => mkStr ⟨r.1⟩) := by kernel_rfl
section
variable {w : World} {A : Around} {E : Value → Shared → Prop} {s : Shared}
theorem text_lat {l : List Nat} {t t1 t2 : Tok} {d : Str} {Q : Value → Shared → Prop} (h : ∀ n ∈ l, n < 256) (hz : l.length ≤ 10000) (hq : Q (.str (S l) s.toks) { s with toks := s.toks + 1 }) :
    wpAny (model P0 w) A (call (.builtin "_codecs.decode.text") [.bytes (byN l) t, .str (Str.ofString "latin-1") t1, .none, .str d t2]) Q E s := by
  refine call_function_entry KBd.kind_text KBd.plain_text KBd.entry_text (KBd.args_text _ _ _ _) ?_
  show wpAny _ _ (Bytes.bytesLike _ (.bytes (byN l) t) >>= fun r => _) _ _ s
  refine wpAny_bind (wpAny_of_eq KBd.like_eq ?_)
  refine wpAny_bind (wpAny_of_eq KBd.held_eq ?_)
  show wpAny _ _ (_codecs.decodeRoad _ (byN l) (Str.ofString "latin-1") none [] >>= fun v => _) _ _ s
  rw [road_lat]
  obtain ⟨p, e⟩ := run_latin (id := d.toString) (errors := none) h hz
  rw [e]
  refine wpAny_bind (wpAny_bind (wpAny_pure ?_))
  exact wpAny_mkStr (wpAny_pure ⟨_, rfl, hq⟩) (by show l.toArray.size ≤ sizeLine; rw [sizeLine_eq, List.size_toArray]; omega)
theorem decode_lat {l : List Nat} {t t1 : Tok} {Q : Value → Shared → Prop} (h : ∀ n ∈ l, n < 256) (hz : l.length ≤ 10000) (hq : ∀ t' k, Q (.str (S l) t') { s with toks := k }) :
    wpAny (model P0 w) A (call (.builtin "bytes.decode") [.bytes (byN l) t, .str (Str.ofString "latin-1") t1]) Q E s := by
  refine wpAny_call_entry FB.slot_bytes_decode (typeIs_bytes _ _ _) FB.entry_bytes_decode ?_ (by unfold argsOk; kernel_rfl)
  cases l with
  | nil =>
    rw [show byN [] = #[] from rfl, entry_lat0]
    refine wpAny_bind (wpAny_rule ?_)
    exact wpAny_bind (wpAny_mkStr (wpAny_pure ⟨_, rfl, hq _ _⟩) (by decide))
  | cons n r =>
    rw [show byN (n :: r) = (n.toUInt8 :: r.map fun n => n.toUInt8).toArray from rfl, entry_lat]
    refine wpAny_bind (wpAny_mkStr ?_ (by decide))
    refine wpAny_bind (wpAny_mkStr ?_ (by decide))
    refine wpAny_bind (wpAny_mkStr ?_ (by decide))
    exact wpAny_bind (text_lat (l := n :: r) h hz (wpAny_pure ⟨_, rfl, hq _ _⟩))
end
end
set_option maxHeartbeats 1000000
section
open Builtin
theorem entry_utf {c : UInt8} {cs : List UInt8} {t t1 t2 : Tok} : «bytes.decode» ⟨[.bytes (c :: cs).toArray t], [(Str.ofString "encoding", .str (Str.ofString "utf-8") t1), (Str.ofString "errors", .str (Str.ofString "surrogatepass") t2)]⟩ = (mkStr (Str.ofString "utf-8") >>= fun _ => mkStr (Str.ofString "utf-8") >>= fun e => mkStr (Str.ofString "surrogatepass") >>= fun er => mkStr (Str.ofString "bytes.decode") >>= fun d =>
    call (.builtin "_codecs.decode.text") [.bytes (c :: cs).toArray t, e, er, d] >>= fun v => ret v) := by kernel_rfl
theorem entry_utf0 {t t1 t2 : Tok} : «bytes.decode» ⟨[.bytes #[] t], [(Str.ofString "encoding", .str (Str.ofString "utf-8") t1), (Str.ofString "errors", .str (Str.ofString "surrogatepass") t2)]⟩ = (rule "bytes.decode.empty" >>= fun _ => retStr Str.empty) := by kernel_rfl
theorem road_utf {id : String} {b : Array UInt8} : _codecs.decodeRoad id b (Str.ofString "utf-8") (some (Str.ofString "surrogatepass")) [] = (_codecs.runDecoder id _codecs.utf8Decoder (some (Str.ofString "surrogatepass")) true b 0 [] >>= fun r => mkStr ⟨r.1⟩) := by kernel_rfl
theorem entry_new {b : Array UInt8} {t t1 t2 : Tok} : «str.__new__» ⟨[.type "str", .bytes b t, .str (Str.ofString "utf-8") t1, .str (Str.ofString "surrogatepass") t2], []⟩ = (mkStr (Str.ofString "utf-8") >>= fun e => mkStr (Str.ofString "surrogatepass") >>= fun er =>
    rule "str.__new__.decode-bytes" >>= fun _ => call (.builtin "bytes.decode") [.bytes b t] [(Str.ofString "encoding", e), (Str.ofString "errors", er)] >>= fun v => ret v) := by kernel_rfl
theorem new_check (a b c : Value) : checkBuiltinCall "str.__new__" ⟨[.type "str", a, b, c], []⟩ = pure () := by kernel_rfl
theorem Scalar.lt {c : Nat} (h : Scalar c) : c < 1114112 := by unfold Scalar at h; omega
section
variable {w : World} {A : Around} {E : Value → Shared → Prop} {s : Shared}
theorem text_utf {x : List Nat} {t t1 t2 t3 : Tok} {d : Str} {Q : Value → Shared → Prop} (h : ∀ c ∈ x, Scalar c) (hz : x.length ≤ 10000) (hq : Q (.str (S x) s.toks) { s with toks := s.toks + 1 }) :
    wpAny (model P0 w) A (call (.builtin "_codecs.decode.text") [.bytes (byN (utfL x)) t, .str (Str.ofString "utf-8") t1, .str (Str.ofString "surrogatepass") t3, .str d t2]) Q E s := by
  refine call_function_entry KBd.kind_text KBd.plain_text KBd.entry_text (KBd.args_text _ _ _ _) ?_
  show wpAny _ _ (Bytes.bytesLike _ (.bytes (byN (utfL x)) t) >>= fun r => _) _ _ s
  refine wpAny_bind (wpAny_of_eq KBd.like_eq ?_)
  refine wpAny_bind (wpAny_of_eq KBd.held_eq ?_)
  show wpAny _ _ (_codecs.decodeRoad _ (byN (utfL x)) (Str.ofString "utf-8") (some (Str.ofString "surrogatepass")) [] >>= fun v => _) _ _ s
  rw [road_utf]
  obtain ⟨p, e⟩ := run_utf (id := d.toString) (errors := some (Str.ofString "surrogatepass")) h hz
  rw [e]
  refine wpAny_bind (wpAny_bind (wpAny_pure ?_))
  exact wpAny_mkStr (wpAny_pure ⟨_, rfl, hq⟩) (by show x.toArray.size ≤ sizeLine; rw [sizeLine_eq, List.size_toArray]; omega)
theorem decode_utf {x : List Nat} {t t1 t2 : Tok} {Q : Value → Shared → Prop} (h : ∀ c ∈ x, Scalar c) (hz : x.length ≤ 10000) (hq : ∀ t' k, Q (.str (S x) t') { s with toks := k }) :
    wpAny (model P0 w) A (call (.builtin "bytes.decode") [.bytes (byN (utfL x)) t] [(Str.ofString "encoding", .str (Str.ofString "utf-8") t1), (Str.ofString "errors", .str (Str.ofString "surrogatepass") t2)]) Q E s := by
  refine wpAny_call_entry_kw FB.slot_bytes_decode (typeIs_bytes _ _ _) FB.entry_bytes_decode ?_ (by unfold argsOk; kernel_rfl)
  cases hx : x with
  | nil =>
    subst hx
    rw [show byN (utfL []) = #[] from rfl, entry_utf0]
    refine wpAny_bind (wpAny_rule ?_)
    exact wpAny_bind (wpAny_mkStr (wpAny_pure ⟨_, rfl, hq _ _⟩) (by decide))
  | cons c r =>
    rw [← hx]
    have hne : ∃ n m, utfL x = n :: m := by
      cases q : utfL x with
      | nil =>
        have : 0 < (utf1 c).length := by unfold utf1; split <;> (try split) <;> (try split) <;> simp
        rw [hx, show utfL (c :: r) = utf1 c ++ utfL r from List.flatMap_cons] at q
        rw [List.append_eq_nil_iff.mp q |>.1] at this
        cases this
      | cons n m => exact ⟨n, m, rfl⟩
    obtain ⟨n, m, hnm⟩ := hne
    have key : wpAny (model P0 w) A.in1 (call (.builtin "_codecs.decode.text") [.bytes (byN (utfL x)) t, .str (Str.ofString "utf-8") (s.toks + 1), .str (Str.ofString "surrogatepass") (s.toks + 1 + 1), .str (Str.ofString "bytes.decode") (s.toks + 1 + 1 + 1)]) (fun v s' => wpAny (model P0 w) A.in1 (ret v) (fun fin s'' => ∃ v, fin = .done (.ret v) ∧ Q v s'') E s') E { s with toks := s.toks + 1 + 1 + 1 + 1 } :=
      text_utf h hz (wpAny_pure ⟨_, rfl, hq _ _⟩)
    rw [hnm] at key ⊢
    rw [show byN (n :: m) = (n.toUInt8 :: m.map fun n => n.toUInt8).toArray from rfl, entry_utf]
    refine wpAny_bind (wpAny_mkStr ?_ (by decide))
    refine wpAny_bind (wpAny_mkStr ?_ (by decide))
    refine wpAny_bind (wpAny_mkStr ?_ (by decide))
    refine wpAny_bind (wpAny_mkStr ?_ (by decide))
    exact wpAny_bind key
theorem str_utf {x : List Nat} {t t1 t2 : Tok} {Q : Value → Shared → Prop} (h : ∀ c ∈ x, Scalar c) (hz : x.length ≤ 10000) (hq : ∀ t' k, Q (.str (S x) t') { s with toks := k }) :
    wpAny (model P0 w) A (call (.type "str") [.bytes (byN (utfL x)) t, .str (Str.ofString "utf-8") t1, .str (Str.ofString "surrogatepass") t2]) Q E s := by
  refine callType_codes (Q₁ := fun obj s₁ => s₁.TypeIs obj "str" ∧ Q obj s₁) F.called_str (by kernel_rfl) F.entry_object_init ?_ fun obj s₁ h₁ => ?_
  · refine codeAny_call_builtin (by decide +kernel) F.entry_str_new ?_
    refine wpAny_of_eq (a := ()) (new_check _ _ _) ?_
    rw [entry_new]
    refine wpAny_bind (wpAny_mkStr ?_ (by decide))
    refine wpAny_bind (wpAny_mkStr ?_ (by decide))
    refine wpAny_bind (wpAny_rule ?_)
    refine wpAny_bind (decode_utf h hz ?_)
    intro t' k
    exact wpAny_pure ⟨typeIs_str _ _ _, hq _ _⟩
  · exact ⟨h₁.1, by unfold argsOk; kernel_rfl, object_init_meets F.called_str.init.lookup F.called_str.made (by decide) P0 w A.in1 _ s₁ ⟨h₁.1, rfl, h₁.2⟩⟩
end
end
set_option maxHeartbeats 1000000
theorem string1_spec {w : World} {A : Around} {E : Value → Shared → Prop} {s : Shared} {g : Heap} {T dx f : Addr} {t1 t2 tb : Tok} {l r : List Nat} (G : Gd w g) (gs : g.StaysIn s.heap) (R : Rm A 9)
    (hS : Strm g T dx f) (hd : s.heap.get? dx = some (exD w t1 t2 tb (byN (l.length :: (l ++ r))) f)) (hgd : g.get? dx = none) (hz : l.length + r.length ≤ 50000) (hk : l.length < 256) (hl : ∀ n ∈ l, n < 256) :
    wpAny (model P0 w) A (call (.ref 52) [.ref T]) (fun v s' => Done (∃ g', Ct [dx] s g s' g' ∧ (∃ t, v = .str (S l) t) ∧ ∃ tb', s'.heap.get? dx = some (exD w t1 t2 tb' (byN r) f))) E s := by
  obtain ⟨hT, pm, c', ctv, cell, oc, hf, hrec, hcell, hoc⟩ := id hS
  refine call_fn (binds := [(Str.ofString "f", .ref T)]) [(dx, exD w t1 t2 tb (byN (l.length :: (l ++ r))) f)] [] G gs R.lt (G.k 52 _ rfl) rfl (codeRec_of G.k rfl) (BindsTo.of_eq rfl) (locs rfl) (fun p hp => by simp at hp; subst hp; exact ⟨hd, hgd⟩) (by simp) (fun _ h => nomatch h) ?_ (by decide)
  intro h₁ tk C
  repeat walk1
  refine cx_call1 (P := fun v g' o' => (∃ t, v = .int (l.length : Int) t) ∧ ∃ tb', o' = exD w t1 t2 tb' (byN (l ++ r)) f) C (by walk_at "up") (uint_spec (by walk_at "gd") (by walk_at "gk") (by walk_at "room") hS (C.at (.head _)) hgd (by simp; omega) hk) (fun v g' s' ⟨a, tb', e⟩ => ⟨_, e, a, tb', rfl⟩) ?_
  rintro _ g₂ h₂ tk₂ _ hg₂ ⟨⟨t', rfl⟩, tb', rfl⟩ C2
  clear C
  repeat walk1
  rename Cx _ _ _ _ _ _ _ _ => C3
  refine cx_call1 (P := fun v g' o' => (∃ t, v = .bytes (byN l) t) ∧ ∃ tb', o' = exD w t1 t2 tb' (byN r) f) C3 (by walk_at "up") (read_spec (k := l.length) (l := l ++ r) (by walk_at "gd") (by walk_at "gk") (by walk_at "room") (hS.up hg₂) (C3.at (.head _)) (C3.mt _ (.head _)).2.2.1 (by simp; omega) (by omega)) (fun v g' s' ⟨⟨t, a⟩, tb', e⟩ => ⟨_, e, ⟨t, by rw [a, List.take_left]⟩, tb', by rw [List.drop_left]⟩) ?_
  clear C3
  rintro _ g₃ h₃ tk₃ _ hg₃ ⟨⟨t'', rfl⟩, tb'', rfl⟩ C4
  repeat walk1
  refine len_bytes (by rw [byN_size]; omega) ?_
  rw [byN_size]
  repeat' walk1
  all_goals rename Cx _ _ _ _ _ _ _ _ => C5
  · refine KBd.method ?_
    repeat walk1
    refine decode_lat hl (by omega) ?_
    intro t₃ k₃
    repeat walk1
    exact Done.mk ⟨_, C5.done (M := [dx]) (Nat.le_refl _) ⟨_, _, rfl⟩, ⟨_, rfl⟩, tb'', C5.at (.head _)⟩
  · rename_i hne
    exact absurd rfl hne
set_option maxHeartbeats 1000000
theorem utfL_ge (x : List Nat) : x.length ≤ (utfL x).length := by
  induction x with
  | nil => simp
  | cons a r ih =>
    have hpos : 0 < (utf1 a).length := by unfold utf1; split <;> (try split) <;> (try split) <;> simp
    rw [show utfL (a :: r) = utf1 a ++ utfL r from List.flatMap_cons, List.length_append, List.length_cons]
    omega
theorem unistring1_spec {w : World} {A : Around} {E : Value → Shared → Prop} {s : Shared} {g : Heap} {T dx f : Addr} {t1 t2 tb : Tok} {l r : List Nat} {x : List Nat} (G : Gd w g) (gs : g.StaysIn s.heap) (R : Rm A 9)
    (hS : Strm g T dx f) (hd : s.heap.get? dx = some (exD w t1 t2 tb (byN (l.length :: (l ++ r))) f)) (hgd : g.get? dx = none) (hz : l.length + r.length ≤ 50000) (hk : l.length < 256) (hx : ∀ c ∈ x, Scalar c) (he : l = utfL x) :
    wpAny (model P0 w) A (call (.ref 59) [.ref T]) (fun v s' => Done (∃ g', Ct [dx] s g s' g' ∧ (∃ t, v = .str (S x) t) ∧ ∃ tb', s'.heap.get? dx = some (exD w t1 t2 tb' (byN r) f))) E s := by
  obtain ⟨hT, pm, c', ctv, cell, oc, hf, hrec, hcell, hoc⟩ := id hS
  refine call_fn (binds := [(Str.ofString "f", .ref T)]) [(dx, exD w t1 t2 tb (byN (l.length :: (l ++ r))) f)] [] G gs R.lt (G.k 59 _ rfl) rfl (codeRec_of G.k rfl) (BindsTo.of_eq rfl) (locs rfl) (fun p hp => by simp at hp; subst hp; exact ⟨hd, hgd⟩) (by simp) (fun _ h => nomatch h) ?_ (by decide)
  intro h₁ tk C
  repeat walk1
  refine cx_call1 (P := fun v g' o' => (∃ t, v = .int (l.length : Int) t) ∧ ∃ tb', o' = exD w t1 t2 tb' (byN (l ++ r)) f) C (by walk_at "up") (uint_spec (by walk_at "gd") (by walk_at "gk") (by walk_at "room") hS (C.at (.head _)) hgd (by simp; omega) hk) (fun v g' s' ⟨a, tb', e⟩ => ⟨_, e, a, tb', rfl⟩) ?_
  rintro _ g₂ h₂ tk₂ _ hg₂ ⟨⟨t', rfl⟩, tb', rfl⟩ C2
  clear C
  repeat walk1
  rename Cx _ _ _ _ _ _ _ _ => C3
  refine cx_call1 (P := fun v g' o' => (∃ t, v = .bytes (byN l) t) ∧ ∃ tb', o' = exD w t1 t2 tb' (byN r) f) C3 (by walk_at "up") (read_spec (k := l.length) (l := l ++ r) (by walk_at "gd") (by walk_at "gk") (by walk_at "room") (hS.up hg₂) (C3.at (.head _)) (C3.mt _ (.head _)).2.2.1 (by simp; omega) (by omega)) (fun v g' s' ⟨⟨t, a⟩, tb', e⟩ => ⟨_, e, ⟨t, by rw [a, List.take_left]⟩, tb', by rw [List.drop_left]⟩) ?_
  clear C3
  rintro _ g₃ h₃ tk₃ _ hg₃ ⟨⟨t'', rfl⟩, tb'', rfl⟩ C4
  repeat walk1
  refine len_bytes (by rw [byN_size]; omega) ?_
  rw [byN_size]
  repeat' walk1
  all_goals rename Cx _ _ _ _ _ _ _ _ => C5
  · subst he
    have hxl := utfL_ge x
    refine str_utf hx (by omega) ?_
    intro t₃ k₃
    repeat walk1
    exact Done.mk ⟨_, C5.done (M := [dx]) (Nat.le_refl _) ⟨_, _, rfl⟩, ⟨_, rfl⟩, tb'', C5.at (.head _)⟩
  · rename_i hne
    exact absurd rfl hne
set_option maxHeartbeats 1000000
noncomputable def itemsL (ts : List (List Nat)) : List Nat := ts.flatMap fun x => (utfL x).length :: utfL x
noncomputable def readS (full : Bool) (x : List Nat) : Str := if full then S x else S (utfL x)
/-- a text that a stream may carry -/
structure TxI (x : List Nat) : Prop where
  sc : ∀ c ∈ x, Scalar c
  len : (utfL x).length < 256
theorem TabIs.up {g g' : Heap} {pos : Pos} {q : Str} {ps : Array Value} (h : TabIs g pos q ps) (k : g.StaysIn g') : TabIs g' pos q ps :=
  h.imp id fun ⟨c', e, r⟩ => ⟨c', e, r.keeps k⟩
theorem Cx.after1 {b g₀ g g' : Heap} {L dx : Addr} {m : Str → Option Value} {mu : List (Addr × Obj)} {ks : List At} {o o' : Obj} {fm : Obj → List (Addr × Obj)} {s s' : Shared} (C : Cx b g₀ L m mu ks g s.heap) (u : UpF dx o mu fm) (c : Ct [dx] s g s' g') (e : s'.heap.get? dx = some o') : Cx b g₀ L m (fm o') ks g' s'.heap := by
  have ud := u.up o'
  exact C.after (mu' := fm o') c (fun a ha => by rw [List.mem_singleton] at ha; subst ha; exact List.mem_map_of_mem ud.mem) ud.keys (fun p hp hM => by
    rw [List.mem_singleton] at hM
    rcases ud.back C.nd p hp with rfl | ⟨_, q2⟩
    · exact e
    · exact absurd hM q2) (fun p hp hM => by
    rcases ud.back C.nd p hp with rfl | ⟨q1, _⟩
    · exact absurd (.head _) hM
    · exact q1)
theorem stream_cx {w : World} {A : Around} {E : Value → Shared → Prop} {s : Shared} {b g₀ g : Heap} {L : Addr} {m : Str → Option Value} {mu : List (Addr × Obj)} {ks : List At} {l : List Nat} {u : Tok} {ps : Array Value} {fm : Obj → List (Addr × Obj)} {Q : Value → Shared → Prop}
    (C : Cx b g₀ L m mu ks g s.heap) (G : Gd w g₀) (R : Rm A 6) (uf : UpF 237 (tabObj ps) mu fm) (hps : TabIs g lamE.2.2.2 lamQ ps)
    (k : ∀ T dx f t1 t2 ps' g' h' tk, g.StaysIn g' → L < dx → Strm g' T dx f → TabIs g' lamE.2.2.2 lamQ ps' → Cx b g₀ L m ((dx, exD w t1 t2 u (byN l) f) :: fm (tabObj ps')) ks g' h' → Q (.ref T) { s with heap := h', toks := tk }) :
    wpAny (model P0 w) A (call (.ref 242) [.bytes (byN l) u]) Q E s := by
  have hm := C.mt _ (uf.up default).mem
  refine wpAny_mono (stream_spec (G.up C.gg) C.gk R hm.1 hm.2.2.1 hps) (fun v s' q => ?_) fun _ _ x => x
  obtain ⟨g', T, dx, f, t1, t2, ps', c, rfl, hS, hsz, hgd, hd, h237, hps'⟩ := q.out
  have C1 := C.after1 uf c h237
  have fr := C.none_of_ge hsz
  have C2 := C1.put hd fr.1 hgd fr.2.2 fun p hp q => by
    have : p.1 ∈ mu.map (·.1) := (uf.up (tabObj ps')).keys ▸ List.mem_map_of_mem hp
    obtain ⟨r, hr, e⟩ := List.mem_map.mp this
    have h1 := C.mu_lt hr
    rw [e, q] at h1
    exact absurd h1 (Nat.not_lt.mpr hsz)
  obtain ⟨h', tk, rfl⟩ := c.sh
  exact k T dx f t1 t2 ps' g' h' tk c.gg (Nat.lt_of_lt_of_le C.lt hsz) hS hps' C2
theorem small_two : ∀ n : Fin 101, Builtin.Range.small 0 (n.val : Int) 2 = true := by decide +kernel
theorem range3_ {w : World} {A : Around} {E : Value → Shared → Prop} {s : Shared} {b g₀ g : Heap} {L : Addr} {m : Str → Option Value} {mu : List (Addr × Obj)} {ks : List At} {a e c : Int} {t u v : Tok} {n : Nat} {Q : Value → Shared → Prop}
    (C : Cx b g₀ L m mu ks g s.heap) (hh : A.handled = none) (hc : c = 2) (hb : 0 ≤ e - a ∧ e - a ≤ 1000) (hsmall : Builtin.Range.small a e c = true) (hn : Builtin.Range.rangeSize a e c = n)
    (k : ∀ I oI h', ItOk w A g I n (fun i v => ∃ t, v = .int (a + i * c) t) h' → Cx b g₀ L m ((I, oI) :: mu) ks g h' → Q (.ref I) { s with heap := h' }) :
    wpAny (model P0 w) A (call (.type "range") [.int a t, .int e u, .int c v]) (fun xv s₁ => wpAny (model P0 w) A (pyIter xv) Q E s₁) E s := by
  subst hc
  refine call_range_3 (by decide) ?_ (Or.inl (PyProof.noPylong_small (by omega)))
  exact it_range (C.keep fun _ _ e => Heap.get?_push_of_some _ e) hh (IsRange.new _ _ _ _ _ _ _) hsmall hn k
theorem range1_ {w : World} {A : Around} {E : Value → Shared → Prop} {s : Shared} {b g₀ g : Heap} {L : Addr} {m : Str → Option Value} {mu : List (Addr × Obj)} {ks : List At} {t : Tok} {n : Nat} {Q : Value → Shared → Prop}
    (C : Cx b g₀ L m mu ks g s.heap) (hh : A.handled = none) (hb : n ≤ 1000)
    (k : ∀ I oI h' tk, ItOk w A g I n (fun i v => ∃ t, v = .int (i : Int) t) h' → Cx b g₀ L m ((I, oI) :: mu) ks g h' → Q (.ref I) { s with heap := h', toks := tk }) :
    wpAny (model P0 w) A (call (.type "range") [.int (n : Int) t]) (fun xv s₁ => wpAny (model P0 w) A (pyIter xv) Q E s₁) E s := by
  refine call_range_1 ?_
  refine it_range (n := n) (C.keep fun _ _ e => Heap.get?_push_of_some _ e) hh (IsRange.new _ _ _ _ _ _ _) (small_one (by omega) (by omega) (by omega) (by omega)) ?_ fun I oI h' it C' => k I oI h' _ ?_ C'
  · rw [rangeSize_one]; split <;> omega
  · obtain ⟨fp, St, W, r⟩ := it.ex
    exact ⟨fp, St, by simpa using W, r⟩
/-- a while, no turn of it raising -/
theorem while_cx {w : World} {A : Around} {s : Shared} {b g₀ g : Heap} {env : Env} {m : Str → Option Value} {mu : List (Addr × Obj)} {ks : List At} {test : PySem.Expr} {body : List Stmt} {pos : Pos} {Q : Flow → Shared → Prop} {E : Value → Shared → Prop}
    (C : Cx b g₀ env.locals m mu ks g s.heap) (J : Nat → (Str → Option Value) → List (Addr × Obj) → List At → Prop) (n : Nat) (h0 : J n m mu ks)
    (turn : ∀ n m₁ mu₁ ks₁ g₁ h₁ tk₁, J n m₁ mu₁ ks₁ → g.StaysIn g₁ → Cx b g₀ env.locals m₁ mu₁ ks₁ g₁ h₁ →
      wpAny (model P0 w) A (isTrue test env (eval test env)) (fun c s₂ => if c then wpAny (model P0 w) A (execs body env) (fun fl s₃ =>
          Done (fl = .next ∧ ∃ k m₂ mu₂ ks₂ g₂, k < n ∧ Cx b g₀ env.locals m₂ mu₂ ks₂ g₂ s₃.heap ∧ g.StaysIn g₂ ∧ J k m₂ mu₂ ks₂ ∧ ∃ h tk, s₃ = { s with heap := h, toks := tk })) NoE s₂
        else Q .next s₂) NoE { s with heap := h₁, toks := tk₁ }) :
    wpAny (model P0 w) A (exec (.While test body [] pos) env) Q E s := by
  refine wpAny_While (codeAny_whileLoop (fun k s' => ∃ m₁ mu₁ ks₁ g₁, J k m₁ mu₁ ks₁ ∧ g.StaysIn g₁ ∧ Cx b g₀ env.locals m₁ mu₁ ks₁ g₁ s'.heap ∧ ∃ h tk, s' = { s with heap := h, toks := tk }) ?_ n ⟨m, mu, ks, g, h0, fun _ _ e => e, C, s.heap, s.toks, rfl⟩)
  rintro k s' ⟨m₁, mu₁, ks₁, g₁, hJ, hg, C1, h, tk, rfl⟩
  refine noRaise (wpAny_mono (turn k m₁ mu₁ ks₁ g₁ h tk hJ hg C1) (fun c s₂ h₂ => ?_) fun _ _ x => x)
  cases c with
  | true =>
    simp only [if_true] at h₂ ⊢
    refine noRaise (wpAny_mono h₂ (fun fl s₃ h₃ => ?_) fun _ _ x => x)
    obtain ⟨rfl, k', m₂, mu₂, ks₂, g₂, hk, C2, hg2, hJ2, e⟩ := h₃.out
    exact ⟨k', hk, m₂, mu₂, ks₂, g₂, hJ2, hg2, C2, e⟩
  | false =>
    simp only [Bool.false_eq_true, if_false] at h₂ ⊢
    exact wpAny_execs_nil h₂
noncomputable def textsOf (qs : List Pair) : List (List Nat) := qs.flatMap fun p => [p.1.cps.toList, p.2.cps.toList]
theorem textsOf_len (qs : List Pair) : (textsOf qs).length = 2 * qs.length := by
  induction qs with
  | nil => rfl
  | cons a r ih =>
    rw [show textsOf (a :: r) = [a.1.cps.toList, a.2.cps.toList] ++ textsOf r from List.flatMap_cons, List.length_append, ih, List.length_cons]
    simp; omega
theorem textsOf_at : ∀ {qs : List Pair} {i : Nat} {p : Pair}, qs[i]? = some p → (textsOf qs)[2 * i]? = some p.1.cps.toList ∧ (textsOf qs)[2 * i + 1]? = some p.2.cps.toList
  | a :: r, 0, p, h => by cases h; exact ⟨rfl, rfl⟩
  | a :: r, i + 1, p, h => by
    have ih := textsOf_at (qs := r) (i := i) (p := p) (by simpa using h)
    rw [show textsOf (a :: r) = a.1.cps.toList :: a.2.cps.toList :: textsOf r from rfl]
    rw [show 2 * (i + 1) = 2 * i + 1 + 1 from by omega]
    simpa using ih
theorem shown_take {full : Bool} {qs : List Pair} {i : Nat} {p : Pair} (h : qs[i]? = some p) : shownP full (qs.take (i + 1)) = shownP full (qs.take i) ++ [(readS full p.1.cps.toList, readS full p.2.cps.toList)] := by
  rw [List.take_add_one, h]
  cases full <;> simp [shownP, readS, lowS, utfS]
theorem read_law {w : World} {A : Around} {E : Value → Shared → Prop} {s : Shared} {g : Heap} {qs : List Pair} {ts : List (List Nat)} {u : Tok} {full : Bool} {ps : Array Value} (G : Gd w g) (gs : g.StaysIn s.heap) (R : Rm A 11) (ht : s.heap.get? 237 = some (tabObj ps)) (hgt : g.get? 237 = none) (hps : TabIs g lamE.2.2.2 lamQ ps)
    (hx : ∀ x ∈ ts, TxI x) (hq : qs.length ≤ 10) (hts : ts = textsOf qs) :
    wpAny (model P0 w) A (call (.ref 271) [.bytes (byN (itemsL ts)) u, .bool full]) (fun v s' => Done (∃ g' l vs n ps', Ct [237] s g s' g' ∧ v = .ref l ∧ s.heap.objs.size ≤ l ∧ g'.get? l = none ∧ s'.heap.get? l = some (lst vs n) ∧ RdAll g' vs ((shownP full qs).map pairD) ∧ s'.heap.get? 237 = some (tabObj ps') ∧ TabIs g' lamE.2.2.2 lamQ ps')) E s := by
  have hn : ts.length ≤ 20 := by rw [hts, textsOf_len]; omega
  refine call_fnC (binds := [(Str.ofString "octets", .bytes (byN (itemsL ts)) u), (Str.ofString "full", .bool full)]) [(237, tabObj ps)] [] G gs R.lt (G.k 271 _ rfl) rfl (codeRec_of G.k rfl) (BindsTo.of_eq rfl) rfl (by decide) (fun p hp => by simp at hp; subst hp; exact ⟨ht, hgt⟩) (by simp) (fun _ h => nomatch h) ?_
  intro h₁ tk cells Y up C
  obtain ⟨oc, rfl, dc⟩ := CellsAre.one Y
  clear Y
  replace dc : oc.data = .cell none := dc
  simp only [List.cons_append, List.nil_append] at C
  repeat walk1
  refine stream_cx C G (by walk_at "room") (by walk_at "up") hps ?_
  intro T dx f t1 t2 ps' g₂ h₂ tk₂ hg₂ hLd hS hps' C2
  clear C
  repeat walk1
  rename Cx _ _ _ _ _ _ _ _ => C3
  rename_i lt _ hlt _ _ _ _ _ _ oc' hoc
  have C4 := C3.drop (List.sublist_cons_self _ _)
  clear C3
  refine while_cx C4 (fun k m₁ mu₁ ks₁ => ∃ i, i ≤ ts.length ∧ k = ts.length - i ∧ m₁ (Str.ofString "stream") = some (.ref T) ∧ m₁ (Str.ofString "full") = some (.bool full) ∧ ks₁ = [] ∧ ∃ vs n tb, mu₁ = [(lt, lst vs n), (dx, exD w t1 t2 tb (byN (itemsL (ts.drop i))) f), (s.heap.objs.size + 1, oc'), (237, tabObj ps')] ∧ StrsAre vs ((ts.take i).map (readS full))) _ ⟨0, Nat.zero_le _, rfl, rfl, rfl, rfl, [], 0, u, rfl, .nil⟩ ?_
  rintro _ m₁ mu₁ ks₁ g₃ h₃ tk₃ ⟨i, hi, rfl, hm1, hm2, rfl, vs, n, tb, rfl, hvs⟩ hg₃ C5
  clear C4
  have hS3 := hS.up hg₃
  have hT3 := hS3.t
  have hbig : (itemsL (ts.drop i)).length ≤ 6000 := by
    have key : ∀ l : List (List Nat), (∀ x ∈ l, TxI x) → (itemsL l).length ≤ 256 * l.length := by
      intro l hl
      induction l with
      | nil => simp [itemsL]
      | cons a r ih =>
        have h1 := (hl a (.head _)).len
        have h2 := ih fun x hx => hl x (.tail _ hx)
        have e : itemsL (a :: r) = ((utfL a).length :: utfL a) ++ itemsL r := List.flatMap_cons
        rw [e, List.length_append, List.length_cons, List.length_cons]
        omega
    have := key (ts.drop i) fun x hx' => hx x (List.mem_of_mem_drop hx')
    rw [List.length_drop] at this
    omega
  repeat walk1
  refine truthy_bytes (by rw [byN_size]; omega) ?_
  rw [byN_size]
  rcases Nat.lt_or_eq_of_le hi with hlt' | heq
  · obtain ⟨x, hxi⟩ : ∃ x, ts[i]? = some x := ⟨ts[i], List.getElem?_eq_getElem hlt'⟩
    have hX := hx x (List.mem_of_getElem? hxi)
    have ed : ts.drop i = x :: ts.drop (i + 1) := by
      obtain ⟨h1, h2⟩ := List.getElem?_eq_some_iff.mp hxi
      rw [List.drop_eq_getElem_cons h1, h2]
    have ei : itemsL (ts.drop i) = (utfL x).length :: (utfL x ++ itemsL (ts.drop (i + 1))) := by rw [ed]; rfl
    rw [ei] at C5 hbig ⊢
    rw [show ((((utfL x).length :: (utfL x ++ itemsL (ts.drop (i + 1)))).length : Int) != 0) = true from by simp; omega]
    cases full
    · repeat walk1
      refine cx_call1 (P := fun v g' o' => (∃ t, v = .str (S (utfL x)) t) ∧ ∃ tb', o' = exD w t1 t2 tb' (byN (itemsL (ts.drop (i + 1)))) f) C5 (by walk_at "up") (string1_spec (by walk_at "gd") (by walk_at "gk") (by walk_at "room") hS3 (C5.at (by walk_at "mem")) (C5.mt (dx, _) (by walk_at "mem")).2.2.1 (by simp at hbig ⊢; omega) hX.len (utfL_lt fun c hc => (hX.sc c hc).lt)) (fun v g' s' ⟨a, tb', e⟩ => ⟨_, e, a, tb', rfl⟩) ?_
      rintro _ g₄ h₄ tk₄ _ hg₄ ⟨⟨t', rfl⟩, tb', rfl⟩ C6
      have hvl : vs.length ≤ 100 := by have := hvs.len_eq; simp at this; omega
      repeat walk1
      rename Cx _ _ _ _ _ _ _ _ => C7
      refine Done.mk ⟨rfl, ts.length - (i + 1), _, _, _, _, Nat.sub_lt_sub_left hlt' (Nat.lt_succ_self i), C7, fun a o e => hg₄ a o (hg₃ a o e), ⟨i + 1, hlt', rfl, hm1, hm2, rfl, _, _, _, rfl, ?_⟩, _, _, rfl⟩
      rw [List.take_add_one, hxi, List.map_append]
      exact hvs.append' (.cons _ _ .nil)
    · repeat walk1
      refine cx_call1 (P := fun v g' o' => (∃ t, v = .str (S x) t) ∧ ∃ tb', o' = exD w t1 t2 tb' (byN (itemsL (ts.drop (i + 1)))) f) C5 (by walk_at "up") (unistring1_spec (x := x) (by walk_at "gd") (by walk_at "gk") (by walk_at "room") hS3 (C5.at (by walk_at "mem")) (C5.mt (dx, _) (by walk_at "mem")).2.2.1 (by simp at hbig ⊢; omega) hX.len hX.sc rfl) (fun v g' s' ⟨a, tb', e⟩ => ⟨_, e, a, tb', rfl⟩) ?_
      rintro _ g₄ h₄ tk₄ _ hg₄ ⟨⟨t', rfl⟩, tb', rfl⟩ C6
      have hvl : vs.length ≤ 100 := by have := hvs.len_eq; simp at this; omega
      repeat walk1
      rename Cx _ _ _ _ _ _ _ _ => C7
      refine Done.mk ⟨rfl, ts.length - (i + 1), _, _, _, _, Nat.sub_lt_sub_left hlt' (Nat.lt_succ_self i), C7, fun a o e => hg₄ a o (hg₃ a o e), ⟨i + 1, hlt', rfl, hm1, hm2, rfl, _, _, _, rfl, ?_⟩, _, _, rfl⟩
      rw [List.take_add_one, hxi, List.map_append]
      exact hvs.append' (.cons _ _ .nil)
  · subst heq
    have e0 : (itemsL (ts.drop ts.length)) = [] := by rw [List.drop_length]; rfl
    rw [e0] at C5 ⊢
    rw [show (((([] : List Nat).length : Int)) != 0) = false from rfl]
    have hvl : vs.length ≤ 100 := by have := hvs.len_eq; simp at this; omega
    rw [List.take_length] at hvs
    have hvl2 : vs.length = 2 * qs.length := by have := hvs.len_eq; rw [List.length_map, hts, textsOf_len] at this; exact this
    repeat walk1
    refine range3_ (n := qs.length) C5 (by walk_at "hh") rfl (by omega) ?_ ?_ ?_
    · exact small_two ⟨vs.length, by omega⟩
    · unfold Builtin.Range.rangeSize; simp only [show (2 : Int) > 0 by decide, if_true]; split <;> omega
    clear C5
    have G3 := G.up (fun a o e => hg₃ a o (hg₂ a o e))
    intro I oI h₄ it C7
    refine comp_it it (C7.add (x := .rds [] []) .nil) (by omega) (fun i ys mu₁ ks₁ => mu₁ = [(lt, lst vs n), (dx, exD w t1 t2 tb (byN []) f), (s.heap.objs.size + 1, oc'), (237, tabObj ps')] ∧ ks₁ = [.rds ys ((shownP full (qs.take i)).map pairD)]) ⟨rfl, ?_⟩ ?_ ?_
    · cases full <;> rfl
    · rintro i v ys b' Lc m₂ mu₁ ks₁ g₄ h₅ tk₅ o₁ D nD hi' ⟨ti, rfl⟩ ⟨rfl, rfl⟩ hg₄ C8
      clear C7
      obtain ⟨p, hp⟩ : ∃ p, qs[i]? = some p := ⟨qs[i], List.getElem?_eq_getElem hi'⟩
      obtain ⟨e1, e2⟩ := textsOf_at hp
      have a1 : (ts.map (readS full))[2 * i]? = some (readS full p.1.cps.toList) := by rw [List.getElem?_map, hts, e1]; rfl
      have a2 : (ts.map (readS full))[2 * i + 1]? = some (readS full p.2.cps.toList) := by rw [List.getElem?_map, hts, e2]; rfl
      obtain ⟨u1, q1⟩ := hvs.at a1
      obtain ⟨u2, q2⟩ := hvs.at a2
      have q1' : vs[(0 + (i : Int) * 2).toNat]? = some (.str (readS full p.1.cps.toList) u1) := by rw [show (0 + (i : Int) * 2).toNat = 2 * i by omega]; exact q1
      have q2' : vs[(0 + (i : Int) * 2 + 1).toNat]? = some (.str (readS full p.2.cps.toList) u2) := by rw [show (0 + (i : Int) * 2 + 1).toNat = 2 * i + 1 by omega]; exact q2
      repeat walk1
      rename Cx _ _ _ _ _ _ _ _ => C9
      obtain ⟨g₅, hg₅, e₅, C10⟩ := C9.frz (by assumption)
      refine ⟨_, _, _, _, C10.pushRd (Rd.mkPair e₅), fun a o e => hg₅ a o (hg₄ a o e), ⟨rfl, ?_⟩, _, _, rfl⟩
      rw [shown_take hp, List.map_append]; rfl
    · rintro ys mu₁ ks₁ g₄ h₅ tk₅ D nD ⟨rfl, rfl⟩ hg₄ hD C8
      rw [List.take_length] at C8
      clear C7
      repeat walk1
      refine Done.mk ⟨_, D, ys, nD, ps', C8.done (M := [237]) (Nat.le_refl _) ⟨_, _, rfl⟩, rfl, Nat.le_of_lt hD, (C8.mt _ (.head _)).2.2.1, C8.at (.head _), C8.rds (.head _), C8.at (by walk_at "mem"), ?_⟩
      exact hps'.up fun a o e => hg₄ a o (hg₃ a o e)
set_option maxHeartbeats 1000000
noncomputable abbrev LC2 (elt t1 i1 t2 i2 : PySem.Expr) (scope : Scope) (pos : Pos) : PySem.Expr := .ListComp elt [⟨t1, i1, [], 0⟩, ⟨t2, i2, [], 0⟩] scope pos
theorem compTurn_out (elt t1 i1 t2 i2 : PySem.Expr) (scope : Scope) (pos : Pos) (it acc : Value) (env : Env) :
    compTurn (LC2 elt t1 i1 t2 i2 scope pos) 0 it acc env = (standAt i1.pos >>= fun _ => pyNext it >>= fun r => match r with
      | none => pure (.done .next)
      | some v => letOwnedTupleGo t1 it v >>= fun _ => assign t1 env v >>= fun _ =>
        eval i2 env >>= fun x => standAt i2.pos >>= fun _ => foldedSetIterable i2 env x >>= fun x => holding [x] (pyIter x) >>= fun j => runOwn (.compStart (LC2 elt t1 i1 t2 i2 scope pos) 1 j acc env) env >>= fun _ =>
          again (.compLoop (LC2 elt t1 i1 t2 i2 scope pos) 0 it acc env)) := by rfl
theorem compTurn_in (elt t1 i1 t2 i2 : PySem.Expr) (scope : Scope) (pos : Pos) (it acc : Value) (env : Env) :
    compTurn (LC2 elt t1 i1 t2 i2 scope pos) 1 it acc env = (standAt i2.pos >>= fun _ => pyNext it >>= fun r => match r with
      | none => pure (.done .next)
      | some v => letOwnedTupleGo t2 it v >>= fun _ => assign t2 env v >>= fun _ =>
        (eval elt env >>= fun x => call (.builtin "list.append") [acc, x] >>= fun _ => pure ()) >>= fun _ =>
          again (.compLoop (LC2 elt t1 i1 t2 i2 scope pos) 1 it acc env)) := by rfl
section
variable {w : World} {A : Around} {R : Result → Shared → Prop} {s : Shared} {elt t1 i1 t2 i2 : PySem.Expr} {scope : Scope} {pos : Pos} {it acc : Value} {env : Env}
theorem loop_out (I : Nat → Shared → Prop)
    (turn : ∀ n s, I n s → wpAny (model P0 w) A (pyNext it) (fun r s₁ => match r with
      | none => R (.ok .next) s₁
      | some v => wpAny (model P0 w) A (letOwnedTupleGo t1 it v) (fun _ s₁' => wpAny (model P0 w) A (assign t1 env v) (fun _ s₂ =>
          wpAny (model P0 w) A (eval i2 env) (fun x s₃ => wpAny (model P0 w) A (pyIter x) (fun j s₄ =>
            codeAny (model P0 w) A (.compStart (LC2 elt t1 i1 t2 i2 scope pos) 1 j acc env) (fun r s₅ => match r with | .ok _ => ∃ m, m < n ∧ I m s₅ | .error _ => False) s₄) NoE s₃) NoE s₂) NoE s₁') NoE s₁) NoE s)
    (hs : ∀ x, foldedSetIterable i2 env x = pure x) (n : Nat) (h : I n s) : codeAny (model P0 w) A (.compLoop (LC2 elt t1 i1 t2 i2 scope pos) 0 it acc env) R s := by
  refine codeAny_loop rfl I (fun n s hI => ?_) n h
  show wpAny _ A ((compTurn (LC2 elt t1 i1 t2 i2 scope pos) 0 it acc env).onRaise (fun x => do noteFrame x env; theTreesLotGoes x)) _ _ s
  refine wpAny_noted ?_
  rw [compTurn_out]
  refine wpAny_bind (wpAny_standAt (wpAny_bind (noRaise (wpAny_mono (turn n s hI) (fun r s₁ h₁ => ?_) fun _ _ h' => h'))))
  cases r with
  | none => exact wpAny_pure h₁
  | some v =>
    refine wpAny_bind (wpAny_mono h₁ (fun _ s₁' h₁' => ?_) fun _ _ h' => h'.elim)
    refine wpAny_bind (wpAny_mono h₁' (fun _ s₂ h₂ => ?_) fun _ _ h' => h'.elim)
    refine wpAny_bind (wpAny_mono h₂ (fun x s₃ h₃ => ?_) fun _ _ h' => h'.elim)
    refine wpAny_bind (wpAny_standAt (wpAny_bind (wpAny_of_eq (hs x) (wpAny_bind (wpAny_holding (wpAny_mono h₃ (fun j s₄ h₄ => ?_) fun _ _ h' => h'.elim))))))
    refine wpAny_bind (wpAny_runOwn (codeAny_mono h₄ fun r s₅ h₅ => ?_))
    cases r with
    | error e => exact h₅.elim
    | ok f => exact wpAny_pure ⟨rfl, h₅⟩
theorem loop_in (I : Nat → Shared → Prop)
    (turn : ∀ n s, I n s → wpAny (model P0 w) A (pyNext it) (fun r s₁ => match r with
      | none => R (.ok .next) s₁
      | some v => wpAny (model P0 w) A (letOwnedTupleGo t2 it v) (fun _ s₁' => wpAny (model P0 w) A (assign t2 env v) (fun _ s₂ =>
          wpAny (model P0 w) A (eval elt env) (fun x s₃ =>
              wpAny (model P0 w) A (call (.builtin "list.append") [acc, x]) (fun _ s₅ => ∃ m, m < n ∧ I m s₅) NoE s₃) NoE s₂) NoE s₁') NoE s₁) NoE s)
    (n : Nat) (h : I n s) : codeAny (model P0 w) A (.compLoop (LC2 elt t1 i1 t2 i2 scope pos) 1 it acc env) R s := by
  refine codeAny_loop rfl I (fun n s hI => ?_) n h
  show wpAny _ A ((compTurn (LC2 elt t1 i1 t2 i2 scope pos) 1 it acc env).onRaise (fun x => do noteFrame x env; theTreesLotGoes x)) _ _ s
  refine wpAny_noted ?_
  rw [compTurn_in]
  refine wpAny_bind (wpAny_standAt (wpAny_bind (noRaise (wpAny_mono (turn n s hI) (fun r s₁ h₁ => ?_) fun _ _ h' => h'))))
  cases r with
  | none => exact wpAny_pure h₁
  | some v =>
    refine wpAny_bind (wpAny_mono h₁ (fun _ s₁' h₁' => ?_) fun _ _ h' => h'.elim)
    refine wpAny_bind (wpAny_mono h₁' (fun _ s₂ h₂ => ?_) fun _ _ h' => h'.elim)
    exact wpAny_bind (wpAny_bind (wpAny_mono h₂ (fun x s₄ h₄ => wpAny_bind (wpAny_mono h₄ (fun _ s₅ h₅ => wpAny_pure (wpAny_pure ⟨rfl, h₅⟩)) fun _ _ h' => h'.elim)) fun _ _ h' => h'.elim))
theorem start_any {d : Nat} (hd : d = 0 ∨ d = 1)
    (h0 : codeAny (model P0 w) A (.compLoop (LC2 elt t1 i1 t2 i2 scope pos) d it acc env) R s)
    (h : wpAny (model P0 w) A (pyIter it) (fun it' s' => codeAny (model P0 w) A (.compLoop (LC2 elt t1 i1 t2 i2 scope pos) d it' acc env) R s') NoE s) :
    codeAny (model P0 w) A (.compStart (LC2 elt t1 i1 t2 i2 scope pos) d it acc env) R s := by
  refine codeAny_of_tree ?_
  rcases hd with rfl | rfl
  · show wpAny _ _ ((compStart (LC2 elt t1 i1 t2 i2 scope pos) 0 it acc env).onRaise (fun x => do noteFrame x env; standAt theWindowsPlace)) _ _ s
    refine wpAny_notedAt (noRaise ?_)
    unfold compStart
    show wpAny _ _ (ask >>= _) _ _ s
    refine wpAny_bind (wpAny_askSetting (wpAny_ite ?_))
    split
    · exact wpAny_pure (And.intro rfl h0)
    · refine wpAny_bind (wpAny_rule ?_)
      show wpAny _ _ (standAt i1.pos >>= _) _ _ s
      exact wpAny_bind (wpAny_standAt (wpAny_bind (wpAny_mono h (fun it' s' h' => wpAny_pure (And.intro rfl h')) fun _ _ x => x)))
  · show wpAny _ _ ((compStart (LC2 elt t1 i1 t2 i2 scope pos) 1 it acc env).onRaise (fun x => do noteFrame x env; standAt theWindowsPlace)) _ _ s
    refine wpAny_notedAt (noRaise ?_)
    unfold compStart
    show wpAny _ _ (ask >>= _) _ _ s
    refine wpAny_bind (wpAny_askSetting (wpAny_ite ?_))
    split
    · exact wpAny_pure (And.intro rfl h0)
    · refine wpAny_bind (wpAny_rule ?_)
      show wpAny _ _ (standAt i2.pos >>= _) _ _ s
      exact wpAny_bind (wpAny_standAt (wpAny_bind (wpAny_mono h (fun it' s' h' => wpAny_pure (And.intro rfl h')) fun _ _ x => x)))
end
section
variable {b g₀ g h h' : Heap} {L I : Addr} {m : Str → Option Value} {mu : List (Addr × Obj)} {ks : List At} {oI oI' : Obj}
/-- all but the first of the ledger stands -/
theorem Cx.cut (C : Cx b g₀ L m ((I, oI) :: mu) ks g h) (hk : ∀ a o, a ∉ [I] → h.get? a = some o → h'.get? a = some o) : Cx b g₀ L m mu ks g h' :=
  have hI := C.mt _ (.head _)
  have nI : ∀ {a : Addr}, a ≠ I → a ∉ [I] := fun q z => q (List.mem_singleton.mp z)
  have nd := C.nd
  { ns := C.ns.at' fun o q => hk _ _ (nI (Ne.symm hI.2.2.2)) q
    bk := fun a o q => hk a o (nI (by rintro rfl; rw [hI.2.1] at q; cases q)) (C.bk a o q)
    bL := C.bL
    gk := fun a o q => hk a o (nI (by rintro rfl; rw [hI.2.2.1] at q; cases q)) (C.gk a o q)
    gg := C.gg
    gn := C.gn
    g0 := C.g0
    mt := fun p hp => by
      have z := C.mt p (.tail _ hp)
      refine ⟨hk _ _ (nI fun q => ?_) z.1, z.2⟩
      rw [List.map_cons, List.nodup_cons] at nd
      exact nd.1 (q ▸ List.mem_map.mpr ⟨p, hp, rfl⟩)
    nd := by rw [List.map_cons, List.nodup_cons] at nd; exact nd.2
    kn := C.kn }
theorem Cx.turn (C : Cx b g₀ L m ((I, oI) :: mu) ks g h) (hk : ∀ a o, a ∉ [I] → h.get? a = some o → h'.get? a = some o) (e : h'.get? I = some oI') : Cx b g₀ L m ((I, oI') :: mu) ks g h' :=
  { C.cut hk with
    mt := fun p hp => by
      rcases List.mem_cons.mp hp with rfl | hp
      · exact ⟨e, (C.mt _ (.head _)).2⟩
      · exact (C.cut hk).mt p hp
    nd := C.nd }
end
section
variable {w : World} {A : Around} {s : Shared} {R : Result → Shared → Prop} {b g₀ g : Heap} {cenv : Env} {m : Str → Option Value} {mu : List (Addr × Obj)} {ks : List At} {elt t1 i1 t2 i2 : PySem.Expr} {scope : Scope} {pos : Pos}
theorem inner_it {I I2 D : Addr} {o₁ o2 : Obj} {n2 nD : Nat} {ys : List Value} {P2 : Nat → Value → Prop} (it : ItOk w A g I2 n2 P2 s.heap) (C : Cx b g₀ cenv.locals m ((I2, o2) :: (I, o₁) :: (D, lst ys nD) :: mu) ks g s.heap) (hz : ys.length + n2 ≤ 1000000)
    (J : Nat → List Value → List (Addr × Obj) → List At → Prop) (h0 : J 0 ys mu ks)
    (step : ∀ i v ys m₁ mu₁ ks₁ g₁ h₁ tk₁ o₂ nD, i < n2 → P2 i v → J i ys mu₁ ks₁ → g.StaysIn g₁ → Cx b g₀ cenv.locals m₁ ((I2, o₂) :: (I, o₁) :: (D, lst ys nD) :: mu₁) ks₁ g₁ h₁ →
      wpAny (model P0 w) A (assign t2 cenv v) (fun _ s₂ => wpAny (model P0 w) A (eval elt cenv) (fun y s₃ => Done (∃ m₂ mu₂ ks₂ g₂, Cx b g₀ cenv.locals m₂ ((I2, o₂) :: (I, o₁) :: (D, lst ys nD) :: mu₂) ks₂ g₂ s₃.heap ∧ g.StaysIn g₂ ∧ J (i + 1) (ys ++ [y]) mu₂ ks₂ ∧ ∃ h tk, s₃ = { s with heap := h, toks := tk })) NoE s₂) NoE { s with heap := h₁, toks := tk₁ })
    (fin : ∀ ys nD m₁ mu₁ ks₁ g₁ h₁ tk₁, J n2 ys mu₁ ks₁ → g.StaysIn g₁ → Cx b g₀ cenv.locals m₁ ((I, o₁) :: (D, lst ys nD) :: mu₁) ks₁ g₁ h₁ → R (.ok .next) { s with heap := h₁, toks := tk₁ }) :
    codeAny (model P0 w) A (.compStart (LC2 elt t1 i1 t2 i2 scope pos) 1 (.ref I2) (.ref D) cenv) R s := by
  obtain ⟨fp, St, W, hst, hc, hfp⟩ := it.ex
  have keepSt : ∀ {j : Nat} {h₁ h₂ : Heap}, St j h₁ → (∀ o, h₁.get? I2 = some o → h₂.get? I2 = some o) → (∀ a o, g.get? a = some o → h₁.get? a = some o) → (∀ a o, g.get? a = some o → h₂.get? a = some o) → St j h₂ := fun hs e1 e3 e2 =>
    W.frame _ _ _ hs fun a ha o e => by
      rcases hfp a ha with rfl | ⟨o', q⟩
      · exact e1 o e
      · have z := e3 a o' q
        rw [e] at z; cases z
        exact e2 a o q
  have loop : codeAny (model P0 w) A (.compLoop (LC2 elt t1 i1 t2 i2 scope pos) 1 (.ref I2) (.ref D) cenv) R s := by
    refine loop_in (fun k s' => ∃ i ys' nD m₁ mu₁ ks₁ g₁ o₂, i ≤ n2 ∧ ys'.length = ys.length + i ∧ k = n2 + 1 - i ∧ J i ys' mu₁ ks₁ ∧ g.StaysIn g₁ ∧ Cx b g₀ cenv.locals m₁ ((I2, o₂) :: (I, o₁) :: (D, lst ys' nD) :: mu₁) ks₁ g₁ s'.heap ∧ St i s'.heap ∧ ∃ h tk, s' = { s with heap := h, toks := tk }) ?_ (n2 + 1)
      ⟨0, ys, nD, m, mu, ks, g, o2, Nat.zero_le _, rfl, rfl, h0, fun _ _ e => e, C, hst, s.heap, s.toks, rfl⟩
    rintro k s' ⟨i, ys', nD', m₁, mu₁, ks₁, g₁, o₂, hi, hys, rfl, hJ, hg, C₁, hst₁, h, tk, rfl⟩
    rcases Nat.lt_or_eq_of_le hi with hlt | heq
    · refine W.item i _ _ _ hlt hst₁ fun v h₂ tk₂ hP hst₂ hk => ?_
      obtain ⟨o₃, _, _, ho₃, _⟩ := hc _ _ hst₂
      have C₂ := C₁.turn hk ho₃
      refine noLet_of hc _ (i + 1) v _ _ hst₂ ?_
      refine wpAny_mono (step i v ys' m₁ mu₁ ks₁ g₁ h₂ tk₂ o₃ nD' hlt hP hJ hg C₂) (fun _ s₂ h₃ => wpAny_mono h₃ (fun y s₃ h₄ => ?_) fun _ _ x => x) fun _ _ x => x
      obtain ⟨m₂, mu₂, ks₂, g₂, C₄, hg₂, hJ₂, hh, tk', rfl⟩ := h₄.out
      refine wpAny_list_append_plain (hsz := by have : (2 : Nat) ^ 20 ≤ sizeLine := by decide
                                                simp; omega) ⟨nD', (C₄.mt _ (.tail _ (.tail _ (.head _)))).1⟩ fun h₆ hl₆ hs₆ => ?_
      obtain ⟨n6, e6⟩ := hl₆
      have e6' : h₆.get? D = some (lst (ys' ++ [y]) n6) := by rw [e6]; simp [lst]
      have C₆ := C₄.upd (.tail (.tail .head)) hs₆ e6'
      refine ⟨n2 + 1 - (i + 1), Nat.sub_lt_sub_left (Nat.lt_succ_of_lt hlt) (Nat.lt_succ_self i), i + 1, ys' ++ [y], n6, m₂, mu₂, ks₂, g₂, o₃, hlt, by simp; omega, rfl, hJ₂, hg₂, C₆, ?_, _, _, rfl⟩
      refine keepSt hst₂ (fun o q => ?_) (fun a o q => C₂.gk a o (hg a o q)) (fun a o q => C₆.gk a o (hg₂ a o q))
      rw [ho₃] at q; cases q
      exact (C₆.mt _ (.head _)).1
    · subst heq
      refine W.done _ _ _ hst₁ fun h₂ tk₂ hk => ?_
      exact fin ys' nD' m₁ mu₁ ks₁ g₁ h₂ tk₂ hJ hg (C₁.cut hk)
  exact start_any (.inr rfl) loop (W.self 0 _ _ _ hst loop)
end
section
variable {w : World} {A : Around} {E : Value → Shared → Prop} {s : Shared} {b g₀ g : Heap} {env : Env} {m : Str → Option Value} {mu : List (Addr × Obj)} {ks : List At} {elt t1 i1 t2 i2 : PySem.Expr} {scope : Scope} {pos : Pos} {cl : List (Str × Addr)} {Q : Value → Shared → Prop}
noncomputable def CompAt2 (w : World) (A : Around) (env : Env) (elt t1 i1 t2 i2 : PySem.Expr) (scope : Scope) (pos : Pos) (cl : List (Str × Addr)) (Q : Value → Shared → Prop) (E : Value → Shared → Prop) (it : Value) (s : Shared) : Prop :=
  wpAny (model P0 w) A (newList []) (fun acc s₃ => wpAny (model P0 w) A (newFunctionEnv scope env.globals cl [] env.qual none .none (some env)) (fun cenv s₄ =>
    codeAny (model P0 w) A (.compStart (LC2 elt t1 i1 t2 i2 scope pos) 0 it acc { cenv with scope := relabel scope env }) (compPost (model P0 w) A E none Q acc cenv.locals) s₄) E s₃) E s
theorem ListComp2_ (h : wpAny (model P0 w) A (eval i1 env) (fun xv s₁ => wpAny (model P0 w) A (pyIter xv) (fun it s₂ => CompAt2 w A env elt t1 i1 t2 i2 scope pos cl Q E it s₂) E s₁) E s)
    (hclos : closureFor scope env = pure cl := by rfl) (hkind : scope.kind = .function := by rfl) (hnames : ∀ y ∈ scope.names, y.2 = .local → scope.names.lookup y.1 = some .local := by decide)
    (hs : ∀ x, foldedSetIterable i1 env x = pure x := by intro _; rfl) :
    wpAny (model P0 w) A (eval (LC2 elt t1 i1 t2 i2 scope pos) env) Q E s := by
  rw [eval_ListComp]
  exact wpAny_comprehension_free (use := none) rfl hs hclos hkind hnames h
theorem comp2_it {I : Addr} {oI : Obj} {n : Nat} {P : Nat → Value → Prop} (it : ItOk w A g I n P s.heap) (C : Cx b g₀ env.locals m ((I, oI) :: mu) ks g s.heap)
    (J : Nat → List Value → List (Addr × Obj) → List At → Prop) (h0 : J 0 [] mu ks)
    (step : ∀ i v ys b' Lc m₁ mu₁ ks₁ g₁ h₁ tk₁ o₁ D nD, i < n → P i v → J i ys mu₁ ks₁ → g.StaysIn g₁ → Cx b' g Lc m₁ ((I, o₁) :: (D, lst ys nD) :: mu₁) ks₁ g₁ h₁ →
      wpAny (model P0 w) A (assign t1 (compEnvC scope cl Lc env) v) (fun _ s₂ => wpAny (model P0 w) A (eval i2 (compEnvC scope cl Lc env)) (fun xv s₃ => wpAny (model P0 w) A (pyIter xv) (fun j s₄ =>
        codeAny (model P0 w) A (.compStart (LC2 elt t1 i1 t2 i2 scope pos) 1 j (.ref D) (compEnvC scope cl Lc env)) (fun r s₅ => match r with | .ok _ => ∃ ys' nD', CompStep b' g Lc I D o₁ ys' nD' s (J (i + 1) ys') s₅ | .error _ => False) s₄) NoE s₃) NoE s₂) NoE { s with heap := h₁, toks := tk₁ })
    (fin : ∀ ys mu₁ ks₁ g₁ h₁ tk₁ D nD, J n ys mu₁ ks₁ → g.StaysIn g₁ → env.locals < D → Cx b g₀ env.locals m ((D, lst ys nD) :: mu₁) ks₁ g₁ h₁ → Q (.ref D) { s with heap := h₁, toks := tk₁ })
    (hcell : ∀ y ∈ scope.names, y.2 ≠ .cell := by decide) (hkind : scope.kind = .function := by rfl) (hs2 : ∀ Lc x, foldedSetIterable i2 (compEnvC scope cl Lc env) x = pure x := by intro _ _; rfl) :
    CompAt2 w A env elt t1 i1 t2 i2 scope pos cl Q E (.ref I) s := by
  obtain ⟨fp, St, W, hst, hc, hfp⟩ := it.ex
  refine wpAny_newObj_type (wpAny_newFunctionEnv hcell (by intro y hy; simp at hy) (fun h₁ hns₁ hsb₁ => ?_) hkind)
  dsimp only at hns₁ hsb₁ ⊢
  generalize hH2 : s.heap.push { cls := .type "list", dict := none, data := .seq ([] : List Value).toArray } = H2 at hns₁ hsb₁ ⊢
  have hsz2 : H2.objs.size = s.heap.objs.size + 1 := by rw [← hH2, Heap.size_push]
  have old : s.heap.StaysIn h₁ := fun a o e => hsb₁.extBut a o (by rw [hsz2]; exact Nat.ne_of_lt (Nat.lt_succ_of_lt (Heap.lt_size e))) (Heap.get?_push_of_some _ (hH2 ▸ Heap.get?_push_of_some _ e))
  have hacc : h₁.get? s.heap.objs.size = some (lst [] 0) := hsb₁.extBut _ _ (by rw [hsz2]; exact Nat.ne_of_lt (Nat.lt_succ_self _)) (Heap.get?_push_of_some _ (hH2 ▸ Heap.get?_push_size _ rfl))
  have hle : s.heap.objs.size ≤ H2.objs.size := by rw [hsz2]; exact Nat.le_succ _
  have C1 := C.inner old hns₁ hle
  have C2 : Cx (hideAll s.heap (I :: mu.map (·.1))) g H2.objs.size (fun x => ([] : List (Str × Value)).reverse.lookup x) ((I, oI) :: (s.heap.objs.size, lst [] 0) :: mu) ks g h₁ :=
    { C1 with
      mt := fun p hp => by
        rcases List.mem_cons.mp hp with rfl | hp
        · exact C1.mt _ (.head _)
        · rcases List.mem_cons.mp hp with rfl | hp
          · refine ⟨hacc, ?_, ?_, by rw [hsz2]; exact Nat.ne_of_lt (Nat.lt_succ_self _)⟩
            · cases q : (hideAll s.heap (I :: mu.map (·.1))).get? s.heap.objs.size with
              | none => rfl
              | some o => exact absurd (Heap.lt_size (of_hideAll _ q)) (Nat.lt_irrefl _)
            · exact (C.none_of_ge (Nat.le_refl _)).2.1
          · exact C1.mt _ (.tail _ hp)
      nd := by
        have nd := C.nd
        simp only [List.map_cons, List.nodup_cons, List.mem_cons, not_or] at nd ⊢
        refine ⟨⟨Nat.ne_of_lt (C.mu_lt (.head _)), nd.1⟩, fun q => ?_, nd.2⟩
        obtain ⟨p, hp, e⟩ := List.mem_map.mp q
        exact absurd (C.mu_lt (.tail _ hp)) (by rw [e]; exact Nat.lt_irrefl _) }
  have hst₁ : St 0 h₁ := W.frame _ _ _ hst fun a _ o e => old a o e
  have keepSt : ∀ {j : Nat} {h₁ h₂ : Heap}, St j h₁ → (∀ o, h₁.get? I = some o → h₂.get? I = some o) → (∀ a o, g.get? a = some o → h₁.get? a = some o) → (∀ a o, g.get? a = some o → h₂.get? a = some o) → St j h₂ := fun hs e1 e3 e2 =>
    W.frame _ _ _ hs fun a ha o e => by
      rcases hfp a ha with rfl | ⟨o', q⟩
      · exact e1 o e
      · have z := e3 a o' q
        rw [e] at z; cases z
        exact e2 a o q
  have loop : ∀ s₃ : Shared, s₃ = { s with heap := h₁, toks := s.toks + ([] : List (Str × Value)).length } →
      codeAny (model P0 w) A (.compLoop (LC2 elt t1 i1 t2 i2 scope pos) 0 (.ref I) (.ref s.heap.objs.size) (compEnvC scope cl H2.objs.size env)) (compPost (model P0 w) A E none Q (.ref s.heap.objs.size) H2.objs.size) s₃ := by
    rintro s₃ rfl
    refine loop_out
      (fun k s' => ∃ i ys nD m₁ mu₁ ks₁ g₁ o₁, i ≤ n ∧ k = n + 1 - i ∧ J i ys mu₁ ks₁ ∧ g.StaysIn g₁ ∧ Cx (hideAll s.heap (I :: mu.map (·.1))) g H2.objs.size m₁ ((I, o₁) :: (s.heap.objs.size, lst ys nD) :: mu₁) ks₁ g₁ s'.heap ∧ St i s'.heap ∧ ∃ h tk, s' = { s with heap := h, toks := tk }) ?_ (hs2 _) (n + 1)
      ⟨0, [], 0, _, mu, ks, g, oI, Nat.zero_le _, rfl, h0, fun _ _ e => e, C2, hst₁, h₁, _, rfl⟩
    rintro k s' ⟨i, ys, nD, m₁, mu₁, ks₁, g₁, o₁, hi, rfl, hJ, hg, C₁, hst₁, h, tk, rfl⟩
    rcases Nat.lt_or_eq_of_le hi with hlt | heq
    · refine W.item i _ _ _ hlt hst₁ fun v h₂ tk₂ hP hst₂ hk => ?_
      obtain ⟨o₃, _, _, ho₃, _⟩ := hc _ _ hst₂
      have C₂ := C₁.turn hk ho₃
      refine noLet_of hc _ (i + 1) v _ _ hst₂ ?_
      refine wpAny_mono (step i v ys _ _ m₁ mu₁ ks₁ g₁ h₂ tk₂ o₃ _ nD hlt hP hJ hg C₂) (fun _ s₂ h₃ => wpAny_mono h₃ (fun xv s₃ h₄ => wpAny_mono h₄ (fun j s₄ h₅ => codeAny_mono h₅ fun r s₅ h₆ => ?_) fun _ _ x => x) fun _ _ x => x) fun _ _ x => x
      cases r with
      | error e => exact h₆.elim
      | ok f =>
        obtain ⟨ys', nD', m₂, mu₂, ks₂, g₂, C₄, hg₂, hJ₂, e⟩ := h₆
        refine ⟨n + 1 - (i + 1), Nat.sub_lt_sub_left (Nat.lt_succ_of_lt hlt) (Nat.lt_succ_self i), i + 1, ys', nD', m₂, mu₂, ks₂, g₂, o₃, hlt, rfl, hJ₂, hg₂, C₄, ?_, e⟩
        refine keepSt hst₂ (fun o q => ?_) (fun a o q => C₂.gk a o (hg a o q)) (fun a o q => C₄.gk a o (hg₂ a o q))
        rw [ho₃] at q; cases q
        exact (C₄.mt _ (.head _)).1
    · subst heq
      refine W.done _ _ _ hst₁ fun h₂ tk₂ hk => ?_
      have C₃ := C₁.cut hk
      exact ⟨m₁, C₃.ns, fun h' hs => fin ys mu₁ ks₁ g₁ h' tk₂ _ nD hJ hg C.lt (C.leave C₃ hle hs)⟩
  exact start_any (.inl rfl) (loop _ rfl) (W.self 0 _ _ _ hst₁ (loop _ rfl))
end
set_option maxHeartbeats 1000000
section
open Builtin
theorem slot_bjoin : Slot "bytes" "join" "bytes.join" :=
  .of (owner := "bytes") (n := "join") (by rw [typeLookup_type, builtinLookup_eq_fast]; kernel_rfl) (by decide +kernel) (by decide +kernel) (by decide +kernel)
    (by first | exact .inl (by decide +kernel) | exact .inr (by decide +kernel)) (by rw [isSubtype_type]; kernel_rfl)
theorem type_bjoin : typeOf (.builtin "bytes.join") = pure (.type "method_descriptor") := by show builtinType _ = _; rw [builtinType_eq_fast]; kernel_rfl
theorem entry_bjoin : entryFor table "bytes.join" = some Builtin.«bytes.join» := entryFor_of_tree (by kernel_rfl)
theorem args_bjoin (a b : Value) : argsOk "bytes.join" ⟨[a, b], []⟩ := by unfold argsOk; kernel_rfl
theorem take_bytes (b : Array UInt8) (t : Tok) : Bytes.takeBuffer? "bytes.join" (.bytes b t) 0 = pure (some (b, none)) := by kernel_rfl
/-- values that are these octets -/
inductive BysAre : List Value → List (List Nat) → Prop
  | nil : BysAre [] []
  | cons (l : List Nat) (t : Tok) {vs ls} : BysAre vs ls → BysAre (.bytes (byN l) t :: vs) (l :: ls)
theorem BysAre.append : ∀ {vs us : List Value} {ls ms : List (List Nat)}, BysAre vs ls → BysAre us ms → BysAre (vs ++ us) (ls ++ ms)
  | _, _, _, _, .nil, h => h
  | _, _, _, _, .cons l t r, h => .cons l t (r.append h)
theorem BysAre.len : ∀ {vs : List Value} {ls : List (List Nat)}, BysAre vs ls → vs.length = ls.length
  | _, _, .nil => rfl
  | _, _, .cons _ _ r => by rw [List.length_cons, List.length_cons, r.len]
theorem BysAre.at : ∀ {vs : List Value} {ls : List (List Nat)}, BysAre vs ls → ∀ {i : Nat} {l : List Nat}, ls[i]? = some l → ∃ t, vs[i]? = some (.bytes (byN l) t)
  | _, _, .cons l t r, 0, _, h => by cases h; exact ⟨t, rfl⟩
  | _, _, .cons l t r, i + 1, _, h => by simpa using r.at (by simpa using h)
theorem byN_append (a b : List Nat) : byN (a ++ b) = byN a ++ byN b := by simp [byN]
theorem joined_byN (ls : List (List Nat)) : Bytes.joined #[] (ls.map byN) = byN ls.flatten := by
  have key : ∀ (ls : List (List Nat)) (k : Nat) (out : Array UInt8), ((ls.map byN).zipIdx k).foldl (fun out x => (if x.2 > 0 then out ++ #[] else out) ++ x.1) out = out ++ byN ls.flatten := by
    intro ls
    induction ls with
    | nil => intro k out; simp [byN]
    | cons a r ih =>
      intro k out
      rw [List.map_cons, List.zipIdx_cons, List.foldl_cons, ih, List.flatten_cons, byN_append]
      simp
  show ((ls.map byN).zipIdx 0).foldl (fun out x => (if x.2 > 0 then out ++ #[] else out) ++ x.1) #[] = _
  rw [key]; simp
theorem sum_byN (ls : List (List Nat)) (k : Nat) : Array.foldl (fun (x1 : Nat) (x2 : Array UInt8) => x1 + x2.size) k (ls.map byN).toArray = k + ls.flatten.length := by
  rw [List.foldl_toArray]
  induction ls generalizing k with
  | nil => rfl
  | cons a r ih => rw [List.map_cons, List.foldl_cons, ih, List.flatten_cons, List.length_append, byN_size]; omega
section
variable {w : World} {A : Around} {E : Value → Shared → Prop} {s : Shared}
theorem letgo_join : ∀ {taken : List (Value × Option Value)} {keep : List Value} {Q : Unit → Shared → Prop}, (∀ p ∈ taken, p.2 = none) → Q () s → wpAny (model P0 w) A (Bytes.joinLetGo taken keep) Q E s
  | [], _, _, _, h => wpAny_pure h
  | (x, u) :: r, keep, Q, hn, h => by
    have : u = none := hn (x, u) (.head _)
    subst this
    unfold Bytes.joinLetGo
    exact wpAny_bind (wpAny_letGo (letgo_join (fun p hp => hn p (.tail _ hp)) h))
theorem wpAny_seqItems? {l : Addr} {vs : List Value} {n : Nat} {Q : Option (Array Value) → Shared → Prop} (hl : s.heap.get? l = some (lst vs n)) (h : Q (some vs.toArray) s) : wpAny (model P0 w) A (seqItems? (.ref l)) Q E s := by
  unfold seqItems?
  exact wpAny_bind (wpAny_load hl (wpAny_pure h))
theorem join_bytes {l : Addr} {vs : List Value} {n : Nat} {ls : List (List Nat)} {t : Tok} {Q : Value → Shared → Prop} (hl : s.heap.get? l = some (lst vs n)) (hv : BysAre vs ls) (hz : ls.flatten.length ≤ 100000) (hn : 2 ≤ ls.length)
    (hq : ∀ t' k, Q (.bytes (byN ls.flatten) t') { s with toks := k }) :
    wpAny (model P0 w) A (call (.builtin "bytes.join") [.bytes #[] t, .ref l]) Q E s := by
  refine wpAny_call_entry slot_bjoin (typeIs_bytes _ _ _) entry_bjoin ?_ (args_bjoin _ _)
  have hL : s.heap.IsList l vs.toArray := ⟨_, hl, rfl, n, rfl⟩
  show wpAny _ _ (Bytes.joinM .bytes ⟨[.bytes #[] t, .ref l], []⟩) _ _ s
  unfold Bytes.joinM
  refine wpAny_bind (wpAny_of_eq (a := (.bytes #[] t, .ref l)) rfl ?_)
  dsimp only
  rw [if_pos (show (Bytes.Kind.bytes == Bytes.Kind.bytes) = true from rfl)]
  refine wpAny_bind ?_
  unfold Bytes.joinItems
  refine wpAny_bind (wpAny_typeOf hL.typeIs ?_)
  rw [if_pos (by decide)]
  refine wpAny_pure ?_
  refine wpAny_bind (wpAny_seqItems? hl ?_)
  dsimp only
  rw [if_pos (show (Bytes.Kind.bytes == Bytes.Kind.bytes) = true from rfl)]
  obtain ⟨v1, v2, vr, rfl⟩ : ∃ v1 v2 vr, vs = v1 :: v2 :: vr := by
    have := hv.len
    match vs, this with
    | v1 :: v2 :: vr, _ => exact ⟨_, _, _, rfl⟩
    | [_], h => simp at h; omega
    | [], h => simp at h; omega
  with_unfolding_all show wpAny _ _ (forIn _ _ _ >>= _) _ _ _
  rw [Std.Legacy.Range.forIn_eq_forIn_range']
  refine wpAny_bind (wpAny_forIn_list _ (fun rest st s' => s' = s ∧ ∃ i, i ≤ ls.length ∧ rest = List.range' i (ls.length - i) ∧ st.1 = ((ls.take i).map byN).toArray ∧ (∀ p ∈ st.2, p.2 = none ∧ p.1.onHeap = false)) _ ?_ ?_ _ _ ?_)
  · rintro x rest ⟨pa, tk⟩ s' ⟨rfl, i, hi, hr, hp, hn'⟩
    have hlt : i < ls.length := by
      rcases Nat.lt_or_eq_of_le hi with h | h
      · exact h
      · rw [h, Nat.sub_self] at hr; cases hr
    rw [show ls.length - i = (ls.length - (i + 1)) + 1 from (Nat.sub_add_cancel (Nat.sub_pos_of_lt hlt)).symm, List.range'_succ] at hr
    obtain ⟨rfl, rfl⟩ := List.cons.inj hr
    obtain ⟨l0, hl0⟩ : ∃ l0, ls[x]? = some l0 := ⟨ls[x], List.getElem?_eq_getElem hlt⟩
    obtain ⟨t0, ht0⟩ := hv.at hl0
    have hget : (v1 :: v2 :: vr).toArray.getD x .none = .bytes (byN l0) t0 := by
      simp [Array.getD_eq_getD_getElem?, ht0]
    refine wpAny_bind (wpAny_seqItems? hl ?_)
    dsimp only at hp hn' ⊢
    rw [if_neg (by
      have : (tk.any fun x => x.1.onHeap) = false := by
        rw [List.any_eq_false]; intro p hp; simp [(hn' p hp).2]
      simp [this]), hget]
    refine wpAny_bind (wpAny_holding ?_)
    unfold Bytes.takeBufferQuiet?
    refine wpAny_bind (wpAny_attempt (wpAny_of_eq (take_bytes _ _) (wpAny_pure ?_)))
    dsimp only
    refine wpAny_bind (wpAny_seqItems? hl ?_)
    dsimp only
    rw [if_neg (by simp)]
    refine wpAny_pure ⟨rfl, x + 1, hlt, rfl, ?_, ?_⟩
    · rw [List.take_add_one, hl0, hp]; simp
    · intro p hp'
      rcases List.mem_append.mp hp' with h | h
      · exact hn' p h
      · rw [List.mem_singleton] at h; subst h; exact ⟨rfl, rfl⟩
  · rintro ⟨pa, tk⟩ s' ⟨rfl, i, hi, hr, hp, hn'⟩
    have hii : ls.length - i = 0 := by
      cases q : ls.length - i with
      | zero => rfl
      | succ k => rw [q, List.range'_succ] at hr; cases hr
    rw [List.take_of_length_le (by omega)] at hp
    dsimp only at hp hn' ⊢
    refine wpAny_bind (wpAny_of_eq (a := #[]) rfl ?_)
    rw [if_neg ?_]
    · rw [hp, List.toList_toArray, joined_byN]
      refine wpAny_bind (wpAny_mkBytes (wpAny_bind (wpAny_holding (wpAny_point (wpAny_bind (letgo_join (fun p hp => (hn' p hp).1) (wpAny_pure ⟨_, rfl, hq _ _⟩)))))) ?_)
      rw [byN_size, sizeLine_eq]; omega
    · rw [hp, sum_byN]
      unfold Bytes.tooLong
      simp only [decide_eq_true_eq, Nat.not_lt, sizeLine_eq]
      rw [show (#[] : Array UInt8).size = 0 from rfl, Nat.zero_mul]; omega
  · exact ⟨rfl, 0, Nat.zero_le _, by simp [hv.len], rfl, fun _ h => nomatch h⟩
end
end
set_option maxHeartbeats 1000000
theorem lines_lc2 : True := by
  (k_with "m eval ListComp" => ((with_reducible show wpAny _ _ (eval (PySem.Expr.ListComp _ [_, _] _ _) _) _ _ _); k_dflt (refine ListComp2_ ?_)))
  trivial
noncomputable def itemL (x : List Nat) : List Nat := (utfL x).length :: utfL x
theorem itemsL_flatten (ts : List (List Nat)) : itemsL ts = (ts.map itemL).flatten := by
  unfold itemsL itemL; rw [List.flatMap_def]
theorem item_spec2 {w : World} {A : Around} {E : Value → Shared → Prop} {s : Shared} {g : Heap} {v : Value} {l : List Nat} (G : Gd w g) (gs : g.StaysIn s.heap) (R : Rm A 3) (hr : Rd g v (intsD l))
    (hb : ∀ n ∈ l, n < 256) (hl : l.length < 256) :
    wpAny (model P0 w) A (call (.ref 256) [v]) (fun v s' => Done (∃ g', Ct [] s g s' g' ∧ ∃ t, v = .bytes (byN (l.length :: l)) t)) E s :=
  wpAny_mono (item_spec G gs R hr hb hl) (fun _ _ h => ⟨g, h.out.2, h.out.1⟩) fun _ _ x => x
theorem read_cx {w : World} {A : Around} {E : Value → Shared → Prop} {s : Shared} {b g₀ g : Heap} {L : Addr} {m : Str → Option Value} {mu : List (Addr × Obj)} {ks : List At} {qs : List Pair} {full : Bool} {u : Tok} {ps : Array Value} {fm : Obj → List (Addr × Obj)} {Q : Value → Shared → Prop}
    (C : Cx b g₀ L m mu ks g s.heap) (G : Gd w g₀) (R : Rm A 11) (uf : UpF 237 (tabObj ps) mu fm) (hps : TabIs g lamE.2.2.2 lamQ ps) (hx : ∀ x ∈ textsOf qs, TxI x) (hq : qs.length ≤ 10)
    (k : ∀ l vs n ps' g' h' tk, g.StaysIn g' → L < l → RdAll g' vs ((shownP full qs).map pairD) → TabIs g' lamE.2.2.2 lamQ ps' → Cx b g₀ L m ((l, lst vs n) :: fm (tabObj ps')) ks g' h' → Q (.ref l) { s with heap := h', toks := tk }) :
    wpAny (model P0 w) A (call (.ref 271) [.bytes (byN (itemsL (textsOf qs))) u, .bool full]) Q E s := by
  have hm := C.mt _ (uf.up default).mem
  refine wpAny_mono (read_law (G.up C.gg) C.gk R hm.1 hm.2.2.1 hps hx hq rfl) (fun v s' q => ?_) fun _ _ x => x
  obtain ⟨g', l, vs, n, ps', c, rfl, hsz, hgd, hd, hr, h237, hps'⟩ := q.out
  have C1 := C.after1 uf c h237
  have fr := C.none_of_ge hsz
  have C2 := C1.put hd fr.1 hgd fr.2.2 fun p hp q => by
    have : p.1 ∈ mu.map (·.1) := (uf.up (tabObj ps')).keys ▸ List.mem_map_of_mem hp
    obtain ⟨r, hr, e⟩ := List.mem_map.mp this
    have h1 := C.mu_lt hr
    rw [e, q] at h1
    exact absurd h1 (Nat.not_lt.mpr hsz)
  obtain ⟨h', tk, rfl⟩ := c.sh
  exact k l vs n ps' g' h' tk c.gg (Nat.lt_of_lt_of_le C.lt hsz) hr hps' C2
theorem table_walk {w : World} {A : Around} {E : Value → Shared → Prop} {s : Shared} {g : Heap} {v : Value} {qs : List Pair} {full : Bool} {ps : Array Value} {Q : Value → Shared → Prop} (G : Gd w g) (gs : g.StaysIn s.heap) (R : Rm A 13) (ht : s.heap.get? 237 = some (tabObj ps)) (hgt : g.get? 237 = none) (hps : TabIs g lamE.2.2.2 lamQ ps)
    (hr : Rd g v (pairsD qs)) (hx : ∀ x ∈ textsOf qs, TxI x) (hq : qs.length ≤ 10) (h1 : 1 ≤ qs.length)
    (fin : ∀ env l vs n ps' m g' h' tk, env.frame = some s.heap.objs.size → env.locals = s.heap.objs.size → env.scope.kind = .function → g.StaysIn g' → s.heap.objs.size < l → RdAll g' vs ((shownP full qs).map pairD) → TabIs g' lamE.2.2.2 lamQ ps' →
      Cx (hideAll s.heap [237]) g s.heap.objs.size m [(l, lst vs n), (237, tabObj ps')] [] g' h' →
      wpAny (model P0 w) (A.deeper env) (call (.ref 224) [.ref l]) Q (fun e s' => wpAny (model P0 w) (A.deeper env) (leaving env e) (fun _ s'' => E e s'') (fun e' s'' => E e' s'') s') { s with heap := h', toks := tk }) :
    wpAny (model P0 w) A (call (.ref 276) [v, .bool full]) Q E s := by
  obtain ⟨a, vs, n, rfl, ha, hA⟩ := hr.pairs
  have hlen := hA.length
  refine call_fn (binds := [(Str.ofString "pairs", .ref a), (Str.ofString "full", .bool full)]) [(237, tabObj ps)] [] G gs R.lt (G.k 276 _ rfl) rfl (codeRec_of G.k rfl) (BindsTo.of_eq rfl) (locs rfl) (fun p hp => by simp at hp; subst hp; exact ⟨ht, hgt⟩) (by simp) (fun _ h => nomatch h) ?_ (by decide)
  intro h₁ tk C
  repeat walk1
  refine KBd.method_of (.bytes _ _) (typeIs_bytes _ _ _) slot_bjoin type_bjoin KBd.noRef ?_
  repeat walk1
  refine it_lst C R.hd ha ?_
  intro I oI h₂ it C2
  clear C
  refine comp2_it it C2 (fun i ys mu₁ ks₁ => mu₁ = [(237, tabObj ps)] ∧ ks₁ = [] ∧ BysAre ys ((textsOf (qs.take i)).map itemL)) ⟨rfl, rfl, .nil⟩ ?_ ?_
  · rintro i v ys b' Lc m₁ mu₁ ks₁ g₁ h₃ tk₃ o₁ D nD hi hvi ⟨rfl, rfl, hys⟩ hg₁ C3
    obtain ⟨p, pa, t₁, t₂, hpi, rfl, hpa⟩ := hA.pairAt hvi
    clear C2
    repeat walk1
    rename Cx _ _ _ _ _ _ _ _ => C4
    refine it_tuple (items := [Value.str p.1 t₁, Value.str p.2 t₂].toArray) C4 R.hd ⟨_, hg₁ _ _ hpa, rfl, 0, rfl⟩ ?_
    intro I2 o2 h₄ it2 C5
    clear C4
    refine inner_it it2 C5 ?_ (fun j ys mu₁ ks₁ => mu₁ = [(237, tabObj ps)] ∧ ks₁ = [] ∧ BysAre ys ((textsOf (qs.take i) ++ [p.1.cps.toList, p.2.cps.toList].take j).map itemL)) ⟨rfl, rfl, by simpa using hys⟩ ?_ ?_
    · have := hys.len
      rw [List.length_map, textsOf_len, List.length_take] at this
      simp; omega
    · rintro j u ys m₂ mu₁ ks₁ g₂ h₅ tk₅ o₂ nD hj hu ⟨rfl, rfl, hys⟩ hg₂ C6
      clear C5
      obtain ⟨x, tx, rfl, hxj⟩ : ∃ x tx, u = .str x tx ∧ [p.1.cps.toList, p.2.cps.toList][j]? = some x.cps.toList := by
        match j, hj with
        | 0, _ => cases hu; exact ⟨_, _, rfl, rfl⟩
        | 1, _ => cases hu; exact ⟨_, _, rfl, rfl⟩
      have hX : TxI x.cps.toList := by
        obtain ⟨e1, e2⟩ := textsOf_at hpi
        refine hx _ ?_
        match j, hj with
        | 0, _ => rw [← Option.some.inj hxj]; exact List.mem_of_getElem? e1
        | 1, _ => rw [← Option.some.inj hxj]; exact List.mem_of_getElem? e2
      have hlx : x.cps.toList.length ≤ 255 := by have h1 := hX.len; have h2 := utfL_ge x.cps.toList; omega
      repeat walk1
      (rename Cx _ _ _ _ _ _ _ _ => cO; refine cx_call cO (utf_spec (by walk_at "gd") (by walk_at "gk") (by walk_at "room") (by rw [show x.length = x.cps.toList.length from by simp [Str.length]]; omega) fun c hc => (hX.sc c hc).lt) ?_; clear cO)
      intro uv g₃ h₆ tk₆ hg₃ hur C7
      repeat walk1
      (rename Cx _ _ _ _ _ _ _ _ => cO; refine cx_call cO (item_spec2 (by walk_at "gd") (by walk_at "gk") (by walk_at "room") hur (utfL_lt fun c hc => (hX.sc c hc).lt) hX.len) ?_; clear cO)
      rintro _ g₄ h₇ tk₇ hg₄ ⟨t₄, rfl⟩ C8
      refine Done.mk ⟨_, _, _, _, C8, fun a o e => hg₄ a o (hg₃ a o (hg₂ a o e)), ⟨rfl, rfl, ?_⟩, _, _, rfl⟩
      rw [List.take_add_one, hxj, ← List.append_assoc, List.map_append]
      exact hys.append (.cons _ _ .nil)
    · rintro ys nD' m₂ mu₁ ks₁ g₂ h₅ tk₅ ⟨rfl, rfl, hys⟩ hg₂ C6
      refine ⟨ys, nD', _, _, _, _, C6, fun a o e => hg₂ a o (hg₁ a o e), ⟨rfl, rfl, ?_⟩, _, _, rfl⟩
      have e : textsOf (qs.take (i + 1)) = textsOf (qs.take i) ++ [p.1.cps.toList, p.2.cps.toList] := by
        rw [List.take_add_one, hpi]; simp [textsOf]
      rw [e]
      exact hys
  · rintro ys mu₁ ks₁ g₁ h₃ tk₃ D nD ⟨rfl, rfl, hys⟩ hg₁ hD C3
    clear C2
    rw [show qs.take vs.length = qs from List.take_of_length_le (by simp at hlen; omega)] at hys
    have hbig : itemsL (textsOf qs) = ((textsOf qs).map itemL).flatten := itemsL_flatten _
    repeat walk1
    refine join_bytes (C3.at (.head _)) hys ?_ ?_ ?_
    · rw [← hbig]
      have key : ∀ l : List (List Nat), (∀ x ∈ l, TxI x) → (itemsL l).length ≤ 256 * l.length := by
        intro l hl
        induction l with
        | nil => simp [itemsL]
        | cons a r ih =>
          have h1 := (hl a (.head _)).len
          have h2 := ih fun x hx => hl x (.tail _ hx)
          have e : itemsL (a :: r) = ((utfL a).length :: utfL a) ++ itemsL r := List.flatMap_cons
          rw [e, List.length_append, List.length_cons, List.length_cons]
          omega
      have h3 := key _ hx
      rw [textsOf_len] at h3
      omega
    · rw [List.length_map, textsOf_len]; omega
    intro t' k'
    rw [← hbig]
    repeat walk1
    rename Cx _ _ _ _ _ _ _ _ => C4
    have C5 := C4.drop (List.sublist_cons_self _ _)
    clear C4
    refine read_cx C5 G (by walk_at "room") (by walk_at "up") (hps.up hg₁) hx hq ?_
    clear C5
    intro l us k₂ ps' g₂ h₄ tk₄ hg₂ hl hus hps' C6
    repeat walk1
    exact fin _ l us k₂ ps' _ g₂ h₄ tk₄ rfl rfl rfl (fun a o e => hg₂ a o (hg₁ a o e)) hl hus hps' C6
set_option maxHeartbeats 1000000
theorem shownP_length (full : Bool) (qs : List Pair) : (shownP full qs).length = qs.length := by cases full <;> simp [shownP]
/-- an object of a class made, its __init__ by a contract that may look at the ledger -/
theorem make_callC {w : World} {A : Around} {E : Value → Shared → Prop} {s : Shared} {b g₀ g : Heap} {L Cl fI : Addr} {m : Str → Option Value} {mu : List (Addr × Obj)} {ks : List At} {pos : List Value} {kw : List (Str × Value)} {Q : Value → Shared → Prop} {P : Addr → Addr → Obj → Prop}
    (C : Cx b g₀ L m mu ks g s.heap) (G : Gd w g₀) (hm : makesIn (KF w.params) Cl = true) (hi : findIn (KF w.params) (.ref Cl) "__init__" = some (some (.ref fI))) (hf : isFn (KF w.params) (.ref fI) = true)
    (spec : ∀ x dx g₁ h₁, g.StaysIn g₁ → g₁.get? x = some (instObj Cl dx) → L < dx → Cx b g₀ L m ((dx, dictOf [] 0) :: mu) ks g₁ h₁ →
      codeAny (model P0 w) (A.under (.builtin "type.__call__" ⟨.ref Cl :: pos, kw⟩)) (.call (.ref fI) ⟨.ref x :: pos, kw⟩)
        (fun r s' => match r with | .ok (.ret v') => Done (v' = .none ∧ ∃ g' o', Ct [dx] { s with heap := h₁ } g₁ s' g' ∧ s'.heap.get? dx = some o' ∧ P x dx o') | .ok _ => False | .error e => E e s') { s with heap := h₁ })
    (k : ∀ x dx o' g' h' tk, L < x → L < dx → g.StaysIn g' → g'.get? x = some (instObj Cl dx) → P x dx o' → Cx b g₀ L m ((dx, o') :: mu) ks g' h' → Q (.ref x) { s with heap := h', toks := tk }) :
    wpAny (model P0 w) A (call (.ref Cl) pos kw) Q E s := by
  refine make_cx C G hm hi hf fun x dx h₁ hL hlt C1 => ?_
  obtain ⟨g₁, hg₁, e₁, C2⟩ := C1.frz (Nat.lt_trans hL hlt)
  refine codeAny_mono (spec x dx g₁ h₁ hg₁ e₁ hL C2) fun r s' hr => ?_
  unfold InitBack
  split at hr
  · obtain ⟨rfl, g', o', c, e', hP⟩ := hr.out
    have C3 := Cx.after (s := { s with heap := h₁ }) (mu' := (dx, o') :: mu) C2 c (fun a ha => by simp at ha; subst ha; exact .head _) rfl (fun p hp hM => by
      rcases List.mem_cons.mp hp with rfl | hp
      · exact e'
      · have nd := C2.nd
        rw [List.map_cons, List.nodup_cons] at nd
        simp at hM
        exact absurd (hM ▸ List.mem_map.mpr ⟨p, hp, rfl⟩) nd.1) (fun p hp hM => by
      rcases List.mem_cons.mp hp with rfl | hp
      · simp at hM
      · exact .tail _ hp)
    obtain ⟨h', tk, rfl⟩ := c.sh
    exact ⟨rfl, k x dx o' g' h' tk (Nat.lt_trans hL hlt) hL (fun a o q => c.gg a o (hg₁ a o q)) (c.gg _ _ e₁) hP C3⟩
  · exact hr.elim
  · exact hr
theorem table_ok {w : World} {A : Around} {E : Value → Shared → Prop} {s : Shared} {g : Heap} {v : Value} {qs : List Pair} {full : Bool} {ps : Array Value} (G : Gd w g) (gs : g.StaysIn s.heap) (R : Rm A 13) (ht : s.heap.get? 237 = some (tabObj ps)) (hgt : g.get? 237 = none) (hps : TabIs g lamE.2.2.2 lamQ ps)
    (hr : Rd g v (pairsD qs)) (hx : ∀ x ∈ textsOf qs, TxI x) (hq : qs.length ≤ 10) (h1 : 1 ≤ qs.length) (hok : ∀ p ∈ shownP full qs, OkP p) :
    wpAny (model P0 w) A (call (.ref 276) [v, .bool full]) (fun v s' => Done (∃ g' T dx l t vs n ps', Ct [237] s g s' g' ∧ v = .ref T ∧ g'.get? T = some (instObj 224 dx) ∧ g'.get? dx = some (hdD w t l) ∧ s.heap.objs.size ≤ l ∧ g'.get? l = none ∧ s'.heap.get? l = some (lst vs n) ∧ RdAll g' vs ((shownP full qs).map pairD) ∧ s'.heap.get? 237 = some (tabObj ps') ∧ TabIs g' lamE.2.2.2 lamQ ps')) E s := by
  refine table_walk G gs R ht hgt hps hr hx hq h1 ?_
  intro env l vs n ps' m g₁ h₁ tk₁ hf hL hk hg₁ hl hv hps' C
  refine make_callC (P := fun x dx o' => ∃ t, o' = hdD w t l) C G (by rfl) (by rfl) (by rfl) ?_ ?_
  · intro x dx g₂ h₂ hg hx hLd C2
    have hlm := C2.mt (l, lst vs n) (.tail _ (.head _))
    have hdm := C2.mt (dx, dictOf [] 0) (.head _)
    have hne : dx ≠ l := by have := C2.nd; simp at this; exact this.1.1
    have up := more_le (a := l) C2.gk
    refine codeAny_mono (init_ok (E := NoE) (s := ⟨h₂, _, _, _, _⟩) (g := more g₂ h₂ l) (((G.up hg₁).up hg).up up) more_in (R.deeper.under.le) (up _ _ hx) hdm.1 ?_ (more_self.trans hlm.1) ((hv.up hg).up up) hok (by rw [shownP_length]; omega)) fun r s' hr => ?_
    · cases q : (more g₂ h₂ l).get? dx with
      | none => rfl
      | some o =>
        rcases more_new C2.gk q with q | q
        · rw [hdm.2.2.1] at q; cases q
        · exact absurd q hne
    · split at hr
      · obtain ⟨rfl, g', t, c, e⟩ := hr.out
        obtain ⟨g'', c', _⟩ := c.forget C2.gk hlm.2.2.1 (Heap.lt_size hlm.1)
        exact Done.mk ⟨rfl, g'', _, c', e, t, rfl⟩
      · exact hr.elim
      · exact hr.elim
  · rintro x dx _ g₂ h₂ tk₂ hLx hLd hg₂ hx ⟨t, rfl⟩ C2
    obtain ⟨g₃, hg₃, e₃, C3⟩ := C2.frz hLd
    exact Done.mk ⟨g₃, x, dx, l, t, vs, n, ps', C3.done (M := [237]) (Nat.le_refl _) ⟨_, _, rfl⟩, rfl, hg₃ _ _ hx, e₃, Nat.le_of_lt hl, (C3.mt _ (.head _)).2.2.1, C3.at (.head _), hv.up fun a o e => hg₃ a o (hg₂ a o e), C3.at (by walk_at "mem"), hps'.up fun a o e => hg₃ a o (hg₂ a o e)⟩
set_option maxHeartbeats 1000000
noncomputable def frs (l : List Env) : List Addr := l.filterMap (·.frame)
/-- an exception under way out of a call that began in s; l are the frames still to be left -/
structure Fly (l : List Env) (M : List Addr) (s : Shared) (cls : Value) (PP : Heap → Value → Heap → Prop) (e : Value) (s' : Shared) : Prop where
  ex : ∃ ea a0 B, e = .ref ea ∧ Heap.FlyingW B l ea cls a0 s'.heap ∧ (∀ b o, s.heap.get? b = some o → b ∉ frs l → b ∉ M → B.get? b = some o) ∧ PP B a0 s'.heap
  fr : ∀ b ∈ frs l, ∀ o, s.heap.get? b = some o → ∃ sl, s'.heap.get? b = some { o with slots := sl }
  sh : ∃ h' tk, s' = { s with heap := h', toks := tk }
noncomputable def Stb (PP : Heap → Value → Heap → Prop) : Prop := ∀ B a0 h h', PP B a0 h → h.UpToSlots h' → PP B a0 h'
/-- the frames of the stack stand in the heap -/
noncomputable abbrev Frs (h : Heap) (l : List Env) : Prop := h.FunFrames ⟨#[], h.life⟩ l
theorem funFrames_to {h b b' : Heap} : ∀ {l : List Env}, h.FunFrames b l → (∀ a ∈ frs l, b'.get? a = none) → h.FunFrames b' l
  | [], _, _ => trivial
  | env :: r, ⟨hk, ⟨L, o, hf, hn, ho, hd⟩, hr⟩, q => by
    have e : frs (env :: r) = L :: frs r := by simp [frs, List.filterMap_cons, hf]
    exact ⟨hk, ⟨L, o, hf, q L (e ▸ .head _), ho, hd⟩, funFrames_to hr fun a ha => q a (e ▸ .tail _ ha)⟩
theorem funFrames_mono {h h' b : Heap} : ∀ {l : List Env}, h.FunFrames b l → (∀ a ∈ frs l, ∀ o, h.get? a = some o → (∀ vs, o.data ≠ .fields vs) → ∃ o', h'.get? a = some o' ∧ o'.data = o.data) → h'.FunFrames b l
  | [], _, _ => trivial
  | env :: r, ⟨hk, ⟨L, o, hf, hn, ho, hd⟩, hr⟩, q => by
    have e : frs (env :: r) = L :: frs r := by simp [frs, List.filterMap_cons, hf]
    obtain ⟨o', ho', hd'⟩ := q L (e ▸ .head _) o ho hd
    exact ⟨hk, ⟨L, o', hf, hn, ho', fun vs => hd' ▸ hd vs⟩, funFrames_mono hr fun a ha => q a (e ▸ .tail _ ha)⟩
theorem funFrames_get {h b : Heap} {l : List Env} (x : h.FunFrames b l) {a : Addr} (ha : a ∈ frs l) : ∃ o, h.get? a = some o ∧ ∀ vs, o.data ≠ .fields vs := (x.mem ha).2
theorem frs_cons {env : Env} {r : List Env} {L : Addr} (hf : env.frame = some L) : frs (env :: r) = L :: frs r := by simp [frs, List.filterMap_cons, hf]
theorem Frs.keep {h h' : Heap} {l : List Env} (F : Frs h l) (k : ∀ a ∈ frs l, ∀ o, h.get? a = some o → ∃ sl, h'.get? a = some { o with slots := sl }) : Frs h' l :=
  funFrames_to (funFrames_mono F fun a ha o e _ => let ⟨sl, e'⟩ := k a ha o e; ⟨_, e', rfl⟩) fun a _ => by simp [Heap.get?]
theorem Frs.lt {h : Heap} {l : List Env} (F : Frs h l) {a : Addr} (ha : a ∈ frs l) : a < h.objs.size := let ⟨_, e, _⟩ := funFrames_get F ha; Heap.lt_size e
theorem Frs.push {h b g₀ g : Heap} {l : List Env} {env : Env} {L : Addr} {m : Str → Option Value} {mu : List (Addr × Obj)} {ks : List At} (F : Frs h l) (C : Cx b g₀ L m mu ks g h) (hf : env.frame = some L) (hk : env.scope.kind = .function) : Frs h (env :: l) := by
  obtain ⟨o, es, ep, ho, hd, _⟩ := C.ns
  exact ⟨by rw [hk]; decide, ⟨L, o, hf, by simp [Heap.get?], ho, fun vs q => by rw [hd] at q; cases q⟩, F⟩
section
variable {Mo : Model} {A : Around} {E : Value → Shared → Prop} {s s₁ s' : Shared} {g₀ g : Heap} {env : Env} {outer : List Env} {L : Addr} {m : Str → Option Value} {mu : List (Addr × Obj)} {ks : List At} {M M₁ : List Addr} {cls : Value} {PP PP' : Heap → Value → Heap → Prop} {Q : Unit → Shared → Prop}
/-- what stood in s stands in s₁ -/
theorem Cx.old (C : Cx (hideAll s.heap M) g₀ L m mu ks g s₁.heap) {a : Addr} {o : Obj} (e : s.heap.get? a = some o) (ha : a ∉ M) : s₁.heap.get? a = some o := C.bk _ _ (hideAll_get _ e ha)
theorem Frs.at (F : Frs s.heap outer) (C : Cx (hideAll s.heap M) g₀ L m mu ks g s₁.heap) (hFM : ∀ a ∈ frs outer, a ∉ M) : Frs s₁.heap outer := F.keep fun a ha o e => ⟨o.slots, C.old e (hFM a ha)⟩
theorem Fly.down (hf : env.frame = some L) (C : Cx (hideAll s.heap M) g₀ L m mu ks g s₁.heap) (hL : s.heap.objs.size ≤ L) (F : Frs s.heap outer) (hFM : ∀ a ∈ frs outer, a ∉ M) (hM₁ : ∀ a ∈ M₁, a ∈ M ∨ s.heap.objs.size ≤ a) (hs : ∃ h' tk, s₁ = { s with heap := h', toks := tk })
    {ea : Addr} {a0 : Value} {B h'' : Heap} (hfl : Heap.FlyingW B outer ea cls a0 h'') (hkp : ∀ b o, s₁.heap.get? b = some o → b ∉ frs (env :: outer) → b ∉ M₁ → B.get? b = some o)
    (hfr : ∀ b ∈ frs (env :: outer), ∀ o, s₁.heap.get? b = some o → ∃ sl, s'.heap.get? b = some { o with slots := sl }) (hsh : ∃ h' tk, s' = { s₁ with heap := h', toks := tk }) (hsm : s'.heap.UpToSlots h'') (hPP : PP' B a0 h'') :
    Fly outer M s cls PP' (.ref ea) { s' with heap := h'' } where
  ex := ⟨ea, a0, B, rfl, hfl, fun b o e hb hm => hkp b o (C.old e hm) (fun q => by
      rw [frs_cons hf] at q
      rcases List.mem_cons.mp q with q | q
      · have := Heap.lt_size e
        rw [q] at this
        exact absurd this (Nat.not_lt.mpr hL)
      · exact hb q) fun q => (hM₁ b q).elim hm fun z => absurd (Heap.lt_size e) (Nat.not_lt.mpr z), hPP⟩
  fr := fun b hb o e => by
    obtain ⟨sl, e'⟩ := hfr b (by rw [frs_cons hf]; exact .tail _ hb) o (C.old e (hFM b hb))
    obtain ⟨o₂, e₂, hd₂⟩ := funFrames_get F hb
    rw [e] at e₂; cases e₂
    obtain ⟨sl', e''⟩ := hsm b _ e' hd₂
    exact ⟨sl', e''⟩
  sh := by
    obtain ⟨h1, t1, rfl⟩ := hs
    obtain ⟨h2, t2, rfl⟩ := hsh
    exact ⟨_, _, rfl⟩
/-- an exception goes through a frame -/
theorem Fly.leave {e : Value} (y : Fly (env :: outer) M₁ s₁ cls PP e s') (hA : A.frames = some outer) (hf : env.frame = some L) (C : Cx (hideAll s.heap M) g₀ L m mu ks g s₁.heap) (hL : s.heap.objs.size ≤ L) (F : Frs s.heap outer) (hFM : ∀ a ∈ frs outer, a ∉ M) (hM₁ : ∀ a ∈ M₁, a ∈ M ∨ s.heap.objs.size ≤ a) (hs : ∃ h' tk, s₁ = { s with heap := h', toks := tk })
    (hPP : ∀ B a0 h h', PP B a0 h → h.UpToSlots h' → (∀ b o, s₁.heap.get? b = some o → b ∉ frs (env :: outer) → b ∉ M₁ → B.get? b = some o) → PP' B a0 h') (k : ∀ s'', Fly outer M s cls PP' e s'' → Q () s'') :
    wpAny Mo (A.deeper env) (leaving env e) Q E s' := by
  obtain ⟨ea, a0, B, rfl, hfl, hkp, hpp⟩ := y.ex
  exact wpAny_leaves_onW (Around.frames_deeper hA) hf hfl fun h'' x1 x2 => k _ (Fly.down hf C hL F hFM hM₁ hs x1 hkp y.fr y.sh x2 (hPP _ _ _ _ hpp x2 hkp))
theorem setFlight_held {base : Heap} {l : List Env} {e L : Addr} {a0 : Value} (R : Heap.HeldW base l e cls a0 L s.heap)
    (h : ∀ h', Heap.HeldW base l e cls a0 L h' → s.heap.UpToSlots h' → Q () { s with heap := h' }) : wpAny Mo A (setFlight (.ref e) (some L)) Q E s := by
  obtain ⟨hkb, hen, hl, oe, vs, T, oT, ts, he, hcls, hd, h1, hnT, hTe, hT, hdT, h3⟩ := R
  have hsz3 : 3 < ts.size := (Array.getElem?_eq_some_iff.mp h3).1
  have other : ∀ b, b ≠ T → (s.heap.update T (Obj.mapFields (·.setIfInBounds 3 ((some L).elim Value.none fun f => rawInt f)))).get? b = s.heap.get? b := fun b hb => Heap.get?_update_other _ _ (Ne.symm hb)
  have noRecord : ∀ b o, s.heap.get? b = some o → (∀ vs, o.data ≠ .fields vs) → b ≠ T := fun b o hb hnf q => by
    rw [q, hT] at hb; cases hb; exact hnf ts hdT
  unfold setFlight
  refine wpAny_bind (wpAny_field he hd h1 ?_)
  rw [if_pos (show (Value.ref T != Value.none) = true from by simp)]
  refine wpAny_setField hT hdT hsz3 (h _ ⟨fun b o hbo => (other b fun q => by rw [q, hnT] at hbo; cases hbo).trans (hkb b o hbo), hen,
    hl.of_keeps fun b o hb hnf => ⟨o, (other b (noRecord b o hb hnf)).trans hb, rfl⟩, ?_⟩ fun b o hb hnf => ⟨o.slots, (other b (noRecord b o hb hnf)).trans hb⟩)
  exact ⟨oe, vs, T, _, _, (other e (Ne.symm hTe)).trans he, hcls, hd, h1, hnT, hTe, Heap.get?_update_self _ hT (Obj.isFreed_of_fields (Obj.data_mapFields hdT _)), Obj.data_mapFields hdT _, by simp [hsz3]⟩
/-- an exception goes out of a loop and through the loop's frame -/
theorem Fly.loop {e : Value} {Q : Value → Shared → Prop} (y : Fly (env :: outer) M₁ s₁ cls PP e s') (hA : A.frames = some outer) (hf : env.frame = some L) (C : Cx (hideAll s.heap M) g₀ L m mu ks g s₁.heap) (hL : s.heap.objs.size ≤ L) (F : Frs s.heap outer) (hFM : ∀ a ∈ frs outer, a ∉ M) (hM₁ : ∀ a ∈ M₁, a ∈ M ∨ s.heap.objs.size ≤ a) (hs : ∃ h' tk, s₁ = { s with heap := h', toks := tk })
    (hPP : ∀ B a0 h h', PP B a0 h → h.UpToSlots h' → (∀ b o, s₁.heap.get? b = some o → b ∉ frs (env :: outer) → b ∉ M₁ → B.get? b = some o) → PP' B a0 h') (k : ∀ s'', Fly outer M s cls PP' e s'' → Q e s'') :
    notedBy Mo (A.deeper env) env (cameBackBy Mo (A.deeper env) env (fun e s' => wpAny Mo (A.deeper env) (leaving env e) (fun _ s'' => Q e s'') E s')) e s' := by
  obtain ⟨ea, a0, B, rfl, hfl, hkp, hpp⟩ := y.ex
  unfold notedBy
  refine wpAny_looks_onW (Around.frames_deeper hA) hf hfl fun h₁ hh₁ hm₁ => ?_
  unfold cameBackBy
  have hh₁' := hh₁
  obtain ⟨_, _, _, oe, vs, T, oT, ts, he, hcls, hd, h1, _⟩ := hh₁'
  refine wpAny_bind (wpAny_field (s := { s' with heap := h₁ }) he hd h1 ?_)
  rw [if_neg (by simp)]
  rw [hf]
  refine setFlight_held (s := { s' with heap := h₁ }) hh₁ fun h₂ hh₂ hm₂ => ?_
  unfold leaving
  refine wpAny_bind (wpAny_noteFrame_againW (s := { s' with heap := h₂ }) hf hh₂.2.2.2 ?_)
  refine wpAny_landsW (s := { s' with heap := h₂ }) hh₂ fun h₃ hfl₃ hm₃ => ?_
  obtain ⟨k1, k2, ⟨_, _, k3⟩, k4⟩ := hfl₃
  have hsm := (hm₁.trans hm₂).trans hm₃
  exact k _ (Fly.down (s' := s') hf C hL F hFM hM₁ hs ⟨k1, k2, k3, k4⟩ hkp y.fr y.sh hsm (hPP _ _ _ _ hpp hsm hkp))
noncomputable def Args (args : List Value) : Heap → Value → Heap → Prop := fun B a0 h => ∃ t, a0 = .ref t ∧ h.TupAt t args ∧ B.get? t = none
/-- a new exception goes out of the frame that raised it -/
theorem fly_first {ea : Addr} {args : List Value} {h : Heap} (hx : Heap.MadeExcOf h s'.heap ea cls args) (hs' : ∃ h' tk, s' = { s with heap := h', toks := tk }) (hA : A.frames = some outer) (hf : env.frame = some L) (hk : env.scope.kind = .function) (C : Cx (hideAll s.heap M) g₀ L m mu ks g h) (hL : s.heap.objs.size ≤ L) (F : Frs s.heap outer) (hFM : ∀ a ∈ frs outer, a ∉ M)
    (k : ∀ s'', Fly outer M s cls (Args args) (.ref ea) s'' → Q () s'') : wpAny Mo (A.deeper env) (leaving env (.ref ea)) Q E s' := by
  have C' : Cx (hideAll s.heap M) g₀ L m mu ks g ({ s with heap := h } : Shared).heap := C
  have Fo := F.at C' hFM
  have F1 := Fo.push C' hf hk
  refine wpAny_leaves_madeW (base := hideAll h (frs (env :: outer))) (Around.frames_deeper hA) hf (fun b o e => of_hideAll _ e) (funFrames_to F1 fun a ha => hideAll_none _ ha) hx fun h' t x1 x2 x3 x4 => ?_
  have hsm : h.UpToSlots h' := (Heap.UpToSlots.of_keeps hx.keeps).trans x4
  refine k _ (Fly.down (s₁ := { s with heap := h }) (s' := s') (M₁ := []) hf C' hL F hFM (fun _ h => nomatch h) ⟨_, _, rfl⟩ x1 (fun b o e hb _ => hideAll_get _ e hb) (fun b hb o e => ⟨o.slots, hx.keeps b o e⟩) ?_ x4 ⟨t, rfl, x2, x3⟩)
  obtain ⟨h2, t2, rfl⟩ := hs'
  exact ⟨_, _, rfl⟩
end
set_option maxHeartbeats 1000000
noncomputable abbrev msgS : Str := Str.ofString "Control characters not allowed in headers"
theorem truthy_match {M : Model} {A : Around} {E : Value → Shared → Prop} {s : Shared} {a : Addr} {o : Obj} {Q : Bool → Shared → Prop} (e : s.heap.get? a = some o) (hc : o.cls = .type "re.Match") (h : Q true s) : wpAny M A (truthy (.ref a)) Q E s := by
  have hT : s.TypeIs (.ref a) "re.Match" := ⟨o, e, hc⟩
  unfold truthy callSpecial?
  refine wpAny_bind (wpAny_bind (wpAny_specialOf (r := none) hT (by rw [typeLookup_type, builtinLookup_eq_fast]; kernel_rfl) (wpAny_pure ?_)))
  refine wpAny_bind (wpAny_specialOf (r := none) hT (by rw [typeLookup_type, builtinLookup_eq_fast]; kernel_rfl) ?_)
  exact wpAny_pure h
theorem conv_bad' {w : World} {A : Around} {E : Value → Shared → Prop} {s : Shared} {g : Heap} {c : Nat} {t : Tok} {sv : Value} {nm : Bool} {outer : List Env} (G : Gd w g) (gs : g.StaysIn s.heap) (R : Rm A 3) (hA : A.frames = some outer) (F : Frs s.heap outer) (hc : c ∈ [0, 9, 10, 31, 127]) (hb : bad nm c = true)
    (h : ∀ e s' u, Fly outer [] s (.type "ValueError") (Args [.str msgS u]) e s' → E e s') :
    wpAny (model P0 w) A (call (.ref 125) [sv, .str ⟨#[98, c]⟩ t] [(Str.ofString "name", .bool nm)]) (fun v s' => False) E s := by
  refine call_fn (binds := [(Str.ofString "self", sv), (Str.ofString "value", .str ⟨#[98, c]⟩ t), (Str.ofString "name", .bool nm)]) [] [] G gs R.lt (G.k 125 _ rfl) rfl (codeRec_of G.k rfl) (BindsTo.of_eq rfl) (locs rfl) (fun _ h => nomatch h) .nil (fun _ h => nomatch h) ?_ (by decide)
  intro h₁ tk C
  cases nm
  all_goals repeat walk1
  all_goals rename Cx _ _ _ _ _ _ _ _ => C1
  · refine method_search (nm := false) (G.up C1.up0) ?_
    repeat walk1
    refine search_bad (nm := false) (G.up C1.up0) hc hb ?_
    intro a h' o k l e e1 e2
    have C2 := C1.keep k
    clear C1
    repeat walk1
    refine truthy_match e e1 ?_
    repeat walk1
    refine Raise_madeB PySem.F.excCall_ValueError PySem.F.excRaise_ValueError (by walk_at "hh") ?_
    refine nm_boot C2 G (by rfl) (by boot_by_name) (by decide) ⟨rfl, ?_⟩
    repeat walk1
    rename_i h₂ ea hx
    refine fly_first hx.of ⟨_, _, rfl⟩ hA rfl rfl C2 (Nat.le_refl _) F (fun _ _ h => nomatch h) fun s'' y => h _ _ _ y
  · refine method_search (nm := true) (G.up C1.up0) ?_
    repeat walk1
    refine search_bad (nm := true) (G.up C1.up0) hc hb ?_
    intro a h' o k l e e1 e2
    have C2 := C1.keep k
    clear C1
    repeat walk1
    refine truthy_match e e1 ?_
    repeat walk1
    refine Raise_madeB PySem.F.excCall_ValueError PySem.F.excRaise_ValueError (by walk_at "hh") ?_
    refine nm_boot C2 G (by rfl) (by boot_by_name) (by decide) ⟨rfl, ?_⟩
    repeat walk1
    rename_i h₂ ea hx
    refine fly_first hx.of ⟨_, _, rfl⟩ hA rfl rfl C2 (Nat.le_refl _) F (fun _ _ h => nomatch h) fun s'' y => h _ _ _ y
set_option maxHeartbeats 1000000
section
variable {w : World} {A : Around} {s : Shared} {b g₀ g : Heap} {env : Env} {m : Str → Option Value} {mu : List (Addr × Obj)} {ks : List At}
/-- a for of two turns, the second of which raises -/
theorem for_two {target : PySem.Expr} {body : List Stmt} {I : Addr} {oI : Obj} {P : Nat → Value → Prop} {Q : Flow → Shared → Prop} {X : Value → Shared → Prop}
    (it : ItOk w A g I 2 P s.heap) (C : Cx b g₀ env.locals m ((I, oI) :: mu) ks g s.heap) (J : (Str → Option Value) → List (Addr × Obj) → List At → Prop)
    (step0 : ∀ v h₁ tk₁ o₁, P 0 v → Cx b g₀ env.locals m ((I, o₁) :: mu) ks g h₁ → wpAny (model P0 w) A (assign target env v) (fun _ s₂ => wpAny (model P0 w) A (execs body env) (fun fl s₃ =>
      Done (fl = .next ∧ ∃ m₂ mu₂ ks₂ g₂, Cx b g₀ env.locals m₂ ((I, o₁) :: mu₂) ks₂ g₂ s₃.heap ∧ g.StaysIn g₂ ∧ J m₂ mu₂ ks₂ ∧ ∃ h tk, s₃ = { s with heap := h, toks := tk })) NoE s₂) NoE { s with heap := h₁, toks := tk₁ })
    (step1 : ∀ v m₁ mu₁ ks₁ g₁ h₁ tk₁ o₁, P 1 v → J m₁ mu₁ ks₁ → g.StaysIn g₁ → Cx b g₀ env.locals m₁ ((I, o₁) :: mu₁) ks₁ g₁ h₁ →
      wpAny (model P0 w) A (assign target env v) (fun _ s₂ => wpAny (model P0 w) A (execs body env) (fun _ _ => False) (notedBy (model P0 w) A env X) s₂) (notedBy (model P0 w) A env X) { s with heap := h₁, toks := tk₁ }) :
    codeAny (model P0 w) A (.forLoop target (.ref I) body [] env) (fun r s' => match r with | .ok f => Q f s' | .error e => X e s') s := by
  obtain ⟨fp, St, W, hst, hc, hfp⟩ := it.ex
  have keepSt : ∀ {j : Nat} {h₁ h₂ : Heap}, St j h₁ → (∀ o, h₁.get? I = some o → h₂.get? I = some o) → (∀ a o, g.get? a = some o → h₁.get? a = some o) → (∀ a o, g.get? a = some o → h₂.get? a = some o) → St j h₂ := fun hs e1 e3 e2 =>
    W.frame _ _ _ hs fun a ha o e => by
      rcases hfp a ha with rfl | ⟨o', q⟩
      · exact e1 o e
      · have z := e3 a o' q
        rw [e] at z; cases z
        exact e2 a o q
  refine codeAny_forLoop_any (fun k s' => (k = 1 ∧ s' = s) ∨ (k = 0 ∧ ∃ m₁ mu₁ ks₁ g₁ o₁, J m₁ mu₁ ks₁ ∧ g.StaysIn g₁ ∧ Cx b g₀ env.locals m₁ ((I, o₁) :: mu₁) ks₁ g₁ s'.heap ∧ St 1 s'.heap ∧ ∃ h tk, s' = { s with heap := h, toks := tk })) ?_ 1 (.inl ⟨rfl, rfl⟩)
  rintro k s' (⟨rfl, rfl⟩ | ⟨rfl, m₁, mu₁, ks₁, g₁, o₁, hJ, hg, C₁, hst₁, h, tk, rfl⟩)
  · refine W.item 0 _ _ _ (by decide) hst fun v h₂ tk₂ hP hst₂ hk => ?_
    obtain ⟨o₂, _, _, ho₂, _⟩ := hc _ _ hst₂
    have C₂ := C.turn hk ho₂
    refine noRaise (noLet_of hc _ 1 v _ _ hst₂ ?_)
    refine noRaise (wpAny_mono (step0 v h₂ tk₂ o₂ hP C₂) (fun _ s₂ h₃ => noRaise (wpAny_mono h₃ (fun fl s₃ h₄ => ?_) fun _ _ x => x)) fun _ _ x => x)
    obtain ⟨rfl, m₂, mu₂, ks₂, g₂, C₃, hg₂, hJ₂, e⟩ := h₄.out
    refine ⟨0, by decide, .inr ⟨rfl, m₂, mu₂, ks₂, g₂, o₂, hJ₂, hg₂, C₃, ?_, e⟩⟩
    refine keepSt hst₂ (fun o q => ?_) (fun a o q => C₂.gk a o q) (fun a o q => C₃.gk a o (hg₂ a o q))
    rw [ho₂] at q; cases q
    exact (C₃.mt _ (.head _)).1
  · refine W.item 1 _ _ _ (by decide) hst₁ fun v h₂ tk₂ hP hst₂ hk => ?_
    obtain ⟨o₂, _, _, ho₂, _⟩ := hc _ _ hst₂
    have C₂ := C₁.turn hk ho₂
    refine noRaise (noLet_of hc _ 2 v _ _ hst₂ ?_)
    exact wpAny_mono (step1 v m₁ mu₁ ks₁ g₁ h₂ tk₂ o₂ hP hJ hg C₂) (fun _ s₂ h₃ => wpAny_mono h₃ (fun fl s₃ h₄ => h₄.elim) fun _ _ x => x) fun _ _ x => x
end
/-- the pair that is refused -/
noncomputable def badP (nm : Bool) (c : Nat) : Pair := if nm then (S [98, c], S [98]) else (S [98], S [98, c])
theorem Args.stb {args : List Value} : Stb (Args args) := fun _ _ _ _ ⟨t, e, h1, h2⟩ k => ⟨t, e, h1.of_slots k, h2⟩
theorem init_bad {w : World} {A : Around} {E : Value → Shared → Prop} {s : Shared} {g : Heap} {x dx l : Addr} {vs : List Value} {n : Nat} {p : Pair} {nm : Bool} {c : Nat} {outer : List Env} (G : Gd w g) (gs : g.StaysIn s.heap) (R : Rm A 6) (hA : A.frames = some outer) (F : Frs s.heap outer) (hFd : dx ∉ frs outer)
    (hx : g.get? x = some (instObj 224 dx)) (hdx : s.heap.get? dx = some (dictOf [] 0)) (hgd : g.get? dx = none) (hl : g.get? l = some (lst vs n)) (hv : RdAll g vs ([p, badP nm c].map pairD)) (hp : OkP p) (hc : c ∈ [0, 9, 10, 31, 127]) (hb : bad nm c = true)
    (h : ∀ e s' u, Fly outer [dx] s (.type "ValueError") (Args [.str msgS u]) e s' → E e s') :
    codeAny (model P0 w) A (.call (.ref 118) ⟨[.ref x, .ref l], []⟩) (fun r s' => match r with | .ok (.ret v) => Done False | .ok _ => False | .error e => E e s') s := by
  have hlen := hv.length
  have hFM : ∀ a ∈ frs outer, a ∉ [dx] := fun a ha q => hFd (List.mem_singleton.mp q ▸ ha)
  refine code_fn (Q := fun v s' => Done False) (binds := [(Str.ofString "self", .ref x), (Str.ofString "headers", .ref l)]) [(dx, dictOf [] 0)] [] G gs R.lt (G.k 118 _ rfl) rfl (codeRec_of G.k rfl) (binds_K (G.k.keeps gs) rfl rfl rfl rfl rfl) (locs rfl) ?_ (by simp) (fun _ h => nomatch h) ?_ (by decide)
  · intro p hp; simp at hp; subst hp; exact ⟨hdx, hgd⟩
  intro h₁ tk C
  repeat walk1
  rename Cx _ _ _ _ _ _ _ _ => C1
  refine it_lst C1 R.hd hl ?_
  intro I oI h₂ it C2
  clear C1
  rw [hlen, List.length_map, show [p, badP nm c].length = 2 from rfl] at it
  refine for_two it C2 (fun m₁ mu₁ ks₁ => m₁ (Str.ofString "self") = some (.ref x) ∧ ks₁ = [] ∧ ∃ t, mu₁ = [(dx, hdD w t l)]) ?_ ?_
  · intro v h₃ tk₃ o₁ hvi C3
    obtain ⟨p', a, t, u, hpi, rfl, hpa⟩ := hv.pairAt hvi
    cases hpi
    clear C2
    repeat walk1
    (rename Cx _ _ _ _ _ _ _ _ => cO; refine cx_call cO (conv_ok (nm := true) (by walk_at "gd") (by walk_at "gk") (by walk_at "room") hp.2.2.1 hp.1) ?_; clear cO)
    rintro _ g₂ h₄ tk₄ hg₂ rfl C4
    repeat walk1
    (rename Cx _ _ _ _ _ _ _ _ => cO; refine cx_call cO (conv_ok (nm := false) (by walk_at "gd") (by walk_at "gk") (by walk_at "room") hp.2.2.2 hp.2.1) ?_; clear cO)
    rintro _ g₃ h₅ tk₅ hg₃ rfl C5
    repeat walk1
    exact Done.mk ⟨rfl, _, _, _, _, C5, fun a o e => hg₃ a o (hg₂ a o e), ⟨rfl, rfl, _, rfl⟩, _, _, rfl⟩
  · rintro v m₁ mu₁ ks₁ g₁ h₃ tk₃ o₁ hvi ⟨hm, rfl, t', rfl⟩ hg₁ C3
    obtain ⟨p', a, t, u, hpi, rfl, hpa⟩ := hv.pairAt hvi
    cases hpi
    clear C2
    cases nm
    · repeat walk1
      (rename Cx _ _ _ _ _ _ _ _ => cO; refine cx_call cO (conv_ok (x := (badP false c).1) (nm := true) (by walk_at "gd") (by walk_at "gk") (by walk_at "room") (show (S [98]).length ≤ 1000 by decide) (show ∀ d ∈ (S [98]).cps.toList, bad true d = false by decide)) ?_; clear cO)
      rintro _ g₂ h₄ tk₄ hg₂ rfl C4
      repeat walk1
      refine wpAny_mono (conv_bad' (c := c) (nm := false) (E := fun e s' => ∃ u, Fly (_ :: outer) [] _ (.type "ValueError") (Args [.str msgS u]) e s') (by walk_at "gd") (by walk_at "gk") (by walk_at "room") (Around.frames_deeper hA) ((F.at (s₁ := ⟨h₄, _, _, _, _⟩) C4 hFM).push C4 rfl rfl) hc hb fun e s' u y => ⟨u, y⟩) (fun _ _ f => f.elim) fun e s' ⟨u, y⟩ => ?_
      exact Fly.loop (Q := E) y hA rfl C4 (Nat.le_refl _) F hFM (fun _ h => nomatch h) ⟨_, _, rfl⟩ (fun B a0 h h' p k _ => Args.stb _ _ _ _ p k) fun s'' y => h _ _ _ y
    · repeat walk1
      rename Cx _ _ _ _ _ _ _ _ => C4
      refine wpAny_mono (conv_bad' (c := c) (nm := true) (E := fun e s' => ∃ u, Fly (_ :: outer) [] _ (.type "ValueError") (Args [.str msgS u]) e s') (by walk_at "gd") (by walk_at "gk") (by walk_at "room") (Around.frames_deeper hA) ((F.at (s₁ := ⟨_, _, _, _, _⟩) C4 hFM).push C4 rfl rfl) hc hb fun e s' u y => ⟨u, y⟩) (fun _ _ f => f.elim) fun e s' ⟨u, y⟩ => ?_
      exact Fly.loop (Q := E) y hA rfl C4 (Nat.le_refl _) F hFM (fun _ h => nomatch h) ⟨_, _, rfl⟩ (fun B a0 h h' p k _ => Args.stb _ _ _ _ p k) fun s'' y => h _ _ _ y
set_option maxHeartbeats 1000000
noncomputable def RefP (g : Heap) (n : Nat) (u : Tok) : Heap → Value → Heap → Prop := fun B a0 h => Args [.str msgS u] B a0 h ∧ ∃ ps' g₂, B.get? 237 = some (tabObj ps') ∧ TabIs g₂ lamE.2.2.2 lamQ ps' ∧ g.StaysIn g₂ ∧ g₂.StaysIn B ∧ (∀ a o, g₂.get? a = some o → g.get? a = some o ∨ n ≤ a) ∧ g₂.get? 237 = none
theorem table_bad {w : World} {A : Around} {E : Value → Shared → Prop} {s : Shared} {g : Heap} {v : Value} {qs : List Pair} {p : Pair} {nm : Bool} {c : Nat} {full : Bool} {ps : Array Value} {outer : List Env} (G : Gd w g) (gs : g.StaysIn s.heap) (R : Rm A 13) (hA : A.frames = some outer) (F : Frs s.heap outer) (hFg : ∀ a ∈ frs outer, g.get? a = none) (hF2 : 237 ∉ frs outer)
    (ht : s.heap.get? 237 = some (tabObj ps)) (hgt : g.get? 237 = none) (hps : TabIs g lamE.2.2.2 lamQ ps)
    (hr : Rd g v (pairsD qs)) (hx : ∀ x ∈ textsOf qs, TxI x) (hq : qs.length ≤ 10) (hsh : shownP full qs = [p, badP nm c]) (hp : OkP p) (hc : c ∈ [0, 9, 10, 31, 127]) (hb : bad nm c = true)
    (h : ∀ e s' u, Fly outer [237] s (.type "ValueError") (RefP g s.heap.objs.size u) e s' → E e s') :
    wpAny (model P0 w) A (call (.ref 276) [v, .bool full]) (fun v s' => False) E s := by
  have h1 : 1 ≤ qs.length := by have := shownP_length full qs; rw [hsh] at this; simp at this; omega
  refine table_walk G gs R ht hgt hps hr hx hq h1 ?_
  intro env l vs n ps' m g₁ h₁ tk₁ hf hL hk hg₁ hl hv hps' C
  rw [hsh] at hv
  refine make_cx C G (by rfl) (by rfl) (by rfl) fun x dx h₂ hLd hlt C1 => ?_
  obtain ⟨g₂, hg₂, e₂, C2⟩ := C1.frz (Nat.lt_trans hLd hlt)
  have hlm := C2.mt (l, lst vs n) (.tail _ (.head _))
  have hdm := C2.mt (dx, dictOf [] 0) (.head _)
  have htm := C2.mt (237, tabObj ps') (.tail _ (.tail _ (.head _)))
  have hne : dx ≠ l := by have := C2.nd; simp at this; exact this.1.1
  have hne2 : 237 ≠ dx := by have := C2.nd; simp at this; exact Ne.symm this.1.2
  have up := more_le (a := l) C2.gk
  have hFM : ∀ a ∈ frs outer, a ∉ [237] := fun a ha q => hF2 (List.mem_singleton.mp q ▸ ha)
  have Fe := (F.at (s₁ := { s with heap := h₂ }) C2 hFM).push (env := env) C2 hf hk
  have hFd : dx ∉ frs (env :: outer) := fun q => by
    rw [frs_cons hf] at q
    rcases List.mem_cons.mp q with q | q
    · rw [q] at hLd; exact Nat.lt_irrefl _ hLd
    · exact absurd (F.lt q) (Nat.not_lt.mpr (Nat.le_of_lt hLd))
  refine codeAny_mono (init_bad (E := fun e s' => ∃ u, Fly (env :: outer) [dx] _ (.type "ValueError") (Args [.str msgS u]) e s') (s := ⟨h₂, _, _, _, _⟩) (g := more g₂ h₂ l) (((G.up hg₁).up hg₂).up up) more_in (R.deeper.under.le) (Around.frames_deeper hA) Fe hFd (up _ _ e₂) hdm.1 ?_ (more_self.trans hlm.1) ((hv.up hg₂).up up) hp hc hb fun e s' u y => ⟨u, y⟩) fun r s' hr => ?_
  · cases q : (more g₂ h₂ l).get? dx with
    | none => rfl
    | some o =>
      rcases more_new C2.gk q with q | q
      · rw [hdm.2.2.1] at q; cases q
      · exact absurd q hne
  · unfold InitBack
    split at hr
    · exact hr.out.elim
    · exact hr.elim
    · obtain ⟨u, y⟩ := hr
      have hB : ∀ a o, g₂.get? a = some o → a ∉ frs (env :: outer) ∧ a ∉ [dx] := fun a o e => by
        refine ⟨fun q => ?_, fun q => ?_⟩
        · rw [frs_cons hf] at q
          rcases List.mem_cons.mp q with q | q
          · have := C2.gL; rw [← q, e] at this; cases this
          · rcases C2.gn a o e with z | z
            · rw [hFg a q] at z; cases z
            · exact absurd (F.lt q) (Nat.not_lt.mpr (Nat.le_of_lt z))
        · rw [List.mem_singleton.mp q, hdm.2.2.1] at e; cases e
      refine Fly.leave (Q := fun _ s'' => E _ s'') y hA hf C2 (Nat.le_refl _) F hFM (fun a ha => .inr (List.mem_singleton.mp ha ▸ Nat.le_of_lt hLd)) ⟨_, _, rfl⟩ (fun B a0 h h' p k kp => ⟨Args.stb _ _ _ _ p k, ps', g₂, kp _ _ htm.1 (fun q => ?_) (fun q => hne2 (List.mem_singleton.mp q)), hps'.up hg₂, fun a o e => hg₂ a o (hg₁ a o e), fun a o e => kp a o (C2.gk a o e) (hB a o e).1 (hB a o e).2, fun a o e => (C2.gn a o e).imp id Nat.le_of_lt, htm.2.2.1⟩) fun s'' y => h _ _ _ y
      rw [frs_cons hf] at q
      rcases List.mem_cons.mp q with q | q
      · exact htm.2.2.2 q
      · exact hF2 q
set_option maxHeartbeats 1000000
/-- the same objects, but for their slots -/
inductive SlU : List (Addr × Obj) → List (Addr × Obj) → Prop
  | nil : SlU [] []
  | cons {a : Addr} {o : Obj} (sl : Array (Option Value)) {r r' : List (Addr × Obj)} : SlU r r' → SlU ((a, o) :: r) ((a, { o with slots := sl }) :: r')
theorem SlU.refl : ∀ l : List (Addr × Obj), SlU l l
  | [] => .nil
  | (_, o) :: r => .cons o.slots (SlU.refl r)
theorem SlU.keys : ∀ {l l' : List (Addr × Obj)}, SlU l l' → l'.map (·.1) = l.map (·.1)
  | _, _, .nil => rfl
  | _, _, .cons _ r => by rw [List.map_cons, List.map_cons, r.keys]
theorem SlU.trans {l l' l'' : List (Addr × Obj)} (h : SlU l l') : SlU l' l'' → SlU l l'' := by
  induction h generalizing l'' with
  | nil => intro h; exact h
  | cons sl r ih =>
    intro h
    cases h with
    | cons sl' r' => exact .cons sl' (ih r')
theorem SlU.make {h : Heap} : ∀ {l : List (Addr × Obj)}, (∀ p ∈ l, ∃ sl, h.get? p.1 = some { p.2 with slots := sl }) → ∃ l', SlU l l' ∧ ∀ p ∈ l', h.get? p.1 = some p.2
  | [], _ => ⟨[], .nil, fun _ h => nomatch h⟩
  | (a, o) :: r, k => by
    obtain ⟨sl, e⟩ := k (a, o) (.head _)
    obtain ⟨r', u, f⟩ := SlU.make (l := r) fun p hp => k p (.tail _ hp)
    refine ⟨(a, { o with slots := sl }) :: r', .cons sl u, fun p hp => ?_⟩
    rcases List.mem_cons.mp hp with rfl | hp
    · exact e
    · exact f p hp
theorem SlU.back {l l' : List (Addr × Obj)} (u : SlU l l') : ∀ p ∈ l, ∃ sl, (p.1, { p.2 with slots := sl }) ∈ l' := by
  induction u with
  | nil => intro p hp; cases hp
  | cons sl r ih =>
    intro p hp
    rcases List.mem_cons.mp hp with rfl | hp
    · exact ⟨sl, .head _⟩
    · obtain ⟨sl', q⟩ := ih p hp
      exact ⟨sl', .tail _ q⟩
/-- the frames of the stack, as objects that may change -/
structure Stk (h g : Heap) (outer : List Env) (frl : List (Addr × Obj)) : Prop where
  keys : frl.map (·.1) = frs outer
  at' : ∀ p ∈ frl, h.get? p.1 = some p.2
  ng : ∀ p ∈ frl, g.get? p.1 = none
  fr : Frs h outer
  nd : (frl.map (·.1)).Nodup
  no : 237 ∉ frl.map (·.1)
theorem Stk.gF {h g : Heap} {outer : List Env} {frl : List (Addr × Obj)} (K : Stk h g outer frl) : ∀ a ∈ frs outer, g.get? a = none := fun a ha => by
  rw [← K.keys] at ha
  obtain ⟨p, hp, rfl⟩ := List.mem_map.mp ha
  exact K.ng p hp
theorem table_cx {w : World} {A : Around} {E : Value → Shared → Prop} {s : Shared} {b g₀ g : Heap} {L : Addr} {m : Str → Option Value} {mu : List (Addr × Obj)} {ks : List At} {v : Value} {qs : List Pair} {full : Bool} {ps : Array Value} {fm : Obj → List (Addr × Obj)} {Q : Value → Shared → Prop}
    (C : Cx b g₀ L m mu ks g s.heap) (G : Gd w g₀) (R : Rm A 13) (uf : UpF 237 (tabObj ps) mu fm) (hps : TabIs g lamE.2.2.2 lamQ ps) (hr : Rd g v (pairsD qs)) (hx : ∀ x ∈ textsOf qs, TxI x) (hq : qs.length ≤ 10) (h1 : 1 ≤ qs.length) (hok : ∀ p ∈ shownP full qs, OkP p)
    (k : ∀ T dx l t vs n ps' g' h' tk, g.StaysIn g' → L < l → g'.get? T = some (instObj 224 dx) → g'.get? dx = some (hdD w t l) → RdAll g' vs ((shownP full qs).map pairD) → TabIs g' lamE.2.2.2 lamQ ps' → Cx b g₀ L m ((l, lst vs n) :: fm (tabObj ps')) ks g' h' → Q (.ref T) { s with heap := h', toks := tk }) :
    wpAny (model P0 w) A (call (.ref 276) [v, .bool full]) Q E s := by
  have hm := C.mt _ (uf.up default).mem
  refine wpAny_mono (table_ok (G.up C.gg) C.gk R hm.1 hm.2.2.1 hps hr hx hq h1 hok) (fun v s' q => ?_) fun _ _ x => x
  obtain ⟨g', T, dx, l, t, vs, n, ps', c, rfl, hT, hdx, hsz, hgd, hd, hr, h237, hps'⟩ := q.out
  have C1 := C.after1 uf c h237
  have fr := C.none_of_ge hsz
  have C2 := C1.put hd fr.1 hgd fr.2.2 fun p hp q => by
    have : p.1 ∈ mu.map (·.1) := (uf.up (tabObj ps')).keys ▸ List.mem_map_of_mem hp
    obtain ⟨r, hr, e⟩ := List.mem_map.mp this
    have h1 := C.mu_lt hr
    rw [e, q] at h1
    exact absurd h1 (Nat.not_lt.mpr hsz)
  obtain ⟨h', tk, rfl⟩ := c.sh
  exact k T dx l t vs n ps' g' h' tk c.gg (Nat.lt_of_lt_of_le C.lt hsz) hT hdx hr hps' C2
/-- what made comes to -/
noncomputable def Made (s : Shared) (g : Heap) (frl : List (Addr × Obj)) (P : Value → Heap → Prop) (v : Value) (s' : Shared) : Prop :=
  ∃ g' frl' ps', Ct (237 :: frl.map (·.1)) s g s' g' ∧ SlU frl frl' ∧ (∀ p ∈ frl', s'.heap.get? p.1 = some p.2) ∧ s'.heap.get? 237 = some (tabObj ps') ∧ TabIs g' lamE.2.2.2 lamQ ps' ∧ P v g'
theorem made_ok {w : World} {A : Around} {E : Value → Shared → Prop} {s : Shared} {g : Heap} {v : Value} {qs : List Pair} {full : Bool} {ps : Array Value} {outer : List Env} {frl : List (Addr × Obj)} (G : Gd w g) (gs : g.StaysIn s.heap) (R : Rm A 15) (K : Stk s.heap g outer frl) (ht : s.heap.get? 237 = some (tabObj ps)) (hgt : g.get? 237 = none) (hps : TabIs g lamE.2.2.2 lamQ ps)
    (hr : Rd g v (pairsD qs)) (hx : ∀ x ∈ textsOf qs, TxI x) (hq : qs.length ≤ 10) (h1 : 1 ≤ qs.length) (hok : ∀ p ∈ shownP full qs, OkP p) :
    wpAny (model P0 w) A (call (.ref 283) [v, .bool full]) (fun v s' => Done (Made s g frl (fun v g' => Rd g' v (pairsD (shownP full qs))) v s')) E s := by
  obtain ⟨a, vs, n, rfl, ha, hA⟩ := hr.pairs
  refine call_fn (binds := [(Str.ofString "pairs", .ref a), (Str.ofString "full", .bool full)]) ((237, tabObj ps) :: frl) [] G gs R.lt (G.k 283 _ rfl) rfl (codeRec_of G.k rfl) (BindsTo.of_eq rfl) (locs rfl) (fun p hp => ?_) (List.nodup_cons.mpr ⟨K.no, K.nd⟩) (fun _ h => nomatch h) ?_ (by decide)
  · rcases List.mem_cons.mp hp with rfl | hp
    · exact ⟨ht, hgt⟩
    · exact ⟨K.at' p hp, K.ng p hp⟩
  intro h₁ tk C
  repeat walk1
  refine wpAny_Try_except ?_
  repeat walk1
  refine table_cx C G (by walk_at "room") .head hps hr hx hq h1 hok ?_
  intro T dx l t us k ps' g₂ h₂ tk₂ hg₂ hl hT hdx hus hps' C2
  clear C
  repeat walk1
  have hul := hus.length
  rw [List.length_map, shownP_length] at hul
  refine cx_call C2 (items_spec (by walk_at "gd") (by walk_at "gk") (by walk_at "room") hT hdx (C2.at (.head _)) (C2.mt _ (.head _)).2.2.1 (by omega)) ?_
  rintro _ g₃ h₃ tk₃ hg₃ ⟨a₃, k₃, rfl, e₃⟩ C3
  refine Done.mk ⟨g₃, frl, ps', C3.done (M := 237 :: frl.map (·.1)) (Nat.le_refl _) ⟨_, _, rfl⟩, .refl _, fun p hp => C3.at (.tail _ (.tail _ hp)), C3.at (.tail _ (.head _)), hps'.up hg₃, .list e₃ (hus.up hg₃)⟩
set_option maxHeartbeats 1000000
section
variable {w : World} {A : Around} {E : Value → Shared → Prop} {s₁ s' : Shared} {b g₀ g h₆ B : Heap} {env : Env} {outer : List Env} {L : Addr} {m : Str → Option Value} {mu mu₂ : List (Addr × Obj)} {ks : List At} {M₁ : List Addr} {cls : Value} {PP : Heap → Value → Heap → Prop}
theorem Cx.off (C : Cx b g₀ L m mu ks g s₁.heap) (hf : env.frame = some L) (hFo : ∀ a ∈ frs outer, a ∈ mu.map (·.1)) (hM : ∀ a ∈ M₁, a ∈ mu.map (·.1)) {a : Addr} (q : a ∈ frs (env :: outer) ∨ a ∈ M₁) : b.get? a = none ∧ g.get? a = none := by
  have key : a ∈ mu.map (·.1) → b.get? a = none ∧ g.get? a = none := fun z => by
    obtain ⟨p, hp, rfl⟩ := List.mem_map.mp z
    exact ⟨(C.mt p hp).2.1, (C.mt p hp).2.2.1⟩
  rcases q with q | q
  · rw [frs_cons hf] at q
    rcases List.mem_cons.mp q with rfl | q
    · exact ⟨C.bLn, C.gL⟩
    · exact key (hFo a q)
  · exact key (hM a q)
theorem Cx.stays (C : Cx b g₀ L m mu ks g s₁.heap) (hf : env.frame = some L) (hFo : ∀ a ∈ frs outer, a ∈ mu.map (·.1)) (hM : ∀ a ∈ M₁, a ∈ mu.map (·.1)) (hkp : ∀ b o, s₁.heap.get? b = some o → b ∉ frs (env :: outer) → b ∉ M₁ → B.get? b = some o) : b.StaysIn B ∧ g.StaysIn B := by
  refine ⟨fun a o e => hkp a o (C.bk a o e) (fun q => ?_) fun q => ?_, fun a o e => hkp a o (C.gk a o e) (fun q => ?_) fun q => ?_⟩
  · rw [(C.off hf hFo hM (.inl q)).1] at e; cases e
  · rw [(C.off (env := env) hf hFo hM (.inr q)).1] at e; cases e
  · rw [(C.off hf hFo hM (.inl q)).2] at e; cases e
  · rw [(C.off (env := env) hf hFo hM (.inr q)).2] at e; cases e
/-- the frame behind a caught exception -/
theorem Cx.land (C : Cx b g₀ L m mu ks g s₁.heap) (hf : env.frame = some L) (hFo : ∀ a ∈ frs outer, a ∈ mu.map (·.1)) (hM : ∀ a ∈ M₁, a ∈ mu.map (·.1)) (hkp : ∀ b o, s₁.heap.get? b = some o → b ∉ frs (env :: outer) → b ∉ M₁ → B.get? b = some o) (hB : B.StaysIn h₆)
    (hfr : ∀ b ∈ frs (env :: outer), ∀ o, s₁.heap.get? b = some o → ∃ sl, h₆.get? b = some { o with slots := sl }) (hk2 : mu₂.map (·.1) = mu.map (·.1)) (h2 : ∀ p ∈ mu₂, h₆.get? p.1 = some p.2) : Cx b g₀ L m mu₂ ks g h₆ := by
  have st := C.stays hf hFo hM hkp
  exact
  { ns := by
      obtain ⟨o, es, ep, ho, hd, r⟩ := C.ns
      obtain ⟨sl, e⟩ := hfr L (by rw [frs_cons hf]; exact .head _) o ho
      exact ⟨_, es, ep, e, hd, r⟩
    bk := fun a o e => hB a o (st.1 a o e)
    bL := C.bL
    gk := fun a o e => hB a o (st.2 a o e)
    gg := C.gg
    gn := C.gn
    g0 := C.g0
    mt := fun p hp => by
      have : p.1 ∈ mu.map (·.1) := hk2 ▸ List.mem_map_of_mem hp
      obtain ⟨q, hq, e⟩ := List.mem_map.mp this
      have z := C.mt q hq
      rw [e] at z
      exact ⟨h2 p hp, z.2⟩
    nd := hk2 ▸ C.nd
    kn := C.kn }
theorem nm_bootG {A : Around} {s : Shared} {x : Str} {pos : Pos} {v : Value} {Q : Value → Shared → Prop} (G' : Gd w s.heap) (e : nsIn (KF w.params) mainGlobals x = some none) (hv : bootBuiltins x = some v) (hn : x ≠ "__name__") (h : Q v s)
    (hk : env.scope.kind = .function := by rfl) (hl : env.kindOf x = some .globalImplicit := by rfl) (hg : env.globals = mainGlobals := by rfl) (hb : env.builtins = builtinsNs := by rfl) (hd : (x == ("__debug__" : Str)) = false := by decide) :
    wpAny (model P0 w) A (eval (.Name x pos) env) Q E s := by
  obtain ⟨mg, hmg⟩ := G'.gl
  obtain ⟨mb, hmb, q⟩ := G'.bl
  exact Name_function_global hk hl (loadGlobal_builtin (by rw [hg]; exact hmg) (mg_none_of G'.k hmg e) (by rw [hb]; exact hmb) ((q x hn).trans hv) h) hd
/-- what is known at the suite of the clause that takes it -/
structure Landed (env : Env) (outer : List Env) (M₁ : List Addr) (s₁ : Shared) (cls : Value) (PP : Heap → Value → Heap → Prop) (ea : Addr) (a0 : Value) (B h₆ : Heap) : Prop where
  fl : Heap.FlyingW B (env :: outer) ea cls a0 h₆
  pp : PP B a0 h₆
  kp : ∀ b o, s₁.heap.get? b = some o → b ∉ frs (env :: outer) → b ∉ M₁ → B.get? b = some o
  fr : ∀ b ∈ frs (env :: outer), ∀ o, s₁.heap.get? b = some o → ∃ sl, h₆.get? b = some { o with slots := sl }
theorem Fly.slots {l : List Env} {e : Value} (y : Fly l M₁ s₁ cls PP e s') (F : Frs s₁.heap l) (hsm : s'.heap.UpToSlots h₆) : ∀ b ∈ frs l, ∀ o, s₁.heap.get? b = some o → ∃ sl, h₆.get? b = some { o with slots := sl } := fun b hb o e => by
  obtain ⟨sl, e'⟩ := y.fr b hb o e
  obtain ⟨o₂, e₂, hd₂⟩ := funFrames_get F hb
  rw [e] at e₂; cases e₂
  obtain ⟨sl', e''⟩ := hsm b _ e' hd₂
  exact ⟨sl', e''⟩
theorem caught_as {X T : String} {x n : Str} {np pos : Pos} {b₀ : Stmt} {suite : List Stmt} {rest : List ExceptHandler} {e : Value} {Q : Flow → Shared → Prop} (y : Fly (env :: outer) M₁ s₁ (.type X) PP e s') (hst : Stb PP) (hA : A.frames = some outer) (hf : env.frame = some L) (F : Frs s₁.heap (env :: outer)) (G : Gd w g)
    (hgB : ∀ B : Heap, (∀ b o, s₁.heap.get? b = some o → b ∉ frs (env :: outer) → b ∉ M₁ → B.get? b = some o) → g.StaysIn B)
    (hexc : isSubtype (.type T) (.type "BaseException") = pure true) (hnt : isSubtype (.type ((Manifest.find? T).elim "type" fun y => y.metatype)) (.type "tuple") = pure false) (hsub : isSubtype (.type X) (.type T) = pure true)
    (hn1 : nsIn (KF w.params) mainGlobals x = some none) (hv : bootBuiltins x = some (.type T))
    (k : ∀ ea a0 B h₆, e = .ref ea → Landed env outer M₁ s₁ (.type X) PP ea a0 B h₆ → wpAny (model P0 w) ((A.deeper env).mark (some (.ref ea))) (storeName env n (.ref ea)) (fun _ s₃ => wpAny (model P0 w) ((A.deeper env).mark (some (.ref ea))) (execs (b₀ :: suite) env)
        (fun f s₄ => wpAny (model P0 w) (A.deeper env) (do bindName env n .none; unbindBehindTheSuite env n pos) (fun _ s₅ => Q f s₅) E s₄) NoE s₃) NoE { s' with heap := h₆ })
    (hn : x ≠ "__name__" := by decide) (hk : env.scope.kind = .function := by rfl) (hl : env.kindOf x = some .globalImplicit := by rfl) (hg : env.globals = mainGlobals := by rfl) (hb : env.builtins = builtinsNs := by rfl) (hd : (x == ("__debug__" : Str)) = false := by decide) :
    wpAny (model P0 w) (A.deeper env) (noteFrame e env) (fun _ s₂ => wpAny (model P0 w) (A.deeper env) (setFlight e none) (fun _ s₃ =>
        wpAny (model P0 w) (A.deeper env) (handleBy e env (.ExceptHandler (some (.Name x np)) (some n) (b₀ :: suite) pos :: rest)) Q E s₃) E s₂) E s' := by
  obtain ⟨ea, a0, B, rfl, hfl, hkp, hpp⟩ := y.ex
  refine wpAny_looks_onW (Around.frames_deeper hA) hf hfl fun h₄ hh₄ hm₄ => ?_
  refine wpAny_landsW hh₄ fun h₅ hfl₅ hm₅ => ?_
  obtain ⟨ob, hob, hobc⟩ := hfl₅.there
  refine wpAny_handleBy_builtin_as (X := X) (T := T) (b := true) hexc hnt hsub (nm_bootG (s := { s' with heap := h₅ }) ((G.up (hgB B hkp)).up hfl₅.1) hn1 hv hn ⟨rfl, ⟨ob, hob, hobc⟩, ?_⟩ hk hl hg hb hd)
  refine lands_againW hfl₅ fun h₆ hfl₆ hm₆ => ?_
  have hsm := (hm₄.trans hm₅).trans hm₆
  refine noRaise (wpAny_mono (k ea a0 B h₆ rfl ⟨hfl₆, hst _ _ _ _ hpp hsm, hkp, y.slots F hsm⟩) (fun _ s₃ h₃ => noRaise (wpAny_mono h₃ (fun f s₄ h₄ => h₄) fun _ _ z => z)) fun _ _ z => z)
theorem caught_0 {X T : String} {x : Str} {np pos : Pos} {b₀ : Stmt} {suite : List Stmt} {rest : List ExceptHandler} {e : Value} {Q : Flow → Shared → Prop} (y : Fly (env :: outer) M₁ s₁ (.type X) PP e s') (hst : Stb PP) (hA : A.frames = some outer) (hf : env.frame = some L) (F : Frs s₁.heap (env :: outer)) (G : Gd w g)
    (hgB : ∀ B : Heap, (∀ b o, s₁.heap.get? b = some o → b ∉ frs (env :: outer) → b ∉ M₁ → B.get? b = some o) → g.StaysIn B)
    (hexc : isSubtype (.type T) (.type "BaseException") = pure true) (hnt : isSubtype (.type ((Manifest.find? T).elim "type" fun y => y.metatype)) (.type "tuple") = pure false) (hsub : isSubtype (.type X) (.type T) = pure true)
    (hn1 : nsIn (KF w.params) mainGlobals x = some none) (hv : bootBuiltins x = some (.type T))
    (k : ∀ ea a0 B h₆, e = .ref ea → Landed env outer M₁ s₁ (.type X) PP ea a0 B h₆ → wpAny (model P0 w) ((A.deeper env).mark (some (.ref ea))) (execs (b₀ :: suite) env) Q NoE { s' with heap := h₆ })
    (hn : x ≠ "__name__" := by decide) (hk : env.scope.kind = .function := by rfl) (hl : env.kindOf x = some .globalImplicit := by rfl) (hg : env.globals = mainGlobals := by rfl) (hb : env.builtins = builtinsNs := by rfl) (hd : (x == ("__debug__" : Str)) = false := by decide) :
    wpAny (model P0 w) (A.deeper env) (noteFrame e env) (fun _ s₂ => wpAny (model P0 w) (A.deeper env) (setFlight e none) (fun _ s₃ =>
        wpAny (model P0 w) (A.deeper env) (handleBy e env (.ExceptHandler (some (.Name x np)) none (b₀ :: suite) pos :: rest)) Q E s₃) E s₂) E s' := by
  obtain ⟨ea, a0, B, rfl, hfl, hkp, hpp⟩ := y.ex
  refine wpAny_looks_onW (Around.frames_deeper hA) hf hfl fun h₄ hh₄ hm₄ => ?_
  refine wpAny_landsW hh₄ fun h₅ hfl₅ hm₅ => ?_
  obtain ⟨ob, hob, hobc⟩ := hfl₅.there
  refine wpAny_handleBy_builtin (X := X) (T := T) (b := true) hexc hnt hsub (nm_bootG (s := { s' with heap := h₅ }) ((G.up (hgB B hkp)).up hfl₅.1) hn1 hv hn ⟨rfl, ⟨ob, hob, hobc⟩, ?_⟩ hk hl hg hb hd)
  refine lands_againW hfl₅ fun h₆ hfl₆ hm₆ => ?_
  have hsm := (hm₄.trans hm₅).trans hm₆
  exact noRaise (k ea a0 B h₆ rfl ⟨hfl₆, hst _ _ _ _ hpp hsm, hkp, y.slots F hsm⟩)
end
set_option maxHeartbeats 1000000
theorem SlU.mem {l l' : List (Addr × Obj)} (u : SlU l l') : ∀ p ∈ l', ∃ q ∈ l, ∃ sl, p = (q.1, { q.2 with slots := sl }) := by
  induction u with
  | nil => intro p hp; cases hp
  | cons sl r ih =>
    intro p hp
    rcases List.mem_cons.mp hp with rfl | hp
    · exact ⟨_, .head _, sl, rfl⟩
    · obtain ⟨q, hq, sl', e⟩ := ih p hp
      exact ⟨q, .tail _ hq, sl', e⟩
theorem Stk.now {h h' g g' : Heap} {outer : List Env} {frl frl' : List (Addr × Obj)} (K : Stk h g outer frl) (u : SlU frl frl') (hat : ∀ p ∈ frl', h'.get? p.1 = some p.2) (hg : ∀ p ∈ frl', g'.get? p.1 = none) : Stk h' g' outer frl' where
  keys := u.keys.trans K.keys
  at' := hat
  ng := hg
  fr := K.fr.keep fun a ha o e => by
    rw [← K.keys] at ha
    obtain ⟨p, hp, rfl⟩ := List.mem_map.mp ha
    obtain ⟨sl, hq⟩ := u.back p hp
    have := K.at' p hp
    rw [e] at this; cases this
    exact ⟨sl, hat _ hq⟩
  nd := u.keys ▸ K.nd
  no := u.keys ▸ K.no
theorem Stk.push {b g₀ g h : Heap} {L : Addr} {m : Str → Option Value} {mu : List (Addr × Obj)} {ks : List At} {outer : List Env} {frl : List (Addr × Obj)} {env : Env} (K : Stk h g outer frl) (C : Cx b g₀ L m mu ks g h) (hf : env.frame = some L) (hk : env.scope.kind = .function) (hm : ∀ p ∈ frl, p ∈ mu) (h2 : L ≠ 237) : ∃ oL, Stk h g (env :: outer) ((L, oL) :: frl) := by
  obtain ⟨oL, es, ep, ho, hd, _⟩ := id C.ns
  exact ⟨oL,
  { keys := by rw [List.map_cons, K.keys, frs_cons hf]
    at' := fun p hp => by
      rcases List.mem_cons.mp hp with rfl | hp
      · exact ho
      · exact K.at' p hp
    ng := fun p hp => by
      rcases List.mem_cons.mp hp with rfl | hp
      · exact C.gL
      · exact K.ng p hp
    fr := K.fr.push C hf hk
    nd := by
      rw [List.map_cons, List.nodup_cons]
      refine ⟨fun q => ?_, K.nd⟩
      obtain ⟨p, hp, e⟩ := List.mem_map.mp q
      exact (C.mt p (hm p hp)).2.2.2 e
    no := by
      rw [List.map_cons, List.mem_cons, not_or]
      exact ⟨Ne.symm h2, K.no⟩ }⟩
theorem Cx.grow {b g₀ g g' h : Heap} {L : Addr} {m : Str → Option Value} {mu : List (Addr × Obj)} {ks : List At} (C : Cx b g₀ L m mu ks g h) (k1 : g.StaysIn g') (k2 : g'.StaysIn h) (kn : ∀ a o, g'.get? a = some o → g.get? a = some o ∨ L < a) (km : ∀ p ∈ mu, g'.get? p.1 = none) : Cx b g₀ L m mu ks g' h :=
  { C with
    gk := k2
    gg := fun a o e => k1 a o (C.gg a o e)
    gn := fun a o e => (kn a o e).elim (C.gn a o) .inr
    mt := fun p hp => ⟨(C.mt p hp).1, (C.mt p hp).2.1, km p hp, (C.mt p hp).2.2.2⟩
    kn := fun x hx => At.up k1 (C.kn x hx) }
theorem RefP.stb {g : Heap} {n : Nat} {u : Tok} : Stb (RefP g n u) := fun _ _ _ _ ⟨h1, h2⟩ k => ⟨Args.stb _ _ _ _ h1 k, h2⟩
theorem try_table {w : World} {A : Around} {E : Value → Shared → Prop} {s₁ : Shared} {b g₀ g : Heap} {env : Env} {L : Addr} {m : Str → Option Value} {ks : List At} {v : Value} {qs : List Pair} {p : Pair} {nm : Bool} {c : Nat} {full : Bool} {ps : Array Value} {outer : List Env} {frl : List (Addr × Obj)} {x n : Str} {np pos : Pos} {b₀ : Stmt} {suite : List Stmt} {rest : List ExceptHandler} {Q : Flow → Shared → Prop} {Q0 : Value → Shared → Prop}
    (C : Cx b g₀ L m ((237, tabObj ps) :: frl) ks g s₁.heap) (G : Gd w g) (R : Rm (A.deeper env) 13) (hA : A.frames = some outer) (K1 : Stk s₁.heap g outer frl) (h2 : L ≠ 237) (hps : TabIs g lamE.2.2.2 lamQ ps)
    (hr : Rd g v (pairsD qs)) (hx : ∀ x ∈ textsOf qs, TxI x) (hq : qs.length ≤ 10) (hsh : shownP full qs = [p, badP nm c]) (hp : OkP p) (hc : c ∈ [0, 9, 10, 31, 127]) (hb : bad nm c = true)
    (hn1 : nsIn (KF w.params) mainGlobals x = some none) (hv : bootBuiltins x = some (.type "ValueError"))
    (k : ∀ ea t u frl' ps' g' h₆ tk, SlU frl frl' → h₆.ExcAt ea "ValueError" (.ref t) → h₆.TupAt t [.str msgS u] → ea ≠ L → t ≠ L → TabIs g' lamE.2.2.2 lamQ ps' → g.StaysIn g' → Cx b g₀ L m ((237, tabObj ps') :: frl') ks g' h₆ →
      wpAny (model P0 w) ((A.deeper env).mark (some (.ref ea))) (storeName env n (.ref ea)) (fun _ s₃ => wpAny (model P0 w) ((A.deeper env).mark (some (.ref ea))) (execs (b₀ :: suite) env)
        (fun f s₄ => wpAny (model P0 w) (A.deeper env) (do bindName env n .none; unbindBehindTheSuite env n pos) (fun _ s₅ => Q f s₅) E s₄) NoE s₃) NoE { s₁ with heap := h₆, toks := tk })
    (hn : x ≠ "__name__" := by decide) (hf : env.frame = some L := by rfl) (hk : env.scope.kind = .function := by rfl) (hl : env.kindOf x = some .globalImplicit := by rfl) (hg : env.globals = mainGlobals := by rfl) (hbu : env.builtins = builtinsNs := by rfl) (hd : (x == ("__debug__" : Str)) = false := by decide) :
    wpAny (model P0 w) (A.deeper env) (call (.ref 276) [v, .bool full]) Q0 (fun e s' => wpAny (model P0 w) (A.deeper env) (noteFrame e env) (fun _ s₂ => wpAny (model P0 w) (A.deeper env) (setFlight e none) (fun _ s₃ =>
        wpAny (model P0 w) (A.deeper env) (handleBy e env (.ExceptHandler (some (.Name x np)) (some n) (b₀ :: suite) pos :: rest)) Q E s₃) E s₂) E s') s₁ := by
  obtain ⟨oL, K2⟩ := K1.push (env := env) C hf hk (fun p hp => .tail _ hp) h2
  have hgt := (C.mt _ (.head _)).2.2.1
  refine wpAny_mono (table_bad (E := fun e s' => ∃ u, Fly (env :: outer) [237] s₁ (.type "ValueError") (RefP g s₁.heap.objs.size u) e s') G C.gk R (Around.frames_deeper hA) K2.fr K2.gF (K2.keys ▸ K2.no) (C.at (.head _)) hgt hps hr hx hq hsh hp hc hb fun e s' u y => ⟨u, y⟩) (fun _ _ f => f.elim) fun e s' ⟨u, y⟩ => ?_
  have hFo : ∀ a ∈ frs outer, a ∈ ((237, tabObj ps) :: frl).map (·.1) := fun a ha => .tail _ (by rw [K1.keys]; exact ha)
  have hM : ∀ a ∈ [237], a ∈ ((237, tabObj ps) :: frl).map (·.1) := fun a ha => List.mem_singleton.mp ha ▸ .head _
  refine caught_as (T := "ValueError") y RefP.stb hA hf K2.fr G (fun B kp => (C.stays hf hFo hM kp).2) PySem.F.isExc_ValueError PySem.F.notTuple_ValueError (by rw [isSubtype_type]; kernel_rfl) hn1 hv (fun ea a0 B h₆ he Y => ?_) hn hk hl hg hbu hd
  subst he
  obtain ⟨⟨t, rfl, htup, htn⟩, ps', g', h237, hps', hg', hgB, hnew, hg237⟩ := Y.pp
  obtain ⟨frl', U, hU⟩ := SlU.make (h := h₆) (l := frl) fun p hp => Y.fr p.1 (by rw [frs_cons hf, ← K1.keys]; exact .tail _ (List.mem_map_of_mem hp)) p.2 (C.at (.tail _ hp))
  have C6 : Cx b g₀ L m ((237, tabObj ps') :: frl') ks g h₆ := C.land hf hFo hM Y.kp Y.fl.1 Y.fr (by rw [List.map_cons, List.map_cons, U.keys]) fun p hp => by
    rcases List.mem_cons.mp hp with rfl | hp
    · exact Y.fl.1 _ _ h237
    · exact hU p hp
  obtain ⟨oe, ws, hoe, hoec, hoed, hoe0⟩ := Y.fl.first
  obtain ⟨h', tk', rfl⟩ := y.sh
  obtain ⟨oN, es, ep, hoN, hdN, _⟩ := id C6.ns
  have C7 : Cx b g₀ L m ((237, tabObj ps') :: frl') ks g' h₆ := C6.grow hg' (fun a o e => Y.fl.1 a o (hgB a o e)) (fun a o e => (hnew a o e).imp id fun z => Nat.lt_of_lt_of_le C.lt z) fun p hp => by
    rcases List.mem_cons.mp hp with rfl | hp
    · exact hg237
    · obtain ⟨q, hq, sl, rfl⟩ := U.mem p hp
      cases z : g'.get? q.1 with
      | none => rfl
      | some o =>
        have hin : q.1 ∈ frs (env :: outer) := by rw [frs_cons hf, ← K1.keys]; exact .tail _ (List.mem_map_of_mem hq)
        have := (Y.fl.2.2.1.mem hin).1
        rw [hgB _ _ z] at this; cases this
  refine k ea t u frl' ps' g' h₆ tk' U ⟨oe, ws, hoe, hoec, hoed, hoe0⟩ htup (fun q => ?_) (fun q => ?_) hps' hg' C7
  · rw [q, hoN] at hoe; cases hoe; rw [hdN] at hoed; cases hoed
  · obtain ⟨ot, nt, hot, _, hotd⟩ := htup
    rw [q, hoN] at hot; cases hot; rw [hdN] at hotd; cases hotd
theorem made_bad {w : World} {A : Around} {E : Value → Shared → Prop} {s : Shared} {g : Heap} {v : Value} {qs : List Pair} {p : Pair} {nm : Bool} {c : Nat} {full : Bool} {ps : Array Value} {outer : List Env} {frl : List (Addr × Obj)} (G : Gd w g) (gs : g.StaysIn s.heap) (R : Rm A 15) (hA : A.frames = some outer) (K : Stk s.heap g outer frl) (ht : s.heap.get? 237 = some (tabObj ps)) (hgt : g.get? 237 = none) (hps : TabIs g lamE.2.2.2 lamQ ps)
    (hr : Rd g v (pairsD qs)) (hx : ∀ x ∈ textsOf qs, TxI x) (hq : qs.length ≤ 10) (hsh : shownP full qs = [p, badP nm c]) (hp : OkP p) (hc : c ∈ [0, 9, 10, 31, 127]) (hb : bad nm c = true) :
    wpAny (model P0 w) A (call (.ref 283) [v, .bool full]) (fun v s' => Done (Made s g frl (fun v g' => ∃ u, v = .str msgS u) v s')) E s := by
  obtain ⟨a, vs, n, rfl, ha, hV⟩ := hr.pairs
  refine call_fn (binds := [(Str.ofString "pairs", .ref a), (Str.ofString "full", .bool full)]) ((237, tabObj ps) :: frl) [] G gs R.lt (G.k 283 _ rfl) rfl (codeRec_of G.k rfl) (BindsTo.of_eq rfl) (locs rfl) (fun p hp => ?_) (List.nodup_cons.mpr ⟨K.no, K.nd⟩) (fun _ h => nomatch h) ?_ (by decide)
  · rcases List.mem_cons.mp hp with rfl | hp
    · exact ⟨ht, hgt⟩
    · exact ⟨K.at' p hp, K.ng p hp⟩
  intro h₁ tk C
  repeat walk1
  refine wpAny_Try_except ?_
  repeat walk1
  have h2 : s.heap.objs.size ≠ 237 := Nat.ne_of_gt (Heap.lt_size ht)
  have K1 : Stk h₁ g outer frl := K.now (.refl _) (fun p hp => C.at (.tail _ hp)) K.ng
  refine try_table C G (by walk_at "room") hA K1 h2 hps hr hx hq hsh hp hc hb (by rfl) (by boot_by_name) ?_
  intro ea t u frl' ps' g₂ h₂ tk₂ U hE hT hne hnt hps' hg₂ C2
  clear C
  refine wpAny_storeName_local rfl C2.ns (fun h₃ hn₃ hs₃ => ?_) (by rfl)
  have C3 := C2.set hn₃ hs₃
  obtain ⟨oe, ws, hoe, hE1, hE2, hE3⟩ := hE
  obtain ⟨ot, nt, hot, hT1, hT2⟩ := hT
  have hoe3 := hs₃.extBut _ _ hne hoe
  have hot3 := hs₃.extBut _ _ hnt hot
  clear C2
  repeat walk1
  refine P.str_of_exc_one PySem.F.excStr_ValueError (by have := R.un; show A.units + 3 + 2 < 9900; omega) ⟨oe, ws, hoe3, hE1, hE2, hE3⟩ ⟨ot, nt, hot3, hT1, hT2⟩ ?_
  refine wpAny_nameGoes_keeps rfl C3.ns rfl fun h₄ v₄ hn₄ hs₄ => ?_
  have C4 := C3.set hn₄ hs₄
  exact Done.mk ⟨g₂, frl', ps', C4.done (M := 237 :: frl.map (·.1)) (Nat.le_refl _) ⟨_, _, rfl⟩, U, fun p hp => C4.at (.tail _ hp), C4.at (.head _), hps', u, rfl⟩
set_option maxHeartbeats 1000000
section
open Builtin
theorem entry_enc {x : Str} {t t1 : Tok} : «str.encode» ⟨[.str x t, .str (Str.ofString "iso-8859-1") t1], []⟩ = (_codecs.encodeRoad "str.encode" (.str x t) x (Str.ofString "iso-8859-1") none >>= fun v => ret v) := by kernel_rfl
theorem road_enc {x : Str} {v : Value} : _codecs.encodeRoad "str.encode" v x (Str.ofString "iso-8859-1") none = (_codecs.encodeNarrow "str.encode" _codecs.latin1Codec none v x >>= fun b => mkBytes b) := by kernel_rfl
noncomputable abbrev UE : String := "UnicodeEncodeError"
theorem ueNew : ExcNewFacts UE "UnicodeEncodeError.__new__" where
  ends := by decide +kernel
  owner := by decide +kernel
  entry := entryFor_alias (id' := "BaseException.__new__") (by rw [fastTable_eq_tree]; kernel_rfl) (by first | rfl | decide +kernel) (by decide +kernel) (by rw [fastTable_eq_tree]; kernel_rfl)
  sub := by rw [isSubtype_type]; kernel_rfl
  notAttr := by rw [isSubtype_type]; kernel_rfl
  notName := by rw [isSubtype_type]; kernel_rfl
  made := by kernel_rfl
theorem ueCan : ((Manifest.find? UE).bind fun x => List.findSome? (fun t => (Manifest.find? t).bind fun b =>
    if b.noNew = true then some true else if (b.attrs.any fun x => x.fst == "__new__") = true then some false else none) x.mro).getD false = false := by kernel_rfl
theorem ueChk (args : PySem.Args) : checkTypeCall UE args = pure () := by kernel_rfl
theorem ueMro : ∃ m, mroOf (.type UE) = pure m ∧ m.isEmpty = false := ⟨[.type UE, .type "UnicodeError", .type "ValueError", .type "Exception", .type "BaseException", .type "object"], by rw [mroOf_type]; kernel_rfl, rfl⟩
theorem ueMade : Bind.madeBy (.type UE) = pure (some "UnicodeEncodeError.__new__") := by kernel_rfl
theorem ueNewOk (rest : List Value) : checkBuiltinCall "UnicodeEncodeError.__new__" ⟨.type UE :: rest, []⟩ = pure () := by kernel_rfl
theorem ueInit : Slot UE "__init__" "UnicodeEncodeError.__init__" :=
  .of (owner := UE) (n := "__init__") (by rw [typeLookup_type, builtinLookup_eq_fast]; kernel_rfl) (by decide +kernel) (by decide +kernel) (by decide +kernel)
    (by first | exact .inl (by decide +kernel) | exact .inr (by decide +kernel)) (by rw [isSubtype_type]; kernel_rfl)
theorem ueInitEntry : entryFor table "UnicodeEncodeError.__init__" = some «UnicodeEncodeError.__init__» := entryFor_of_tree (by kernel_rfl)
theorem ueArgs (a b c d e f : Value) : argsOk "UnicodeEncodeError.__init__" ⟨[a, b, c, d, e, f], []⟩ := by unfold argsOk; kernel_rfl
/-- an exception of this class as it is made -/
structure NewUE (h h' : Heap) (e : Addr) : Prop where
  keeps : ∀ b o, h.get? b = some o → h'.get? b = some o
  new : h.get? e = none
  there : ∃ oe vs a0, h'.get? e = some oe ∧ oe.cls = .type UE ∧ oe.data = .fields vs ∧ vs[0]? = some a0 ∧ vs[1]? = some .none
structure XE (hp H : Heap) (e : Addr) (vs : Array Value) : Prop where
  keeps : ∀ b o, hp.get? b = some o → H.get? b = some o
  new : hp.get? e = none
  at' : H.get? e = some { cls := .type UE, data := .fields vs }
section
variable {w : World} {A : Around} {E : Value → Shared → Prop} {s : Shared} {hp : Heap} {e : Addr} {vs : Array Value} {M : Model}
open UnicodeEncodeError (members setMembers Members)
theorem xe_mem0 {Q : Members → Shared → Prop} (X : XE hp s.heap e vs) (hm : (vs.extract 6).toList = []) (h : Q {} s) : wpAny M A (members (.ref e)) Q E s := by
  unfold members fieldsOf
  refine wpAny_bind (wpAny_bind (wpAny_load X.at' (wpAny_pure ?_)))
  rw [hm]
  exact wpAny_pure h
theorem xe_mem {Q : Members → Shared → Prop} {en ob re : Value} {i j : Int} {ti tj : Tok} (X : XE hp s.heap e vs) (hm : (vs.extract 6).toList = [en, ob, .int i ti, .int j tj, re]) (h : Q ⟨en, ob, i, j, re⟩ s) : wpAny M A (members (.ref e)) Q E s := by
  unfold members fieldsOf
  refine wpAny_bind (wpAny_bind (wpAny_load X.at' (wpAny_pure ?_)))
  rw [hm]
  exact wpAny_pure h
theorem XE.upd {H : Heap} {f : Array Value → Array Value} (X : XE hp H e vs) : XE hp (H.update e (Obj.mapFields f)) e (f vs) where
  keeps := fun b o q => by
    rw [Heap.get?_update_other _ _ (fun z => by rw [← z, X.new] at q; cases q)]
    exact X.keeps b o q
  new := X.new
  at' := by rw [Heap.get?_update_self _ X.at' rfl]; rfl
theorem xe_set {Q : Unit → Shared → Prop} {m : Members} (X : XE hp s.heap e vs) (hz : vs.size ≤ 100) (h : ∀ H', XE hp H' e (vs.extract 0 6 ++ #[m.encoding, m.object, rawInt m.start, rawInt m.stop, m.reason]) → Q () { s with heap := H' }) : wpAny M A (setMembers (.ref e) m) Q E s := by
  unfold setMembers
  refine wpAny_updateFields X.at' rfl (h _ X.upd) ?_
  have : (100 : Nat) ≤ sizeLine := by decide
  simp; omega
noncomputable def mk6 (a0 : Value) : Array Value := #[a0, .none, .none, .none, .bool false, .none]
noncomputable def mk11 (a0 : Value) (m : Members) : Array Value := #[a0, .none, .none, .none, .bool false, .none, m.encoding, m.object, rawInt m.start, rawInt m.stop, m.reason]
theorem mk6_x (a0 : Value) (m : Members) : (mk6 a0).extract 0 6 ++ #[m.encoding, m.object, rawInt m.start, rawInt m.stop, m.reason] = mk11 a0 m := by simp [mk6, mk11]
theorem mk11_x (a0 : Value) (m m' : Members) : (mk11 a0 m).extract 0 6 ++ #[m'.encoding, m'.object, rawInt m'.start, rawInt m'.stop, m'.reason] = mk11 a0 m' := by simp [mk11]
theorem xe_m6 {a0 : Value} {Q : Members → Shared → Prop} (X : XE hp s.heap e (mk6 a0)) (h : Q {} s) : wpAny M A (members (.ref e)) Q E s := xe_mem0 X (by simp [mk6]) h
theorem xe_m11 {a0 : Value} {m : Members} {Q : Members → Shared → Prop} (X : XE hp s.heap e (mk11 a0 m)) (h : Q m s) : wpAny M A (members (.ref e)) Q E s := xe_mem (ti := 0) (tj := 0) X (by simp [mk11, rawInt]) h
theorem xe_s6 {a0 : Value} {m : Members} {Q : Unit → Shared → Prop} (X : XE hp s.heap e (mk6 a0)) (h : ∀ H', XE hp H' e (mk11 a0 m) → Q () { s with heap := H' }) : wpAny M A (setMembers (.ref e) m) Q E s :=
  xe_set X (show 6 ≤ 100 by decide) fun H' X' => h H' (mk6_x a0 m ▸ X')
theorem xe_s11 {a0 : Value} {m m' : Members} {Q : Unit → Shared → Prop} (X : XE hp s.heap e (mk11 a0 m)) (h : ∀ H', XE hp H' e (mk11 a0 m') → Q () { s with heap := H' }) : wpAny M A (setMembers (.ref e) m') Q E s :=
  xe_set X (show 11 ≤ 100 by decide) fun H' X' => h H' (mk11_x a0 m m' ▸ X')
theorem type_call_ue {a b r : Str} {ta tb tr ti tj : Tok} {i j : Nat} {Q : Fin → Shared → Prop} {g : Array GenState} {d : Drawn} {tk : Nat} {os : OsState} (hi : i ≤ 1000000) (hj : j ≤ 1000000)
    (h : ∀ h' e tk', NewUE hp h' e → Q (.done (.ret (.ref e))) ⟨h', g, d, tk', os⟩) :
    wpAny (model P0 w) A (Builtin.«type.__call__» ⟨[.type UE, .str a ta, .str b tb, .int (i : Int) ti, .int (j : Int) tj, .str r tr], []⟩) Q E ⟨hp, g, d, tk, os⟩ := by
  have hnt : (Value.type UE == Value.type "type") = false := by decide +kernel
  have hcan := ueCan
  have hchk := ueChk ⟨[.str a ta, .str b tb, .int (i : Int) ti, .int (j : Int) tj, .str r tr], []⟩
  obtain ⟨m, hmro, hne⟩ := ueMro
  have hmade := ueMade
  wp_walk
  refine codeAny_call_builtin_code (Code.quiet_builtin _ (by decide +kernel)) (wpAny_of_eq (ueNewOk _) ?_)
  refine codeAny_exc_new ueNew ?_ (by show 5 ≤ sizeLine; decide)
  show wpAny _ _ _ _ _ _
  generalize hR : [Value.str a ta, .str b tb, .int (i : Int) ti, .int (j : Int) tj, .str r tr] = rest
  have hget : ((hp.push { cls := .type "tuple", data := .seq rest.toArray }).push
      { cls := .type UE, data := .fields #[.ref hp.objs.size, .none, .none, .none, .bool false, .none] }).get? (hp.objs.size + 1) = some
      { cls := .type UE, data := .fields #[.ref hp.objs.size, .none, .none, .none, .bool false, .none] } := by heap_get
  refine wpAny_bind (wpAny_isInstance ⟨_, hget, rfl⟩ ueNew.sub ?_)
  wp_step
  subst hR
  refine wpAny_bind (wpAny_holding (wpAny_callSpecial?_slot ⟨_, hget, rfl⟩ ueInit (wpAny_call_entry ueInit ⟨_, hget, rfl⟩ ueInitEntry ?_ (ueArgs _ _ _ _ _ _))))
  unfold Builtin.«UnicodeEncodeError.__init__» UnicodeEncodeError.beginInit
  have e5 : Heap.get? ((hp.push { cls := .type "tuple", data := .seq #[.str a ta, .str b tb, .int (i : Int) ti, .int (j : Int) tj, .str r tr] }).push { cls := .type UE, data := .fields #[.ref hp.objs.size, .none, .none, .none, .bool false, .none] }) (hp.objs.size + 1) = some { cls := .type UE, data := .fields #[.ref hp.objs.size, .none, .none, .none, .bool false, .none] } := hget
  refine wpAny_bind ?_
  show wpAny _ _ (field (.ref (hp.objs.size + 1)) 0 >>= _) _ _ _
  refine wpAny_bind (wpAny_field e5 rfl (x := .ref hp.objs.size) rfl ?_)
  refine wpAny_bind (wpAny_newObj_type ?_ (by show 5 ≤ sizeLine; decide))
  have X0 : XE hp (((hp.push { cls := .type "tuple", data := .seq #[.str a ta, .str b tb, .int (i : Int) ti, .int (j : Int) tj, .str r tr] }).push { cls := .type UE, data := .fields #[.ref hp.objs.size, .none, .none, .none, .bool false, .none] }).push { cls := .type "tuple", data := .seq [Value.str a ta, .str b tb, .int (i : Int) ti, .int (j : Int) tj, .str r tr].toArray }) (hp.objs.size + 1) #[.ref hp.objs.size, .none, .none, .none, .bool false, .none] :=
    ⟨fun b o q => Heap.get?_push_of_some _ (Heap.get?_push_of_some _ (Heap.get?_push_of_some _ q)), Heap.get?_none_of_le (Nat.le_succ _), Heap.get?_push_of_some _ e5⟩
  refine wpAny_bind (wpAny_setField X0.at' rfl (show 0 < 6 by decide) ?_)
  have X1 := X0.upd (f := fun x => x.setIfInBounds 0 (.ref ((hp.push { cls := .type "tuple", data := .seq #[.str a ta, .str b tb, .int (i : Int) ti, .int (j : Int) tj, .str r tr] }).push { cls := .type UE, data := .fields #[.ref hp.objs.size, .none, .none, .none, .bool false, .none] }).objs.size))
  replace X1 : XE hp _ _ (mk6 _) := X1
  clear X0
  refine wpAny_bind (wpAny_letGo ?_)
  show wpAny _ _ (members _ >>= _) _ _ _
  refine wpAny_bind (xe_m6 X1 ?_)
  refine wpAny_bind (xe_s6 X1 fun H2 X2 => ?_)
  clear X1
  refine wpAny_bind (wpAny_letGo ?_)
  refine wpAny_bind (xe_m11 X2 ?_)
  refine wpAny_bind (xe_s11 X2 fun H3 X3 => ?_)
  clear X2
  refine wpAny_bind (wpAny_letGo ?_)
  refine wpAny_bind (xe_m11 X3 ?_)
  refine wpAny_bind (xe_s11 X3 fun H4 X4 => ?_)
  clear X3
  refine wpAny_bind (wpAny_letGo ?_)
  show wpAny _ _ (pure _) _ _ _
  refine wpAny_pure ?_
  dsimp only
  refine wpAny_bind (wpAny_of_eq (a := ()) rfl ?_)
  refine wpAny_bind (wpAny_of_eq (a := ()) rfl ?_)
  refine wpAny_bind ?_
  unfold UnicodeEncodeError.initRange
  refine wpAny_bind (wpAny_of_eq (a := (i : Int)) (by
    unfold UnicodeEncodeError.sizeArgument
    show (if (decide ((i : Int) < -(2 ^ 63 : Int)) || decide ((i : Int) ≥ 2 ^ 63)) = true then _ else _) = _
    rw [if_neg (by simp; omega)]) ?_)
  refine wpAny_bind (xe_m11 X4 ?_)
  refine wpAny_bind (xe_s11 X4 fun H5 X5 => ?_)
  clear X4
  refine wpAny_bind (wpAny_of_eq (a := (j : Int)) (by
    unfold UnicodeEncodeError.sizeArgument
    show (if (decide ((j : Int) < -(2 ^ 63 : Int)) || decide ((j : Int) ≥ 2 ^ 63)) = true then _ else _) = _
    rw [if_neg (by simp; omega)]) ?_)
  refine wpAny_bind (xe_m11 X5 ?_)
  refine (xe_s11 X5 fun H6 X6 => ?_)
  clear X5
  refine wpAny_bind (wpAny_of_eq (a := ()) rfl ?_)
  refine wpAny_bind (xe_m11 X6 ?_)
  refine wpAny_bind (xe_s11 X6 fun H7 X7 => ?_)
  refine wpAny_pure ⟨_, rfl, ?_⟩
  show wpAny _ _ (ret _) _ _ _
  exact wpAny_pure (h H7 _ tk ⟨X7.keeps, X7.new, _, _, _, X7.at', rfl, rfl, rfl, rfl⟩)
end
end
set_option maxHeartbeats 1000000
section
open Builtin
section
variable {w : World} {A : Around} {E : Value → Shared → Prop} {s : Shared}
theorem call_ue {a b r : Str} {ta tb tr ti tj : Tok} {i j : Nat} {Q : Value → Shared → Prop} (hi : i ≤ 1000000) (hj : j ≤ 1000000)
    (h : ∀ h' e tk', NewUE s.heap h' e → Q (.ref e) { s with heap := h', toks := tk' }) :
    wpAny (model P0 w) A (call (.type UE) [.str a ta, .str b tb, .int (i : Int) ti, .int (j : Int) tj, .str r tr]) Q E s := by
  refine wpAny_call (codeAny_of_tree ?_)
  show wpAny _ _ (again (.builtin "type.__call__" ⟨[.type UE, .str a ta, .str b tb, .int (i : Int) ti, .int (j : Int) tj, .str r tr], []⟩)) _ _ _
  exact wpAny_pure ⟨Code.quiet_builtin _ (by decide +kernel), codeAny_builtin entry_typeCall (type_call_ue hi hj fun h' e tk hm => h h' e tk hm)⟩
theorem latin_bad (c : Nat) : _codecs.latin1Codec.bad c = decide (c ≥ 256) := rfl
theorem find_none {x : List Nat} (hx : ∀ c ∈ x, c < 256) : Array.findIdx? _codecs.latin1Codec.bad x.toArray = none := by
  rw [List.findIdx?_toArray, List.findIdx?_eq_none_iff]
  intro c hc
  have := hx c hc
  rw [latin_bad]; simp; omega
theorem find_le (p : Nat → Bool) (a : Array Nat) (d : Nat) : (Array.findIdx? p a).getD d ≤ a.size + d := by
  cases h : Array.findIdx? p a with
  | none => simp
  | some i =>
    have := (Array.findIdx?_eq_some_iff_getElem.mp h).1
    simp; omega
theorem fold_byN (x : List Nat) (out : Array UInt8) : Array.foldl (fun acc y => acc ++ (_codecs.latin1Codec.bytesOf y).toArray) out x.toArray = out ++ byN x := by
  rw [List.foldl_toArray]
  induction x generalizing out with
  | nil => simp [byN]
  | cons a r ih =>
    rw [List.foldl_cons, ih, show byN (a :: r) = byN [a] ++ byN r from byN_append [a] r, ← Array.append_assoc]
    rfl
theorem narrow_ok {x : List Nat} {v : Value} {Q : Array UInt8 → Shared → Prop} (hx : ∀ c ∈ x, c < 256) (hz : x.length ≤ 100000) (h : Q (byN x) s) : wpAny (model P0 w) A (_codecs.encodeNarrow "str.encode" _codecs.latin1Codec none v (S x)) Q E s := by
  have hsl : (100000 : Nat) ≤ sizeLine := by decide
  unfold _codecs.encodeNarrow
  show wpAny _ _ (forIn _ _ _ >>= _) _ _ _
  rw [Std.Legacy.Range.forIn_eq_forIn_range']
  refine wpAny_bind (wpAny_forIn_list _ (fun rest b s' => s' = s ∧ ((b = (0, #[], {}) ∧ rest = List.range' 0 x.length) ∨ b = (x.length, byN x, {}))) _ ?_ ?_ _ _ ⟨rfl, .inl ⟨rfl, ?_⟩⟩)
  · rintro k rest b s' ⟨rfl, ⟨rfl, hr⟩ | rfl⟩
    · cases x with
      | nil => cases hr
      | cons c r =>
        dsimp only
        rw [if_neg (by simp)]
        show wpAny _ _ (if (!_codecs.latin1Codec.bad c) = true then _ else _) _ _ _
        rw [if_pos (by rw [latin_bad]; have := hx c (.head _); simp; omega)]
        refine wpAny_pure ⟨rfl, .inr ?_⟩
        have e1 : (S (c :: r)).cps.extract 0 = (c :: r).toArray := by simp [S]
        rw [e1, find_none hx]
        simp only [Option.getD_none, Array.extract_size, fold_byN, Nat.zero_add]
        simp
    · show wpAny _ _ (if (byN x).size > sizeLine then _ else _) _ _ _
      rw [if_neg (by rw [byN_size]; omega)]
      show wpAny _ _ (match (S x).cps[x.length]? with | some _ => _ | _ => _) _ _ _
      rw [show (S x).cps[x.length]? = none by simp]
      exact wpAny_pure (wpAny_pure h)
  · rintro b s' ⟨rfl, ⟨rfl, hr⟩ | rfl⟩
    · cases x with
      | nil => exact wpAny_pure h
      | cons c r => cases hr
    · exact wpAny_pure h
  · simp [Str.length]
theorem fault_ {v : Value} {b : Str} {tb : Tok} {i j : Nat} {α : Type} {Q : α → Shared → Prop} (hv : v = .str b tb) (hh : A.handled = none) (hi : i ≤ 1000000) (hj : j ≤ 1000000) (h : ∀ h' e tk', NewUE s.heap h' e → E (.ref e) { s with heap := h', toks := tk' }) :
    wpAny (model P0 w) A (_codecs.raiseEncodeFault {} _codecs.latin1Codec.name v i j _codecs.latin1Codec.reason : Sem α) Q E s := by
  subst hv
  unfold _codecs.raiseEncodeFault
  show wpAny _ _ ((mkStr (Str.ofString "latin-1") >>= fun c => pure (.str b tb) >>= fun o => mkInt (i : Int) >>= fun i' => mkInt (j : Int) >>= fun j' => mkStr (Str.ofString "ordinal not in range(256)") >>= fun r => call (.type UE) [c, o, i', j', r]) >>= fun e => raiseNew e) _ _ _
  refine wpAny_bind (wpAny_bind (wpAny_mkStr ?_ (by decide)))
  refine wpAny_bind (wpAny_pure (wpAny_bind (wpAny_mkInt (wpAny_bind (wpAny_mkInt (wpAny_bind (wpAny_mkStr ?_ (by decide))))))))
  exact call_ue hi hj fun h' e tk' n => wpAny_raiseNew_none hh (h h' e tk' n)
theorem narrow_bad {x : List Nat} {v : Value} {tb : Tok} {Q : Array UInt8 → Shared → Prop} (hv : v = .str (S x) tb) (hh : A.handled = none) (hx : ∃ c ∈ x, 256 ≤ c) (h0 : ∀ c, x[0]? = some c → c < 256) (hz : x.length ≤ 100000) (h : ∀ h' e tk', NewUE s.heap h' e → E (.ref e) { s with heap := h', toks := tk' }) :
    wpAny (model P0 w) A (_codecs.encodeNarrow "str.encode" _codecs.latin1Codec none v (S x)) Q E s := by
  have hsl : (100000 : Nat) ≤ sizeLine := by decide
  -- the first that is too large
  obtain ⟨k, c, hk, hc, hlow⟩ : ∃ k c, x[k]? = some c ∧ 256 ≤ c ∧ ∀ d ∈ x.take k, d < 256 := by
    clear h0 hz hv
    induction x with
    | nil => obtain ⟨c, hc, _⟩ := hx; cases hc
    | cons a r ih =>
      by_cases ha : a < 256
      · obtain ⟨c, hc, hc2⟩ := hx
        rcases List.mem_cons.mp hc with rfl | hc
        · omega
        · obtain ⟨k, c, h1, h2, h3⟩ := ih ⟨c, hc, hc2⟩
          refine ⟨k + 1, c, by simpa using h1, h2, fun d hd => ?_⟩
          rw [List.take_succ_cons] at hd
          rcases List.mem_cons.mp hd with rfl | hd
          · exact ha
          · exact h3 d hd
      · exact ⟨0, a, rfl, by omega, fun d hd => by simp at hd⟩
  have hkl : k < x.length := (List.getElem?_eq_some_iff.mp hk).1
  have hk0 : 0 < k := by
    rcases Nat.eq_zero_or_pos k with rfl | h
    · have := h0 c hk; omega
    · exact h
  obtain ⟨y, hy⟩ : ∃ y, x = x.take k ++ c :: y := ⟨x.drop (k + 1), by
    obtain ⟨h1, h2⟩ := List.getElem?_eq_some_iff.mp hk
    rw [← h2, ← List.drop_eq_getElem_cons h1, List.take_append_drop]⟩
  have hfind : Array.findIdx? _codecs.latin1Codec.bad x.toArray = some k := by
    rw [List.findIdx?_toArray, List.findIdx?_eq_some_iff_getElem]
    refine ⟨hkl, ?_, fun j hj => ?_⟩
    · obtain ⟨h1, h2⟩ := List.getElem?_eq_some_iff.mp hk
      rw [h2, latin_bad]; simp; omega
    · have : x[j] ∈ x.take k := by
        rw [List.mem_take_iff_getElem]
        exact ⟨j, by omega, rfl⟩
      have := hlow _ this
      rw [latin_bad]; simp; omega
  unfold _codecs.encodeNarrow
  show wpAny _ _ (forIn _ _ _ >>= _) _ _ _
  rw [Std.Legacy.Range.forIn_eq_forIn_range']
  refine wpAny_bind (wpAny_forIn_list _ (fun rest b s' => s' = s ∧ ((b = (0, #[], {}) ∧ rest = List.range' 0 x.length) ∨ (b = (k, byN (x.take k), {}) ∧ rest = List.range' 1 (x.length - 1)))) _ ?_ ?_ _ _ ⟨rfl, .inl ⟨rfl, ?_⟩⟩)
  · rintro i rest b s' ⟨rfl, ⟨rfl, hr⟩ | ⟨rfl, hr⟩⟩
    · obtain ⟨a, r, rfl⟩ : ∃ a r, x = a :: r := by
        cases x with
        | nil => cases hr
        | cons a r => exact ⟨a, r, rfl⟩
      dsimp only
      rw [if_neg (by simp)]
      show wpAny _ _ (if (!_codecs.latin1Codec.bad a) = true then _ else _) _ _ _
      rw [if_pos (by rw [latin_bad]; have := h0 a rfl; simp; omega)]
      refine wpAny_pure ⟨rfl, .inr ⟨?_, ?_⟩⟩
      · have e1 : (S (a :: r)).cps.extract 0 = (a :: r).toArray := by simp
        rw [e1, hfind]
        simp only [Option.getD_some]
        rw [show ((a :: r).toArray.extract 0 k) = ((a :: r).take k).toArray by simp, fold_byN]
        simp
      · rw [List.length_cons, List.range'_succ] at hr
        obtain ⟨_, rfl⟩ := List.cons.inj hr
        rfl
    · have hsz : ¬ (byN (x.take k)).size > sizeLine := by rw [byN_size, List.length_take]; omega
      show wpAny _ _ (if (byN (x.take k)).size > sizeLine then _ else _) _ _ _
      rw [if_neg hsz]
      show wpAny _ _ (match (S x).cps[k]? with | some _ => _ | _ => _) _ _ _
      rw [show (S x).cps[k]? = some c by simpa using hk]
      show wpAny _ _ (if (!_codecs.latin1Codec.bad c) = true then _ else _) _ _ _
      rw [if_neg (by rw [latin_bad]; simp; omega)]
      refine wpAny_bind (wpAny_rule ?_)
      show wpAny _ _ (_codecs.raiseEncodeFault {} _codecs.latin1Codec.name v k _ _codecs.latin1Codec.reason >>= _) _ _ _
      refine wpAny_bind (fault_ hv hh (by omega) ?_ h)
      have h1 := find_le (fun y => !_codecs.latin1Codec.bad y) ((S x).cps.extract k) ((S x).cps.size - k)
      have h2 : ((S x).cps.extract k).size ≤ x.length := by simp
      have h3 : (S x).cps.size = x.length := by simp
      have h4 : k + (((S x).cps.extract k).size + ((S x).cps.size - k)) ≤ 1000000 := by omega
      exact Nat.le_trans (Nat.add_le_add_left h1 k) h4
  · rintro b s' ⟨rfl, ⟨rfl, hr⟩ | ⟨rfl, hr⟩⟩
    · have := congrArg List.length hr
      simp at this; omega
    · have := congrArg List.length hr
      simp at this; omega
  · simp [Str.length]
end
end
set_option maxHeartbeats 1000000
section
variable {w : World} {A : Around} {E : Value → Shared → Prop} {s : Shared}
theorem encode_ok {x : List Nat} {t t1 : Tok} {Q : Value → Shared → Prop} (hx : ∀ c ∈ x, c < 256) (hz : x.length ≤ 100000) (h : ∀ t' k, Q (.bytes (byN x) t') { s with toks := k }) :
    wpAny (model P0 w) A (call (.builtin "str.encode") [.str (S x) t, .str (Str.ofString "iso-8859-1") t1]) Q E s := by
  refine wpAny_call_entry PySem.F.slot_str_encode (typeIs_str _ _ _) PySem.F.entry_str_encode ?_ (PySem.F.args_str_encode_2 _ _)
  rw [entry_enc, road_enc]
  refine wpAny_bind (wpAny_bind (narrow_ok hx hz (wpAny_mkBytes (wpAny_pure ⟨_, rfl, h _ _⟩) ?_)))
  rw [byN_size, sizeLine_eq]; omega
theorem encode_bad {x : List Nat} {t t1 : Tok} {Q : Value → Shared → Prop} (hh : A.handled = none) (hx : ∃ c ∈ x, 256 ≤ c) (h0 : ∀ c, x[0]? = some c → c < 256) (hz : x.length ≤ 100000) (h : ∀ h' e tk', NewUE s.heap h' e → E (.ref e) { s with heap := h', toks := tk' }) :
    wpAny (model P0 w) A (call (.builtin "str.encode") [.str (S x) t, .str (Str.ofString "iso-8859-1") t1]) Q E s := by
  refine wpAny_call_entry PySem.F.slot_str_encode (typeIs_str _ _ _) PySem.F.entry_str_encode ?_ (PySem.F.args_str_encode_2 _ _)
  rw [entry_enc, road_enc]
  exact wpAny_bind (wpAny_bind (narrow_bad rfl hh hx h0 hz h))
end
section
variable {Mo : Model} {A : Around} {E : Value → Shared → Prop} {s s' : Shared} {g₀ g : Heap} {env : Env} {outer : List Env} {L : Addr} {m : Str → Option Value} {mu : List (Addr × Obj)} {ks : List At} {M : List Addr} {Q : Unit → Shared → Prop}
noncomputable abbrev Any : Heap → Value → Heap → Prop := fun _ _ _ => True
theorem fly_ue {ea : Addr} {h : Heap} (hx : NewUE h s'.heap ea) (hs' : ∃ h' tk, s' = { s with heap := h', toks := tk }) (hA : A.frames = some outer) (hf : env.frame = some L) (hk : env.scope.kind = .function) (C : Cx (hideAll s.heap M) g₀ L m mu ks g h) (hL : s.heap.objs.size ≤ L) (F : Frs s.heap outer) (hFM : ∀ a ∈ frs outer, a ∉ M)
    (k : ∀ s'', Fly outer M s (.type UE) Any (.ref ea) s'' → Q () s'') : wpAny Mo (A.deeper env) (leaving env (.ref ea)) Q E s' := by
  have C' : Cx (hideAll s.heap M) g₀ L m mu ks g ({ s with heap := h } : Shared).heap := C
  have F1 := (F.at C' hFM).push C' hf hk
  obtain ⟨oe, vs, a0, he, hcls, hd, h0, h1⟩ := hx.there
  have hl : s'.heap.FunFrames (hideAll h (frs (env :: outer))) (env :: outer) := (funFrames_to F1 fun a ha => hideAll_none _ ha).of_keeps fun b o e _ => ⟨o, hx.keeps b o e, rfl⟩
  have hen : (hideAll h (frs (env :: outer))).get? ea = none := by
    cases q : (hideAll h (frs (env :: outer))).get? ea with
    | none => rfl
    | some o => have := of_hideAll _ q; rw [hx.new] at this; cases this
  refine wpAny_leaving_firstW (a0 := a0) (base := hideAll h (frs (env :: outer))) (Around.frames_deeper hA) hl hf he (fun b o e => hx.keeps b o (of_hideAll _ e)) hen hd h1 h0 fun h' hL' => ?_
  obtain ⟨k1, ⟨_, _, k2⟩, k3, k4⟩ := hL'
  rw [hcls] at k3
  refine k _ (Fly.down (s₁ := { s with heap := h }) (s' := s') (M₁ := []) hf C' hL F hFM (fun _ h => nomatch h) ⟨_, _, rfl⟩ ⟨k1, hen, k2, k3⟩ (fun b o e hb _ => hideAll_get _ e hb) (fun b hb o e => ⟨o.slots, hx.keeps b o e⟩) ?_ k4 trivial)
  obtain ⟨h2, t2, rfl⟩ := hs'
  exact ⟨_, _, rfl⟩
end
/-- a table of headers -/
structure Tab (w : World) (h g : Heap) (T dx l : Addr) (t : Tok) (vs : List Value) (n : Nat) (ps : List Pair) : Prop where
  hT : g.get? T = some (instObj 224 dx)
  hd : g.get? dx = some (hdD w t l)
  hl : h.get? l = some (lst vs n)
  gl : g.get? l = none
  rd : RdAll g vs (ps.map pairD)
theorem strT_spec {w : World} {A : Around} {E : Value → Shared → Prop} {s : Shared} {g : Heap} {T dx l : Addr} {t : Tok} {vs : List Value} {n : Nat} {ps : List Pair} (G : Gd w g) (gs : g.StaysIn s.heap) (R : Rm A 8) (X : Tab w s.heap g T dx l t vs n ps) (hz : ps.length ≤ 100)
    (hp : ∀ p ∈ ps, p.1.length ≤ 1000 ∧ p.2.length ≤ 1000) :
    wpAny (model P0 w) A (call (.type "str") [.ref T]) (fun v s' => Done (∃ g', Ct [] s g s' g' ∧ ∃ t, v = .str (textS ps) t)) E s := by
  refine kso_call (K := KF w.params) (C := 224) (f := 200) (by have := (Rm.in1 (Rm.in1 R)).cl; omega) (G.up gs).k (inst_at (gs _ _ X.hT) (gs _ _ X.hd)) (by rfl) (by rfl) (wpAny_mono (str_spec G gs (Rm.in1 (Rm.in1 R)) X.hT X.hd X.hl X.gl hz X.rd hp) (fun v s' h => ?_) fun _ _ x => x)
  obtain ⟨g', c, t', rfl⟩ := h.out
  exact Done.mk ⟨g', c, t', rfl⟩
theorem bytes_ok {w : World} {A : Around} {E : Value → Shared → Prop} {s : Shared} {g : Heap} {T dx l : Addr} {t : Tok} {vs : List Value} {n : Nat} {ps : List Pair} {x : List Nat} (G : Gd w g) (gs : g.StaysIn s.heap) (R : Rm A 10) (X : Tab w s.heap g T dx l t vs n ps) (hz : ps.length ≤ 100)
    (hp : ∀ p ∈ ps, p.1.length ≤ 1000 ∧ p.2.length ≤ 1000) (ex : textS ps = S x) (hx : ∀ c ∈ x, c < 256) (hxz : x.length ≤ 100000) :
    wpAny (model P0 w) A (call (.ref 207) [.ref T]) (fun v s' => Done (∃ g', Ct [] s g s' g' ∧ ∃ t, v = .bytes (byN x) t)) E s := by
  refine call_fn (binds := [(Str.ofString "self", .ref T)]) [] [] G gs R.lt (G.k 207 _ rfl) rfl (codeRec_of G.k rfl) (BindsTo.of_eq rfl) (locs rfl) (fun _ h => nomatch h) .nil (fun _ h => nomatch h) ?_ (by decide)
  intro h₁ tk C
  repeat walk1
  refine cx_call C (strT_spec (by walk_at "gd") (by walk_at "gk") (by walk_at "room") ⟨X.hT, X.hd, C.old X.hl (fun h => nomatch h), X.gl, X.rd⟩ hz hp) ?_
  clear C
  rintro _ g₂ h₂ tk₂ hg₂ ⟨t₂, rfl⟩ C2
  rw [ex]
  repeat walk1
  with_reducible refine getMethod_builtin (typeIs_str _ _ _) PySem.F.plainAttrs_str PySem.F.slot_str_encode PySem.F.type_str_encode ?hd ?_
  case hd => exact fun _ e => nomatch e
  repeat walk1
  refine encode_ok hx hxz ?_
  intro t' k
  repeat walk1
  exact Done.mk ⟨_, C2.done (Nat.le_refl _) ⟨_, _, rfl⟩, _, rfl⟩
theorem bytes_bad {w : World} {A : Around} {E : Value → Shared → Prop} {s : Shared} {g : Heap} {T dx l : Addr} {t : Tok} {vs : List Value} {n : Nat} {ps : List Pair} {x : List Nat} {outer : List Env} (G : Gd w g) (gs : g.StaysIn s.heap) (R : Rm A 10) (hA : A.frames = some outer) (F : Frs s.heap outer) (X : Tab w s.heap g T dx l t vs n ps) (hz : ps.length ≤ 100)
    (hp : ∀ p ∈ ps, p.1.length ≤ 1000 ∧ p.2.length ≤ 1000) (ex : textS ps = S x) (hx : ∃ c ∈ x, 256 ≤ c) (h0 : ∀ c, x[0]? = some c → c < 256) (hxz : x.length ≤ 100000) (h : ∀ e s', Fly outer [] s (.type UE) Any e s' → E e s') :
    wpAny (model P0 w) A (call (.ref 207) [.ref T]) (fun v s' => False) E s := by
  refine call_fn (binds := [(Str.ofString "self", .ref T)]) [] [] G gs R.lt (G.k 207 _ rfl) rfl (codeRec_of G.k rfl) (BindsTo.of_eq rfl) (locs rfl) (fun _ h => nomatch h) .nil (fun _ h => nomatch h) ?_ (by decide)
  intro h₁ tk C
  repeat walk1
  refine cx_call C (strT_spec (by walk_at "gd") (by walk_at "gk") (by walk_at "room") ⟨X.hT, X.hd, C.old X.hl (fun h => nomatch h), X.gl, X.rd⟩ hz hp) ?_
  clear C
  rintro _ g₂ h₂ tk₂ hg₂ ⟨t₂, rfl⟩ C2
  rw [ex]
  repeat walk1
  with_reducible refine getMethod_builtin (typeIs_str _ _ _) PySem.F.plainAttrs_str PySem.F.slot_str_encode PySem.F.type_str_encode ?hd ?_
  case hd => exact fun _ e => nomatch e
  repeat walk1
  refine encode_bad (by walk_at "hh") hx h0 hxz fun h' e tk' hn => ?_
  exact fly_ue (s := s) (M := []) hn ⟨_, _, rfl⟩ hA rfl rfl C2 (Nat.le_refl _) F (fun _ _ h => nomatch h) fun s'' y => h _ _ y
section
variable {w : World} {A : Around} {E : Value → Shared → Prop} {s : Shared}
/-- bytes of a table, its __bytes__ by a contract -/
theorem bytesT {g : Heap} {T dx l : Addr} {t : Tok} {Q : Value → Shared → Prop} (G : Gd w s.heap) (hT : s.heap.get? T = some (instObj 224 dx)) (hd : s.heap.get? dx = some (hdD w t l))
    (h : wpAny (model P0 w) A.in1.in1 (call (.ref 207) [.ref T]) (fun v s' => ∃ b u, v = .bytes b u ∧ Q v s') E s) : wpAny (model P0 w) A (call (.type "bytes") [.ref T]) Q E s := by
  have I := inst_at (x := T) hT hd
  refine callType_codes (Q₁ := fun obj s₁ => s₁.TypeIs obj "bytes" ∧ Q obj s₁) PySem.F.bm_called (PySem.F.bm_typeCall _) PySem.F.entry_object_init ?_ fun obj s₁ h₁ => ?_
  · refine codeAny_of_tree ?_
    show wpAny _ A.in1.in1 (do checkBuiltinCall "bytes.__new__" ⟨[.type "bytes", .ref T], []⟩; again (.builtin "bytes.__new__" ⟨[.type "bytes", .ref T], []⟩)) _ _ s
    refine wpAny_bind (wpAny_of_eq (PySem.F.bm_newCall _) (wpAny_pure ⟨plainId_quiet PySem.F.bm_plain _, codeAny_builtin PySem.F.bm_entry ?_⟩))
    rw [Around.under_plainId PySem.F.bm_plain _]
    unfold Builtin.«bytes.__new__»
    refine wpAny_bind (wpAny_of_eq (a := true) rfl ?_)
    refine bm_if_false rfl ?_
    refine wpAny_bind (wpAny_of_eq PySem.F.bm_sub ?_)
    refine bm_if_false rfl ?_
    refine wpAny_bind (wpAny_of_eq (PySem.F.bm_bind _) ?_)
    refine wpAny_bind (wpAny_of_eq (a := ()) rfl ?_)
    refine wpAny_bind (wpAny_of_eq (a := ()) rfl ?_)
    refine bm_if_false rfl ?_
    have hs : findIn (KF w.params) (.ref 224) (Str.ofString "__bytes__") = some (some (.ref 207)) := by rfl
    have hf : isFn (KF w.params) (.ref 207) = true := by rfl
    refine wpAny_bind ?_
    unfold specialOf
    refine wpAny_bind (I.type.here ((looks_findIn G.k hs).here ?_))
    refine wpAny_bind (wpAny_rule ?_)
    refine wpAny_bind (special_fn G.k I hs (beq_iff_eq.mp hf) (wpAny_mono h (fun v s' hv => ?_) fun _ _ x => x))
    obtain ⟨b, u, rfl, hq⟩ := hv
    refine wpAny_bind (wpAny_isInstance (typeIs_bytes _ _ _) PySem.F.bm_sub ?_)
    show wpAny _ _ (ret _) _ _ _
    exact wpAny_pure ⟨typeIs_bytes _ _ _, hq⟩
  · exact ⟨h₁.1, PySem.F.args_object_init_2 obj _, object_init_meets PySem.F.bm_called.init.lookup PySem.F.bm_called.made (by decide) P0 w A.in1 _ s₁ ⟨h₁.1, rfl, h₁.2⟩⟩
end
set_option maxHeartbeats 1000000
theorem sent_ok {w : World} {A : Around} {E : Value → Shared → Prop} {s : Shared} {g : Heap} {T dx l : Addr} {t : Tok} {vs : List Value} {n : Nat} {ps : List Pair} {x : List Nat} (G : Gd w g) (gs : g.StaysIn s.heap) (R : Rm A 14) (X : Tab w s.heap g T dx l t vs n ps) (hz : ps.length ≤ 100)
    (hp : ∀ p ∈ ps, p.1.length ≤ 1000 ∧ p.2.length ≤ 1000) (ex : textS ps = S x) (hx : ∀ c ∈ x, c < 256) (hxz : x.length ≤ 100000) :
    wpAny (model P0 w) A (call (.ref 290) [.ref T]) (fun v s' => Done (∃ g', Ct [] s g s' g' ∧ ∃ t, v = .bytes (byN x) t)) E s := by
  refine call_fn (binds := [(Str.ofString "table", .ref T)]) [] [] G gs R.lt (G.k 290 _ rfl) rfl (codeRec_of G.k rfl) (BindsTo.of_eq rfl) (locs rfl) (fun _ h => nomatch h) .nil (fun _ h => nomatch h) ?_ (by decide)
  intro h₁ tk C
  repeat walk1
  refine wpAny_Try_except ?_
  repeat walk1
  have hld : h₁.get? l = some (lst vs n) := C.old (s₁ := { s with heap := h₁ }) (M := []) X.hl (fun h => nomatch h)
  refine bytesT (g := g) (G.up C.up0) (C.gk _ _ X.hT) (C.gk _ _ X.hd) ?_
  refine wpAny_mono (bytes_ok (by walk_at "gd") (by walk_at "gk") (Rm.le (Rm.in1 (Rm.in1 (Rm.deeper R)))) ⟨X.hT, X.hd, hld, X.gl, X.rd⟩ hz hp ex hx hxz) (fun v s' q => ?_) fun _ _ x => x
  obtain ⟨g', c, t', rfl⟩ := q.out
  refine ⟨_, _, rfl, ?_⟩
  have C2 := C.after0 c
  obtain ⟨h', tk', rfl⟩ := c.sh
  exact Done.mk ⟨g', C2.done (M := []) (Nat.le_refl _) ⟨_, _, rfl⟩, t', rfl⟩
/-- what a call that may have caught something comes to -/
noncomputable def Kept (s : Shared) (g : Heap) (frl : List (Addr × Obj)) (P : Value → Heap → Prop) (v : Value) (s' : Shared) : Prop :=
  ∃ g' frl', Ct (frl.map (·.1)) s g s' g' ∧ SlU frl frl' ∧ (∀ p ∈ frl', s'.heap.get? p.1 = some p.2) ∧ P v g'
theorem try_bytes {w : World} {A : Around} {E : Value → Shared → Prop} {s₁ : Shared} {b g₀ g : Heap} {env : Env} {L : Addr} {m : Str → Option Value} {ks : List At} {T dx l : Addr} {t : Tok} {vs : List Value} {n : Nat} {ps : List Pair} {x : List Nat} {outer : List Env} {frl : List (Addr × Obj)} {xn : Str} {np pos : Pos} {b₀ : Stmt} {suite : List Stmt} {rest : List ExceptHandler} {Q : Flow → Shared → Prop} {Q0 : Value → Shared → Prop}
    (C : Cx b g₀ L m frl ks g s₁.heap) (G : Gd w g) (R : Rm (A.deeper env) 12) (hA : A.frames = some outer) (K1 : Stk s₁.heap g outer frl) (h2 : L ≠ 237) (X : Tab w s₁.heap g T dx l t vs n ps) (hz : ps.length ≤ 100)
    (hp : ∀ p ∈ ps, p.1.length ≤ 1000 ∧ p.2.length ≤ 1000) (ex : textS ps = S x) (hx : ∃ c ∈ x, 256 ≤ c) (h0 : ∀ c, x[0]? = some c → c < 256) (hxz : x.length ≤ 100000)
    (hn1 : nsIn (KF w.params) mainGlobals xn = some none) (hv : bootBuiltins xn = some (.type UE))
    (k : ∀ ea frl' h₆ tk, SlU frl frl' → Cx b g₀ L m frl' ks g h₆ → wpAny (model P0 w) ((A.deeper env).mark (some (.ref ea))) (execs (b₀ :: suite) env) Q NoE { s₁ with heap := h₆, toks := tk })
    (hn : xn ≠ "__name__" := by decide) (hf : env.frame = some L := by rfl) (hk : env.scope.kind = .function := by rfl) (hl : env.kindOf xn = some .globalImplicit := by rfl) (hg : env.globals = mainGlobals := by rfl) (hbu : env.builtins = builtinsNs := by rfl) (hd : (xn == ("__debug__" : Str)) = false := by decide) :
    wpAny (model P0 w) (A.deeper env) (call (.type "bytes") [.ref T]) Q0 (fun e s' => wpAny (model P0 w) (A.deeper env) (noteFrame e env) (fun _ s₂ => wpAny (model P0 w) (A.deeper env) (setFlight e none) (fun _ s₃ =>
        wpAny (model P0 w) (A.deeper env) (handleBy e env (.ExceptHandler (some (.Name xn np)) none (b₀ :: suite) pos :: rest)) Q E s₃) E s₂) E s') s₁ := by
  obtain ⟨oL, K2⟩ := K1.push (env := env) C hf hk (fun p hp => hp) h2
  refine bytesT (g := g) (G.up C.gk) (C.gk _ _ X.hT) (C.gk _ _ X.hd) ?_
  refine wpAny_mono (bytes_bad (E := fun e s' => Fly (env :: outer) [] s₁ (.type UE) Any e s') G C.gk (Rm.le (Rm.in1 (Rm.in1 R))) (Around.frames_deeper hA) K2.fr X hz hp ex hx h0 hxz fun e s' y => y) (fun _ _ f => f.elim) fun e s' y => ?_
  have hFo : ∀ a ∈ frs outer, a ∈ frl.map (·.1) := fun a ha => by rw [K1.keys]; exact ha
  have hM : ∀ a ∈ ([] : List Addr), a ∈ frl.map (·.1) := fun _ h => nomatch h
  refine caught_0 (T := UE) y (fun _ _ _ _ h _ => h) hA hf K2.fr G (fun B kp => (C.stays hf hFo hM kp).2) (by rw [isSubtype_type]; kernel_rfl) (by kernel_rfl) (by rw [isSubtype_type]; kernel_rfl) hn1 hv (fun ea a0 B h₆ he Y => ?_) hn hk hl hg hbu hd
  subst he
  obtain ⟨frl', U, hU⟩ := SlU.make (h := h₆) (l := frl) fun p hp => Y.fr p.1 (by rw [frs_cons hf, ← K1.keys]; exact .tail _ (List.mem_map_of_mem hp)) p.2 (C.at hp)
  obtain ⟨h', tk', rfl⟩ := y.sh
  exact k ea frl' h₆ tk' U (C.land hf hFo hM Y.kp Y.fl.1 Y.fr U.keys hU)
theorem sent_bad {w : World} {A : Around} {E : Value → Shared → Prop} {s : Shared} {g : Heap} {T dx l : Addr} {t : Tok} {vs : List Value} {n : Nat} {ps : List Pair} {x : List Nat} {outer : List Env} {frl : List (Addr × Obj)} (G : Gd w g) (gs : g.StaysIn s.heap) (R : Rm A 14) (hA : A.frames = some outer) (K : Stk s.heap g outer frl) (h2 : 237 < s.heap.objs.size) (hlf : l ∉ frl.map (·.1)) (X : Tab w s.heap g T dx l t vs n ps) (hz : ps.length ≤ 100)
    (hp : ∀ p ∈ ps, p.1.length ≤ 1000 ∧ p.2.length ≤ 1000) (ex : textS ps = S x) (hx : ∃ c ∈ x, 256 ≤ c) (h0 : ∀ c, x[0]? = some c → c < 256) (hxz : x.length ≤ 100000) :
    wpAny (model P0 w) A (call (.ref 290) [.ref T]) (fun v s' => Done (Kept s g frl (fun v g' => v = .none) v s')) E s := by
  refine call_fn (binds := [(Str.ofString "table", .ref T)]) frl [] G gs R.lt (G.k 290 _ rfl) rfl (codeRec_of G.k rfl) (BindsTo.of_eq rfl) (locs rfl) (fun p hp => ⟨K.at' p hp, K.ng p hp⟩) K.nd (fun _ h => nomatch h) ?_ (by decide)
  intro h₁ tk C
  repeat walk1
  refine wpAny_Try_except ?_
  repeat walk1
  have hld : h₁.get? l = some (lst vs n) := C.old (s₁ := { s with heap := h₁ }) X.hl hlf
  have K1 : Stk h₁ g outer frl := K.now (.refl _) (fun p hp => C.at hp) K.ng
  refine try_bytes C G (by walk_at "room") hA K1 (Nat.ne_of_gt h2) ⟨X.hT, X.hd, hld, X.gl, X.rd⟩ hz hp ex hx h0 hxz (by rfl) (by boot_by_name) ?_
  intro ea frl' h₂ tk₂ U C2
  repeat walk1
  exact Done.mk ⟨g, frl', C2.done (M := frl.map (·.1)) (Nat.le_refl _) ⟨_, _, rfl⟩, U, fun p hp => C2.at hp, rfl⟩
set_option maxHeartbeats 1000000
theorem canLay_all {α : Type} (f : α → PyData) : ∀ {l : List α}, (∀ x ∈ l, (f x).canLay0 = true) → PyData.canLayAll0 (l.map f) = true
  | [], _ => rfl
  | a :: r, h => by
    rw [List.map_cons, PyData.canLayAll0, h a (.head _), canLay_all f fun x hx => h x (.tail _ hx)]; rfl
theorem depth_all {α : Type} (f : α → PyData) {k : Nat} : ∀ {l : List α}, (∀ x ∈ l, (f x).depth ≤ k) → PyData.depthAll (l.map f) ≤ k
  | [], _ => Nat.zero_le _
  | a :: r, h => by
    rw [List.map_cons, PyData.depthAll]
    exact Nat.max_le.mpr ⟨h a (.head _), depth_all f fun x hx => h x (.tail _ hx)⟩
noncomputable def okS (x : Str) : Prop := ∀ c ∈ x.cps.toList, c < 1114112
theorem strOk_of {x : Str} (h : okS x) : PyData.strOk x = true := by
  unfold PyData.strOk
  rw [Array.all_eq_true_iff_forall_mem]
  intro c hc
  exact decide_eq_true (h c (by simpa using hc))
theorem shaped_pairs {ps : List Pair} (h : ∀ p ∈ ps, okS p.1 ∧ okS p.2) : SeqAt.shaped (pairsD ps) = true := by
  unfold SeqAt.shaped
  rw [Bool.and_eq_true]
  constructor
  · show PyData.canLayAll0 _ = true
    refine canLay_all pairD fun p hp => ?_
    show (PyData.strOk p.1 && (PyData.strOk p.2 && true)) = true
    rw [strOk_of (h p hp).1, strOk_of (h p hp).2]; rfl
  · refine decide_eq_true ?_
    show PyData.depthAll _ + 1 ≤ 64
    have : PyData.depthAll (ps.map pairD) ≤ 1 := depth_all pairD fun p _ => Nat.le_refl 1
    omega
theorem shaped_strs {ls : List Str} (h : ∀ x ∈ ls, okS x) : SeqAt.shaped (.list (ls.map .str)) = true := by
  unfold SeqAt.shaped
  rw [Bool.and_eq_true]
  constructor
  · show PyData.canLayAll0 _ = true
    exact canLay_all PyData.str fun p hp => strOk_of (h p hp)
  · refine decide_eq_true ?_
    show PyData.depthAll _ + 1 ≤ 64
    have : PyData.depthAll (ls.map PyData.str) ≤ 0 := depth_all PyData.str fun p _ => Nat.le_refl 0
    omega
section
variable {w : World} {A : Around} {E : Value → Shared → Prop} {s : Shared} {g : Heap} {a b : Value} {d : PyData} {Q : Value → Shared → Prop}
theorem eq_same (gs : g.StaysIn s.heap) (ra : Rd g a d) (rb : Rd g b d) (hd : SeqAt.shaped d = true) (hu : A.units + 64 < cLine) (h : Q (.bool true) s) : wpAny (model P0 w) A (compareOp .Eq a b) Q E s := by
  obtain ⟨_, ra'⟩ := (ra.up gs).reads
  obtain ⟨_, rb'⟩ := (rb.up gs).reads
  refine eq_dataH ra' rb' hd hd hu ?_
  rw [SeqAt.eqv_refl d (SeqAt.canLay_of_shaped hd)]; exact h
theorem ne_same (gs : g.StaysIn s.heap) (ra : Rd g a d) (rb : Rd g b d) (hd : SeqAt.shaped d = true) (hu : A.units + 64 < cLine) (h : Q (.bool false) s) : wpAny (model P0 w) A (compareOp .NotEq a b) Q E s := by
  obtain ⟨_, ra'⟩ := (ra.up gs).reads
  obtain ⟨_, rb'⟩ := (rb.up gs).reads
  refine ne_dataH ra' rb' hd hd hu ?_
  rw [SeqAt.eqv_refl d (SeqAt.canLay_of_shaped hd)]; exact h
end
theorem okS_S {l : List Nat} (h : ∀ c ∈ l, c < 1114112) : okS (S l) := by intro c hc; exact h c (by simpa using hc)
theorem shown_ok {full : Bool} {qs : List Pair} (h : ∀ p ∈ qs, okS p.1 ∧ okS p.2) : ∀ p ∈ shownP full qs, okS p.1 ∧ okS p.2 := by
  cases full
  · intro p hp
    simp only [shownP, Bool.false_eq_true, if_false] at hp
    obtain ⟨q, hq, rfl⟩ := List.mem_map.mp hp
    have hQ := h q hq
    exact ⟨okS_S fun c hc => by have := utfL_lt hQ.1 c hc; omega, okS_S fun c hc => by have := utfL_lt hQ.2 c hc; omega⟩
  · exact h
set_option maxHeartbeats 1000000
/-- behind a call that has touched the slots of the frames -/
theorem Cx.kept {b g₀ g : Heap} {L : Addr} {m : Str → Option Value} {mu0 frl : List (Addr × Obj)} {ks : List At} {s s' : Shared} {oL : Obj} {P : Value → Heap → Prop} {v : Value} (C : Cx b g₀ L m (mu0 ++ frl) ks g s.heap) (hoL : s.heap.get? L = some oL) (q : Kept s g ((L, oL) :: frl) P v s') :
    ∃ g' frl', Cx b g₀ L m (mu0 ++ frl') ks g' s'.heap ∧ SlU frl frl' ∧ g.StaysIn g' ∧ P v g' ∧ ∃ h tk, s' = { s with heap := h, toks := tk } := by
  obtain ⟨g', frl1, c, U, hat, hP⟩ := q
  cases U with
  | @cons _ _ sl _ frl' U =>
  have inF : ∀ {a : Addr}, a ∈ frl.map (·.1) → b.get? a = none ∧ g.get? a = none := fun ha => by
    obtain ⟨p, hp, rfl⟩ := List.mem_map.mp ha
    have z := C.mt p (List.mem_append_right _ hp)
    exact ⟨z.2.1, z.2.2.1⟩
  have newN : ∀ {p : Addr × Obj}, p ∈ mu0 ++ frl → g'.get? p.1 = none := fun {p} hp => by
    cases z : g'.get? p.1 with
    | none => rfl
    | some o =>
      rcases c.nw _ _ z with z | z
      · rw [(C.mt p hp).2.2.1] at z; cases z
      · exact absurd (C.mu_lt hp) (Nat.not_lt.mpr z)
  have nd := C.nd
  rw [List.map_append, List.nodup_append] at nd
  refine ⟨g', frl',
    { ns := ?_
      bk := fun a o e => c.kp a o (fun z => ?_) (C.bk a o e)
      bL := C.bL
      gk := c.gs
      gg := fun a o e => c.gg a o (C.gg a o e)
      gn := fun a o e => by
        rcases c.nw a o e with z | z
        · exact C.gn a o z
        · exact .inr (Nat.lt_of_lt_of_le C.lt z)
      g0 := C.g0
      mt := fun p hp => ?_
      nd := by rw [List.map_append, U.keys, ← List.map_append]; exact C.nd
      kn := fun x hx => At.up c.gg (C.kn x hx) }, U, c.gg, hP, c.sh⟩
  · obtain ⟨o, es, ep, ho, hd, r⟩ := C.ns
    rw [hoL] at ho; cases ho
    exact ⟨_, es, ep, hat _ (.head _), hd, r⟩
  · rw [List.map_cons] at z
    rcases List.mem_cons.mp z with z | z
    · rw [z, C.bLn] at e; cases e
    · rw [(inF z).1] at e; cases e
  · rcases List.mem_append.mp hp with hp | hp
    · have z := C.mt p (List.mem_append_left _ hp)
      refine ⟨c.kp _ _ (fun y => ?_) z.1, z.2.1, newN (List.mem_append_left _ hp), z.2.2.2⟩
      rw [List.map_cons] at y
      rcases List.mem_cons.mp y with y | y
      · exact z.2.2.2 y
      · exact nd.2.2 _ (List.mem_map_of_mem hp) _ y rfl
    · obtain ⟨q, hq, sl', rfl⟩ := U.mem p hp
      have z := C.mt q (List.mem_append_right _ hq)
      exact ⟨hat _ (.tail _ hp), z.2.1, newN (p := q) (List.mem_append_right _ hq), z.2.2.2⟩
theorem Tab.now {w : World} {s s₁ : Shared} {g g' : Heap} {T dx l : Addr} {t : Tok} {vs : List Value} {n : Nat} {ps : List Pair} {M : List Addr} {L : Addr} {m : Str → Option Value} {mu : List (Addr × Obj)} {ks : List At} (X : Tab w s.heap g T dx l t vs n ps) (C : Cx (hideAll s.heap M) g L m mu ks g' s₁.heap) (hL : s.heap.objs.size ≤ L) (hl : l ∉ M) : Tab w s₁.heap g' T dx l t vs n ps where
  hT := C.gg _ _ X.hT
  hd := C.gg _ _ X.hd
  hl := C.old X.hl hl
  gl := by
    cases z : g'.get? l with
    | none => rfl
    | some o =>
      rcases C.gn l o z with z | z
      · rw [X.gl] at z; cases z
      · exact absurd (Heap.lt_size X.hl) (Nat.not_lt.mpr (Nat.le_trans hL (Nat.le_of_lt z)))
  rd := X.rd.up C.gg
theorem shown_len {full : Bool} {qs : List Pair} (h : ∀ p ∈ qs, p.1.length ≤ 200 ∧ p.2.length ≤ 200) : ∀ p ∈ shownP full qs, p.1.length ≤ 1000 ∧ p.2.length ≤ 1000 := by
  have key : ∀ x : Str, x.length ≤ 200 → (lowS x).length ≤ 1000 := fun x hx => by
    rw [lowS, S_length, utfS]
    have h1 := utfL_len x.cps.toList
    have h2 : x.cps.toList.length = x.length := by simp [Str.length]
    omega
  cases full
  · intro p hp
    simp only [shownP, Bool.false_eq_true, if_false] at hp
    obtain ⟨q, hq, rfl⟩ := List.mem_map.mp hp
    exact ⟨key _ (h q hq).1, key _ (h q hq).2⟩
  · intro p hp
    have := h p hp
    omega
theorem sent_cx {w : World} {A : Around} {E : Value → Shared → Prop} {s₁ : Shared} {b g₀ g : Heap} {env : Env} {L : Addr} {m : Str → Option Value} {ks : List At} {T dx l : Addr} {t : Tok} {vs : List Value} {n : Nat} {ps : List Pair} {x : List Nat} {outer : List Env} {frl : List (Addr × Obj)} {Q : Value → Shared → Prop}
    (C : Cx b g₀ L m frl ks g s₁.heap) (G : Gd w g) (R : Rm (A.deeper env) 14) (hA : A.frames = some outer) (K1 : Stk s₁.heap g outer frl) (h2 : 237 < L) (hlf : l ∉ frl.map (·.1)) (X : Tab w s₁.heap g T dx l t vs n ps) (hz : ps.length ≤ 100)
    (hp : ∀ p ∈ ps, p.1.length ≤ 1000 ∧ p.2.length ≤ 1000) (ex : textS ps = S x) (h0 : ∀ c, x[0]? = some c → c < 256) (hxz : x.length ≤ 100000)
    (k : ∀ v frl' g' h' tk, SlU frl frl' → g.StaysIn g' → (((∃ c ∈ x, 256 ≤ c) ∧ v = .none) ∨ ((∀ c ∈ x, c < 256) ∧ ∃ t, v = .bytes (byN x) t)) → Cx b g₀ L m frl' ks g' h' → Q v { s₁ with heap := h', toks := tk })
    (hf : env.frame = some L := by rfl) (hk : env.scope.kind = .function := by rfl) : wpAny (model P0 w) (A.deeper env) (call (.ref 290) [.ref T]) Q E s₁ := by
  by_cases hx : ∃ c ∈ x, 256 ≤ c
  · obtain ⟨oL, K2⟩ := K1.push (env := env) C hf hk (fun p hp => hp) (Nat.ne_of_gt h2)
    have hlL : l ≠ L := fun q => by
      obtain ⟨o, es, ep, ho, hd, _⟩ := C.ns
      have := X.hl
      rw [q, ho] at this; cases this; cases hd
    refine wpAny_mono (sent_bad G C.gk R (Around.frames_deeper hA) K2 (Nat.lt_trans h2 C.lt) (by rw [List.map_cons, List.mem_cons, not_or]; exact ⟨hlL, hlf⟩) X hz hp ex hx h0 hxz) (fun v s' q => ?_) fun _ _ z => z
    obtain ⟨g', frl', C', U, hg, hv, h, tk, rfl⟩ := Cx.kept (mu0 := []) C (K2.at' _ (.head _)) q.out
    exact k v frl' g' h tk U hg (.inl ⟨hx, hv⟩) C'
  · have hx' : ∀ c ∈ x, c < 256 := fun c hc => Nat.lt_of_not_le fun q => hx ⟨c, hc, q⟩
    refine cx_call C (sent_ok G C.gk R X hz hp ex hx' hxz) fun v g' h' tk hg hv C' => ?_
    exact k v frl g' h' tk (.refl _) hg (.inr ⟨hx', hv⟩) C'
set_option maxHeartbeats 1000000
noncomputable def lineT (p : Pair) : Str := p.1 ++ Str.ofString ": " ++ p.2 ++ Str.ofString "\r\n"
noncomputable def textL (qs : List Pair) : List Nat := (qs.flatMap fun p => (lineT p).cps.toList) ++ [13, 10]
noncomputable def ptsL (full : Bool) (qs : List Pair) : List Nat := if full then textL qs else utfL (textL qs)
theorem join_nil : ∀ l : List Str, Str.join (Str.ofString "") l = S (l.flatMap fun x => x.cps.toList)
  | [] => rfl
  | [x] => by simp [Str.join]
  | x :: y :: r => by
    have e : Str.join (Str.ofString "") (x :: y :: r) = x ++ Str.ofString "" ++ Str.join (Str.ofString "") (y :: r) := rfl
    rw [e, join_nil (y :: r), List.flatMap_cons (x := x)]
    show (⟨x.cps ++ #[] ++ _⟩ : Str) = _
    simp [S]
theorem textL_eq (qs : List Pair) : Str.join (Str.ofString "") (qs.map lineT) ++ Str.ofString "\r\n" = S (textL qs) := by
  rw [join_nil, List.flatMap_map, show Str.ofString "\r\n" = S [13, 10] by decide]
  show (⟨(qs.flatMap fun p => (lineT p).cps.toList).toArray ++ [13, 10].toArray⟩ : Str) = _
  rw [List.append_toArray]; rfl
theorem lineT_len (p : Pair) : (lineT p).length = p.1.length + p.2.length + 4 := by
  simp only [lineT, Str.length_append]
  rw [show (Str.ofString ": ").length = 2 by decide, show (Str.ofString "\r\n").length = 2 by decide]; omega
theorem textL_len {qs : List Pair} (hp : ∀ p ∈ qs, p.1.length ≤ 200 ∧ p.2.length ≤ 200) : (textL qs).length ≤ 404 * qs.length + 2 := by
  unfold textL
  rw [List.length_append]
  induction qs with
  | nil => simp
  | cons a r ih =>
    have h1 := hp a (.head _)
    have h2 := ih fun p hp' => hp p (.tail _ hp')
    have h3 : (lineT a).cps.toList.length = a.1.length + a.2.length + 4 := by rw [← lineT_len]; simp [Str.length]
    rw [List.flatMap_cons, List.length_append, h3, show (a :: r).length = r.length + 1 from rfl]
    simp only [List.length_cons, List.length_nil] at h2 ⊢
    omega
theorem lines_weight {qs : List Pair} (hp : ∀ p ∈ qs, p.1.length ≤ 200 ∧ p.2.length ≤ 200) : ((qs.map lineT).map (·.length)).sum ≤ 404 * qs.length := by
  induction qs with
  | nil => simp
  | cons a r ih =>
    have h1 := hp a (.head _)
    have h2 := ih fun p hp' => hp p (.tail _ hp')
    have h3 := lineT_len a
    simp only [List.map_cons, List.sum_cons, List.length_cons]
    omega
theorem max_ {w : World} {A : Around} {E : Value → Shared → Prop} {s : Shared} {b g₀ g : Heap} {L l : Addr} {m : Str → Option Value} {mu : List (Addr × Obj)} {ks : List At} {vs : List Value} {n : Nat} {ns : List Nat} {Q : Value → Shared → Prop}
    (C : Cx b g₀ L m mu ks g s.heap) (hh : A.handled = none) (hl : s.heap.get? l = some (lst vs n)) (hi : AreInts vs ns) (hne : 0 < ns.length)
    (h : ∀ (M : Nat) t h' tk, M ∈ ns → (∀ a ∈ ns, a ≤ M) → Cx b g₀ L m mu ks g h' → Q (.int (M : Int) t) { s with heap := h', toks := tk }) :
    wpAny (model P0 w) A (call (.builtin "max") [.ref l]) Q E s := by
  obtain ⟨xs, e⟩ := IntsAre.allInts hi |>.items
  have hns : ns.map (fun (n : Nat) => (n : Int)) = xs.toList.map (·.1) := by
    rw [← IntsAre.numsOf hi, ← nums_intItems, ← e]
  have hsz : 0 < xs.size := by
    have h3 := congrArg List.length hns
    rw [List.length_map, List.length_map] at h3
    have h4 : xs.toList.length = xs.size := Array.length_toList
    omega
  have hL : s.heap.IsList l (intItems xs) := e ▸ ⟨_, hl, rfl, n, rfl⟩
  refine max_intList hh hL hsz fun v h' tk hv hk => ?_
  obtain ⟨t, rfl⟩ := intItems_at hv
  obtain ⟨h1, h2⟩ := argBest_gt (numAt xs) (xs.size - 1)
  have hmem : numAt xs (argBest (fun i j => decide (numAt xs i > numAt xs j)) (xs.size - 1)) ∈ ns.map (fun (n : Nat) => (n : Int)) := by
    rw [hns, numAt_eq]; exact getD_mem (by rw [List.length_map, Array.length_toList]; omega)
  obtain ⟨M, hM, eM⟩ := List.mem_map.mp hmem
  rw [← eM]
  refine h M t h' tk hM (fun a ha => ?_) (C.keep hk)
  have ha' : (a : Int) ∈ xs.toList.map (·.1) := hns ▸ List.mem_map_of_mem (f := fun (n : Nat) => (n : Int)) ha
  obtain ⟨j, hj, e2⟩ := mem_getD ha'
  rw [List.length_map, Array.length_toList] at hj
  have := h2 j (by omega)
  rw [← eM, numAt_eq, e2] at this
  omega
theorem utfL_append (a b : List Nat) : utfL (a ++ b) = utfL a ++ utfL b := List.flatMap_append
theorem textS_eq (ps : List Pair) : textS ps = S ((ps.flatMap fun p => (lineS p).cps.toList ++ [13, 10]) ++ [13, 10]) := by
  unfold textS
  induction ps with
  | nil => decide
  | cons a r ih =>
    obtain ⟨y, z, e⟩ : ∃ y z, r.map lineS ++ [S [], S []] = y :: z := by
      cases r with
      | nil => exact ⟨_, _, rfl⟩
      | cons b r => exact ⟨_, _, rfl⟩
    rw [List.map_cons, List.cons_append, e]
    rw [e] at ih
    rw [show Str.join (S [13, 10]) (lineS a :: y :: z) = lineS a ++ S [13, 10] ++ Str.join (S [13, 10]) (y :: z) from rfl, ih, List.flatMap_cons]
    show (⟨(lineS a).cps ++ [13, 10].toArray ++ _⟩ : Str) = _
    simp [S]
theorem text_plain (full : Bool) (qs : List Pair) : textS (shownP full qs) = S (ptsL full qs) := by
  rw [textS_eq]
  congr 1
  have key : ∀ p : Pair, (lineT p).cps.toList = (lineS p).cps.toList ++ [13, 10] := by
    intro p
    simp only [lineT, lineS, Str.cps_append, Array.toList_append]
    rfl
  cases full
  · show ((qs.map fun p => (lowS p.1, lowS p.2)).flatMap fun p => (lineS p).cps.toList ++ [13, 10]) ++ [13, 10] = utfL (textL qs)
    unfold textL
    rw [utfL_append, show utfL [13, 10] = [13, 10] by decide]
    congr 1
    induction qs with
    | nil => rfl
    | cons a r ih =>
      rw [List.map_cons, List.flatMap_cons, List.flatMap_cons, utfL_append, ih, key]
      congr 1
      simp only [lineS, Str.cps_append, Array.toList_append, lowS, utfS, utfL_append]
      rw [show utfL (S [58, 32]).cps.toList = [58, 32] by decide, show utfL [13, 10] = [13, 10] by decide]
  · show (qs.flatMap fun p => (lineS p).cps.toList ++ [13, 10]) ++ [13, 10] = textL qs
    unfold textL
    simp only [key]
theorem goes_spec {w : World} {A : Around} {E : Value → Shared → Prop} {s : Shared} {g : Heap} {T dx l : Addr} {t : Tok} {vs : List Value} {n : Nat} {qs : List Pair} {v : Value} {full : Bool} {outer : List Env} {frl : List (Addr × Obj)} (G : Gd w g) (gs : g.StaysIn s.heap) (R : Rm A 17) (hA : A.frames = some outer) (K : Stk s.heap g outer frl) (h2 : 237 < s.heap.objs.size) (hlf : l ∉ frl.map (·.1))
    (X : Tab w s.heap g T dx l t vs n (shownP full qs)) (hr : Rd g v (pairsD qs)) (hz : qs.length ≤ 20) (hp : ∀ p ∈ qs, TxP p ∧ p.1.length ≤ 200 ∧ p.2.length ≤ 200) (h00 : ∀ c, (ptsL full qs)[0]? = some c → c < 256) :
    wpAny (model P0 w) A (call (.ref 295) [.ref T, v, .bool full]) (fun v s' => Done (Kept s g frl (fun v g' => v = .bool true) v s')) E s := by
  obtain ⟨a, us, nu, rfl, ha, hV⟩ := hr.pairs
  have hlen := hV.length
  refine call_fn (binds := [(Str.ofString "table", .ref T), (Str.ofString "pairs", .ref a), (Str.ofString "full", .bool full)]) frl [] G gs R.lt (G.k 295 _ rfl) rfl (codeRec_of G.k rfl) (BindsTo.of_eq rfl) (locs rfl) (fun p hp => ⟨K.at' p hp, K.ng p hp⟩) K.nd (fun _ h => nomatch h) ?_ (by decide)
  intro h₁ tk C
  repeat walk1
  refine it_lst C R.hd ha ?_
  intro I oI h₂ it C2
  clear C
  refine comp_it it C2 (by simp at hlen; omega) (fun i ys mu₁ ks₁ => mu₁ = frl ∧ ks₁ = [] ∧ StrsAre ys ((qs.take i).map lineT)) ⟨rfl, rfl, .nil⟩ ?_ ?_
  · rintro i v ys b' Lc m₁ mu₁ ks₁ g₁ h₃ tk₃ o₁ D nD hi hvi ⟨rfl, rfl, hys⟩ hg₁ C3
    obtain ⟨p, a, t, u, hpi, rfl, hpa⟩ := hV.pairAt hvi
    have hP := hp p (List.mem_of_getElem? hpi)
    clear C2
    repeat walk1
    rename Cx _ _ _ _ _ _ _ _ => C4
    refine ⟨_, _, _, _, C4, hg₁, ⟨rfl, rfl, ?_⟩, _, _, rfl⟩
    rw [List.take_add_one, hpi, List.map_append]
    exact hys.append' (.cons _ _ .nil)
  · rintro ys mu₁ ks₁ g₁ h₃ tk₃ D nD ⟨rfl, rfl, hys⟩ hg₁ hD C3
    rw [show qs.take us.length = qs from List.take_of_length_le (by simp at hlen; omega)] at hys
    clear C2
    have hpl : ∀ p ∈ qs, p.1.length ≤ 200 ∧ p.2.length ≤ 200 := fun p hp' => (hp p hp').2
    have hw := lines_weight hpl
    have htl := textL_len hpl
    repeat walk1
    refine join_listW ⟨_, C3.at (.head _), rfl, _, rfl⟩ (by simpa using hys) (by decide) (by rw [List.length_map]; omega) ?_
    intro t₄ k₄
    rw [beq_iff_eq.mp (join_plain_closes _ _)]
    repeat walk1
    have hjl : (Str.join (Str.ofString "") (qs.map lineT)).length + (Str.ofString "\r\n").length = (textL qs).length := by
      rw [← Str.length_append, textL_eq, S_length]
    refine PyProof.Rows.add_str (fun t₅ k₅ => ?_) (by rw [hjl, sizeLine_eq]; omega)
    rw [textL_eq]
    have C4 := C3.drop (List.sublist_cons_self _ _)
    clear C3
    iterate 3 walk1
    rename Cx _ _ _ _ _ _ _ _ => C5
    have htc : ∀ c ∈ textL qs, c < 1114112 := by
      intro c hc
      rcases List.mem_append.mp hc with hc | hc
      · obtain ⟨p, hp', hc⟩ := List.mem_flatMap.mp hc
        have hP := (hp p hp').1
        simp only [lineT, Str.cps_append, Array.toList_append, List.mem_append] at hc
        rcases hc with ((hc | hc) | hc) | hc
        · exact hP.1.cps c hc
        · have : c ∈ [58, 32] := hc
          simp at this; omega
        · exact hP.2.cps c hc
        · have : c ∈ [13, 10] := hc
          simp at this; omega
      · simp at hc; omega
    refine wpAny_mono (Q := fun v s' => Done (∃ pa us₂ k g' h' tk', v = .ref pa ∧ g₁.StaysIn g' ∧ g'.get? pa = some (lst us₂ k) ∧ AreInts us₂ (ptsL full qs) ∧ Cx (hideAll s.heap (mu₁.map (·.1))) g s.heap.objs.size (fun y => if y = Str.ofString "text" then some (.str (S (textL qs)) t₅) else List.lookup y [(Str.ofString "table", Value.ref T), (Str.ofString "pairs", .ref a), (Str.ofString "full", .bool full)].reverse) mu₁ [] g' h' ∧ s' = { s with heap := h', toks := tk' })) ?_ (fun v s' q => ?_) (fun _ _ x => x)
    · cases full
      · repeat walk1
        (rename Cx _ _ _ _ _ _ _ _ => cO; refine cx_call cO (utf_spec (by walk_at "gd") (by walk_at "gk") (by walk_at "room") (by rw [S_length]; omega) (by simpa using htc)) ?_; clear cO)
        intro uv g₃ h₆ tk₆ hg₃ hur C7
        repeat walk1
        obtain ⟨pa, us₂, k, rfl, e1, e2⟩ := hur.ints
        exact Done.mk ⟨pa, us₂, k, g₃, h₆, tk₆, rfl, hg₃, e1, e2, C7, rfl⟩
      · repeat walk1
        rename Cx _ _ _ _ _ _ _ _ => C6
        refine it_str C6 (by walk_at "hh") ?_
        clear C6
        intro I oI h₆ it C6
        refine comp_it it C6 (by rw [show (S (textL qs)).cps.size = (textL qs).length by simp]; omega) (fun i ys mu₂ ks₂ => mu₂ = mu₁ ∧ ks₂ = [] ∧ AreInts ys ((textL qs).take i)) ⟨rfl, rfl, .nil⟩ ?_ ?_
        · rintro i v ys b' Lc m₁ mu₁ ks₁ g₂ h₃ tk₃ o₁ D nD hi ⟨c, u, hcx, rfl⟩ ⟨rfl, rfl, hA⟩ hg₂ C7
          clear C6
          have G1 := G.up hg₁
          repeat walk1
          rename Cx _ _ _ _ _ _ _ _ => C8
          refine ⟨_, _, _, _, C8, hg₂, ⟨rfl, rfl, ?_⟩, _, _, rfl⟩
          rw [List.take_add_one, show (textL qs)[i]? = some c by simpa using hcx]
          exact hA.append (.cons rfl .nil)
        · rintro ys mu₂ ks₂ g₂ h₃ tk₃ D nD ⟨rfl, rfl, hA⟩ hg₂ hD C7
          rw [List.take_of_length_le (by simp)] at hA
          obtain ⟨g₄, hg₄, e₄, C8⟩ := C7.frz hD
          exact Done.mk ⟨D, ys, nD, g₄, h₃, tk₃, rfl, fun a o e => hg₄ a o (hg₂ a o e), e₄, hA, C8, rfl⟩
    obtain ⟨pa, us₂, k, g₂, h₅, tk₅, rfl, hg₂, hpa, hpts, C6, rfl⟩ := q.out
    clear C5
    iterate 3 walk1
    rename Cx _ _ _ _ _ _ _ _ => C7
    have hpne : 0 < (ptsL full qs).length := by
      have : 0 < (textL qs).length := by simp [textL]
      cases full
      · exact Nat.lt_of_lt_of_le this (utfL_ge _)
      · exact this
    have hpz : (ptsL full qs).length ≤ 40000 := by
      cases full
      · have := utfL_len (textL qs); show (utfL (textL qs)).length ≤ _; omega
      · show (textL qs).length ≤ _; omega
    have hul := hpts.length
    refine wpAny_mono (Q := fun v s' => Done (∃ h' tk', (((∃ c ∈ ptsL full qs, 256 ≤ c) ∧ v = .none) ∨ ((∀ c ∈ ptsL full qs, c < 256) ∧ ∃ t, v = .bytes (byN (ptsL full qs)) t)) ∧ Cx (hideAll s.heap (mu₁.map (·.1))) g s.heap.objs.size (fun y => if y = Str.ofString "points" then some (.ref pa) else if y = Str.ofString "text" then some (.str (S (textL qs)) t₅) else List.lookup y [(Str.ofString "table", Value.ref T), (Str.ofString "pairs", .ref a), (Str.ofString "full", .bool full)].reverse) mu₁ [] g₂ h' ∧ s' = { s with heap := h', toks := tk' })) ?_ (fun v s' q => ?_) (fun _ _ x => x)
    · repeat walk1
      refine max_ C7 (by walk_at "hh") (C7.gk _ _ hpa) hpts hpne ?_
      intro M tM h₆ tk₆ hM hMax C8
      clear C7
      repeat' walk1
      · rename_i hq
        exact Done.mk ⟨_, _, .inl ⟨⟨M, hM, by omega⟩, rfl⟩, C8, rfl⟩
      · rename_i hq
        have hall : ∀ c ∈ ptsL full qs, c < 256 := fun c hc => by have := hMax c hc; omega
        refine call_bytes_ints (ns := (ptsL full qs).map fun (n : Nat) => (n : Int)) ⟨_, C8.gk _ _ hpa, rfl, _, rfl⟩ hpts ?_ (by rw [sizeLine_eq]; omega) (by walk_at "hh") ?_
        · intro n hn
          obtain ⟨k, hk, rfl⟩ := List.mem_map.mp hn
          have := hall k hk; omega
        · intro h' t k hk
          exact Done.mk ⟨_, _, .inr ⟨hall, t, by rw [byteArr_byN]⟩, C8.keep hk, rfl⟩
    obtain ⟨h₆, tk₆, hdue, C8, rfl⟩ := q.out
    clear C7 q
    rename Done _ => qq
    clear qq
    repeat walk1
    rename Cx _ _ _ _ _ _ _ _ => C9
    have hpc : ∀ c ∈ ptsL full qs, c < 1114112 := by
      intro c hc
      cases full
      · have := utfL_lt htc c hc; omega
      · exact htc c hc
    refine it_lst C9 (by walk_at "hh") hpa ?_
    intro I oI h₇ it C10
    clear C9
    have G2 := (G.up hg₁).up hg₂
    refine comp_it it C10 (by omega) (fun i ys mu₂ ks₂ => mu₂ = mu₁ ∧ ks₂ = [] ∧ StrsAre ys (ones ((ptsL full qs).take i))) ⟨rfl, rfl, .nil⟩ ?_ ?_
    · rintro i u ys b' Lc m₁ mu₁ ks₁ g₃ h₈ tk₈ o₁ D nD hi hu ⟨rfl, rfl, hS⟩ hg₃ C11
      obtain ⟨c, u', hc', rfl⟩ := hpts.at hu
      have hlt := hpc c (List.mem_of_getElem? hc')
      clear C10
      repeat walk1
      rename Cx _ _ _ _ _ _ _ _ => C12
      refine ⟨_, _, _, _, C12, hg₃, ⟨rfl, rfl, ?_⟩, _, _, rfl⟩
      rw [List.take_add_one, hc']
      simp only [Option.toList, ones, List.map_append] at hS ⊢
      exact hS.append' (.cons _ _ .nil)
    rintro ys mu₂ ks₂ g₃ h₈ tk₈ D nD ⟨rfl, rfl, hS⟩ hg₃ hD C11
    rw [hul, List.take_length] at hS
    clear C10 G2
    repeat walk1
    refine join_listW ⟨_, C11.at (.head _), rfl, _, rfl⟩ (by simpa using hS) (by decide) (by rw [ones_weight]; omega) ?_
    intro t₉ k₉
    rw [show Txt.join (Str.ofString "") (ones (ptsL full qs)) = S (ptsL full qs) from (beq_iff_eq.mp (join_plain_closes _ _)).trans (join_ones _)]
    have C12 := C11.drop (List.sublist_cons_self _ _)
    clear C11
    have hT := X.hT
    have hd := X.hd
    have hgl := X.gl
    have hrd := X.rd
    have hvl : vs.length = qs.length := by have := hrd.length; rw [List.length_map, shownP_length] at this; exact this
    repeat walk1
    rename Cx _ _ _ _ _ _ _ _ => C13
    have hlg : g₃.get? l = none := by
      cases z : g₃.get? l with
      | none => rfl
      | some o =>
        rcases C13.gn l o z with z | z
        · rw [hgl] at z; cases z
        · exact absurd (Heap.lt_size X.hl) (Nat.not_lt.mpr (Nat.le_of_lt z))
    have hg3 : g.StaysIn g₃ := fun a o e => hg₃ a o (hg₂ a o (hg₁ a o e))
    refine cx_call C13 (items_spec (by walk_at "gd") (by walk_at "gk") (by walk_at "room") (hg3 _ _ hT) (hg3 _ _ hd) (C13.old (s₁ := ⟨_, _, _, _, _⟩) X.hl hlf) hlg (by omega)) ?_
    rintro _ g₄ h₁₀ tk₁₀ hg₄ ⟨a₄, k₄', rfl, e₄⟩ C14
    clear C13
    repeat walk1
    (rename Cx _ _ _ _ _ _ _ _ => cO; refine cx_call cO (shown_spec (ps := qs) (by walk_at "gd") (by walk_at "gk") (by walk_at "room") (.list (hg₄ _ _ (hg3 _ _ ha)) (hV.up fun a o e => hg₄ a o (hg3 a o e))) (by omega) fun p hp' => (hp p hp').1) ?_; clear cO)
    intro sv g₅ h₁₁ tk₁₁ hg₅ hsh C15
    repeat walk1
    have hok : ∀ p ∈ qs, okS p.1 ∧ okS p.2 := fun p hp' => ⟨(hp p hp').1.1.cps, (hp p hp').1.2.cps⟩
    refine eq_same C15.gk (.list (hg₅ _ _ e₄) (hrd.up fun a o e => hg₅ a o (hg₄ a o (hg3 a o e)))) hsh (shaped_pairs (shown_ok hok)) (by exact Rm.cl (Rm.deeper R)) ?_
    repeat walk1
    have X5 : Tab w h₁₁ g₅ T dx l t vs n (shownP full qs) := X.now (s₁ := { s with heap := h₁₁ }) C15 (Nat.le_refl _) hlf
    refine cx_call C15 (strT_spec (by walk_at "gd") (by walk_at "gk") (by walk_at "room") X5 (by rw [shownP_length]; omega) (shown_len hpl)) ?_
    rintro _ g₆ h₁₂ tk₁₂ hg₆ ⟨t₆, rfl⟩ C16
    clear C15 X5
    rw [text_plain]
    repeat' walk1
    · rename_i hq
      have hg6 : g.StaysIn g₆ := fun a o e => hg₆ a o (hg₅ a o (hg₄ a o (hg3 a o e)))
      have K6 : Stk h₁₂ g₆ outer mu₂ := K.now (.refl _) (fun p hp => C16.at hp) (fun p hp => (C16.mt p hp).2.2.1)
      have X6 : Tab w h₁₂ g₆ T dx l t vs n (shownP full qs) := X.now (s₁ := { s with heap := h₁₂ }) C16 (Nat.le_refl _) hlf
      refine sent_cx C16 (G.up hg6) (by walk_at "room") hA K6 h2 hlf X6 (by rw [shownP_length]; omega) (shown_len hpl) (text_plain full qs) h00 (by omega) ?_
      intro rv frl' g₇ h₁₃ tk₁₃ U hg₇ hrv C17
      clear C16
      repeat walk1
      have fin : Done (Kept s g mu₂ (fun v g' => v = .bool true) (.bool true) { s with heap := h₁₃, toks := tk₁₃ }) := Done.mk ⟨g₇, frl', C17.done (M := mu₂.map (·.1)) (Nat.le_refl _) ⟨_, _, rfl⟩, U, fun p hp => C17.at hp, rfl⟩
      rcases hdue with ⟨hd1, rfl⟩ | ⟨hd1, td, rfl⟩
      · rcases hrv with ⟨_, rfl⟩ | ⟨hr1, _⟩
        · exact EqNone.eq_none_none fin
        · obtain ⟨c, hc1, hc2⟩ := hd1
          have := hr1 c hc1; omega
      · rcases hrv with ⟨⟨c, hc1, hc2⟩, _⟩ | ⟨_, tr, rfl⟩
        · have := hd1 c hc1; omega
        · refine eq_bytes ?_
          rw [show ((byN (ptsL full qs)).toList == (byN (ptsL full qs)).toList) = true from beq_self_eq_true _]
          exact fin
    · rename_i hq
      rw [show (S (ptsL full qs) == S (ptsL full qs)) = true from beq_self_eq_true _] at hq
      cases hq
set_option maxHeartbeats 1000000
noncomputable def goneNe (gone : Option Str) (x : Str) : Bool := match gone with | none => true | some y => x != y
theorem ne_gone {w : World} {A : Around} {E : Value → Shared → Prop} {s : Shared} {x : Str} {t tg : Tok} {gone : Option Str} {gv : Value} {Q : Value → Shared → Prop} (hgv : gv = match gone with | none => .none | some x => .str x tg) (h : Q (.bool (goneNe gone x)) s) : wpAny (model P0 w) A (compareOp .NotEq (.str x t) gv) Q E s := by
  subst hgv
  cases gone with
  | none => exact EqNone.ne_str_none h
  | some y => exact ne_str h
/-- what get_all has to give for the k-th name -/
noncomputable def dueL (sh : List Pair) (keys : List Str) (gone : Option Str) (kk : Str) : List Str := ((sh.zip keys).filter fun q => (q.2 == kk) && goneNe gone kk).map fun q => q.1.2
theorem strs_rd {g : Heap} : ∀ {vs : List Value} {ls : List Str}, StrsAre vs ls → RdAll g vs (ls.map .str)
  | _, _, .nil => .nil
  | _, _, .cons _ _ r => .cons (.str _ _) (strs_rd r)
theorem tells_spec {w : World} {A : Around} {E : Value → Shared → Prop} {s : Shared} {g : Heap} {T dx l : Addr} {t tg : Tok} {vs us kvs : List Value} {n nu nk : Nat} {ps sh : List Pair} {keys : List Str} {av ak : Addr} {gone : Option Str} {gv : Value} (G : Gd w g) (gs : g.StaysIn s.heap) (R : Rm A 10)
    (X : Tab w s.heap g T dx l t vs n ps) (ha : g.get? av = some (lst us nu)) (hV : RdAll g us (sh.map pairD)) (hk : g.get? ak = some (lst kvs nk)) (hK : StrsAre kvs keys) (hgv : gv = match gone with | none => .none | some x => .str x tg)
    (hn : keys.length = sh.length) (hz : sh.length ≤ 20) (hps : ps.length ≤ 100) (hp : ∀ p ∈ ps, p.1.length ≤ 300) (hs : ∀ p ∈ sh, p.1.length ≤ 300 ∧ ∀ c ∈ (Txt.lower p.1).cps.toList, bad true c = false)
    (hdu : ∀ {kk : Str}, ∀ x ∈ dueL sh keys gone kk, okS x) (hlaw : ∀ (k : Nat) (p : Pair) (kk : Str), sh[k]? = some p → keys[k]? = some kk → (ps.filter fun q => Txt.lower q.1 == Txt.lower p.1).map (·.2) = dueL sh keys gone kk) :
    wpAny (model P0 w) A (call (.ref 305) [.ref T, .ref av, .ref ak, gv]) (fun v s' => Done (∃ g', Ct [] s g s' g' ∧ v = .bool true)) E s := by
  have hlen := hV.length
  refine call_fnC (binds := [(Str.ofString "table", .ref T), (Str.ofString "shown", .ref av), (Str.ofString "keys", .ref ak), (Str.ofString "gone", gv)]) [] [] G gs R.lt (G.k 305 _ rfl) rfl (codeRec_of G.k rfl) (BindsTo.of_eq rfl) rfl (by decide) (fun _ h => nomatch h) .nil (fun _ h => nomatch h) ?_
  intro h₁ tk cells Y up C
  obtain ⟨ok, og, oe, os, rfl, dk, dg, de, ds⟩ := CellsAre.four Y
  clear Y
  replace dk : ok.data = .cell none := dk
  replace dg : og.data = .cell (some gv) := dg
  replace de : oe.data = .cell (some (.ref ak)) := de
  replace ds : os.data = .cell (some (.ref av)) := ds
  simp only [List.cons_append, List.nil_append] at C
  have hkl := hK.len_eq
  have hT := X.hT
  have hd := X.hd
  repeat walk1
  refine range1_ C R.hd (by omega) ?_
  intro I oI h₂ tk₂ it C2
  clear C
  refine for_it it C2 (fun i m₁ mu₁ ks₁ => ks₁ = [] ∧ m₁ (Str.ofString "table") = some (.ref T) ∧ ∃ ok' d, ok'.data = .cell d ∧ mu₁ = [(s.heap.objs.size + 1 + 1 + 1 + 1, ok'), (s.heap.objs.size + 1 + 1 + 1, og), (s.heap.objs.size + 1 + 1, oe), (s.heap.objs.size + 1, os)]) ⟨rfl, rfl, ok, _, dk, rfl⟩ ?_ ?_
  · rintro i v m₁ mu₁ ks₁ g₁ h₃ tk₃ o₁ hi ⟨ti, rfl⟩ ⟨rfl, hm, ok', d, hok, rfl⟩ hg₁ C3
    clear C2
    iterate 3 walk1
    rename_i h₃' o₂ hok₂ C3'
    refine Assign_ListComp_ (by rfl) ?_
    repeat walk1
    rename Cx _ _ _ _ _ _ _ _ => C4
    obtain ⟨p, hpi⟩ : ∃ p, sh[i]? = some p := ⟨sh[i]'(by omega), List.getElem?_eq_getElem (by omega)⟩
    obtain ⟨kk, hki⟩ : ∃ kk, keys[i]? = some kk := ⟨keys[i]'(by omega), List.getElem?_eq_getElem (by omega)⟩
    obtain ⟨tk', hkv⟩ := hK.at hki
    have hkv' : kvs[((i : Nat) : Int).toNat]? = some (.str kk tk') := hkv
    have G1 := G.up hg₁
    have hk1 := hg₁ _ _ hk
    have ha1 := hg₁ _ _ ha
    refine range1_ C4 R.hd (by omega) ?_
    intro I2 oI2 h₄ tk₄ it2 C5
    clear C4
    refine comp_asg it2 C5 (by omega) (fun j ys mu₂ ks₂ => ks₂ = [] ∧ mu₂ = [(I, o₁), (s.heap.objs.size + 1 + 1 + 1 + 1, o₂), (s.heap.objs.size + 1 + 1 + 1, og), (s.heap.objs.size + 1 + 1, oe), (s.heap.objs.size + 1, os)] ∧ StrsAre ys ((((sh.zip keys).take j).filter fun q => (q.2 == kk) && goneNe gone kk).map fun q => q.1.2)) ⟨rfl, rfl, .nil⟩ ?_ ?_
    · rintro j v ys b' Lc m₂ mu₂ ks₂ g₂ h₅ tk₅ o₃ D nD hj ⟨tj, rfl⟩ ⟨rfl, rfl, hys⟩ hg₂ C6
      clear C5
      obtain ⟨q, hqj⟩ : ∃ q, sh[j]? = some q := ⟨sh[j]'(by omega), List.getElem?_eq_getElem (by omega)⟩
      obtain ⟨kj, hkj⟩ : ∃ kj, keys[j]? = some kj := ⟨keys[j]'(by omega), List.getElem?_eq_getElem (by omega)⟩
      obtain ⟨tj', hkjv⟩ := hK.at hkj
      have hkjv' : kvs[((j : Nat) : Int).toNat]? = some (.str kj tj') := hkjv
      have hzj : (sh.zip keys)[j]? = some (q, kj) := List.getElem?_zip_eq_some.mpr ⟨hqj, hkj⟩
      have husj : j < us.length := by simp at hlen; omega
      obtain ⟨uv, huv⟩ : ∃ uv, us[j]? = some uv := ⟨us[j], List.getElem?_eq_getElem husj⟩
      obtain ⟨q', qa, t1, t2, hq', rfl, hqa⟩ := hV.pairAt huv
      rw [hqj] at hq'; cases hq'
      have huv' : us[((j : Nat) : Int).toNat]? = some (.ref qa) := huv
      have hqa1 := hg₁ _ _ hqa
      repeat' walk1
      · rename_i hq
        refine ne_gone hgv ?_
        cases hgn : goneNe gone kk
        · repeat walk1
          rename Cx _ _ _ _ _ _ _ _ => C7
          refine ⟨_, _, _, _, C7, hg₂, ⟨rfl, rfl, ?_⟩, _, _, rfl⟩
          rw [filter_step hzj]
          simpa [hgn] using hys
        · repeat walk1
          rename Cx _ _ _ _ _ _ _ _ => C7
          refine ⟨_, _, _, _, C7, hg₂, ⟨rfl, rfl, ?_⟩, _, _, rfl⟩
          rw [filter_step hzj, List.map_append]
          simp only [hgn] at hys
          refine hys.append' ?_
          simp only [hq, Bool.and_self, if_true, List.map_cons, List.map_nil]
          exact .cons _ _ .nil
      · rename_i hq
        rename Cx _ _ _ _ _ _ _ _ => C7
        refine ⟨_, _, _, _, C7, hg₂, ⟨rfl, rfl, ?_⟩, _, _, rfl⟩
        rw [filter_step hzj]
        simpa [hq] using hys
    · rintro ys mu₂ ks₂ g₂ h₅ tk₅ D nD ⟨rfl, rfl, hys⟩ hg₂ hD C6
      clear C5
      rw [List.take_of_length_le (by simp; omega)] at hys
      obtain ⟨g₃, hg₃, e₃, C7⟩ := C6.frz hD
      clear C6 G1
      have husi : i < us.length := by simp at hlen; omega
      obtain ⟨uv, huv⟩ : ∃ uv, us[i]? = some uv := ⟨us[i], List.getElem?_eq_getElem husi⟩
      obtain ⟨p', pa, t1, t2, hp', rfl, hpa⟩ := hV.pairAt huv
      rw [hpi] at hp'; cases hp'
      have huv' : us[((i : Nat) : Int).toNat]? = some (.ref pa) := huv
      have hP := hs p (List.mem_of_getElem? hpi)
      repeat walk1
      have X7 : Tab w h₅ g₃ T dx l t vs n ps := X.now (s₁ := { s with heap := h₅ }) C7 (Nat.le_refl _) (fun h => nomatch h)
      refine cx_call C7 (getall_spec (by walk_at "gd") (by walk_at "gk") (by walk_at "room") X7.hT X7.hd X7.hl X7.gl (by omega) X7.rd hP.1 hP.2 hp) ?_
      intro rv g₄ h₆ tk₆ hg₄ hrv C8
      clear C7 X7
      repeat walk1
      have e8 : (ps.filter fun q => Txt.lower q.1 == Txt.lower p.1).map (fun q => PyData.str q.2) = (dueL sh keys gone kk).map .str := by
        rw [← hlaw i p kk hpi hki, List.map_map]; rfl
      rw [e8] at hrv
      refine ne_same C8.gk hrv (.list (hg₄ _ _ e₃) (strs_rd hys)) (shaped_strs hdu) (by exact Rm.cl (Rm.deeper R)) ?_
      repeat walk1
      exact .inl ⟨rfl, _, _, _, _, C8, fun a o e => hg₄ a o (hg₃ a o (hg₂ a o (hg₁ a o e))), ⟨rfl, hm, o₂, _, hok₂, rfl⟩, _, _, rfl⟩
  · rintro m₁ mu₁ ks₁ g₁ h₃ tk₃ ⟨rfl, hm, ok', d, hok, rfl⟩ hg₁ C3
    clear C2
    repeat walk1
    exact Done.mk ⟨_, C3.done (Nat.le_refl _) ⟨_, _, rfl⟩, rfl⟩
set_option maxHeartbeats 200000
/-- the name and the value that a number draws -/
noncomputable def nmAt (a b : Nat) : Str := S (([[97], [65], [233], [201]].getD a []) ++ ([[], [222], [254], [215], [247], [12864]].getD b []))
noncomputable def nameOf (n : Int) : Str := nmAt (n % 4).toNat (n / 4 % 6).toNat
noncomputable def valL (i k c : Nat) : List Nat := [[], [48 + i, 233], [48 + i, 8364], [48 + i, 128512], [48 + i, 128], [48 + i, 34, 92], [48 + i, 9], [48 + i, c]].getD k []
noncomputable def valueOf (i : Nat) (n : Int) : Str := S (valL i (n / 24 % 8).toNat (160 + n / 192 % 50000).toNat)
noncomputable def drawnP (ns : List Int) : List Pair := ns.zipIdx.map fun p => (nameOf p.1, valueOf p.2 p.1)
/-- one of the names; one of the values -/
noncomputable def Nm (x : Str) : Prop := ∃ (a : Fin 4) (b : Fin 6), x = nmAt a b
noncomputable def Vl (x : Str) : Prop := ∃ i k c, i < 5 ∧ 160 ≤ c ∧ c < 50160 ∧ x = S (valL i k c)
theorem nm_of (n : Int) : Nm (nameOf n) := ⟨⟨(n % 4).toNat, by have := Int.emod_nonneg n (b := 4) (by decide); have := Int.emod_lt_of_pos n (b := 4) (by decide); omega⟩, ⟨(n / 4 % 6).toNat, by have := Int.emod_nonneg (n / 4) (b := 6) (by decide); have := Int.emod_lt_of_pos (n / 4) (b := 6) (by decide); omega⟩, rfl⟩
theorem vl_of (i : Nat) (n : Int) (h : i < 5) : Vl (valueOf i n) := ⟨i, _, _, h, by have := Int.emod_nonneg (n / 192) (b := 50000) (by decide); omega, by have := Int.emod_lt_of_pos (n / 192) (b := 50000) (by decide); omega, rfl⟩
theorem drawn_nv {ns : List Int} (h : ns.length ≤ 5) : ∀ p ∈ drawnP ns, Nm p.1 ∧ Vl p.2 := by
  intro p hp
  obtain ⟨⟨n, i⟩, hq, rfl⟩ := List.mem_map.mp hp
  have := List.mem_zipIdx hq
  exact ⟨nm_of n, vl_of i n (by simp at this; omega)⟩
theorem drawn_len (ns : List Int) : (drawnP ns).length = ns.length := by simp [drawnP]
/-- a pair as shown -/
noncomputable def shP (full : Bool) (p : Pair) : Pair := if full then p else (lowS p.1, lowS p.2)
theorem shownP_map (full : Bool) (qs : List Pair) : shownP full qs = qs.map (shP full) := by
  cases full
  · rfl
  · exact (List.map_id qs).symm
theorem low_t : ∀ (a : Fin 4) (b : Fin 6) (c : Fin 4) (d : Fin 6), (Txt.lower (nmAt a b) == Txt.lower (nmAt c d)) = (keyS true (nmAt a b) == keyS true (nmAt c d)) := by decide +kernel
theorem low_f : ∀ (a : Fin 4) (b : Fin 6) (c : Fin 4) (d : Fin 6), (Txt.lower (lowS (nmAt a b)) == Txt.lower (lowS (nmAt c d))) = (keyS false (nmAt a b) == keyS false (nmAt c d)) := by decide +kernel
theorem bad_t : ∀ (a : Fin 4) (b : Fin 6), (Txt.lower (nmAt a b)).cps.toList.all (fun c => !bad true c) = true := by decide +kernel
theorem bad_f : ∀ (a : Fin 4) (b : Fin 6), (Txt.lower (lowS (nmAt a b))).cps.toList.all (fun c => !bad true c) = true := by decide +kernel
theorem nm_t : ∀ (a : Fin 4) (b : Fin 6), (nmAt a b).cps.toList.all (fun c => decide (c < 55296) && !bad true c) = true ∧ (nmAt a b).length ≤ 2 := by decide +kernel
theorem low_key {full : Bool} {p q : Pair} (hp : Nm p.1) (hq : Nm q.1) : (Txt.lower (shP full p).1 == Txt.lower (shP full q).1) = (keyS full p.1 == keyS full q.1) := by
  obtain ⟨a, b, e⟩ := hp
  obtain ⟨c, d, e'⟩ := hq
  cases full
  · show (Txt.lower (lowS p.1) == Txt.lower (lowS q.1)) = _
    rw [e, e']; exact low_f a b c d
  · show (Txt.lower p.1 == Txt.lower q.1) = _
    rw [e, e']; exact low_t a b c d
theorem low_bad {full : Bool} {p : Pair} (hp : Nm p.1) : ∀ c ∈ (Txt.lower (shP full p).1).cps.toList, bad true c = false := by
  obtain ⟨a, b, e⟩ := hp
  have h : (Txt.lower (shP full p).1).cps.toList.all (fun c => !bad true c) = true := by
    cases full
    · show (Txt.lower (lowS p.1)).cps.toList.all _ = true
      rw [e]; exact bad_f a b
    · show (Txt.lower p.1).cps.toList.all _ = true
      rw [e]; exact bad_t a b
  intro c hc
  simpa using List.all_eq_true.mp h c hc
/-- get_all of the whole table, of the table without a name -/
noncomputable def keysP (full : Bool) (qs : List Pair) : List Str := qs.map fun p => keyS full p.1
noncomputable def leftP (full : Bool) (qs : List Pair) (x : Str) : List Pair := qs.filter fun q => !(keyS full q.1 == x)
theorem zip_map' {α β γ : Type} (f : α → β) (g : α → γ) : ∀ l : List α, (l.map f).zip (l.map g) = l.map fun x => (f x, g x)
  | [] => rfl
  | a :: r => by simp [zip_map' f g r]
theorem due_eq (full : Bool) (qs : List Pair) (gone : Option Str) (kk : Str) : dueL (qs.map (shP full)) (keysP full qs) gone kk = (qs.filter fun q => (keyS full q.1 == kk) && goneNe gone kk).map fun q => (shP full q).2 := by
  unfold dueL keysP
  rw [zip_map', List.filter_map, List.map_map]
  rfl
theorem at_map {qs : List Pair} {full : Bool} {k : Nat} {p : Pair} {kk : Str} (h : (qs.map (shP full))[k]? = some p) (hk : (keysP full qs)[k]? = some kk) : ∃ q ∈ qs, p = shP full q ∧ kk = keyS full q.1 := by
  unfold keysP at hk
  rw [List.getElem?_map] at h hk
  cases e : qs[k]? with
  | none => rw [e] at h; cases h
  | some q =>
    rw [e] at h hk
    cases h; cases hk
    exact ⟨q, List.mem_of_getElem? e, rfl, rfl⟩
theorem filter_low {full : Bool} {q : Pair} (hq : Nm q.1) : ∀ {qs : List Pair}, (∀ p ∈ qs, Nm p.1) → (qs.map (shP full)).filter (fun r => Txt.lower r.1 == Txt.lower (shP full q).1) = (qs.filter fun p => keyS full p.1 == keyS full q.1).map (shP full) := by
  intro qs hn
  rw [List.filter_map]
  congr 1
  exact List.filter_congr fun p hp => low_key (hn p hp) hq
theorem law_one {full : Bool} {qs : List Pair} (hn : ∀ p ∈ qs, Nm p.1) : ∀ (k : Nat) (p : Pair) (kk : Str), (shownP full qs)[k]? = some p → (keysP full qs)[k]? = some kk → ((shownP full qs).filter fun q => Txt.lower q.1 == Txt.lower p.1).map (·.2) = dueL (shownP full qs) (keysP full qs) none kk := by
  intro k p kk h hk
  rw [shownP_map] at h ⊢
  obtain ⟨q, hq, rfl, rfl⟩ := at_map h hk
  rw [due_eq, filter_low (hn q hq) hn, List.map_map]
  simp only [goneNe, Bool.and_true]
  rfl
theorem left_eq {full : Bool} {qs : List Pair} {p0 : Pair} {r : Pair} (hn : ∀ p ∈ qs, Nm p.1) (h0 : Nm p0.1) (hr : r.1 = (shP full p0).1) : ((shownP full qs ++ [r]).filter fun q => !(Txt.lower q.1 == Txt.lower (shP full p0).1)) = shownP full (leftP full qs (keyS full p0.1)) := by
  rw [List.filter_append, shownP_map, shownP_map, List.filter_map, List.filter_cons_of_neg (by simp [hr]), List.filter_nil, List.append_nil]
  unfold leftP
  congr 1
  exact List.filter_congr fun p hp => by simp only [Function.comp]; rw [low_key (hn p hp) h0]
theorem law_two {full : Bool} {qs : List Pair} {p0 : Pair} (hn : ∀ p ∈ qs, Nm p.1) (h0 : Nm p0.1) : ∀ (k : Nat) (p : Pair) (kk : Str), (shownP full qs)[k]? = some p → (keysP full qs)[k]? = some kk → ((shownP full (leftP full qs (keyS full p0.1))).filter fun q => Txt.lower q.1 == Txt.lower p.1).map (·.2) = dueL (shownP full qs) (keysP full qs) (some (keyS full p0.1)) kk := by
  intro k p kk h hk
  rw [shownP_map] at h ⊢
  rw [shownP_map]
  obtain ⟨q, hq, rfl, rfl⟩ := at_map h hk
  have hl : ∀ p ∈ leftP full qs (keyS full p0.1), Nm p.1 := fun p hp => hn p (List.mem_filter.mp hp).1
  rw [due_eq, filter_low (hn q hq) hl, List.map_map]
  unfold leftP
  rw [List.filter_filter]
  congr 1
  refine List.filter_congr fun p hp => ?_
  show ((keyS full p.1 == keyS full q.1) && !(keyS full p.1 == keyS full p0.1)) = ((keyS full p.1 == keyS full q.1) && (keyS full q.1 != keyS full p0.1))
  cases h : (keyS full p.1 == keyS full q.1)
  · rfl
  · rw [eq_of_beq h]; rfl
set_option maxHeartbeats 200000
/-- what a drawn pair may be -/
structure Dr (p : Pair) : Prop where
  nm : Nm p.1
  vl : Vl p.2
theorem nm_facts {x : Str} (h : Nm x) : (∀ c ∈ x.cps.toList, c < 55296 ∧ bad true c = false) ∧ x.length ≤ 2 := by
  obtain ⟨a, b, rfl⟩ := h
  refine ⟨fun c hc => ?_, (nm_t a b).2⟩
  have := List.all_eq_true.mp (nm_t a b).1 c hc
  simp at this
  exact this
theorem sign_ok {c : Nat} (h : c < 55296 ∨ c = 128512) (h1 : 32 ≤ c) (h2 : c ≠ 127) : (c < 55296 ∨ c = 128512) ∧ bad false c = false := by
  refine ⟨h, ?_⟩
  unfold bad
  simp [h2]; omega
theorem two_ok {a b : Nat} {P : Nat → Prop} (ha : P a) (hb : P b) : ∀ d ∈ (S [a, b]).cps.toList, P d := fun d hd => by
  rcases List.mem_cons.mp (show d ∈ [a, b] from hd) with rfl | hd
  · exact ha
  · rw [List.mem_singleton.mp hd]; exact hb
theorem vl_facts {x : Str} (h : Vl x) : (∀ c ∈ x.cps.toList, (c < 55296 ∨ c = 128512) ∧ bad false c = false) ∧ x.length ≤ 3 := by
  obtain ⟨i, k, c, hi, hc, hc', rfl⟩ := h
  have hi' : (48 + i < 55296 ∨ 48 + i = 128512) ∧ bad false (48 + i) = false := sign_ok (by omega) (by omega) (by omega)
  match k with
  | 0 => exact ⟨fun d hd => (by cases hd), Nat.zero_le _⟩
  | 1 => exact ⟨two_ok hi' (by decide), Nat.le_succ 2⟩
  | 2 => exact ⟨two_ok hi' (by decide), Nat.le_succ 2⟩
  | 3 => exact ⟨two_ok hi' (by decide), Nat.le_succ 2⟩
  | 4 => exact ⟨two_ok hi' (by decide), Nat.le_succ 2⟩
  | 5 =>
    refine ⟨fun d hd => ?_, Nat.le_refl 3⟩
    rcases List.mem_cons.mp (show d ∈ [48 + i, 34, 92] from hd) with rfl | hd
    · exact hi'
    · exact two_ok (P := fun d => (d < 55296 ∨ d = 128512) ∧ bad false d = false) (by decide) (by decide) d hd
  | 6 => exact ⟨two_ok hi' (by decide), Nat.le_succ 2⟩
  | 7 => exact ⟨two_ok hi' (sign_ok (.inl (by omega)) (by omega) (by omega)), Nat.le_succ 2⟩
  | k + 8 => exact ⟨fun d hd => (by cases hd), Nat.zero_le _⟩
theorem utf1_ge {c : Nat} (h : 128 ≤ c) : ∀ o ∈ utf1 c, 128 ≤ o := by
  have a1 : ∀ x : Nat, 128 ≤ 128 + x := fun x => Nat.le_add_right _ _
  have one : ∀ {a n : Nat}, 128 ≤ a → n ∈ [a] → 128 ≤ n := fun h k => by rw [List.mem_singleton.mp k]; exact h
  have more : ∀ {a n : Nat} {l : List Nat}, 128 ≤ a → (n ∈ l → 128 ≤ n) → n ∈ a :: l → 128 ≤ n := fun h k q => by
    rcases List.mem_cons.mp q with rfl | q
    · exact h
    · exact k q
  intro n
  unfold utf1
  rw [if_neg (Nat.not_lt.mpr h)]
  split
  · exact more (Nat.le_trans (a1 64) (Nat.le_add_right _ _)) (one (a1 _))
  split
  · exact more (Nat.le_trans (a1 96) (Nat.le_add_right _ _)) (more (a1 _) (one (a1 _)))
  · exact more (Nat.le_trans (a1 112) (Nat.le_add_right _ _)) (more (a1 _) (more (a1 _) (one (a1 _))))
theorem utf1_as {c : Nat} (h : c < 128) : utf1 c = [c] := by unfold utf1; rw [if_pos h]
theorem bad_ge {nm : Bool} {o : Nat} (h : 128 ≤ o) : bad nm o = false := by
  unfold bad
  cases nm <;> simp <;> omega
theorem utf_bad {nm : Bool} {l : List Nat} (h : ∀ c ∈ l, bad nm c = false) : ∀ o ∈ utfL l, bad nm o = false := by
  intro o ho
  obtain ⟨c, hc, ho⟩ := List.mem_flatMap.mp ho
  by_cases h1 : c < 128
  · rw [utf1_as h1] at ho
    simp at ho
    subst ho
    exact h o hc
  · exact bad_ge (utf1_ge (by omega) o ho)
theorem lowS_len (x : Str) : (lowS x).length ≤ 4 * x.length := by
  have := utfL_len x.cps.toList
  simpa [lowS, utfS, Str.length] using this
/-- within bounds: scalars, short, no control sign -/
structure Fit (p : Pair) : Prop where
  n : ∀ c ∈ p.1.cps.toList, Scalar c ∧ bad true c = false
  v : ∀ c ∈ p.2.cps.toList, Scalar c ∧ bad false c = false
  ln : p.1.length ≤ 10
  lv : p.2.length ≤ 20
theorem Dr.fit {p : Pair} (h : Dr p) : Fit p := by
  obtain ⟨a, b⟩ := nm_facts h.nm
  obtain ⟨c, d⟩ := vl_facts h.vl
  refine ⟨fun x hx => ⟨.inl (a x hx).1, (a x hx).2⟩, fun x hx => ⟨?_, (c x hx).2⟩, by omega, by omega⟩
  rcases (c x hx).1 with h | h
  · exact .inl h
  · exact .inr (by omega)
theorem Fit.tx {p : Pair} (h : Fit p) : TxP p := ⟨⟨by have := h.ln; omega, fun c hc => (h.n c hc).1.lt⟩, ⟨by have := h.lv; omega, fun c hc => (h.v c hc).1.lt⟩⟩
theorem Fit.okp {full : Bool} {p : Pair} (h : Fit p) : OkP (shP full p) := by
  have a := h.ln
  have b := h.lv
  cases full
  · refine ⟨fun c hc => utf_bad (fun c hc => (h.n c hc).2) c (by simpa [shP, lowS, utfS] using hc), fun c hc => utf_bad (fun c hc => (h.v c hc).2) c (by simpa [shP, lowS, utfS] using hc), ?_, ?_⟩
    · have := lowS_len p.1; show (lowS p.1).length ≤ 1000; omega
    · have := lowS_len p.2; show (lowS p.2).length ≤ 1000; omega
  · exact ⟨fun c hc => (h.n c hc).2, fun c hc => (h.v c hc).2, by show p.1.length ≤ 1000; omega, by show p.2.length ≤ 1000; omega⟩
theorem Fit.len {full : Bool} {p : Pair} (h : Fit p) : (shP full p).1.length ≤ 40 ∧ (shP full p).2.length ≤ 80 := by
  have a := h.ln
  have b := h.lv
  cases full
  · exact ⟨by have := lowS_len p.1; show (lowS p.1).length ≤ 40; omega, by have := lowS_len p.2; show (lowS p.2).length ≤ 80; omega⟩
  · exact ⟨by show p.1.length ≤ 40; omega, by show p.2.length ≤ 80; omega⟩
theorem Fit.ok {p : Pair} (h : Fit p) : okS p.1 ∧ okS p.2 := ⟨fun c hc => (h.n c hc).1.lt, fun c hc => (h.v c hc).1.lt⟩
theorem fit_txi {qs : List Pair} (h : ∀ p ∈ qs, ∀ c ∈ p.1.cps.toList ++ p.2.cps.toList, Scalar c) (hl : ∀ p ∈ qs, p.1.length ≤ 10 ∧ p.2.length ≤ 20) : ∀ x ∈ textsOf qs, TxI x := by
  intro x hx
  obtain ⟨p, hp, hx⟩ := List.mem_flatMap.mp hx
  have l1 := utfL_len p.1.cps.toList
  have l2 := utfL_len p.2.cps.toList
  have e1 : p.1.cps.toList.length = p.1.length := by simp [Str.length]
  have e2 : p.2.cps.toList.length = p.2.length := by simp [Str.length]
  have := hl p hp
  simp at hx
  rcases hx with rfl | rfl
  · exact ⟨fun c hc => h p hp c (List.mem_append_left _ hc), by omega⟩
  · exact ⟨fun c hc => h p hp c (List.mem_append_right _ hc), by omega⟩
theorem Fit.txi {qs : List Pair} (h : ∀ p ∈ qs, Fit p) : ∀ x ∈ textsOf qs, TxI x :=
  fit_txi (fun p hp c hc => (List.mem_append.mp hc).elim (fun k => ((h p hp).n c k).1) (fun k => ((h p hp).v c k).1)) fun p hp => ⟨(h p hp).ln, (h p hp).lv⟩
/-- the first sign that is sent -/
theorem first_ok {full : Bool} {qs : List Pair} (h : ∀ p ∈ qs, Dr p) : ∀ c, (ptsL full qs)[0]? = some c → c < 256 := by
  cases full
  · intro c hc
    have hm := List.mem_of_getElem? hc
    refine utfL_lt (fun d hd => ?_) c hm
    unfold textL at hd
    rcases List.mem_append.mp hd with hd | hd
    · obtain ⟨p, hp, hd⟩ := List.mem_flatMap.mp hd
      have f := (h p hp).fit
      simp only [lineT, Str.cps_append, Array.toList_append, List.mem_append] at hd
      rcases hd with ((hd | hd) | hd) | hd
      · exact (f.n d hd).1.lt
      · have : d ∈ [58, 32] := hd
        simp at this; omega
      · exact (f.v d hd).1.lt
      · have : d ∈ [13, 10] := hd
        simp at this; omega
    · simp at hd; omega
  · intro c hc
    cases qs with
    | nil => simp [ptsL, textL] at hc; omega
    | cons p r =>
      obtain ⟨a, b, e⟩ := (h p (List.mem_cons_self ..)).nm
      have : ∃ d t, p.1.cps.toList = d :: t ∧ d < 256 := by
        rw [e]
        match a with
        | 0 => exact ⟨97, _, rfl, by decide⟩
        | 1 => exact ⟨65, _, rfl, by decide⟩
        | 2 => exact ⟨233, _, rfl, by decide⟩
        | 3 => exact ⟨201, _, rfl, by decide⟩
      obtain ⟨d, t, e1, hd⟩ := this
      have : c = d := by
        have hc : (textL (p :: r))[0]? = some c := hc
        simp only [textL, List.flatMap_cons, lineT, Str.cps_append, Array.toList_append, e1, List.cons_append, List.getElem?_cons_zero] at hc
        exact (Option.some.inj hc).symm
      omega
/-- the value behind add_header, as the law makes it -/
noncomputable def markL (l : List Nat) : List Nat := l.flatMap fun c => if c = 34 ∨ c = 92 then [92, c] else [c]
noncomputable def lastP (p : Pair) : Pair := (p.1, S (p.2.cps.toList ++ [59, 32, 112] ++ (if p.2.length = 0 then [] else [61, 34] ++ markL p.2.cps.toList ++ [34])))
theorem esc_mark (l : List Nat) : escL l = markL l := by
  unfold escL markL swp
  rw [List.flatMap_assoc]
  congr 1
  funext c
  by_cases h : c = 92
  · subst h; rfl
  · by_cases h' : c = 34
    · subst h'; rfl
    · simp [h, h']
theorem mark_low (l : List Nat) : markL (utfL l) = utfL (markL l) := by
  unfold markL utfL
  rw [List.flatMap_assoc, List.flatMap_assoc]
  congr 1
  funext c
  by_cases h : c = 34 ∨ c = 92
  · rcases h with rfl | rfl <;> rfl
  · rw [if_neg h]
    by_cases h1 : c < 128
    · rw [utf1_as h1]; simp [h, utf1_as h1]
    · have : ∀ {m : List Nat}, (∀ o ∈ m, 128 ≤ o) → m.flatMap (fun c => if c = 34 ∨ c = 92 then [92, c] else [c]) = m := by
        intro m
        induction m with
        | nil => intro _; rfl
        | cons a r ih =>
          intro hm
          have ha := hm a (List.mem_cons_self ..)
          rw [List.flatMap_cons, if_neg (by omega), ih fun o ho => hm o (List.mem_cons_of_mem _ ho)]
          rfl
      rw [this (utf1_ge (by omega))]
      simp
theorem utfL_nil {l : List Nat} : (utfL l).length = 0 ↔ l.length = 0 := by
  have h1 := utfL_ge l
  have h2 := utfL_len l
  omega
theorem str_ext {a b : Str} (h : a.cps.toList = b.cps.toList) : a = b := by
  cases a; cases b
  congr 1
  exact Array.toList_inj.mp h
theorem added_full (p : Pair) : addedP p = lastP p := by
  unfold addedP lastP fmtS
  rw [esc_mark]
  refine Prod.ext rfl (str_ext ?_)
  by_cases h : p.2.length = 0
  · simp only [h, if_true, Str.cps_append, Array.toList_append, List.append_assoc, List.append_nil, List.cons_append, List.nil_append]
  · simp only [h, if_false, Str.cps_append, Array.toList_append, List.append_assoc, List.append_nil, List.cons_append, List.nil_append]
theorem added_shown (full : Bool) (p : Pair) : addedP (shP full p) = shP full (lastP p) := by
  rw [added_full]
  cases full
  · refine Prod.ext rfl (str_ext ?_)
    show utfL p.2.cps.toList ++ [59, 32, 112] ++ (if (lowS p.2).length = 0 then [] else [61, 34] ++ markL (utfL p.2.cps.toList) ++ [34]) = utfL (p.2.cps.toList ++ [59, 32, 112] ++ (if p.2.length = 0 then [] else [61, 34] ++ markL p.2.cps.toList ++ [34]))
    have e : (lowS p.2).length = 0 ↔ p.2.length = 0 := by
      have := utfL_nil (l := p.2.cps.toList)
      simpa [lowS, utfS, Str.length] using this
    rw [utfL_append, utfL_append, show utfL [59, 32, 112] = [59, 32, 112] by decide]
    by_cases h : p.2.length = 0
    · rw [if_pos h, if_pos (e.mpr h)]; rfl
    · rw [if_neg h, if_neg (fun z => h (e.mp z)), utfL_append, utfL_append, mark_low]; rfl
  · rfl
theorem mark_len (l : List Nat) : (markL l).length ≤ 2 * l.length := by
  unfold markL
  induction l with
  | nil => simp
  | cons a r ih =>
    rw [List.flatMap_cons, List.length_append, List.length_cons]
    have : (if a = 34 ∨ a = 92 then [92, a] else [a]).length ≤ 2 := by split <;> simp
    omega
theorem mark_mem {l : List Nat} {c : Nat} (h : c ∈ markL l) : c ∈ l ∨ c = 92 := by
  obtain ⟨a, ha, hc⟩ := List.mem_flatMap.mp h
  split at hc <;> simp at hc
  · rcases hc with rfl | rfl
    · exact .inr rfl
    · exact .inl ha
  · subst hc; exact .inl ha
theorem last_len {p : Pair} (h : Dr p) : (lastP p).1.length ≤ 2 ∧ (lastP p).2.length ≤ 20 := by
  refine ⟨(nm_facts h.nm).2, ?_⟩
  have h3 := (vl_facts h.vl).2
  have := mark_len p.2.cps.toList
  have e : p.2.cps.toList.length = p.2.length := by simp [Str.length]
  show (p.2.cps.toList ++ [59, 32, 112] ++ (if p.2.length = 0 then [] else [61, 34] ++ markL p.2.cps.toList ++ [34])).toArray.size ≤ 20
  by_cases h0 : p.2.length = 0
  · rw [if_pos h0, List.size_toArray, List.length_append, List.length_append, e]; simp; omega
  · rw [if_neg h0, List.size_toArray, List.length_append, List.length_append, List.length_append, List.length_append, e]; simp; omega
theorem last_fit {p : Pair} (h : Dr p) : Fit (lastP p) := by
  have f := h.fit
  have hs : ∀ c, 32 ≤ c → c < 127 → Scalar c ∧ bad false c = false := fun c h1 h2 => ⟨.inl (by omega), by unfold bad; simp; omega⟩
  refine ⟨f.n, fun c hc => ?_, by have := (last_len h).1; omega, (last_len h).2⟩
  have hc : c ∈ p.2.cps.toList ++ [59, 32, 112] ++ (if p.2.length = 0 then [] else [61, 34] ++ markL p.2.cps.toList ++ [34]) := by simpa [lastP] using hc
  rcases List.mem_append.mp hc with hc | hc
  · rcases List.mem_append.mp hc with hc | hc
    · exact f.v c hc
    · simp at hc; exact hs c (by omega) (by omega)
  · split at hc
    · cases hc
    · rcases List.mem_append.mp hc with hc | hc
      · rcases List.mem_append.mp hc with hc | hc
        · simp at hc; exact hs c (by omega) (by omega)
        · rcases mark_mem hc with hc | rfl
          · exact f.v c hc
          · exact hs _ (by decide) (by decide)
      · simp at hc; subst hc; exact hs _ (by decide) (by decide)
/-- the second of the pair at the law's end -/
theorem bad_more {full nm : Bool} {c : Nat} {p : Pair} (hc : c < 128) : shownP full [p, badP nm c] = [shP full p, badP nm c] := by
  rw [shownP_map]
  show [shP full p, shP full (badP nm c)] = _
  congr 2
  cases full
  · cases nm
    · show (lowS (S [98]), lowS (S [98, c])) = _
      simp [lowS, utfS, utfL, utf1_as hc, utf1_as (show 98 < 128 by decide), badP]
    · show (lowS (S [98, c]), lowS (S [98])) = _
      simp [lowS, utfS, utfL, utf1_as hc, utf1_as (show 98 < 128 by decide), badP]
  · rfl
theorem bad_txi {nm : Bool} {c : Nat} {p : Pair} (hp : Dr p) (hc : c < 256) : ∀ x ∈ textsOf [p, badP nm c], TxI x := by
  have f := hp.fit
  refine fit_txi (fun q hq d hd => ?_) fun q hq => ?_
  · simp at hq
    rcases hq with rfl | rfl
    · rcases List.mem_append.mp hd with hd | hd
      · exact (f.n d hd).1
      · exact (f.v d hd).1
    · cases nm <;> simp [badP] at hd <;> exact .inl (by omega)
  · simp at hq
    rcases hq with rfl | rfl
    · exact ⟨f.ln, f.lv⟩
    · cases nm <;> exact ⟨by simp [badP, Str.length], by simp [badP, Str.length]⟩
theorem bad_fit {nm : Bool} {c : Nat} (hc : c < 256) (h : bad nm c = false) : Fit (badP nm c) := by
  have h98 : ∀ b, bad b 98 = false := by decide
  cases nm
  · refine ⟨fun d hd => ?_, fun d hd => ?_, by simp [badP, Str.length], by simp [badP, Str.length]⟩
    · simp [badP] at hd; subst hd; exact ⟨.inl (by omega), h98 _⟩
    · simp [badP] at hd
      rcases hd with rfl | rfl
      · exact ⟨.inl (by omega), h98 _⟩
      · exact ⟨.inl (by omega), h⟩
  · refine ⟨fun d hd => ?_, fun d hd => ?_, by simp [badP, Str.length], by simp [badP, Str.length]⟩
    · simp [badP] at hd
      rcases hd with rfl | rfl
      · exact ⟨.inl (by omega), h98 _⟩
      · exact ⟨.inl (by omega), h⟩
    · simp [badP] at hd; subst hd; exact ⟨.inl (by omega), h98 _⟩
set_option maxHeartbeats 1000000
theorem Stk.of {h0 g0 h b g₀ g : Heap} {outer : List Env} {frl frl' mu0 : List (Addr × Obj)} {L : Addr} {m : Str → Option Value} {ks : List At} (K : Stk h0 g0 outer frl) (U : SlU frl frl') (C : Cx b g₀ L m (mu0 ++ frl') ks g h) : Stk h g outer frl' :=
  K.now U (fun p hp => (C.mt p (List.mem_append_right _ hp)).1) (fun p hp => (C.mt p (List.mem_append_right _ hp)).2.2.1)
theorem goes_cx {w : World} {A : Around} {E : Value → Shared → Prop} {s₁ : Shared} {h0 g0 b g₀ g : Heap} {env : Env} {L : Addr} {m : Str → Option Value} {mu0 : List (Addr × Obj)} {ks : List At} {T dx l : Addr} {t : Tok} {vs : List Value} {n : Nat} {qs : List Pair} {v : Value} {full : Bool} {outer : List Env} {frl0 frl : List (Addr × Obj)} {Q : Value → Shared → Prop}
    (C : Cx b g₀ L m (mu0 ++ frl) ks g s₁.heap) (G : Gd w g₀) (R : Rm (A.deeper env) 17) (hA : A.frames = some outer) (K : Stk h0 g0 outer frl0) (U : SlU frl0 frl) (h2 : 237 < L) (hl : (l, lst vs n) ∈ mu0) (hT : g.get? T = some (instObj 224 dx)) (hd : g.get? dx = some (hdD w t l)) (hrd : RdAll g vs ((shownP full qs).map pairD))
    (hr : Rd g v (pairsD qs)) (hz : qs.length ≤ 20) (hp : ∀ p ∈ qs, Dr p)
    (k : ∀ frl' g' h' tk, SlU frl frl' → g.StaysIn g' → Cx b g₀ L m (mu0 ++ frl') ks g' h' → Q (.bool true) { s₁ with heap := h', toks := tk })
    (hf : env.frame = some L := by rfl) (hk : env.scope.kind = .function := by rfl) : wpAny (model P0 w) (A.deeper env) (call (.ref 295) [.ref T, v, .bool full]) Q E s₁ := by
  obtain ⟨oL, K2⟩ := (K.of U C).push (env := env) C hf hk (fun p hp => List.mem_append_right _ hp) (Nat.ne_of_gt h2)
  have hm := C.mt _ (List.mem_append_left _ hl)
  have X : Tab w s₁.heap g T dx l t vs n (shownP full qs) := ⟨hT, hd, hm.1, hm.2.2.1, hrd⟩
  have nd := C.nd
  rw [List.map_append, List.nodup_append] at nd
  refine wpAny_mono (goes_spec (G.up C.gg) C.gk R (Around.frames_deeper hA) K2 (Nat.lt_trans h2 C.lt) ?_ X hr hz (fun p hq => ⟨(hp p hq).fit.tx, by have := (hp p hq).fit.ln; omega, by have := (hp p hq).fit.lv; omega⟩) (first_ok hp)) (fun v s' q => ?_) fun _ _ z => z
  · rw [List.map_cons, List.mem_cons, not_or]
    exact ⟨hm.2.2.2, fun y => nd.2.2 _ (List.mem_map_of_mem hl) _ y rfl⟩
  · obtain ⟨g', frl', C', U', hg, hv, h, tk, rfl⟩ := Cx.kept C (K2.at' _ (.head _)) q.out
    subst hv
    exact k frl' g' h tk U' hg C'
set_option maxHeartbeats 1000000
theorem intsAt {vs : List Value} {ns : List Int} (h : IntsAre vs ns) : ∀ {i : Nat} {v : Value}, vs[i]? = some v → ∃ n t, ns[i]? = some n ∧ v = .int n t := by
  induction h with
  | nil => intro i v e; simp at e
  | cons n t r ih =>
    intro i v e
    cases i with
    | zero => simp at e; subst e; exact ⟨_, _, rfl, rfl⟩
    | succ i => simpa using ih (by simpa using e)
theorem sub_str {w : World} {A : Around} {E : Value → Shared → Prop} {s : Shared} {value slice : PySem.Expr} {x : Str} {t u : Tok} {k : Int} {c : Nat} {Q : Value → Shared → Prop} (h0 : 0 ≤ k) (hk : k < 1000) (hx : x.cps[k.toNat]? = some c) (h : ∀ t' tk, Q (.str ⟨#[c]⟩ t') { s with toks := tk })
    (hs : subscripted slice false (.str x t) (.int k u) = operate [.str x t, .int k u] (getItem (.str x t) (.int k u)) := by with_unfolding_all rfl) (ht : ∀ r, letTemporaryGo value (.str x t) r = pure () := by intro _; with_unfolding_all rfl) : wpAny (model P0 w) A (subscriptTail value slice (.str x t) (.int k u)) Q E s := by
  refine subscriptTail_ops (typeIs_str _ _ _) PySem.F.slot_str_getitem.lookup (P.getItem_str ?_ ?_ (h _ _)) hs ht
  · simp; omega
  · have hlt : k.toNat < x.length := (Array.getElem?_eq_some_iff.mp hx).1
    have h1 : k < (x.length : Int) := by omega
    simp [seqIndex?, Int.not_lt.mpr h0, h0, h1, hx]
theorem sign4 : ∀ k : Fin 4, (Str.ofString "aAéÉ").cps[k.val]? = some ([97, 65, 233, 201].getD k.val 0) := by decide
theorem pick6 (k : Nat) (hk : k < 6) (t0 t1 t2 t3 t4 t5 : Tok) : ∃ t, [Value.str (Str.ofString "") t0, .str (Str.ofString "Þ") t1, .str (Str.ofString "þ") t2, .str (Str.ofString "×") t3, .str (Str.ofString "÷") t4, .str (Str.ofString "㉀") t5][k]? = some (.str (S ([[], [222], [254], [215], [247], [12864]].getD k [])) t) := by
  match k, hk with
  | 0, _ => exact ⟨t0, rfl⟩
  | 1, _ => exact ⟨t1, rfl⟩
  | 2, _ => exact ⟨t2, rfl⟩
  | 3, _ => exact ⟨t3, rfl⟩
  | 4, _ => exact ⟨t4, rfl⟩
  | 5, _ => exact ⟨t5, rfl⟩
theorem len6 : ∀ k, k < 6 → ([[], [222], [254], [215], [247], [12864]].getD k ([] : List Nat)).length ≤ 1 := by decide
theorem one4 : ∀ k, k < 4 → [[97], [65], [233], [201]].getD k ([] : List Nat) = [[97, 65, 233, 201].getD k 0] := by decide
theorem name_eq (nn : Int) (b4 : 0 ≤ nn % 4 ∧ nn % 4 < 4) (b6 : 0 ≤ nn / 4 % 6 ∧ nn / 4 % 6 < 6) : ({ cps := #[[97, 65, 233, 201].getD (nn % 4).toNat 0] } : Str) ++ S ([[], [222], [254], [215], [247], [12864]].getD (nn / 4 % 6).toNat []) = nameOf nn := by
  unfold nameOf nmAt
  rw [one4 _ (by omega)]
  generalize [[], [222], [254], [215], [247], [12864]].getD (nn / 4 % 6).toNat ([] : List Nat) = z
  generalize [97, 65, 233, 201].getD (nn % 4).toNat 0 = y
  exact (congrArg Str.mk (by simp : #[y] ++ z.toArray = ([y] ++ z).toArray))
theorem tag_eq {n i : Nat} (h : n = i) (h5 : i < 5) : Str.ofString (toString (n : Int)) = S [48 + i] := by
  subst h
  match n, h5 with
  | 0, _ => rfl
  | 1, _ => rfl
  | 2, _ => rfl
  | 3, _ => rfl
  | 4, _ => rfl
theorem pick8 {i k c : Nat} {x : Str} {t0 t1 t2 t3 t4 t5 t6 t7 : Tok} (hx : x = S [48 + i]) (hk : k < 8) : [Value.str (Str.ofString "") t0, .str (x ++ Str.ofString "é") t1, .str (x ++ Str.ofString "€") t2, .str (x ++ Str.ofString "😀") t3, .str (x ++ Str.ofString "\x80") t4, .str (x ++ Str.ofString "\"\\") t5, .str (x ++ Str.ofString "\t") t6, .str (x ++ ⟨#[c]⟩) t7][k]? = some (.str (S (valL i k c)) ([t0, t1, t2, t3, t4, t5, t6, t7].getD k 0)) := by
  subst hx
  match k, hk with
  | 0, _ => rfl
  | 1, _ => rfl
  | 2, _ => rfl
  | 3, _ => rfl
  | 4, _ => rfl
  | 5, _ => rfl
  | 6, _ => rfl
  | 7, _ => rfl
theorem drawn_take {ns : List Int} {i : Nat} {n : Int} (h : ns[i]? = some n) : drawnP (ns.take (i + 1)) = drawnP (ns.take i) ++ [(nameOf n, valueOf i n)] := by
  have hi : i < ns.length := (List.getElem?_eq_some_iff.mp h).1
  unfold drawnP
  rw [List.take_add_one, h, List.zipIdx_append, List.map_append, List.length_take, Nat.min_eq_left (by omega)]
  simp
theorem drawn_spec {w : World} {A : Around} {E : Value → Shared → Prop} {s : Shared} {g : Heap} {a : Addr} {vs : List Value} {n : Nat} {ns : List Int} (G : Gd w g) (gs : g.StaysIn s.heap) (R : Rm A 3) (ha : g.get? a = some (lst vs n)) (hi : IntsAre vs ns) (hz : ns.length ≤ 5) :
    wpAny (model P0 w) A (call (.ref 317) [.ref a]) (fun v s' => Done (∃ g', Ct [] s g s' g' ∧ Rd g' v (pairsD (drawnP ns)))) E s := by
  refine call_fn (binds := [(Str.ofString "numbers", .ref a)]) [] [] G gs R.lt (G.k 317 _ rfl) rfl (codeRec_of G.k rfl) (BindsTo.of_eq rfl) (locs rfl) (fun _ h => nomatch h) .nil (fun _ h => nomatch h) ?_ (by decide)
  intro h₁ tk C
  repeat walk1
  rename Cx _ _ _ _ _ _ _ _ => C1
  rename_i l _ hl _
  have hlen := hi.length
  refine it_lst C1 R.hd ha ?_
  clear C1
  intro I oI h₂ it C2
  refine for_it it (C2.add (x := .rds [] []) .nil) (fun i m₁ mu₁ ks₁ => m₁ (Str.ofString "pairs") = some (.ref l) ∧ ∃ us k, mu₁ = [(l, lst us k)] ∧ us.length = i ∧ ks₁ = [.rds us ((drawnP (ns.take i)).map pairD)]) ⟨rfl, [], 0, rfl, rfl, rfl⟩ ?_ ?_
  · rintro i v m₁ mu₁ ks₁ g₁ h₃ tk₃ o₁ hi' hvi ⟨hm, us, k, rfl, hul, rfl⟩ hg₁ C3
    clear C2
    have h5 : i < 5 := by omega
    obtain ⟨nn, tn, hni, rfl⟩ := intsAt hi hvi
    have f4 : nn.fmod 4 = nn % 4 := Int.fmod_eq_emod_of_nonneg _ (by decide)
    have b4 : 0 ≤ nn % 4 ∧ nn % 4 < 4 := ⟨Int.emod_nonneg _ (by decide), Int.emod_lt_of_pos _ (by decide)⟩
    repeat walk1
    rw [f4]
    refine sub_str b4.1 (by omega) (sign4 ⟨(nn % 4).toNat, by omega⟩) ?_
    intro t₁ k₁
    repeat walk1
    have f46 : (nn.fdiv 4).fmod 6 = nn / 4 % 6 := by rw [Int.fdiv_eq_ediv_of_nonneg _ (by decide), Int.fmod_eq_emod_of_nonneg _ (by decide)]
    have b46 : 0 ≤ nn / 4 % 6 ∧ nn / 4 % 6 < 6 := ⟨Int.emod_nonneg _ (by decide), Int.emod_lt_of_pos _ (by decide)⟩
    rw [f46]
    obtain ⟨t₂, ht₂⟩ := pick6 (nn / 4 % 6).toNat (by omega) k₁ (k₁ + 1) (k₁ + 1 + 1) (k₁ + 1 + 1 + 1) (k₁ + 1 + 1 + 1 + 1) (k₁ + 1 + 1 + 1 + 1 + 1)
    rename Cx _ _ _ _ _ _ _ _ => C4
    refine sub_lst (C4.at (.head _)) b46.1 (by omega) ht₂ ?_
    have hl6 : ([[], [222], [254], [215], [247], [12864]].getD (nn / 4 % 6).toNat []).length ≤ 1 := len6 _ (by omega)
    refine PyProof.Rows.add_str (fun t₅ k₅ => ?_) (by rw [sizeLine_eq]; show 1 + _ ≤ _; rw [S_length]; omega)
    rw [name_eq nn b4 b46]
    have C5 := C4.drop (List.sublist_cons_self _ _)
    clear C4
    repeat walk1
    have fc : (nn.fdiv 192).fmod 50000 = nn / 192 % 50000 := by rw [Int.fdiv_eq_ediv_of_nonneg _ (by decide), Int.fmod_eq_emod_of_nonneg _ (by decide)]
    have bc : 0 ≤ nn / 192 % 50000 ∧ nn / 192 % 50000 < 50000 := ⟨Int.emod_nonneg _ (by decide), Int.emod_lt_of_pos _ (by decide)⟩
    rw [fc]
    refine chr_of_range (by omega) (by omega) ?_
    repeat walk1
    have f8 : (nn.fdiv 24).fmod 8 = nn / 24 % 8 := by rw [Int.fdiv_eq_ediv_of_nonneg _ (by decide), Int.fmod_eq_emod_of_nonneg _ (by decide)]
    have b8 : 0 ≤ nn / 24 % 8 ∧ nn / 24 % 8 < 8 := ⟨Int.emod_nonneg _ (by decide), Int.emod_lt_of_pos _ (by decide)⟩
    rw [f8]
    rename Cx _ _ _ _ _ _ _ _ => C4
    refine sub_lst (C4.at (.head _)) b8.1 (by omega) (pick8 (tag_eq hul h5) (by omega)) ?_
    have C5 := C4.drop (List.sublist_cons_self _ _)
    clear C4
    have hv : S (valL i (nn / 24 % 8).toNat (160 + nn / 192 % 50000).toNat) = valueOf i nn := rfl
    rw [hv]
    repeat walk1
    rename Cx _ _ _ _ _ _ _ _ => C6

    obtain ⟨g₂, hg₂, e₂, C7⟩ := C6.frz (by assumption)
    refine .inl ⟨rfl, _, _, _, _, C7.pushRd (Rd.mkPair e₂), fun a o e => hg₂ a o (hg₁ a o e), ⟨hm, _, _, rfl, by simp [hul], ?_⟩, _, _, rfl⟩
    rw [drawn_take hni, List.map_append]
    rfl
  · rintro m₁ mu₁ ks₁ g₁ h₃ tk₃ ⟨hm, us, k, rfl, hul, rfl⟩ hg₁ C3
    clear C2
    repeat walk1
    rename Cx _ _ _ _ _ _ _ _ => C6
    obtain ⟨g₂, hg₂, e₂, C7⟩ := C6.frz hl
    refine Done.mk ⟨_, C7.done (Nat.le_refl _) ⟨_, _, rfl⟩, .list e₂ ?_⟩
    have := C7.rds (.head _)
    rw [List.take_of_length_le (by omega)] at this
    exact this
set_option maxHeartbeats 200000
noncomputable def mark1 (c : Nat) : Str := S (if c = 34 ∨ c = 92 then [92, c] else [c])
theorem mark_flat (l : List Nat) : (l.map mark1).flatMap (fun x => x.cps.toList) = markL l := by
  unfold markL
  induction l with
  | nil => rfl
  | cons a r ih => rw [List.map_cons, List.flatMap_cons, List.flatMap_cons, ih]; rfl
theorem mark_wt (l : List Nat) : ((l.map mark1).map (·.length)).sum ≤ 2 * l.length := by
  induction l with
  | nil => simp
  | cons a r ih =>
    have : (mark1 a).length ≤ 2 := by unfold mark1; rw [S_length]; split <;> simp
    simp only [List.map_cons, List.sum_cons, List.length_cons]
    omega
theorem occ_no {c : Nat} (h : ¬ (c = 34 ∨ c = 92)) : (Builtin.Str.occurrences (Str.ofString "\"\\") { cps := #[c] } 0 (Str.ofString "\"\\").length 1).isEmpty = true := by
  rw [show Builtin.Str.occurrences (Str.ofString "\"\\") { cps := #[c] } 0 (Str.ofString "\"\\").length 1 = [] from ?_]; rfl
  refine occ_nil_of_no _ _ 1 fun i hi => ?_
  have hi : i + 1 ≤ 2 := hi
  have : i = 0 ∨ i = 1 := by omega
  rcases this with rfl | rfl
  · have e : ((#[34] : Array Nat) == #[c]) = false := by
      rw [Bool.eq_false_iff]
      intro z
      have := eq_of_beq z
      simp at this
      exact h (.inl this.symm)
    exact e
  · have e : ((#[92] : Array Nat) == #[c]) = false := by
      rw [Bool.eq_false_iff]
      intro z
      have := eq_of_beq z
      simp at this
      exact h (.inr this.symm)
    exact e
theorem occ_yes : ∀ {c : Nat}, (c = 34 ∨ c = 92) → (Builtin.Str.occurrences (Str.ofString "\"\\") { cps := #[c] } 0 (Str.ofString "\"\\").length 1).isEmpty = false := by
  rintro c (rfl | rfl) <;> decide +kernel
theorem join_marks (l : List Nat) : Str.join (Str.ofString "") (l.map mark1) = S (markL l) := by
  rw [join_nil, mark_flat]
theorem mark1_no {c : Nat} (h : (Builtin.Str.occurrences (Str.ofString "\"\\") { cps := #[c] } 0 (Str.ofString "\"\\").length 1).isEmpty = true) : mark1 c = ⟨#[c]⟩ := by
  have hn : ¬ (c = 34 ∨ c = 92) := fun z => by rw [occ_yes z] at h; cases h
  unfold mark1; rw [if_neg hn]
theorem mark1_yes {c : Nat} (h : (Builtin.Str.occurrences (Str.ofString "\"\\") { cps := #[c] } 0 (Str.ofString "\"\\").length 1).isEmpty = false) : mark1 c = Str.ofString "\\" ++ ⟨#[c]⟩ := by
  have hn : c = 34 ∨ c = 92 := Classical.byContradiction fun z => by rw [occ_no z] at h; cases h
  unfold mark1; rw [if_pos hn]; rfl
theorem marks_step {l : List Nat} {i c : Nat} {vs : List Value} {y : Str} {t : Tok} (h : StrsAre vs ((l.take i).map mark1)) (hc : l[i]? = some c) (e : mark1 c = y) : StrsAre (vs ++ [.str y t]) ((l.take (i + 1)).map mark1) := by
  subst e
  rw [List.take_add_one, hc, List.map_append]
  exact h.append' (.cons _ _ .nil)
theorem last_eq (p : Pair) : p.2 ++ Str.ofString "; p" ++ S (if p.2.length = 0 then [] else [61, 34] ++ markL p.2.cps.toList ++ [34]) = (lastP p).2 := by
  refine str_ext ?_
  rw [Str.cps_append, Str.cps_append, Array.toList_append, Array.toList_append]
  rfl
theorem mark_wrap (l : List Nat) : S ([61, 34] ++ l ++ [34]) = Str.ofString "=\"" ++ S l ++ Str.ofString "\"" := by
  refine str_ext ?_
  rw [Str.cps_append, Str.cps_append, Array.toList_append, Array.toList_append]
  rfl
/-- a text whatever the way to it -/
theorem cut_str {M : Model} {A : Around} {E : Value → Shared → Prop} {s : Shared} {t : Sem Value} {Q : Value → Shared → Prop} (x : Str) (h : wpAny M A t (fun v s' => Done (∃ u k, v = .str x u ∧ s' = { s with toks := k })) E s) (k : ∀ u k, Q (.str x u) { s with toks := k }) : wpAny M A t Q E s :=
  wpAny_mono h (fun v s' q => by obtain ⟨u, n, rfl, rfl⟩ := q.out; exact k u n) fun _ _ z => z
section
variable {w : World} {A : Around} {E : Value → Shared → Prop} {s : Shared} {b g₀ g : Heap} {L : Addr} {m : Str → Option Value} {mu : List (Addr × Obj)} {ks : List At}
/-- an item of an object deleted, by its __delitem__ -/
theorem del_open {x dx Cl f : Addr} {sl : Array (Option Value)} {es : List DictEntry} {n : Nat} {i : Value} {Q : Unit → Shared → Prop} (C : Cx b g₀ L m mu ks g s.heap) (G : Gd w g₀) (e1 : s.heap.get? x = some ⟨.ref Cl, some dx, .plain, sl⟩) (e2 : s.heap.get? dx = some (dictOf es n))
    (hq : noSeq (KF w.params) Cl = true) (hs : findIn (KF w.params) (.ref Cl) "__delitem__" = some (some (.ref f))) (hf : isFn (KF w.params) (.ref f) = true)
    (h : wpAny (model P0 w) A (call (.ref f) [.ref x, i]) (fun _ s' => Q () s') E s) : wpAny (model P0 w) A (delItem (.ref x) i) Q E s := by
  have X := C.kin G
  have I := inst_at (x := x) e1 e2
  unfold delItem sequenceKey
  refine wpAny_holding (wpAny_bind (wpAny_bind (I.type.here ?_)))
  refine wpAny_bind ((anyM_none X hq).here ?_)
  rw [if_pos (show (!false) = true from rfl)]
  exact wpAny_pure (wpAny_bind (special_fn X I hs (beq_iff_eq.mp hf) (wpAny_mono h (fun _ _ z => wpAny_pure z) fun _ _ z => z)))
end
set_option maxHeartbeats 1000000
theorem due_ok {sh : List Pair} {keys : List Str} {gone : Option Str} (h : ∀ p ∈ sh, okS p.2) {kk : Str} : ∀ x ∈ dueL sh keys gone kk, okS x := by
  intro x hx
  obtain ⟨q, hq, rfl⟩ := List.mem_map.mp hx
  exact h _ (List.of_mem_zip (List.mem_filter.mp hq).1).1
theorem run_spec {w : World} {A : Around} {E : Value → Shared → Prop} {s : Shared} {g : Heap} {v : Value} {qs : List Pair} {full : Bool} {ps : Array Value} {outer : List Env} {frl : List (Addr × Obj)} {at' : Nat} {tat : Tok} (G : Gd w g) (gs : g.StaysIn s.heap) (R : Rm A 19) (hA : A.frames = some outer) (K : Stk s.heap g outer frl) (ht : s.heap.get? 237 = some (tabObj ps)) (hgt : g.get? 237 = none) (hps : TabIs g lamE.2.2.2 lamQ ps)
    (hr : Rd g v (pairsD qs)) (hq : ∀ p ∈ qs, Dr p) (hn : qs.length ≤ 5) (hat : at' < qs.length) :
    wpAny (model P0 w) A (call (.ref 310) [v, .int at' tat, .bool full]) (fun v s' => Done (Made s g frl (fun v g' => v = .bool true) v s')) E s := by
  obtain ⟨a, vs, n, rfl, ha, hV⟩ := hr.pairs
  have hlen := hV.length
  refine call_fnC (binds := [(Str.ofString "pairs", .ref a), (Str.ofString "at", .int at' tat), (Str.ofString "full", .bool full)]) ((237, tabObj ps) :: frl) [] G gs R.lt (G.k 310 _ rfl) rfl (codeRec_of G.k rfl) (BindsTo.of_eq rfl) rfl (by decide) (fun p hp => ?_) (List.nodup_cons.mpr ⟨K.no, K.nd⟩) (fun _ h => nomatch h) ?_
  · rcases List.mem_cons.mp hp with rfl | hp
    · exact ⟨ht, hgt⟩
    · exact ⟨K.at' p hp, K.ng p hp⟩
  intro h₁ tk cells Y up C
  obtain ⟨o1, o2, o3, o4, rfl, d1, d2, d3, d4⟩ := CellsAre.four Y
  clear Y
  replace d1 : o1.data = .cell none := d1
  replace d2 : o2.data = .cell (some (.bool full)) := d2
  replace d3 : o3.data = .cell (some (.int at' tat)) := d3
  replace d4 : o4.data = .cell (some (.ref a)) := d4
  simp only [List.cons_append, List.nil_append] at C
  have hdr : ∀ p ∈ qs, Nm p.1 := fun p hp => (hq p hp).nm
  have h237 : 237 < s.heap.objs.size := Heap.lt_size ht
  have hokp : ∀ p ∈ shownP full qs, OkP p := fun p hp => by
    rw [shownP_map] at hp
    obtain ⟨q, hq', rfl⟩ := List.mem_map.mp hp
    exact (hq q hq').fit.okp
  repeat walk1
  refine table_cx C G (by walk_at "room") (by walk_at "up") hps hr (Fit.txi fun p hp => (hq p hp).fit) (by omega) (by omega) hokp ?_
  intro T dx l t us k ps' g₂ h₂ tk₂ hg₂ hl hT hdx hus hps' C2
  clear C
  repeat walk1
  rename Cx _ _ _ _ _ _ _ _ => C3
  refine goes_cx (mu0 := [_, _, _, _, _, _]) C3 G (by walk_at "room") hA K (.refl _) h237 (.head _) hT hdx hus (hr.up hg₂) (by omega) hq ?_
  intro frl₁ g₃ h₃ tk₃ U₁ hg₃ C4
  clear C3
  simp only [List.cons_append, List.nil_append] at C4
  have C5 := ((C4.add (x := .ob T (instObj 224 dx)) (hg₃ _ _ hT)).add (x := .ob dx (hdD w t l)) (hg₃ _ _ hdx)).add (x := .rds us ((shownP full qs).map pairD)) (hus.up hg₃)
  clear C4
  repeat walk1
  have hg03 : g.StaysIn g₃ := fun a o e => hg₃ a o (hg₂ a o e)
  refine it_lst C5 (by walk_at "hh") (hg03 _ _ ha) ?_
  intro I oI h₄ it C6
  clear C5
  have G3 := G.up hg03
  refine comp_it it C6 (by simp at hlen; omega) (fun i ys mu₁ ks₁ => mu₁ = (l, lst us k) :: (s.heap.objs.size + 1 + 1 + 1 + 1, o1) :: (s.heap.objs.size + 1 + 1 + 1, o2) :: (s.heap.objs.size + 1 + 1, o3) :: (s.heap.objs.size + 1, o4) :: (237, tabObj ps') :: frl₁ ∧ ks₁ = [At.rds us (List.map pairD (shownP full qs)), At.ob dx (hdD w t l), At.ob T (instObj 224 dx)] ∧ StrsAre ys (keysP full (qs.take i))) ⟨rfl, rfl, .nil⟩ ?_ ?_
  · rintro i v ys b' Lc m₁ mu₁ ks₁ g₁ h₃ tk₃ o₁ D nD hi hvi ⟨rfl, rfl, hys⟩ hg₁ C3
    obtain ⟨p, a, t, u, hpi, rfl, hpa⟩ := hV.pairAt hvi
    have hP := (hq p (List.mem_of_getElem? hpi)).fit
    have hpa1 := hg03 _ _ hpa
    clear C6
    repeat walk1
    (rename Cx _ _ _ _ _ _ _ _ => cO; refine cx_call cO (key_spec (by walk_at "gd") (by walk_at "gk") (by walk_at "room") (by have := hP.ln; omega)) ?_; clear cO)
    rintro _ g₄ h₄ tk₄ hg₄ ⟨tt, rfl⟩ C7
    repeat walk1
    refine ⟨_, _, _, _, C7, fun a o e => hg₄ a o (hg₁ a o e), ⟨rfl, rfl, ?_⟩, _, _, rfl⟩
    unfold keysP
    rw [List.take_add_one, hpi, List.map_append]
    exact hys.append' (.cons _ _ .nil)
  · rintro ys mu₁ ks₁ g₁ h₃ tk₃ D nD ⟨rfl, rfl, hys⟩ hg₁ hD C3
    clear C6 G3
    rw [show qs.take vs.length = qs from List.take_of_length_le (by simp at hlen; omega)] at hys
    have hg01 : g.StaysIn g₁ := fun a o e => hg₁ a o (hg03 a o e)
    obtain ⟨g₅, hg₅, e₅, C4⟩ := C3.frz hD
    clear C3
    have hg05 : g.StaysIn g₅ := fun a o e => hg₅ a o (hg01 a o e)
    have C4' := C4.add (x := .ob D (lst ys nD)) e₅
    clear C4
    repeat walk1
    (rename Cx _ _ _ _ _ _ _ _ => cO; refine cx_call cO (shown_spec (by walk_at "gd") (by walk_at "gk") (by walk_at "room") (hr.up hg05) (by omega) fun p hp => (hq p hp).fit.tx) ?_; clear cO)
    intro sv g₆ h₆ tk₆ hg₆ hsv C5
    obtain ⟨av, sus, sn, rfl, hav, hsV⟩ := hsv.pairs
    have C6 := C5.add (x := .ob av (lst sus sn)) hav
    clear C5
    repeat walk1
    rename Cx _ _ _ _ _ _ _ _ => C7
    have hsl : ∀ p ∈ shownP full qs, p.1.length ≤ 40 ∧ p.2.length ≤ 80 := fun p hp => by
      rw [shownP_map] at hp
      obtain ⟨q, hq', rfl⟩ := List.mem_map.mp hp
      exact (hq q hq').fit.len
    have hsb : ∀ p ∈ shownP full qs, p.1.length ≤ 300 ∧ ∀ c ∈ (Txt.lower p.1).cps.toList, bad true c = false := fun p hp => by
      refine ⟨by have := (hsl p hp).1; omega, ?_⟩
      rw [shownP_map] at hp
      obtain ⟨q, hq', rfl⟩ := List.mem_map.mp hp
      exact low_bad (hq q hq').nm
    have hson := shown_ok (full := full) fun p hp => (hq p hp).fit.ok
    have hsn := shownP_length full qs
    have hkn : (keysP full qs).length = (shownP full qs).length := by rw [hsn]; simp [keysP]
    have hX := C7.mt _ (.head _)
    refine cx_call C7 (tells_spec (gone := none) (tg := 0) (by walk_at "gd") (by walk_at "gk") (by walk_at "room") ⟨C7.ob (a := T) (by walk_at "mem"), C7.ob (a := dx) (by walk_at "mem"), hX.1, hX.2.2.1, C7.rds (by walk_at "mem")⟩ hav hsV (C7.ob (a := D) (by walk_at "mem")) hys rfl hkn (by omega) (by omega) (fun p hp => (hsb p hp).1) hsb (due_ok fun p hp => (hson p hp).2) (law_one hdr)) ?_
    rintro _ g₇ h₇ tk₇ hg₇ rfl C8
    clear C7 hX
    obtain ⟨p0, hp0⟩ : ∃ p, qs[at']? = some p := ⟨qs[at'], List.getElem?_eq_getElem hat⟩
    have hP0 := hq p0 (List.mem_of_getElem? hp0)
    have hvl : vs.length = qs.length := by simpa using hlen
    obtain ⟨uv, huv⟩ : ∃ uv, vs[at']? = some uv := ⟨vs[at']'(by omega), List.getElem?_eq_getElem (by omega)⟩
    obtain ⟨p', pa, t1, t2, hp', rfl, hpa⟩ := hV.pairAt huv
    rw [hp0] at hp'; cases hp'
    have hul : sus.length = (shownP full qs).length := by simpa using hsV.length
    obtain ⟨su, hsu⟩ : ∃ su, sus[at']? = some su := ⟨sus[at']'(by omega), List.getElem?_eq_getElem (by omega)⟩
    obtain ⟨p1, qa, t3, t4, hp1, rfl, hqa⟩ := hsV.pairAt hsu
    have ep1 : p1 = shP full p0 := by
      rw [shownP_map, List.getElem?_map, hp0] at hp1
      exact (Option.some.inj hp1).symm
    subst ep1
    have huv' : vs[((at' : Nat) : Int).toNat]? = some (.ref pa) := huv
    have hsu' : sus[((at' : Nat) : Int).toNat]? = some (.ref qa) := hsu
    have C9 := C8.add (x := .ob qa (tup [.str (shP full p0).1 t3, .str (shP full p0).2 t4])) (hg₇ _ _ hqa)
    clear C8
    have hz1 : ((at' : Nat) : Int) < 1000000 := by omega
    repeat walk1
    rename Cx _ _ _ _ _ _ _ _ => C10
    have hX := C10.mt _ (.head _)
    have hok0 := hP0.fit.okp (full := full)
    have hln0 := hP0.fit.len (full := full)
    refine cx_call1 C10 .head (P := fun v g' o' => v = .none ∧ ∃ vs' k', o' = lst vs' k' ∧ RdAll g' vs' ((shownP full qs ++ [addedP (shP full p0)]).map pairD)) (add_spec (ps := shownP full qs) (u2 := t4) (by walk_at "gd") (by walk_at "gk") (by walk_at "room") (C10.ob (by walk_at "mem")) (C10.ob (by walk_at "mem")) hX.1 hX.2.2.1 (by omega) (C10.rds (by walk_at "mem")) hok0 (by omega)) ?_ ?_
    · rintro v g' s' ⟨hv, vs', k', e, r⟩
      exact ⟨_, e, hv, vs', k', rfl, r⟩
    rintro _ g₈ h₈ tk₈ _ hg₈ ⟨rfl, us', k', rfl, hus'⟩ C11
    clear C10 hX
    have C12 := (C11.add (x := .rds us' ((shownP full qs ++ [addedP (shP full p0)]).map pairD)) hus').less (ks' := [.rds us' ((shownP full qs ++ [addedP (shP full p0)]).map pairD), At.ob qa (tup [.str (shP full p0).1 t3, .str (shP full p0).2 t4]), At.ob av (lst sus sn), At.ob D (lst ys nD), At.ob dx (hdD w t l), At.ob T (instObj 224 dx)]) (fun x hx => List.Sublist.subset (.cons_cons _ (.cons_cons _ (.cons_cons _ (.cons_cons _ (.cons _ (.refl _)))))) hx)
    clear C11
    repeat walk1
    have hg08 : g.StaysIn g₈ := fun a o e => hg₈ a o (hg₇ a o (hg₆ a o (hg05 a o e)))
    refine it_str C12 (by walk_at "hh") ?_
    intro I2 oI2 h₉ it2 C13
    clear C12
    have G8 := G.up hg08
    have hvz := hP0.fit.lv
    refine comp_it it2 C13 (by show p0.2.length ≤ _; omega) (fun i zs mu₁ ks₁ => mu₁ = (l, lst us' k') :: (s.heap.objs.size + 1 + 1 + 1 + 1, _) :: (s.heap.objs.size + 1 + 1 + 1, o2) :: (s.heap.objs.size + 1 + 1, o3) :: (s.heap.objs.size + 1, o4) :: (237, tabObj ps') :: frl₁ ∧ ks₁ = [.rds us' ((shownP full qs ++ [addedP (shP full p0)]).map pairD), At.ob qa (tup [.str (shP full p0).1 t3, .str (shP full p0).2 t4]), At.ob av (lst sus sn), At.ob D (lst ys nD), At.ob dx (hdD w t l), At.ob T (instObj 224 dx)] ∧ StrsAre zs ((p0.2.cps.toList.take i).map mark1)) ⟨rfl, rfl, .nil⟩ ?_ ?_
    · rintro i v zs b' Lc m₁ mu₁ ks₁ g₁ h₃ tk₃ o₁ D nD hi ⟨c, u, hcx, rfl⟩ ⟨rfl, rfl, hys⟩ hg₁ C3
      clear C13
      have hcx' : p0.2.cps.toList[i]? = some c := by simpa using hcx
      repeat' walk1
      · rename_i C4 hq
        exact ⟨_, _, _, _, C4, hg₁, ⟨rfl, rfl, marks_step hys hcx' (mark1_no hq)⟩, _, _, rfl⟩
      · rename_i C4 hq t' k hh
        exact ⟨_, _, _, _, C4, hg₁, ⟨rfl, rfl, marks_step hys hcx' (mark1_yes hq)⟩, _, _, rfl⟩
    · rintro zs mu₁ ks₁ g₉ h₃ tk₃ D2 nD2 ⟨rfl, rfl, hzs⟩ hg₉ hD2 C3
      clear C13 G8
      rw [show p0.2.cps.toList.take p0.2.cps.size = p0.2.cps.toList from List.take_of_length_le (by simp)] at hzs
      have hmw := mark_wt p0.2.cps.toList
      have hml := mark_len p0.2.cps.toList
      have hvl2 : p0.2.cps.toList.length = p0.2.length := by simp [Str.length]
      repeat walk1
      refine join_listW ⟨_, C3.at (.head _), rfl, _, rfl⟩ (by simpa using hzs) (by decide) (by rw [List.length_map]; omega) ?_
      intro t₄ k₄
      rw [show Txt.join (Str.ofString "") (p0.2.cps.toList.map mark1) = S (markL p0.2.cps.toList) from (beq_iff_eq.mp (join_plain_closes _ _)).trans (join_marks _)]
      have C14 := C3.drop (List.sublist_cons_self _ _)
      clear C3
      iterate 12 walk1
      refine cut_str (S (if p0.2.length = 0 then [] else [61, 34] ++ markL p0.2.cps.toList ++ [34])) ?_ ?_
      · have hS7 : (S (markL p0.2.cps.toList)).length ≤ 100 := by rw [S_length]; omega
        dsimp only
        repeat' walk1
        · have hne : ¬ p0.2.length = 0 := by omega
          rw [if_neg hne, mark_wrap]
          exact Done.mk ⟨_, _, rfl, rfl⟩
        · have hne : p0.2.length = 0 := by omega
          rw [if_pos hne]
          exact Done.mk ⟨_, _, rfl, rfl⟩
      intro t₅ k₅
      dsimp only
      have hll := last_len hP0
      refine PyProof.Rows.add_str (fun t₆ k₆ => ?_) (by rw [← Str.length_append, last_eq, sizeLine_eq]; omega)
      rw [last_eq]
      repeat walk1
      rename Cx _ _ _ _ _ _ _ _ => C15
      obtain ⟨gL, hgL, eL, C16⟩ := C15.frz (by assumption)
      clear C15
      have hX := C16.mt _ (.head _)
      have hul' := (C16.rds (.head _)).length
      rw [List.length_map, List.length_append, List.length_singleton] at hul'
      have hTg := C16.ob (a := T) (o := instObj 224 dx) (by walk_at "mem")
      have hdg := C16.ob (a := dx) (o := hdD w t l) (by walk_at "mem")
      refine cx_call C16 (items_spec (l := l) (vs := us') (by walk_at "gd") (by walk_at "gk") (by walk_at "room") hTg hdg hX.1 hX.2.2.1 (by omega)) ?_
      rintro _ g₁₀ h₁₀ tk₁₀ hg₁₀ ⟨ai, ki, rfl, hai⟩ C17
      clear C16 hX
      repeat walk1
      rename Cx _ _ _ _ _ _ _ _ => C18
      obtain ⟨gM, hgM, eM, C19⟩ := C18.frz (by assumption)
      clear C18
      (rename Cx _ _ _ _ _ _ _ _ => cO; refine cx_call cO (shown_spec (ps := [lastP p0]) (by walk_at "gd") (by walk_at "gk") (by walk_at "room") (.list eM (.cons (Rd.mkPair (hgM _ _ (hg₁₀ _ _ eL))) .nil)) (by show 1 ≤ 100; decide) (fun p hp => by rw [List.mem_singleton.mp hp]; exact (last_fit hP0).tx)) ?_; clear cO)
      intro lv g₁₁ h₁₁ tk₁₁ hg₁₁ hlv C20
      obtain ⟨alv, lus, lk, rfl, hal, hlV⟩ := hlv.pairs
      have hll2 := hlV.length
      rw [List.length_map, shownP_length] at hll2
      simp only [List.length_singleton] at hll2
      repeat walk1
      rename Cx _ _ _ _ _ _ _ _ => C21
      obtain ⟨gN, hgN, eN, C22⟩ := C21.frz (by assumption)
      clear C21
      have eS : shownP full [lastP p0] = [addedP (shP full p0)] := by rw [shownP_map, added_shown]; rfl
      have hok2 : ∀ p ∈ shownP full qs ++ [addedP (shP full p0)], okS p.1 ∧ okS p.2 := fun p hp => by
        rcases List.mem_append.mp hp with hp | hp
        · exact hson p hp
        · rw [← eS] at hp
          exact shown_ok (fun q hq' => by rw [List.mem_singleton.mp hq']; exact (last_fit hP0).ok) p hp
      rw [eS] at hlV
      have hlV2 := C22.rds (.head _)
      have h6N : g₆.StaysIn gN := fun a o e => hgN a o (hg₁₁ a o (hgM a o (hg₁₀ a o (hgL a o (hg₉ a o (hg₈ a o (hg₇ a o e)))))))
      refine ne_same C22.gk (.list (hgN _ _ (hg₁₁ _ _ (hgM _ _ hai))) hlV2) (.list eN (by rw [List.map_append]; exact (hsV.up h6N).append (hlV.up hgN))) (shaped_pairs hok2) (by exact Rm.cl (Rm.deeper R)) ?_
      repeat walk1
      have hT3 := C22.ob (a := T) (o := instObj 224 dx) (by walk_at "mem")
      have hd3 := C22.ob (a := dx) (o := hdD w t l) (by walk_at "mem")
      refine del_open C22 G (C22.gk _ _ hT3) (C22.gk _ _ hd3) (by rfl) (by rfl) (by rfl) ?_
      have hX := C22.mt _ (.head _)
      have hp2 : ∀ p ∈ shownP full qs ++ [addedP (shP full p0)], p.1.length ≤ 300 := fun p hp => by
        rcases List.mem_append.mp hp with hp | hp
        · exact (hsb p hp).1
        · rw [List.mem_singleton.mp hp]
          show (shP full p0).1.length ≤ 300
          omega
      refine cx_call1 C22 .head (P := fun v g' o' => v = .none ∧ ∃ vs' k', o' = lst vs' k' ∧ RdAll gN vs' ((shownP full (leftP full qs (keyS full p0.1))).map pairD)) (del_spec (l := l) (vs := us') (ps := shownP full qs ++ [addedP (shP full p0)]) (by walk_at "gd") (by walk_at "gk") (by walk_at "room") hT3 hd3 hX.1 hX.2.2.1 (by rw [List.length_append, hsn, List.length_singleton]; omega) (C22.rds (.head _)) (by omega) (low_bad hP0.nm) hp2) ?_ ?_
      · rintro v g' s' ⟨hv, vs', k', e, r⟩
        rw [left_eq (full := full) (r := addedP (shP full p0)) hdr hP0.nm rfl] at r
        exact ⟨_, e, hv, vs', k', rfl, r⟩
      rintro _ g₁₂ h₁₂ tk₁₂ _ hg₁₂ ⟨rfl, us2, k2, rfl, hus2⟩ C23
      clear C22 hX
      have C24 := (C23.add (x := .rds us2 ((shownP full (leftP full qs (keyS full p0.1))).map pairD)) (hus2.up hg₁₂)).less (ks' := [.rds us2 ((shownP full (leftP full qs (keyS full p0.1))).map pairD), At.ob av (lst sus sn), At.ob D (lst ys nD), At.ob dx (hdD w t l), At.ob T (instObj 224 dx)]) (fun x hx => List.Sublist.subset (.cons_cons _ (.cons _ (.cons _ (.refl _)))) hx)
      clear C23
      have hg012 : g.StaysIn g₁₂ := fun a o e => hg₁₂ a o (hgN a o (hg₁₁ a o (hgM a o (hg₁₀ a o (hgL a o (hg₉ a o (hg08 a o e)))))))
      have G12 := G.up hg012
      have ha12 := hg012 _ _ ha
      obtain ⟨k0, hk0⟩ : ∃ k0, (keysP full qs)[at']? = some k0 := ⟨_, List.getElem?_eq_getElem (by omega)⟩
      have ek0 : k0 = keyS full p0.1 := by
        unfold keysP at hk0
        rw [List.getElem?_map, hp0] at hk0
        exact (Option.some.inj hk0).symm
      obtain ⟨tk0, hkv0⟩ := hys.at hk0
      have hkv0' : ys[((at' : Nat) : Int).toNat]? = some (.str k0 tk0) := hkv0
      repeat walk1
      refine Assign_ListComp_ (by rfl) ?_
      repeat walk1
      rename Cx _ _ _ _ _ _ _ _ => C25
      refine range1_ C25 (by walk_at "hh") (by omega) ?_
      intro I3 oI3 h₁₃ tk₁₃ it3 C26
      clear C25
      refine comp_asg it3 C26 (by omega) (fun j zs mu₂ ks₂ => mu₂ = (l, lst us2 k2) :: (s.heap.objs.size + 1 + 1 + 1 + 1, _) :: (s.heap.objs.size + 1 + 1 + 1, o2) :: (s.heap.objs.size + 1 + 1, o3) :: (s.heap.objs.size + 1, o4) :: (237, tabObj ps') :: frl₁ ∧ ks₂ = [.rds us2 ((shownP full (leftP full qs (keyS full p0.1))).map pairD), At.ob av (lst sus sn), At.ob D (lst ys nD), At.ob dx (hdD w t l), At.ob T (instObj 224 dx)] ∧ RdAll g zs (((qs.take j).filter fun q => !(keyS full q.1 == k0)).map pairD)) ⟨rfl, rfl, .nil⟩ ?_ ?_
      · rintro j v zs b' Lc m₂ mu₂ ks₂ g₂' h₅ tk₅ o₅ D3 nD3 hj ⟨tj, rfl⟩ ⟨rfl, rfl, hzs⟩ hg₂' C27
        clear C26
        obtain ⟨q, hqj⟩ : ∃ q, qs[j]? = some q := ⟨_, List.getElem?_eq_getElem (by omega)⟩
        have hkj : (keysP full qs)[j]? = some (keyS full q.1) := by unfold keysP; rw [List.getElem?_map, hqj]; rfl
        obtain ⟨tj', hkjv⟩ := hys.at hkj
        have hkjv' : ys[((j : Nat) : Int).toNat]? = some (.str (keyS full q.1) tj') := hkjv
        obtain ⟨uv, huv⟩ : ∃ uv, vs[j]? = some uv := ⟨_, List.getElem?_eq_getElem hj⟩
        obtain ⟨q', qa', t5, t6, hq', rfl, hqa'⟩ := hV.pairAt huv
        rw [hqj] at hq'; cases hq'
        have huv' : vs[((j : Nat) : Int).toNat]? = some (.ref qa') := huv
        have hz2 : ((j : Nat) : Int) < 1000000 := by omega
        repeat' walk1
        all_goals rename Cx _ _ _ _ _ _ _ _ => C28
        all_goals rename_i hq
        all_goals refine ⟨_, _, _, _, C28, hg₂', ⟨rfl, rfl, ?_⟩, _, _, rfl⟩
        all_goals rw [filter_step hqj]
        all_goals cases hf : (!(keyS full q.1 == k0))
        all_goals simp only [Bool.false_eq_true, if_false, List.append_nil, if_true, List.map_append, List.map_cons, List.map_nil]
        all_goals first
          | exact absurd (hf.symm.trans hq) (by decide)
          | exact hzs
          | exact hzs.append (.cons (Rd.mkPair hqa') .nil)
      · rintro zs mu₂ ks₂ g₁₃ h₁₄ tk₁₄ D3 nD3 ⟨rfl, rfl, hzs⟩ hg₁₃ hD3 C27
        clear C26 G12
        rw [show qs.take vs.length = qs from List.take_of_length_le (by omega), ek0] at hzs
        obtain ⟨g₁₄, hg₁₄, e₁₄, C28⟩ := C27.frz hD3
        clear C27
        have hg014 : g.StaysIn g₁₄ := fun a o e => hg₁₄ a o (hg₁₃ a o (hg012 a o e))
        have h6_14 : g₆.StaysIn g₁₄ := fun a o e => hg₁₄ a o (hg₁₃ a o (hg₁₂ a o (h6N a o e)))
        have hrl : Rd g₁₄ (.ref D3) (pairsD (leftP full qs (keyS full p0.1))) := .list e₁₄ (hzs.up hg014)
        have hll3 : (leftP full qs (keyS full p0.1)).length ≤ qs.length := List.length_filter_le ..
        have hsl3 : (shownP full (leftP full qs (keyS full p0.1))).length ≤ 5 := by rw [shownP_length]; omega
        have hsub : ∀ p ∈ shownP full (leftP full qs (keyS full p0.1)), p ∈ shownP full qs := fun p hp => by
          rw [shownP_map] at hp ⊢
          obtain ⟨q, hq', rfl⟩ := List.mem_map.mp hp
          exact List.mem_map_of_mem (List.mem_filter.mp hq').1
        subst ek0
        repeat walk1
        rename Cx _ _ _ _ _ _ _ _ => C29
        have hX := C29.mt _ (.head _)
        refine cx_call C29 (tells_spec (gone := some (keyS full p0.1)) (by walk_at "gd") (by walk_at "gk") (by walk_at "room") ⟨C29.ob (a := T) (by walk_at "mem"), C29.ob (a := dx) (by walk_at "mem"), hX.1, hX.2.2.1, C29.rds (.head _)⟩ (C29.ob (a := av) (by walk_at "mem")) (hsV.up h6_14) (C29.ob (a := D) (by walk_at "mem")) hys rfl hkn (by omega) (by omega) (fun p hp => (hsb p (hsub p hp)).1) hsb (due_ok fun p hp => (hson p hp).2) (law_two hdr hP0.nm)) ?_
        rintro _ g₁₅ h₁₅ tk₁₅ hg₁₅ rfl C30
        clear C29 hX
        repeat walk1
        rename Cx _ _ _ _ _ _ _ _ => C31
        have hg015 : g.StaysIn g₁₅ := fun a o e => hg₁₅ a o (hg014 a o e)
        refine goes_cx (mu0 := [_, _, _, _, _, _]) C31 G (by walk_at "room") hA K U₁ h237 (.head _) (C31.ob (a := T) (by walk_at "mem")) (C31.ob (a := dx) (by walk_at "mem")) (C31.rds (.head _)) (hrl.up hg₁₅) (by omega) (fun p hp => hq p (List.mem_filter.mp hp).1) ?_
        intro frl₂ g₁₆ h₁₆ tk₁₆ U₂ hg₁₆ C32
        clear C31
        simp only [List.cons_append, List.nil_append] at C32
        have hps16 : TabIs g₁₆ lamE.2.2.2 lamQ ps' := hps'.up fun a o e => hg₁₆ a o (hg₁₅ a o (hg₁₄ a o (hg₁₃ a o (hg₁₂ a o (hgN a o (hg₁₁ a o (hgM a o (hg₁₀ a o (hgL a o (hg₉ a o (hg₈ a o (hg₇ a o (hg₆ a o (hg₅ a o (hg₁ a o (hg₃ a o e))))))))))))))))
        repeat walk1
        exact Done.mk ⟨g₁₆, frl₂, ps', C32.done (M := 237 :: frl.map (·.1)) (Nat.le_refl _) ⟨_, _, rfl⟩, U₁.trans U₂, fun p hp => C32.at (.tail _ (.tail _ (.tail _ (.tail _ (.tail _ (.tail _ hp)))))), C32.at (.tail _ (.tail _ (.tail _ (.tail _ (.tail _ (.head _)))))), hps16, rfl⟩
set_option maxHeartbeats 1000000
theorem Stk.nil {h g : Heap} : Stk h g [] [] := ⟨rfl, (fun _ h => nomatch h), (fun _ h => nomatch h), trivial, .nil, (fun h => nomatch h)⟩
section
variable {w : World} {A : Around} {E : Value → Shared → Prop} {s : Shared} {b g₀ g : Heap} {L : Addr} {m : Str → Option Value} {mu : List (Addr × Obj)} {ks : List At}
theorem sum_cx {l : Addr} {vs : List Value} {n : Nat} {ns : List Int} {Q : Value → Shared → Prop} (C : Cx b g₀ L m mu ks g s.heap) (hh : A.handled = none) (e : s.heap.get? l = some (lst vs n)) (hi : IntsAre vs ns)
    (h : ∀ t h' tk, Cx b g₀ L m mu ks g h' → Q (.int ns.sum t) { s with heap := h', toks := tk }) : wpAny (model P0 w) A (call (.builtin "sum") [.ref l]) Q E s := by
  obtain ⟨xs, ex⟩ := (IntsAre.allInts hi).items
  have hns : ns = xs.toList.map (·.1) := by rw [← IntsAre.numsOf hi, ← nums_intItems, ← ex]
  refine sum_intListG hh (xs := xs) (ex ▸ ⟨_, e, rfl, n, rfl⟩) fun h' tk t' hk => ?_
  have := h t' h' tk (C.keep hk)
  rw [preSum_eq, List.take_of_length_le (by simp), ← hns]; exact this
theorem truthy_lst {l : Addr} {vs : List Value} {Q : Bool → Shared → Prop} (e : s.heap.IsList l vs.toArray) (hz : vs.length ≤ 1000000) (h : Q (!vs.isEmpty) { s with toks := s.toks + 1 + 1 }) : wpAny (model P0 w) A (truthy (.ref l)) Q E s :=
  wpAny_truthy_list (items := vs.toArray) e (by rw [List.size_toArray]; omega) (by simpa using h)
theorem slice_lstL {value slice : PySem.Expr} {l : Addr} {vs : List Value} {vl vu : Value} {lo hi : Option Int} {Q : Value → Shared → Prop} (C : Cx b g₀ L m mu ks g s.heap) (hl : s.heap.IsList l vs.toArray) (pl : IsPart vl lo) (pu : IsPart vu hi)
    (hsz : vs.length ≤ 1000000)
    (h : ∀ a h', L < a → Cx b g₀ L m ((a, lst (slicePick vs.toArray lo hi none).toList 0) :: mu) ks g h' → Q (.ref a) { s with heap := h' })
    (hs : subscripted slice false (.ref l) (.ref s.heap.objs.size) = operate [.ref s.heap.objs.size, .ref l] (getItem (.ref l) (.ref s.heap.objs.size)) := by with_unfolding_all rfl)
 : SliceAt w A E value slice (.ref l) vl vu Q s := by
  unfold SliceAt
  refine kba_turn (value' := .Name (Str.ofString "") ⟨0, 0, 0, 0⟩) (fun _ => rfl) ?_
  refine subscriptTail_ops (Heap.IsList.typeIs (s := { s with heap := s.heap.push { cls := .type "slice", data := .fields #[vl, vu, .none] } }) (hl.push _)) list_getitem_lookup
    (wpAny_getItem_list_slice (hl.push _) (Heap.IsSliceOf.new ..) pl pu .none (by simp) ?_ (by rw [List.size_toArray]; exact Nat.le_trans hsz (by decide))) hs (fun _ => rfl)
  have C1 := C.keep (h' := s.heap.push { cls := .type "slice", data := .fields #[vl, vu, .none] }) fun _ _ e => Heap.get?_push_of_some _ e
  exact h _ _ C1.lt (C1.addMu (fun _ _ e => Heap.get?_push_of_some _ e) (Nat.le_refl _) (by rw [Heap.get?_push_size _ rfl]))
theorem isList_up {g h : Heap} {a : Addr} {xs : Array Value} (k : g.StaysIn h) (e : g.IsList a xs) : h.IsList a xs := let ⟨o, e1, r⟩ := e; ⟨o, k _ _ e1, r⟩
theorem unpack_ {t : Addr} {vs : List Value} {n : Nat} {Q : List Value → Shared → Prop} (C : Cx b g₀ L m mu ks g s.heap) (hh : A.handled = none) (e : s.heap.get? t = some (tup vs)) (hn : n = vs.length)
    (h : ∀ h', Cx b g₀ L m mu ks g h' → Q vs { s with heap := h' }) : wpAny (model P0 w) A (unpackItems (.ref t) n none) Q E s := by
  subst hn
  exact wpAny_unpackItems_tuple (items := vs.toArray) hh ⟨_, e, rfl, 0, rfl⟩ fun h' he => h h' (C.keep fun a o q => he a o (Nat.ne_of_lt (Heap.lt_size q)) q)
/-- behind a call that fills the table of addresses and touches this frame's slots -/
theorem Cx.made {s' : Shared} {oL : Obj} {ps : Array Value} {fm : Obj → List (Addr × Obj)} {P : Value → Heap → Prop} {v : Value} (C : Cx b g₀ L m mu ks g s.heap) (hoL : s.heap.get? L = some oL) (uf : UpF 237 (tabObj ps) mu fm) (q : Made s g [(L, oL)] P v s') :
    ∃ g' ps', Cx b g₀ L m (fm (tabObj ps')) ks g' s'.heap ∧ TabIs g' lamE.2.2.2 lamQ ps' ∧ g.StaysIn g' ∧ P v g' ∧ ∃ h tk, s' = { s with heap := h, toks := tk } := by
  obtain ⟨g', frl1, ps', c, U, hat, ht, hps, hP⟩ := q
  cases U with
  | @cons _ _ sl _ _ U =>
  cases U
  have u := uf.up (tabObj ps')
  have hm := C.mt _ u.mem
  have newN : ∀ {p : Addr × Obj}, p ∈ mu → g'.get? p.1 = none := fun {p} hp => by
    cases z : g'.get? p.1 with
    | none => rfl
    | some o =>
      rcases c.nw _ _ z with z | z
      · rw [(C.mt p hp).2.2.1] at z; cases z
      · exact absurd (C.mu_lt hp) (Nat.not_lt.mpr z)
  refine ⟨g', ps',
    { ns := ?_
      bk := fun a o e => c.kp a o (fun z => ?_) (C.bk a o e)
      bL := C.bL
      gk := c.gs
      gg := fun a o e => c.gg a o (C.gg a o e)
      gn := fun a o e => by
        rcases c.nw a o e with z | z
        · exact C.gn a o z
        · exact .inr (Nat.lt_of_lt_of_le C.lt z)
      g0 := C.g0
      mt := fun p hp => ?_
      nd := by rw [u.keys]; exact C.nd
      kn := fun x hx => At.up c.gg (C.kn x hx) }, hps, c.gg, hP, c.sh⟩
  · obtain ⟨o, es, ep, ho, hd, r⟩ := C.ns
    rw [hoL] at ho; cases ho
    exact ⟨_, es, ep, hat _ (.head _), hd, r⟩
  · rcases List.mem_cons.mp z with z | z
    · rw [z, hm.2.1] at e; cases e
    · rw [List.mem_singleton.mp z, C.bLn] at e; cases e
  · rcases u.back C.nd p hp with rfl | ⟨q1, q2⟩
    · exact ⟨ht, hm.2.1, newN (p := (237, tabObj ps)) u.mem, hm.2.2.2⟩
    · have z := C.mt p q1
      refine ⟨c.kp _ _ (fun y => ?_) z.1, z.2.1, newN q1, z.2.2.2⟩
      rcases List.mem_cons.mp y with y | y
      · exact q2 y
      · exact z.2.2.2 (List.mem_singleton.mp y)
theorem made_cx {env : Env} {ps : Array Value} {fm : Obj → List (Addr × Obj)} {P : Value → Heap → Prop} {t : Sem Value} {Q : Value → Shared → Prop} (C : Cx b g₀ L m mu ks g s.heap) (uf : UpF 237 (tabObj ps) mu fm) (h2 : L ≠ 237)
    (h : ∀ oL, Stk s.heap g [env] [(L, oL)] → wpAny (model P0 w) (A.deeper env) t (fun v s' => Done (Made s g [(L, oL)] P v s')) E s)
    (k : ∀ v g' ps' h' tk, g.StaysIn g' → TabIs g' lamE.2.2.2 lamQ ps' → P v g' → Cx b g₀ L m (fm (tabObj ps')) ks g' h' → Q v { s with heap := h', toks := tk })
    (hf : env.frame = some L := by rfl) (hk : env.scope.kind = .function := by rfl) : wpAny (model P0 w) (A.deeper env) t Q E s := by
  obtain ⟨oL, K⟩ := Stk.nil.push (env := env) C hf hk (fun _ h => nomatch h) h2
  refine wpAny_mono (h oL K) (fun v s' q => ?_) fun _ _ z => z
  obtain ⟨g', ps', C', hps, hg, hv, h', tk, rfl⟩ := C.made (K.at' _ (.head _)) uf q.out
  exact k v g' ps' h' tk hg hps hv C'
/-- the table's state, told by what is known -/
noncomputable def TabK (ps : Array Value) (ks : List At) : Prop := ∀ g : Heap, (∀ x ∈ ks, x.on g) → TabIs g lamE.2.2.2 lamQ ps
theorem Cx.tab {h : Heap} {ps : Array Value} (C : Cx b g₀ L m mu ks g h) (hps : TabIs g lamE.2.2.2 lamQ ps) : ∃ ks', Cx b g₀ L m mu ks' g h ∧ TabK ps ks' := by
  rcases hps with rfl | ⟨c', rfl, c₂, oc, vs, t, e2, hoc, hd, hv⟩
  · exact ⟨[], C.less (fun _ h => nomatch h), fun _ _ => .inl rfl⟩
  · cases e2
    exact ⟨[.ob c' oc], (C.add (x := .ob c' oc) hoc).less (fun x hx => by rw [List.mem_singleton.mp hx]; exact .head _), fun g' k => .inr ⟨c', rfl, c', oc, vs, t, rfl, k _ (.head _), hd, hv⟩⟩
theorem cut_rd {M : Model} {t : Sem Value} {Q : Value → Shared → Prop} (D : PyData) (_ : Cx b g₀ L m mu ks g s.heap)
    (h : wpAny M A t (fun v s' => Done (∃ g' h' tk', g.StaysIn g' ∧ Rd g' v D ∧ Cx b g₀ L m mu ks g' h' ∧ s' = { s with heap := h', toks := tk' })) E s)
    (k : ∀ v g' h' tk', g.StaysIn g' → Rd g' v D → Cx b g₀ L m mu ks g' h' → Q v { s with heap := h', toks := tk' }) : wpAny M A t Q E s :=
  wpAny_mono h (fun v s' q => by obtain ⟨g', h', tk', h1, h2, h3, rfl⟩ := q.out; exact k v g' h' tk' h1 h2 h3) fun _ _ z => z
end
set_option maxHeartbeats 1000000
theorem IntsAre.take {vs : List Value} {ns : List Int} (h : IntsAre vs ns) : ∀ k, IntsAre (vs.take k) (ns.take k) := by
  induction h with
  | nil => intro k; simpa using IntsAre.nil
  | cons n t r ih =>
    intro k
    cases k with
    | zero => exact .nil
    | succ k => exact .cons n t (ih k)
/-- the sign at the law's end -/
noncomputable def sgL : List Nat := [0, 9, 10, 31, 127, 128, 133, 159]
noncomputable def sg (k : Nat) : Nat := sgL.getD k 0
theorem sg_at : ∀ {k : Nat}, k < 8 → sgL[k]? = some (sg k) := by decide
theorem sg_lt : ∀ k, k < 8 → sg k < 256 := by decide
theorem AreInts.get {vs : List Value} {l : List Nat} (h : AreInts vs l) {i c : Nat} (e : l[i]? = some c) : ∃ t, vs[i]? = some (.int (c : Int) t) := by
  have hl := h.length
  have hi : i < l.length := (List.getElem?_eq_some_iff.mp e).1
  obtain ⟨v, hv⟩ : ∃ v, vs[i]? = some v := ⟨vs[i]'(by omega), List.getElem?_eq_getElem (by omega)⟩
  obtain ⟨n, t, hn, rfl⟩ := h.at hv
  rw [e] at hn; cases hn
  exact ⟨t, hv⟩
theorem sub_ints {w : World} {A : Around} {E : Value → Shared → Prop} {s : Shared} {value slice : PySem.Expr} {l : Addr} {vs : List Value} {n c : Nat} {k : Int} {u : Tok} {ns : List Nat} {Q : Value → Shared → Prop} (e : s.heap.get? l = some (lst vs n)) (h0 : 0 ≤ k) (hfit : k < 1000000) (hA : AreInts vs ns) (hx : ns[k.toNat]? = some c) (h : ∀ t, Q (.int (c : Int) t) s)
    (hs : subscripted slice false (.ref l) (.int k u) = operate [.ref l, .int k u] (getItem (.ref l) (.int k u)) := by with_unfolding_all rfl) : wpAny (model P0 w) A (subscriptTail value slice (.ref l) (.int k u)) Q E s := by
  obtain ⟨t, ht⟩ := hA.get hx
  exact sub_lst e h0 hfit ht (h t) hs
theorem cut_pair {M : Model} {A : Around} {E : Value → Shared → Prop} {s : Shared} {b g₀ g : Heap} {L : Addr} {m : Str → Option Value} {mu : List (Addr × Obj)} {ks : List At} {t : Sem Value} {Q : Value → Shared → Prop} (p : Pair) (_ : Cx b g₀ L m mu ks g s.heap)
    (h : wpAny M A t (fun v s' => Done (∃ a u1 u2 g' h' tk', v = .ref a ∧ g.StaysIn g' ∧ g'.get? a = some (tup [.str p.1 u1, .str p.2 u2]) ∧ Cx b g₀ L m mu ks g' h' ∧ s' = { s with heap := h', toks := tk' })) E s)
    (k : ∀ a u1 u2 g' h' tk', g.StaysIn g' → g'.get? a = some (tup [.str p.1 u1, .str p.2 u2]) → Cx b g₀ L m mu ks g' h' → Q (.ref a) { s with heap := h', toks := tk' }) : wpAny M A t Q E s :=
  wpAny_mono h (fun v s' q => by obtain ⟨a, u1, u2, g', h', tk', rfl, h1, h2, h3, rfl⟩ := q.out; exact k a u1 u2 g' h' tk' h1 h2 h3) fun _ _ z => z
theorem cut_bool {M : Model} {A : Around} {E : Value → Shared → Prop} {s : Shared} {t : Sem Value} {Q : Value → Shared → Prop} (x : Bool) (h : wpAny M A t (fun v s' => Done (∃ k, v = .bool x ∧ s' = { s with toks := k })) E s) (k : ∀ k, Q (.bool x) { s with toks := k }) : wpAny M A t Q E s :=
  wpAny_mono h (fun v s' q => by obtain ⟨n, rfl, rfl⟩ := q.out; exact k n) fun _ _ z => z
theorem ref_a {r : Nat} (h : (r : Int) < 5) : ((r : Int) != 1) = (decide (r < 5) && (false || decide (r ≠ 1))) := by
  have h5 : r < 5 := by omega
  by_cases h1 : r = 1
  · subst h1; rfl
  · rw [show ((r : Int) != 1) = true by simp; omega]
    simp [h5, h1]
theorem ref_b {r : Nat} {b : Bool} (h : ¬ (r : Int) < 5) : decide ((r : Int) < 5) = (decide (r < 5) && (b || decide (r ≠ 1))) := by
  rw [decide_eq_false h, decide_eq_false (show ¬ r < 5 by omega)]; rfl
theorem ref_c {r : Nat} (h : (r : Int) < 5) : true = (decide (r < 5) && (true || decide (r ≠ 1))) := by
  rw [decide_eq_true (show r < 5 by omega)]; rfl
theorem sg_bad : ∀ (nm : Bool) (r : Nat), r < 8 → (decide (r < 5) && (nm || decide (r ≠ 1))) = true → sg r ∈ [0, 9, 10, 31, 127] ∧ bad nm (sg r) = true := by decide
theorem sg_good : ∀ (nm : Bool) (r : Nat), r < 8 → (decide (r < 5) && (nm || decide (r ≠ 1))) = false → bad nm (sg r) = false := by decide
/-- what the law awaits of the table with the sign -/
noncomputable def dueD (rf full : Bool) (p : Pair) (q : Pair) : PyData := if rf then .str msgS else pairsD (shownP full [p, q])
theorem bad_tx {nm : Bool} {c : Nat} (hc : c < 256) : TxP (badP nm c) := by
  cases nm
  · exact ⟨⟨by simp [badP, Str.length], fun d hd => by simp [badP] at hd; omega⟩, ⟨by simp [badP, Str.length], fun d hd => by simp [badP] at hd; omega⟩⟩
  · exact ⟨⟨by simp [badP, Str.length], fun d hd => by simp [badP] at hd; omega⟩, ⟨by simp [badP, Str.length], fun d hd => by simp [badP] at hd; omega⟩⟩
theorem due_shaped {rf full : Bool} {p q : Pair} (h : ∀ r ∈ [p, q], TxP r) : SeqAt.shaped (dueD rf full p q) = true := by
  cases rf
  · exact shaped_pairs (shown_ok fun r hr => ⟨(h r hr).1.cps, (h r hr).2.cps⟩)
  · show SeqAt.shaped (.str msgS) = true
    decide +kernel
theorem law_spec {w : World} {A : Around} {E : Value → Shared → Prop} {s : Shared} {g : Heap} {a : Addr} {vs : List Value} {ns : List Int} {ps : Array Value} (G : Gd w g) (gs : g.StaysIn s.heap) (R : Rm A 22) (hA : A.frames = some []) (ha : g.IsList a vs.toArray) (hi : IntsAre vs ns) (hz : ns.length ≤ 63)
    (ht : s.heap.get? 237 = some (tabObj ps)) (hgt : g.get? 237 = none) (hps : TabIs g lamE.2.2.2 lamQ ps) :
    wpAny (model P0 w) A (call (.ref 324) [.ref a]) (fun v s' => Done (∃ g' ps', Ct [237] s g s' g' ∧ v = .bool true ∧ s'.heap.get? 237 = some (tabObj ps'))) E s := by
  have hlen := hi.length
  have h237 : s.heap.objs.size ≠ 237 := Nat.ne_of_gt (Heap.lt_size ht)
  refine call_fn (binds := [(Str.ofString "script", .ref a)]) [(237, tabObj ps)] [] G gs R.lt (G.k 324 _ rfl) rfl (codeRec_of G.k rfl) (BindsTo.of_eq rfl) (locs rfl) (fun p hp => by simp at hp; subst hp; exact ⟨ht, hgt⟩) (by simp) (fun _ h => nomatch h) ?_ (by decide)
  intro h₁ tk C
  iterate 3 walk1
  refine wpAny_mono (Q := fun v s' => Done (∃ a' vs' ns' g' h' tk', v = .ref a' ∧ g.StaysIn g' ∧ g'.IsList a' vs'.toArray ∧ IntsAre vs' ns' ∧ 0 < ns'.length ∧ ns'.length ≤ 63 ∧ Cx (hideAll s.heap [237]) g s.heap.objs.size (fun y => List.lookup y [(Str.ofString "script", .ref a)].reverse) [(237, tabObj ps)] [] g' h' ∧ s' = { s with heap := h', toks := tk' })) ?_ (fun v s' q => ?_) fun _ _ z => z
  · repeat walk1
    refine truthy_lst (isList_up C.gk ha) (by omega) ?_
    cases hi with
    | nil =>
      rw [show (!([] : List Value).isEmpty) = false from rfl]
      repeat walk1
      rename Cx _ _ _ _ _ _ _ _ => C2
      obtain ⟨g', hg', e', C3⟩ := C2.frz (by assumption)
      exact Done.mk ⟨_, _, [54, 120, 1, 35, 78], g', _, _, rfl, hg', ⟨_, e', rfl, 0, rfl⟩, .cons _ _ (.cons _ _ (.cons _ _ (.cons _ _ (.cons _ _ .nil)))), by decide, by decide, C3, rfl⟩
    | cons k t r =>
      rw [show (!(Value.int k t :: _).isEmpty) = true from rfl]
      repeat walk1
      exact Done.mk ⟨_, _, _, g, _, _, rfl, fun _ _ e => e, ha, .cons k t r, Nat.succ_pos _, hz, C, rfl⟩
  obtain ⟨a', vs', ns', g', h', tk', rfl, hg', ha', hi', hp', hz', C2, rfl⟩ := q.out
  clear C
  repeat walk1
  have hl' := hi'.length
  refine slice_lstL C2 (isList_up C2.gk ha') .none (.int _ _) (by omega) ?_
  intro l h₂ hL C3
  clear C2
  rw [show slicePick vs'.toArray none (some 5) none = (vs'.take 5).toArray from slicePick_upto' vs'.toArray 5] at C3
  obtain ⟨g₂, hg₂, e₂, C4⟩ := C3.frz hL
  clear C3
  have hi5 := IntsAre.take hi' 5
  generalize hns : ns'.take 5 = qs at hi5
  have hq0 : 0 < qs.length := by rw [← hns, List.length_take]; omega
  have hq5 : qs.length ≤ 5 := by rw [← hns, List.length_take]; omega
  repeat walk1
  rename Cx _ _ _ _ _ _ _ _ => C5
  refine cx_call C5 (drawn_spec (by walk_at "gd") (by walk_at "gk") (by walk_at "room") e₂ hi5 hq5) ?_
  intro pv g₃ h₃ tk₃ hg₃ hpv C6
  clear C5
  obtain ⟨ap, pvs, pn, rfl, hap, hpV⟩ := hpv.pairs
  have hdl : (drawnP qs).length = qs.length := drawn_len qs
  have hpl := hpV.length
  rw [List.length_map, hdl] at hpl
  have hdr : ∀ p ∈ drawnP qs, Dr p := fun p hp => ⟨(drawn_nv hq5 p hp).1, (drawn_nv hq5 p hp).2⟩
  repeat walk1
  refine sum_cx C6 (by walk_at "hh") (C6.gk _ _ (hg₃ _ _ e₂)) hi5 ?_
  intro t₄ h₄ tk₄ C7
  clear C6
  repeat walk1
  rename Cx _ _ _ _ _ _ _ _ => C8
  refine unpack_ C8 (by walk_at "hh") (C8.at (.head _)) (by rfl) ?_
  intro h₅ C9
  clear C8
  generalize hxs : qs.sum = x
  repeat walk1
  rename Cx _ _ _ _ _ _ _ _ => C10
  have hxl : 0 ≤ x % (pvs.length : Int) ∧ x % (pvs.length : Int) < pvs.length := ⟨Int.emod_nonneg _ (by omega), Int.emod_lt_of_pos _ (by omega)⟩
  have hxf : x.fmod (pvs.length : Int) = x % (pvs.length : Int) := Int.fmod_eq_emod_of_nonneg _ (by omega)
  obtain ⟨k, hk⟩ : ∃ k : Nat, x % (pvs.length : Int) = (k : Int) := ⟨_, (Int.toNat_of_nonneg hxl.1).symm⟩
  rw [hk] at hxf hxl
  rw [hxf] at C10
  have f8 : x.fmod 8 = x % 8 := Int.fmod_eq_emod_of_nonneg _ (by decide)
  obtain ⟨r8, hr8⟩ : ∃ r : Nat, x % 8 = (r : Int) := ⟨_, (Int.toNat_of_nonneg (Int.emod_nonneg x (by decide))).symm⟩
  have b8 : r8 < 8 := by omega
  rw [f8, hr8]
  refine sub_ints (ns := sgL) (C10.at (.head _)) (by omega) (by omega) (.cons rfl (.cons rfl (.cons rfl (.cons rfl (.cons rfl (.cons rfl (.cons rfl (.cons rfl .nil)))))))) (sg_at (k := r8) b8) ?_
  intro t₅
  have C11 := C10.drop (mu' := [(237, tabObj ps)]) (.cons _ (.cons _ (.refl _)))
  clear C10
  have hsg := sg_lt _ b8
  repeat walk1
  repeat walk1
  obtain ⟨p0, hp0⟩ : ∃ p, (drawnP qs)[k]? = some p := ⟨_, List.getElem?_eq_getElem (by omega)⟩
  obtain ⟨uv, huv⟩ : ∃ uv, pvs[k]? = some uv := ⟨_, List.getElem?_eq_getElem (by omega)⟩
  obtain ⟨p', pa, t1, t2, hp', rfl, hpa⟩ := hpV.pairAt huv
  rw [hp0] at hp'; cases hp'
  have hP0 := hdr p0 (List.mem_of_getElem? hp0)
  have huv' : pvs[((k : Nat) : Int).toNat]? = some (.ref pa) := huv
  rename Cx _ _ _ _ _ _ _ _ => C12
  refine sub_lst (C12.gk _ _ hap) (by omega) (by omega) huv' ?_
  generalize hin : ((x.fdiv 8).fmod 2 == 0) = nm at C12
  generalize hc : sg r8 = c at hsg C12
  walk1
  refine cut_pair (badP nm c) C12 ?_ ?_
  · cases nm
    · repeat walk1
      rename Cx _ _ _ _ _ _ _ _ => C13
      obtain ⟨g', hg', e', C14⟩ := C13.frz (by assumption)
      exact Done.mk ⟨_, _, _, g', _, _, rfl, hg', e', C14, rfl⟩
    · repeat walk1
      rename Cx _ _ _ _ _ _ _ _ => C13
      obtain ⟨g', hg', e', C14⟩ := C13.frz (by assumption)
      exact Done.mk ⟨_, _, _, g', _, _, rfl, hg', e', C14, rfl⟩
  intro bm u1 u2 g₄ h₆ tk₆ hg₄ hbm C15
  clear C12
  dsimp only
  iterate 5 walk1
  rename Cx _ _ _ _ _ _ _ _ => C16
  obtain ⟨g₅, hg₅, e₅, C17⟩ := C16.frz (by assumption)
  clear C16
  have hfm : x.fmod 8 = (r8 : Int) := f8.trans hr8
  refine cut_bool (decide (r8 < 5) && (nm || decide (r8 ≠ 1))) ?_ ?_
  · cases nm
    · repeat' walk1
      · rename_i hq
        rw [hfm] at hq ⊢
        exact Done.mk ⟨_, congrArg Value.bool (ref_a hq), rfl⟩
      · rename_i hq
        rw [hfm] at hq ⊢
        exact Done.mk ⟨_, congrArg Value.bool (ref_b hq), rfl⟩
    · repeat' walk1
      · rename_i hq
        rw [hfm] at hq
        exact Done.mk ⟨_, congrArg Value.bool (ref_c hq), rfl⟩
      · rename_i hq
        rw [hfm] at hq ⊢
        exact Done.mk ⟨_, congrArg Value.bool (ref_b hq), rfl⟩
  intro k₇
  generalize hrf : (decide (r8 < 5) && (nm || decide (r8 ≠ 1))) = rf
  dsimp only
  repeat walk1
  rename Cx _ _ _ _ _ _ _ _ => C18
  obtain ⟨g₆, hg₆, e₆, C19⟩ := C18.frz (by assumption)
  clear C18
  have hg46 : g₄.StaysIn g₆ := fun a o e => hg₆ a o (hg₅ a o e)
  have hg06 : g.StaysIn g₆ := fun a o e => hg46 a o (hg₄ a o (hg₃ a o (hg₂ a o (hg' a o e))))
  have hps6 : TabIs g₆ lamE.2.2.2 lamQ ps := hps.up hg06
  obtain ⟨ks6, C20, hT6⟩ := C19.tab hps6
  clear C19
  have hmore : Rd g₆ (.ref _) (pairsD [p0, badP nm c]) := .list (hg₆ _ _ e₅) (.cons (Rd.mkPair (hg46 _ _ (hg₄ _ _ hpa))) (.cons (Rd.mkPair (hg46 _ _ hbm)) .nil))
  have hpairs : Rd g₆ (.ref ap) (pairsD (drawnP qs)) := hpv.up fun a o e => hg46 a o (hg₄ a o e)
  refine it_tuple (items := #[.bool true, .bool false]) C20 (by walk_at "hh") ⟨_, e₆, rfl, 0, rfl⟩ ?_
  intro I oI h₈ it C21
  clear C20
  refine for_it it C21 (fun i m₁ mu₁ ks₁ => (∃ ps', mu₁ = [(237, tabObj ps')] ∧ TabK ps' ks₁) ∧ m₁ (Str.ofString "refused") = some (.bool rf) ∧ (∃ v, m₁ (Str.ofString "more") = some v ∧ Rd g₆ v (pairsD [p0, badP nm c])) ∧ m₁ (Str.ofString "pairs") = some (.ref ap) ∧ ∃ t, m₁ (Str.ofString "at") = some (.int (k : Int) t)) ⟨⟨ps, rfl, hT6⟩, rfl, ⟨_, rfl, hmore⟩, rfl, _, rfl⟩ ?_ ?_
  · rintro i v m₁ mu₁ ks₁ g₇ h₉ tk₉ o₁ hi hv ⟨⟨ps₁, rfl, hT₁⟩, hm1, ⟨mv, hm2, hmv⟩, hm3, ta, hm4⟩ hg₇ C22
    clear C21
    obtain ⟨fl, rfl⟩ : ∃ f, v = .bool f := by
      match i, hi with
      | 0, _ => simp at hv; exact ⟨_, hv.symm⟩
      | 1, _ => simp at hv; exact ⟨_, hv.symm⟩
    have hps₁ : TabIs g₇ lamE.2.2.2 lamQ ps₁ := hT₁ g₇ C22.kn
    iterate 4 walk1
    rename Cx _ _ _ _ _ _ _ _ => C23
    have hmv7 : Rd g₇ mv (pairsD [p0, badP nm c]) := hmv.up hg₇
    have htx : ∀ x ∈ textsOf [p0, badP nm c], TxI x := bad_txi hP0 hsg
    have htp : ∀ p ∈ [p0, badP nm c], TxP p := fun p hp => by
      rcases List.mem_cons.mp hp with rfl | hp
      · exact hP0.fit.tx
      · rw [List.mem_singleton.mp hp]; exact bad_tx hsg
    refine cut_rd (dueD rf fl p0 (badP nm c)) C23 ?_ ?_
    · cases rf
      · repeat walk1
        (rename Cx _ _ _ _ _ _ _ _ => cO; refine cx_call cO (shown_spec (ps := [p0, badP nm c]) (by walk_at "gd") (by walk_at "gk") (by walk_at "room") hmv7 (by show 2 ≤ 100; decide) htp) ?_; clear cO)
        intro v g₈ h₁₀ tk₁₀ hg₈ hv C24
        exact Done.mk ⟨g₈, _, _, hg₈, hv, C24, rfl⟩
      · repeat walk1
        exact Done.mk ⟨g₇, _, _, fun _ _ e => e, .str _ _, C23, rfl⟩
    intro dv g₈ h₁₀ tk₁₀ hg₈ hdv C24
    clear C23
    repeat walk1
    rename Cx _ _ _ _ _ _ _ _ => C25
    have hsp : SeqAt.shaped (dueD rf fl p0 (badP nm c)) = true := due_shaped htp
    refine made_cx C25 (.tail .head) h237 (P := fun v g' => Rd g' v (dueD rf fl p0 (badP nm c))) (fun oL K => ?_) ?_
    · have h237m := C25.mt _ (.tail _ (.head _))
      cases rf
      · have hb := sg_good nm r8 b8 hrf
        rw [hc] at hb
        exact made_ok (by walk_at "gd") (by walk_at "gk") (by walk_at "room") K h237m.1 h237m.2.2.1 (hps₁.up hg₈) (hmv7.up hg₈) htx (by show 2 ≤ 10; decide) (by show 1 ≤ 2; decide) (fun p hp => by
          rw [shownP_map] at hp
          obtain ⟨q, hq, rfl⟩ := List.mem_map.mp hp
          rcases List.mem_cons.mp hq with rfl | hq
          · exact hP0.fit.okp
          · rw [List.mem_singleton.mp hq]; exact (bad_fit hsg hb).okp)
      · obtain ⟨hb1, hb2⟩ := sg_bad nm r8 b8 hrf
        rw [hc] at hb1 hb2
        have hc8 : c < 128 := by simp at hb1; omega
        refine wpAny_mono (made_bad (by walk_at "gd") (by walk_at "gk") (by walk_at "room") (Around.frames_deeper hA) K h237m.1 h237m.2.2.1 (hps₁.up hg₈) (hmv7.up hg₈) htx (by show 2 ≤ 10; decide) (bad_more hc8) hP0.fit.okp hb1 hb2) (fun v s' q => ?_) fun _ _ z => z
        obtain ⟨g', frl', ps', q1, q2, q3, q4, q5, u, rfl⟩ := q.out
        exact Done.mk ⟨g', frl', ps', q1, q2, q3, q4, q5, .str _ _⟩
    intro rv g₉ ps₂ h₁₁ tk₁₁ hg₉ hps₂ hrv C26
    clear C25
    repeat walk1
    refine ne_same C26.gk hrv (hdv.up hg₉) hsp (by exact Rm.cl (Rm.deeper R)) ?_
    repeat walk1
    rename Cx _ _ _ _ _ _ _ _ => C27
    refine made_cx C27 (.tail .head) h237 (P := fun v g' => v = .bool true) (fun oL K => ?_) ?_
    · have h237m := C27.mt _ (.tail _ (.head _))
      exact run_spec (by walk_at "gd") (by walk_at "gk") (by walk_at "room") (Around.frames_deeper hA) K h237m.1 h237m.2.2.1 hps₂ (hpairs.up fun a o e => hg₉ a o (hg₈ a o (hg₇ a o e))) hdr (by omega) (by omega)
    rintro _ g₁₀ ps₃ h₁₂ tk₁₂ hg₁₀ hps₃ rfl C28
    clear C27
    repeat walk1
    obtain ⟨ks', C29, hT'⟩ := C28.tab hps₃
    exact .inl ⟨rfl, _, _, _, _, C29, fun a o e => hg₁₀ a o (hg₉ a o (hg₈ a o (hg₇ a o e))), ⟨⟨ps₃, rfl, hT'⟩, hm1, ⟨mv, hm2, hmv⟩, hm3, ta, hm4⟩, _, _, rfl⟩
  · rintro m₁ mu₁ ks₁ g₇ h₉ tk₉ ⟨⟨ps₁, rfl, hT₁⟩, hm1, ⟨mv, hm2, hmv⟩, hm3, ta, hm4⟩ hg₇ C22
    clear C21
    repeat walk1
    exact Done.mk ⟨g₇, ps₁, C22.done (M := [237]) (Nat.le_refl _) ⟨_, _, rfl⟩, rfl, C22.at (.head _)⟩
set_option maxHeartbeats 1000000
theorem kf_237 (P : Params) : (KF P).lookup 237 = none := by rfl
theorem kf_law (P : Params) : nsIn (KF P) mainGlobals (Str.ofString "law") = some (some (.ref 324)) := by rfl
theorem kf_bm (P : Params) : nsIn (KF P) mainGlobals (Str.ofString "__builtins__") = some (some (.ref 4)) := by rfl
theorem kf_241 (P : Params) : ∃ o vs, (KF P).lookup 241 = some o ∧ o.cls = .type "code" ∧ o.data = .fields vs ∧ vs[11]? = some (.ref 237) := ⟨_, _, rfl, rfl, rfl, rfl⟩
theorem join_law {w : World} {s₁ : Shared} {mg mb : Str → Option Value} {fa a : Addr} {vs : List Value} {ns : List Int} {cl : Str → Option Addr} {mean : ExcName → Option Value} (Tg : s₁.heap.Ns mainGlobals mg) (Tb : s₁.heap.Ns builtinsNs mb) (Tl : s₁.heap.NoLimit) (Td : ∃ mc, s₁.heap.Ns cStatics mc ∧ mc "sys.int_max_str_digits" = none)
    (Tv : ∀ x : Str, x ≠ "__name__" → mb x = bootBuiltins x) (Tm : ∃ bm ob, mg "__builtins__" = some (.ref bm) ∧ bm ≠ builtinsNs ∧ s₁.heap.get? bm = some ob ∧ ob.cls = .type "module" ∧ ob.dict = some builtinsNs ∧ ob.data = .plain)
    (Y : (KH w.params).In s₁.heap) (hmg : mg (Str.ofString "law") = some (.ref fa)) (hg : s₁.gens = #[]) (hl : s₁.heap.IsList a vs.toArray) (hi : IntsAre vs ns) (hz : ns.length ≤ 63) :
    wpAny (model P0 w) callerA (call (.ref fa) [.ref a]) (fun v s' => GoodWG row0.claim cl mean [ofPy (.list (ns.map .int))] s₁ (.ok (.ret v)) s') (fun e s' => GoodWG row0.claim cl mean [ofPy (.list (ns.map .int))] s₁ (.error e) s') s₁ := by
  have h237 : s₁.heap.get? 237 = some (tabObj #[]) := Y 237 _ rfl
  have kf : ∀ x o, (KF w.params).lookup x = some o → x ≠ 237 := fun x o e q => by subst q; rw [kf_237] at e; cases e
  have K : (KF w.params).In s₁.heap := fun x o e => Y x o (by
    show List.lookup x ((237, o237) :: KF w.params) = some o
    rw [List.lookup_cons, show (x == 237) = false from beq_false_of_ne (kf x o e)]
    exact e)
  have e1 := mg_of K Tg (kf_law w.params)
  rw [hmg] at e1
  cases e1
  obtain ⟨bm, ob, hb1, hb2, hb3, hb4, hb5, hb6⟩ := Tm
  have e2 := mg_of K Tg (kf_bm w.params)
  rw [show mg (Str.ofString "__builtins__") = some (.ref bm) from hb1] at e2
  cases e2
  generalize hgg : only s₁.heap (fun i => i != 237) = g
  have gs : g.StaysIn s₁.heap := fun x o e => by
    rw [← hgg, only_get] at e
    split at e
    · exact e
    · cases e
  have up : ∀ x o, x ≠ 237 → s₁.heap.get? x = some o → g.get? x = some o := fun x o q e => by
    rw [← hgg, only_get, if_pos (by simpa using q)]; exact e
  have g237 : g.get? 237 = none := by rw [← hgg, only_get]; rfl
  have G : Gd w g :=
    { k := fun x o e => up _ _ (kf x o e) (K x o e)
      gl := ⟨mg, Tg.at' fun o e => up _ _ (by decide) e⟩
      bl := ⟨mb, Tb.at' fun o e => up _ _ (by decide) e, Tv⟩
      lim := let ⟨mc, h1, h2⟩ := Tl; ⟨mc, h1.at' fun o e => up _ _ (by decide) e, h2⟩
      dig := let ⟨mc, h1, h2⟩ := Td; ⟨mc, h1.at' fun o e => up _ _ (by decide) e, h2⟩
      bm := ⟨ob, up _ _ (by decide) hb3, hb4, hb5, hb6⟩ }
  have ha : g.IsList a vs.toArray := by
    obtain ⟨o, e, r1, n, r2⟩ := hl
    refine ⟨o, up _ _ (fun q => ?_) e, r1, n, r2⟩
    rw [q, h237] at e; cases e; cases r1
  refine wpAny_mono (law_spec (ps := #[]) G gs ⟨rfl, by decide, by decide⟩ rfl ha hi hz h237 g237 (.inl rfl)) (fun v s' q => ?_) fun _ _ z => z
  obtain ⟨g', ps', c, rfl, ht⟩ := q.out
  have old : OldK s₁.heap s'.heap := by
    refine ⟨fun b o e => ?_, fun b o e => ?_⟩
    · by_cases q : b = 237
      · subst q
        rw [h237] at e; cases e
        obtain ⟨o1, vs1, k1, k2, k3, k4⟩ := kf_241 w.params
        exact .inr (.inl ⟨⟨241, o1, vs1, K _ _ k1, k2, k3, k4⟩, rfl, #[], ps', rfl, by simpa using ht⟩)
      · exact .inl (c.kp b o (by simpa using q) e)
    · by_cases q : b = 237
      · exact ⟨_, q ▸ ht⟩
      · exact ⟨_, c.kp b o (by simpa using q) e⟩
  obtain ⟨h', tk, rfl⟩ := c.sh
  refine ⟨.inl ⟨.bool true, _, [], rfl, fun _ => rfl, .bool true, ?_, fun _ => ⟨.nil, fun _ h => nomatch h⟩⟩, old, rfl, ?_⟩
  · show row0.claim.post _ _ _ = true
    with_unfolding_all rfl
  · exact .of_eq hg
set_option maxHeartbeats 0
theorem t : PySem.Challenge.rw_nb0231_01.Holds := by
  refine headOf _ _ rfl rfl rfl (by w_witness2) ?_
  intro w s₀ s₁ mg mb G Y fa o pm cd doc dV kV ho hd hcd hD hmg hg args vals as hpre hlay hrd hwl hlo
  wrow_args hpre hlay hrd hwl hlo
  rename_i hI _ hz _
  exact join_law G.T.g G.T.b G.T.nolimit G.T.nodigits G.T.builtins G.T.bmain (kIn_of Y) hmg hg (by assumption) hI (by omega)
end Mine
theorem PySem.Challenge.cw_nb0231_01_holds : PySem.Challenge.rw_nb0231_01.Holds := by
  exact Mine.t
