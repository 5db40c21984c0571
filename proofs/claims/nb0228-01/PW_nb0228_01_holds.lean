import PyProof.Rows.All
import Wide.All
import OpenK.AllK
import Wide.FinOn
import PySem.Challenge.RW_nb0228_01
open PySem PySem.W PyProof.Rows
set_option Elab.async false
set_option linter.unusedVariables false
set_option linter.unusedSimpArgs false
set_option maxRecDepth 100000
namespace Mine
set_option maxRecDepth 100000
set_option maxHeartbeats 0
open_top hd for PySem.Challenge.rw_nb0228_01
end Mine
open PySem.Spec PySem.Calls
namespace Mine

abbrev prg : Program := PySem.Challenge.rw_nb0228_01.row.prog
noncomputable abbrev KF (w : World) : Frag := hd.heap_39 w.params
/-- the five codes that make lambdas, and their tables -/
abbrev tabs5 : List (Addr × Addr) := [(151, 149), (146, 144), (69, 65), (86, 82), (156, 154)]
/-- the name that a table's lambdas bear -/
def qualAt (P : Addr) : Str :=
  if P = 149 then Str.ofString "_law_heads" ++ Str.ofString ".<locals>." ++ Str.ofString "<lambda>"
  else if P = 144 then Str.ofString "_law_named" ++ Str.ofString ".<locals>." ++ Str.ofString "<lambda>"
  else if P = 65 then Str.ofString "split_header_words" ++ Str.ofString ".<locals>." ++ Str.ofString "<lambda>"
  else if P = 82 then Str.ofString "join_header_words" ++ Str.ofString ".<locals>." ++ Str.ofString "<lambda>"
  else Str.ofString "law" ++ Str.ofString ".<locals>." ++ Str.ofString "<lambda>"

structure Base (w : World) (g : Heap) : Prop where
  X : (KF w).In g
  T : ∃ (p : Program) (loose : List Str) (mean : ExcName → Option Value) (mg mb : Str → Option Value), Top p loose mean mg mb g
  C : ∀ q ∈ tabs5, CodeHd g q.1 q.2

theorem Base.keeps {w : World} {g g' : Heap} (B : Base w g) (hk : ∀ b o, g.get? b = some o → g'.get? b = some o) : Base w g' :=
  ⟨B.X.keeps hk, let ⟨p, l, me, mg, mb, T⟩ := B.T; ⟨p, l, me, mg, mb, T.keeps hk⟩, fun q hq => (B.C q hq).keeps hk⟩

structure Cx where
  w : World
  g : Heap
  L : Addr
  d : Nat
  u : Nat
  gn : Array GenState
  os : OsState

abbrev Nm := List (Str × Value)
abbrev Nw := List (Addr × Obj)

def isFn (o : Obj) : Bool := match o.data with | .func _ => true | _ => false

/-- a code record among the hidden ones -/
def CodeIn (hid : List (Addr × Obj)) (cd : Value) (q : Str) : Prop :=
  ∃ c' oc vs t, cd = .ref c' ∧ (c', oc) ∈ hid ∧ oc.data = .fields vs ∧ vs[1]? = some (.str q t)

structure HidOk (hid : List (Addr × Obj)) : Prop where
  tab : ∀ q ∈ tabs5, ∃ ps, (q.2, tabObj ps) ∈ hid ∧ TriplesOk ps.toList ∧ ∀ pos cv, codeAmong pos ps.toList = some cv → CodeIn hid cv (qualAt q.2)

def Led (c : Cx) (h : Heap) (l : List (Addr × Obj)) : Prop :=
  (∀ p ∈ l, h.get? p.1 = some p.2 ∧ p.1 ≠ c.L ∧ c.g.get? p.1 = none) ∧ (l.map (·.1)).Nodup

structure Fm (c : Cx) (h : Heap) (m : Nm) (nw : Nw) : Prop where
  ns : ∃ mf, h.Ns c.L mf ∧ ∀ y v, m.lookup y = some v → mf y = some v
  keep : ∀ b o, c.g.get? b = some o → h.get? b = some o
  above : c.g.objs.size ≤ c.L
  base : Base c.w c.g
  led : ∃ hid, HidOk hid ∧ (∀ q ∈ nw, ∀ fd, q.2.data = .func fd → CodeIn hid fd.code fd.qualname) ∧ Led c h (nw ++ hid)

structure Gd (c : Cx) (m : Nm) (nw : Nw) (A : Around) (s : Shared) : Prop where
  hh : A.handled = none
  hd : A.depth ≤ c.d
  hu : A.units ≤ c.u
  fm : Fm c s.heap m nw
  gn : s.gens = c.gn
  os : s.os = c.os

def HH {α : Type} (c : Cx) (m : Nm) (nw : Nw) (t : Sem α) (Q : α → Nm → Nw → Prop) : Prop :=
  ∀ A s, Gd c m nw A s → wpAny (model prg c.w) A t (fun a s' => ∃ m' nw', Gd c m' nw' A s' ∧ Q a m' nw') (fun _ _ => False) s

section basics
variable {α β : Type} {c : Cx} {m : Nm} {nw : Nw} {Q : α → Nm → Nw → Prop}

theorem H_pure {a : α} (h : Q a m nw) : HH c m nw (pure a) Q := fun _ _ G => wpAny_pure ⟨_, _, G, h⟩
theorem H_pure' {a : α} (h : Q a m nw) : HH c m nw (Sem.pure a) Q := fun _ _ G => wpAny_pure ⟨_, _, G, h⟩
theorem H_mono {t : Sem α} {Q' : α → Nm → Nw → Prop} (h : HH c m nw t Q') (hq : ∀ a m' nw', Q' a m' nw' → Q a m' nw') : HH c m nw t Q :=
  fun A s G => wpAny_mono (h A s G) (fun _ _ ⟨_, _, G', q⟩ => ⟨_, _, G', hq _ _ _ q⟩) fun _ _ x => x
theorem H_bind {t : Sem α} {f : α → Sem β} {Q : β → Nm → Nw → Prop} (h : HH c m nw t (fun a m' nw' => HH c m' nw' (f a) Q)) : HH c m nw (t >>= f) Q :=
  fun A s G => wpAny_bind (wpAny_mono (h A s G) (fun _ s' ⟨_, _, G', q⟩ => q A s' G') fun _ _ x => x)
theorem H_eq {t t' : Sem α} (e : t = t') (h : HH c m nw t' Q) : HH c m nw t Q := e ▸ h
theorem H_holding {vs : List Value} {t : Sem α} (h : HH c m nw t Q) : HH c m nw (holding vs t) Q := fun A s G => wpAny_holding (h A s G)
theorem H_onRaise {t : Sem α} {k : Value → Sem Unit} (h : HH c m nw t Q) : HH c m nw (t.onRaise k) Q :=
  fun A s G => wpAny_onRaise (wpAny_mono (h A s G) (fun _ _ x => x) fun _ _ x => x.elim)
theorem H_standAt {pos : Pos} {Q : Unit → Nm → Nw → Prop} (h : Q () m nw) : HH c m nw (standAt pos) Q := fun _ _ G => wpAny_standAt ⟨_, _, G, h⟩
theorem H_rule {tag : String} {Q : Unit → Nm → Nw → Prop} (h : Q () m nw) : HH c m nw (rule tag) Q := fun _ _ G => wpAny_rule ⟨_, _, G, h⟩
theorem H_point {Q : Unit → Nm → Nw → Prop} (h : Q () m nw) : HH c m nw point Q := fun _ _ G => wpAny_point ⟨_, _, G, h⟩
theorem Gd.toks {A : Around} {s : Shared} (G : Gd c m nw A s) (t : Nat) : Gd c m nw A { s with toks := t } := ⟨G.hh, G.hd, G.hu, G.fm, G.gn, G.os⟩
theorem Gd.heap {A : Around} {s : Shared} {m' : Nm} {nw' : Nw} {h : Heap} (G : Gd c m nw A s) (F : Fm c h m' nw') (t : Nat) : Gd c m' nw' A { s with heap := h, toks := t } := ⟨G.hh, G.hd, G.hu, F, G.gn, G.os⟩
theorem Gd.heap' {A : Around} {s : Shared} {m' : Nm} {nw' : Nw} {h : Heap} (G : Gd c m nw A s) (F : Fm c h m' nw') : Gd c m' nw' A { s with heap := h } := ⟨G.hh, G.hd, G.hu, F, G.gn, G.os⟩
theorem H_mkInt {i : Int} {Q : Value → Nm → Nw → Prop} (h : ∀ t, Q (.int i t) m nw) : HH c m nw (mkInt i) Q := fun _ _ G => wpAny_mkInt ⟨_, _, G.toks _, h _⟩
theorem H_mkStr {x : Str} {Q : Value → Nm → Nw → Prop} (hx : x.length ≤ sizeLine) (h : ∀ t, Q (.str x t) m nw) : HH c m nw (mkStr x) Q := fun _ _ G => wpAny_mkStr ⟨_, _, G.toks _, h _⟩ hx
theorem H_fresh {Q : Tok → Nm → Nw → Prop} (h : ∀ t, Q t m nw) : HH c m nw fresh Q := fun _ _ G => wpAny_fresh ⟨_, _, G.toks _, h _⟩

/-- the general way in: a rule of the library over the state -/
theorem H_of {t : Sem α} (h : ∀ A s, Gd c m nw A s → ∀ Q', (∀ a s' m' nw', Gd c m' nw' A s' → Q a m' nw' → Q' a s') → wpAny (model prg c.w) A t Q' (fun _ _ => False) s) : HH c m nw t Q :=
  fun A s G => h A s G _ fun _ _ m' nw' G' q => ⟨_, _, G', q⟩

/-- looking alone -/
theorem H_look {t : Sem α} {a : α} (h : ∀ A s, Gd c m nw A s → ∀ Q' : α → Shared → Prop, Q' a s → wpAny (model prg c.w) A t Q' (fun _ _ => False) s) (q : Q a m nw) : HH c m nw t Q :=
  fun A s G => h A s G _ ⟨_, _, G, q⟩

theorem Fm.get {h : Heap} {a : Addr} {o : Obj} (F : Fm c h m nw) (hm : (a, o) ∈ nw) : h.get? a = some o :=
  let ⟨_, _, _, l⟩ := F.led; (l.1 (a, o) (List.mem_append_left _ hm)).1
theorem Fm.getK {h : Heap} {a : Addr} {o : Obj} (F : Fm c h m nw) (hm : (KF c.w).lookup a = some o) : h.get? a = some o := F.keep _ _ (F.base.X a o hm)
theorem H_load {a : Addr} {o : Obj} {Q : Obj → Nm → Nw → Prop} (hm : (a, o) ∈ nw) (h : Q o m nw) : HH c m nw (load a) Q := fun _ _ G => wpAny_load (G.fm.get hm) ⟨_, _, G, h⟩
theorem H_loadK {a : Addr} {o : Obj} {Q : Obj → Nm → Nw → Prop} (hm : (KF c.w).lookup a = some o) (h : Q o m nw) : HH c m nw (load a) Q := fun _ _ G => wpAny_load (G.fm.getK hm) ⟨_, _, G, h⟩

theorem Led.lt {h : Heap} {l : List (Addr × Obj)} (Y : Led c h l) {p : Addr × Obj} (hp : p ∈ l) : p.1 < h.objs.size := Heap.lt_size (Y.1 p hp).1

theorem CodeIn.mono {hid hid' : List (Addr × Obj)} {cd : Value} {q : Str} (x : CodeIn hid cd q) (hs : ∀ p ∈ hid, p ∈ hid') : CodeIn hid' cd q :=
  let ⟨c', oc, vs, t, e, m, r⟩ := x; ⟨c', oc, vs, t, e, hs _ m, r⟩

theorem Fm.push {h : Heap} (F : Fm c h m nw) (o : Obj) (hf : o.isFreed = false) (hfn : isFn o = false) : Fm c (h.push o) m ((h.objs.size, o) :: nw) := by
  obtain ⟨hid, hok, hfo, l⟩ := F.led
  obtain ⟨mf, hns, hmf⟩ := F.ns
  refine ⟨⟨mf, hns.push o, hmf⟩, fun b o' e => Heap.get?_push_of_some o (F.keep b o' e), F.above, F.base, hid, hok, ?_, ?_, ?_⟩
  · intro q hq fd hd
    rcases List.mem_cons.mp hq with rfl | hq
    · have hd' : o.data = .func fd := hd
      simp [isFn, hd'] at hfn
    · exact hfo q hq fd hd
  · intro p hp
    rcases List.mem_cons.mp (show p ∈ (h.objs.size, o) :: (nw ++ hid) from hp) with rfl | hp
    · refine ⟨Heap.get?_push_size h hf, Nat.ne_of_gt hns.lt, ?_⟩
      cases q : c.g.get? h.objs.size with
      | none => rfl
      | some o' => exact absurd (Heap.lt_size (F.keep _ _ q)) (Nat.lt_irrefl _)
    · exact ⟨Heap.get?_push_of_some o (l.1 p hp).1, (l.1 p hp).2⟩
  · show ((h.objs.size :: (nw ++ hid).map (·.1))).Nodup
    refine List.nodup_cons.mpr ⟨fun hm => ?_, l.2⟩
    obtain ⟨p, hp, e⟩ := List.mem_map.mp hm
    exact absurd (l.lt hp) (by rw [e]; exact Nat.lt_irrefl _)

theorem Fm.setL {h h' : Heap} {x : Str} {v : Value} {mf : Str → Option Value} (F : Fm c h m nw) (hmf : ∀ y v, m.lookup y = some v → mf y = some v) (hn : h'.Ns c.L (fun y => if y = x then some v else mf y)) (hs : Heap.SameBut c.L h h') : Fm c h' ((x, v) :: m) nw := by
  obtain ⟨hid, hok, hfo, l⟩ := F.led
  refine ⟨⟨_, hn, fun y u e => ?_⟩, fun b o e => (hs.2 b (Nat.ne_of_lt (Nat.lt_of_lt_of_le (Heap.lt_size e) F.above))).trans (F.keep b o e), F.above, F.base, hid, hok, hfo, fun p hp => ?_, l.2⟩
  · rw [List.lookup_cons] at e
    by_cases hy : y = x
    · subst hy; simp only [beq_self_eq_true] at e; simpa using e
    · have : (y == x) = false := beq_eq_false_iff_ne.mpr hy
      rw [this] at e
      show (if y = x then some v else mf y) = some u
      rw [if_neg hy]; exact hmf _ _ e
  · have q := l.1 p hp
    exact ⟨(hs.2 p.1 q.2.1).trans q.1, q.2⟩

inductive Up (a : Addr) (o o' : Obj) : List (Addr × Obj) → List (Addr × Obj) → Prop
  | hd {l : List (Addr × Obj)} : Up a o o' ((a, o) :: l) ((a, o') :: l)
  | tl {p : Addr × Obj} {l l' : List (Addr × Obj)} : Up a o o' l l' → Up a o o' (p :: l) (p :: l')

theorem Up.split {a : Addr} {o o' : Obj} {l l' : List (Addr × Obj)} (x : Up a o o' l l') : ∃ x y, l = x ++ (a, o) :: y ∧ l' = x ++ (a, o') :: y := by
  induction x with
  | @hd l => exact ⟨[], l, rfl, rfl⟩
  | @tl p l l' _ ih => obtain ⟨x, y, e1, e2⟩ := ih; exact ⟨p :: x, y, by rw [e1]; rfl, by rw [e2]; rfl⟩
theorem Up.mem {a : Addr} {o o' : Obj} {l l' : List (Addr × Obj)} (x : Up a o o' l l') : (a, o) ∈ l := by
  obtain ⟨x, y, e1, _⟩ := x.split; rw [e1]; simp

theorem Fm.upd {h : Heap} {a : Addr} {o o' : Obj} {f : Obj → Obj} {nw' : List (Addr × Obj)} (F : Fm c h m nw) (U : Up a o o' nw nw') (e : f o = o') (hf : o'.isFreed = false) (hfn : isFn o' = false) : Fm c (h.update a f) m nw' := by
  obtain ⟨hid, hok, hfo, l⟩ := F.led
  obtain ⟨x, y, e1, e2⟩ := U.split
  obtain ⟨mf, hns, hmf⟩ := F.ns
  have ha := l.1 (a, o) (List.mem_append_left _ U.mem)
  have nd := l.2
  have other : ∀ b, b ≠ a → (h.update a f).get? b = h.get? b := fun b hb => Heap.get?_update_other h f (Ne.symm hb)
  have hne : ∀ p ∈ x ++ y ++ hid, p.1 ≠ a := by
    intro p hp q
    rw [e1] at nd
    simp only [List.append_assoc, List.cons_append, List.map_append, List.map_cons] at nd
    have nd2 := (List.perm_middle (a := a) (l₁ := x.map (·.1)) (l₂ := y.map (·.1) ++ hid.map (·.1))).nodup_iff.mp nd
    refine (List.nodup_cons.mp nd2).1 ?_
    rw [← q]
    simp only [List.mem_append, List.mem_map] at hp ⊢
    rcases hp with (hp | hp) | hp
    · exact .inl ⟨p, hp, rfl⟩
    · exact .inr (.inl ⟨p, hp, rfl⟩)
    · exact .inr (.inr ⟨p, hp, rfl⟩)
  refine ⟨⟨mf, ?_, hmf⟩, fun b ob eb => ?_, F.above, F.base, hid, hok, ?_, ?_, ?_⟩
  · obtain ⟨oL, es, ep, hL, r⟩ := hns
    exact ⟨oL, es, ep, (other _ (Ne.symm ha.2.1)).trans hL, r⟩
  · refine (other b fun q => ?_).trans (F.keep b ob eb)
    rw [q, ha.2.2] at eb; cases eb
  · intro q hq fd hd
    rw [e2] at hq
    rcases List.mem_append.mp hq with hq | hq
    · exact hfo q (by rw [e1]; exact List.mem_append_left _ hq) fd hd
    · rcases List.mem_cons.mp hq with rfl | hq
      · have hd' : o'.data = .func fd := hd
        simp [isFn, hd'] at hfn
      · exact hfo q (by rw [e1]; exact List.mem_append_right _ (.tail _ hq)) fd hd
  · intro p hp
    rw [e2] at hp
    simp only [List.append_assoc, List.cons_append, List.mem_append, List.mem_cons] at hp
    have old : p ∈ x ++ y ++ hid → (h.update a f).get? p.1 = some p.2 ∧ p.1 ≠ c.L ∧ c.g.get? p.1 = none := fun hp => by
      have q := l.1 p (by rw [e1]; simp only [List.append_assoc, List.cons_append, List.mem_append, List.mem_cons] at hp ⊢; rcases hp with hp | hp | hp <;> simp [hp])
      exact ⟨(other _ (hne p hp)).trans q.1, q.2⟩
    rcases hp with hp | rfl | hp | hp
    · exact old (by simp [hp])
    · exact ⟨by rw [← e]; exact Heap.get?_update_self f ha.1 (by rw [e]; exact hf), ha.2⟩
    · exact old (by simp [hp])
    · exact old (by simp [hp])
  · have : (nw' ++ hid).map (·.1) = (nw ++ hid).map (·.1) := by rw [e1, e2]; simp
    rw [this]; exact nd

theorem H_alloc {o : Obj} {Q : Addr → Nm → Nw → Prop} (h : ∀ a, Q a m ((a, o) :: nw)) (hf : o.isFreed = false := by rfl) (hfn : isFn o = false := by rfl) : HH c m nw (alloc o) Q :=
  fun _ _ G => wpAny_alloc ⟨_, _, G.heap' (G.fm.push o hf hfn), h _⟩
theorem H_update {a : Addr} {o o' : Obj} {f : Obj → Obj} {nw' : List (Addr × Obj)} {Q : Unit → Nm → Nw → Prop} (U : Up a o o' nw nw') (e : f o = o') (h : Q () m nw') (hf : o'.isFreed = false := by rfl) (hfn : isFn o' = false := by rfl) :
    HH c m nw (update a f) Q := fun _ _ G => wpAny_update (G.fm.get U.mem) ⟨_, _, G.heap' (G.fm.upd U e hf hfn), h⟩
theorem H_updatePart {a : Addr} {part : Option Value} {o o' : Obj} {f : Obj → Obj} {nw' : List (Addr × Obj)} {Q : Unit → Nm → Nw → Prop} (U : Up a o o' nw nw') (e : f o = o') (h : Q () m nw') (hf : o'.isFreed = false := by rfl) (hfn : isFn o' = false := by rfl) :
    HH c m nw (updatePart a part f) Q := fun _ _ G => wpAny_updatePart (G.fm.get U.mem) ⟨_, _, G.heap' (G.fm.upd U e hf hfn), h⟩

/-- forgetting: names and objects -/
theorem Fm.sub {h : Heap} {m' : Nm} {nw' : Nw} (F : Fm c h m nw) (hm : ∀ y v, m'.lookup y = some v → m.lookup y = some v) (hn : ∃ l, List.Sublist nw' l ∧ List.Perm l nw) : Fm c h m' nw' := by
  obtain ⟨hid, hok, hfo, l⟩ := F.led
  obtain ⟨mf, hns, hmf⟩ := F.ns
  obtain ⟨l', hs, hp⟩ := hn
  have hin : ∀ p ∈ nw', p ∈ nw := fun p q => hp.mem_iff.mp (hs.subset q)
  refine ⟨⟨mf, hns, fun y v e => hmf y v (hm y v e)⟩, F.keep, F.above, F.base, hid, hok, fun q hq => hfo q (hin q hq), fun p hp => ?_, ?_⟩
  · rcases List.mem_append.mp hp with q | q
    · exact l.1 p (List.mem_append_left _ (hin p q))
    · exact l.1 p (List.mem_append_right _ q)
  · have : ((l' ++ hid).map (·.1)).Nodup := ((hp.append_right hid).map (·.1)).nodup_iff.mpr l.2
    exact (((hs.append_right hid)).map (·.1)).nodup this
theorem Gd.sub {A : Around} {s : Shared} {m' : Nm} {nw' : Nw} (G : Gd c m nw A s) (hm : ∀ y v, m'.lookup y = some v → m.lookup y = some v) (hn : ∃ l, List.Sublist nw' l ∧ List.Perm l nw) : Gd c m' nw' A s :=
  ⟨G.hh, G.hd, G.hu, G.fm.sub hm hn, G.gn, G.os⟩
theorem H_sub {t : Sem α} (m' : Nm) (nw' : Nw) (hm : ∀ y v, m'.lookup y = some v → m.lookup y = some v) (hn : ∃ l, List.Sublist nw' l ∧ List.Perm l nw) (h : HH c m' nw' t Q) : HH c m nw t Q :=
  fun A s G => h A s (G.sub hm hn)
/-- a part of the ledger -/
def Sb (l r : Nw) : Prop := ∃ k, List.Sublist l k ∧ List.Perm k r
theorem Sb.refl {l : Nw} : Sb l l := ⟨l, List.Sublist.refl _, List.Perm.refl _⟩
theorem Sb.keep {p : Addr × Obj} {l r : Nw} (h : Sb l r) : Sb (p :: l) (p :: r) := let ⟨k, a, b⟩ := h; ⟨p :: k, a.cons_cons p, b.cons p⟩
theorem Sb.drop {p : Addr × Obj} {l r : Nw} (h : Sb l r) : Sb l (p :: r) := let ⟨k, a, b⟩ := h; ⟨p :: k, a.cons p, b.cons p⟩
theorem Sb.trans {l r t : Nw} (h : Sb l r) (h' : Sb r t) : Sb l t := by
  obtain ⟨k, a, b⟩ := h
  obtain ⟨k', a', b'⟩ := h'
  have key : ∀ {x y : Nw}, List.Sublist x y → ∃ z, List.Perm y (x ++ z) := by
    intro x y hs
    induction hs with
    | slnil => exact ⟨[], List.Perm.refl _⟩
    | @cons x y p _ ih => obtain ⟨z, hz⟩ := ih; exact ⟨p :: z, (hz.cons p).trans List.perm_middle.symm⟩
    | @cons_cons x y p _ ih => obtain ⟨z, hz⟩ := ih; exact ⟨z, hz.cons p⟩
  obtain ⟨z, hz⟩ := key a'
  exact ⟨k ++ z, a.trans (List.sublist_append_left k z), (b.append_right z).trans (hz.symm.trans b')⟩
theorem Sb.perm {l r : Nw} (h : List.Perm l r) : Sb l r := ⟨l, List.Sublist.refl _, h⟩
theorem H_wk {t : Sem α} {nw' : Nw} (hn : Sb nw' nw) (h : HH c m nw' t Q) : HH c m nw t Q := H_sub m nw' (fun _ _ e => e) hn h
theorem H_wkm {t : Sem α} {m' : Nm} (hm : ∀ y v, m'.lookup y = some v → m.lookup y = some v) (h : HH c m' nw t Q) : HH c m nw t Q := H_sub m' nw hm Sb.refl h
end basics

theorem HH.go {α : Type} {c : Cx} {m : Nm} {nw : Nw} {t : Sem α} {Q : α → Nm → Nw → Prop} (h : HH c m nw t Q) (A : Around) (s : Shared) (G : Gd c m nw A s) {Q' : α → Shared → Prop} {E : Value → Shared → Prop}
    (hq : ∀ a s' m' nw', Gd c m' nw' A s' → Q a m' nw' → Q' a s') : wpAny (model prg c.w) A t Q' E s :=
  wpAny_mono (h A s G) (fun a s' ⟨m', nw', G', q⟩ => hq a s' m' nw' G' q) fun _ _ x => x.elim

abbrev envG (cs : Scope) (L : Addr) (cl : List (Str × Addr)) (q : Str) (f : Option Addr) (cd : Value) (fr : Option Addr) : Env :=
  { scope := cs, locals := L, globals := mainGlobals, cells := cl, qual := q, func := f, code := cd, frame := fr, builtins := builtinsNs }

def nmOk (cs : Scope) (x : Str) (k : NameKind) : Bool := decide (cs.kind = .function) && decide (cs.names.lookup x = some k) && !(x == ("__debug__" : Str)) && !(x == ("__classdict__" : Str)) && !(x == ("__name__" : Str))
theorem nmOk.elim {cs : Scope} {x : Str} {k : NameKind} (h : nmOk cs x k = true) : cs.kind = .function ∧ cs.names.lookup x = some k ∧ (x == ("__debug__" : Str)) = false ∧ (x == ("__classdict__" : Str)) = false ∧ x ≠ ("__name__" : Str) := by
  simp only [nmOk, Bool.and_eq_true, decide_eq_true_eq, Bool.not_eq_true'] at h
  exact ⟨h.1.1.1.1, h.1.1.1.2, h.1.1.2, h.1.2, fun e => by rw [e] at h; simp at h⟩

section
variable {c : Cx} {m : Nm} {nw : Nw} {cs : Scope} {cl : List (Str × Addr)} {q : Str} {fo : Option Addr} {cd : Value} {fr : Option Addr} {env : Env}

/-! names -/
theorem H_Name_local {x : Str} {pos : Pos} {v : Value} {Q : Value → Nm → Nw → Prop} (hn : nmOk cs x .local = true) (hv : m.lookup x = some v) (h : Q v m nw) :
    HH c m nw (eval (.Name x pos) (envG cs c.L cl q fo cd fr)) Q := fun _ _ G => by
  obtain ⟨h1, h2, h3, _⟩ := nmOk.elim hn
  obtain ⟨mf, hns, hmf⟩ := G.fm.ns
  exact wpAny_Name (wpAny_loadName_local h1 h2 hns (hmf _ _ hv) ⟨_, _, G, h⟩) h3
theorem H_Name_K {x : Str} {pos : Pos} {v : Value} {Q : Value → Nm → Nw → Prop} (hn : nmOk cs x .globalImplicit = true) (e : nsIn (KF c.w) mainGlobals x = some (some v)) (h : Q v m nw) :
    HH c m nw (eval (.Name x pos) (envG cs c.L cl q fo cd fr)) Q := fun _ _ G => by
  obtain ⟨h1, h2, h3, _⟩ := nmOk.elim hn
  obtain ⟨p, lo, me, mg, mb, T⟩ := G.fm.base.T
  exact Name_function_global h1 h2 (loadGlobal_global (env := envG cs c.L cl q fo cd fr) (T.g.keeps G.fm.keep) (mg_of G.fm.base.X T.g e) ⟨_, _, G, h⟩) h3
theorem H_Name_B {x : Str} {pos : Pos} {v : Value} {Q : Value → Nm → Nw → Prop} (hn : nmOk cs x .globalImplicit = true) (e : nsIn (KF c.w) mainGlobals x = some none) (hv : bootBuiltins x = some v) (h : Q v m nw) :
    HH c m nw (eval (.Name x pos) (envG cs c.L cl q fo cd fr)) Q := fun _ _ G => by
  obtain ⟨h1, h2, h3, _, h5⟩ := nmOk.elim hn
  obtain ⟨p, lo, me, mg, mb, T⟩ := G.fm.base.T
  exact Name_function_global h1 h2 (loadGlobal_builtin (env := envG cs c.L cl q fo cd fr) (T.g.keeps G.fm.keep) (mg_none_of G.fm.base.X T.g e) (T.b.keeps G.fm.keep) ((T.builtins x h5).trans hv) ⟨_, _, G, h⟩) h3
theorem H_Name_cell {x : Str} {pos : Pos} {v : Value} {ca : Addr} {o : Obj} {Q : Value → Nm → Nw → Prop} (hn : nmOk cs x .cell = true) (hc : cl.lookup x = some ca) (hm : (ca, o) ∈ nw) (hd : o.data = .cell (some v)) (h : Q v m nw) :
    HH c m nw (eval (.Name x pos) (envG cs c.L cl q fo cd fr)) Q := fun _ _ G => by
  obtain ⟨h1, h2, h3, _⟩ := nmOk.elim hn
  exact wpAny_Name (wpAny_loadName_cell h1 h2 hc ⟨o, G.fm.get hm, hd⟩ ⟨_, _, G, h⟩) h3
theorem H_Name_free {x : Str} {pos : Pos} {v : Value} {ca : Addr} {o : Obj} {Q : Value → Nm → Nw → Prop} (hn : nmOk cs x .free = true) (hc : cl.lookup x = some ca) (hm : (ca, o) ∈ nw) (hd : o.data = .cell (some v)) (h : Q v m nw) :
    HH c m nw (eval (.Name x pos) (envG cs c.L cl q fo cd fr)) Q := fun _ _ G => by
  obtain ⟨h1, h2, h3, h4, _⟩ := nmOk.elim hn
  exact wpAny_Name (wpAny_loadName_free h1 h2 hc ⟨o, G.fm.get hm, hd⟩ ⟨_, _, G, h⟩ h4) h3
theorem H_store {x : Str} {v : Value} {Q : Unit → Nm → Nw → Prop} (hn : nmOk cs x .local = true) (h : Q () ((x, v) :: m) nw) : HH c m nw (storeName (envG cs c.L cl q fo cd fr) x v) Q := fun _ _ G => by
  obtain ⟨h1, h2, _⟩ := nmOk.elim hn
  obtain ⟨mf, hns, hmf⟩ := G.fm.ns
  refine wpAny_storeName_local (env := envG cs c.L cl q fo cd fr) h2 hns (fun h' hn' hs => ⟨_, _, G.heap (G.fm.setL hmf hn' hs) _, h⟩) ?_
  show (cs.kind == .class || (cs.kind == .module && c.L != mainGlobals)) = false
  rw [h1]; rfl
theorem H_store_cell {x : Str} {v : Value} {v₀ : Option Value} {ca : Addr} {nw' : List (Addr × Obj)} {Q : Unit → Nm → Nw → Prop} (hn : nmOk cs x .cell = true) (hc : cl.lookup x = some ca)
    (U : Up ca { cls := .type "cell", data := .cell v₀ } { cls := .type "cell", data := .cell (some v) } nw nw') (h : Q () m nw') : HH c m nw (storeName (envG cs c.L cl q fo cd fr) x v) Q := fun _ _ G => by
  obtain ⟨h1, h2, _⟩ := nmOk.elim hn
  have e : storeName (envG cs c.L cl q fo cd fr) x v = (do cellSet (← cellOf (envG cs c.L cl q fo cd fr) x) (some v)) := by
    unfold storeName
    have h2' : (envG cs c.L cl q fo cd fr).kindOf x = some .cell := h2
    simp only [h2', h1]
    rfl
  rw [e]
  refine wpAny_bind (wpAny_cellOf hc ?_)
  unfold cellSet
  exact wpAny_bind (wpAny_load (G.fm.get U.mem) (wpAny_update (G.fm.get U.mem) ⟨_, _, G.heap' (G.fm.upd U rfl rfl rfl), h⟩))

/-! statements -/
def Then (c : Cx) (rest : List Stmt) (env : Env) (Q : Flow → Nm → Nw → Prop) : Flow → Nm → Nw → Prop := fun f m nw => match f with
  | .next => HH c m nw (execs rest env) Q
  | f => Q f m nw
theorem Then_next {rest : List Stmt} {Q : Flow → Nm → Nw → Prop} (h : HH c m nw (execs rest env) Q) : Then c rest env Q .next m nw := h
theorem Then_ret {rest : List Stmt} {v : Value} {Q : Flow → Nm → Nw → Prop} (h : Q (.ret v) m nw) : Then c rest env Q (.ret v) m nw := h
theorem H_nil {Q : Flow → Nm → Nw → Prop} (h : Q .next m nw) : HH c m nw (execs [] env) Q := fun _ _ G => wpAny_execs_nil ⟨_, _, G, h⟩
theorem H_cons {st : Stmt} {rest : List Stmt} {Q : Flow → Nm → Nw → Prop} (h : HH c m nw (exec st env) (Then c rest env Q)) : HH c m nw (execs (st :: rest) env) Q :=
  fun A s G => wpAny_execs_cons (h.go A s G fun f s' m' nw' G' h' => by cases f <;> first | exact h' A s' G' | exact ⟨_, _, G', h'⟩)

def Br (b : Bool) (P R : Prop) : Prop := (b = true → P) ∧ (b = false → R)
theorem Br_true {P R : Prop} (h : P) : Br true P R := ⟨fun _ => h, fun e => (nomatch e)⟩
theorem Br_false {P R : Prop} (h : R) : Br false P R := ⟨fun e => (nomatch e), fun _ => h⟩
theorem Br_of {b : Bool} {P R : Prop} (h1 : b = true → P) (h2 : b = false → R) : Br b P R := ⟨h1, h2⟩

theorem H_Assign {x : Str} {p pos : Pos} {value : Expr} {rest : List Stmt} {Q : Flow → Nm → Nw → Prop} (hn : nmOk cs x .local = true)
    (h : HH c m nw (eval value (envG cs c.L cl q fo cd fr)) fun v m₁ nw₁ => HH c ((x, v) :: m₁) nw₁ (execs rest (envG cs c.L cl q fo cd fr)) Q)
    (hs : swapsWith value (some (.Name x p)) pos.line (envG cs c.L cl q fo cd fr) = pure false := by rfl) :
    HH c m nw (execs (.Assign [.Name x p] value pos :: rest) (envG cs c.L cl q fo cd fr)) Q :=
  H_cons fun A s G => wpAny_Assign_Name (h.go A s G fun v s₁ m₁ nw₁ G₁ h₁ => H_store (m := m₁) (nw := nw₁) (Q := fun _ m' nw' => Then c rest _ Q .next m' nw') hn h₁ A s₁ G₁) hs
theorem H_Expr {e : Expr} {pos : Pos} {rest : List Stmt} {Q : Flow → Nm → Nw → Prop} (h : HH c m nw (eval e env) fun _ m₁ nw₁ => HH c m₁ nw₁ (execs rest env) Q)
    (hi : interactive env = false := by rfl) (hs : swapsWith e none pos.line env = pure false := by rfl) : HH c m nw (execs (.Expr e pos :: rest) env) Q :=
  H_cons fun A s G => wpAny_Expr_any (h.go A s G fun v s₁ m₁ nw₁ G₁ h₁ => ⟨_, _, G₁, h₁⟩) hi hs
theorem H_Return {e : Expr} {pos : Pos} {rest : List Stmt} {Q : Flow → Nm → Nw → Prop} (h : HH c m nw (eval e env) fun v m₁ nw₁ => Q (.ret v) m₁ nw₁) : HH c m nw (execs (.Return (some e) pos :: rest) env) Q :=
  H_cons fun A s G => wpAny_Return_some (h.go A s G fun v s₁ m₁ nw₁ G₁ h₁ => ⟨_, _, G₁, h₁⟩)
theorem H_If {test : Expr} {body orelse : List Stmt} {pos : Pos} {rest : List Stmt} {Q : Flow → Nm → Nw → Prop}
    (h : HH c m nw (isTrue test env (eval test env)) fun b m₁ nw₁ => Br b (HH c m₁ nw₁ (execs body env) (Then c rest env Q)) (HH c m₁ nw₁ (execs orelse env) (Then c rest env Q))) :
    HH c m nw (execs (.If test body orelse pos :: rest) env) Q :=
  H_cons fun A s G => wpAny_If (h.go A s G fun b s₁ m₁ nw₁ G₁ h₁ => by
    cases b with
    | true => exact h₁.1 rfl A s₁ G₁
    | false => exact h₁.2 rfl A s₁ G₁)
theorem H_Assert {test : Expr} {msg : Option Expr} {pos : Pos} {rest : List Stmt} {Q : Flow → Nm → Nw → Prop}
    (h : HH c m nw (isTrue test env (eval test env)) fun b m₁ nw₁ => b = true ∧ HH c m₁ nw₁ (execs rest env) Q) : HH c m nw (execs (.Assert test msg pos :: rest) env) Q :=
  H_cons fun A s G => wpAny_Assert_holds (h.go A s G fun b s₁ m₁ nw₁ G₁ h₁ => ⟨h₁.1, _, _, G₁, h₁.2⟩)

/-! tests -/
theorem H_isTrue_value {e : Expr} {whole : Sem Value} {Q : Bool → Nm → Nw → Prop} (h : HH c m nw whole fun v m₁ nw₁ => HH c m₁ nw₁ (truthy v) Q)
    (he : isTrue e env whole = (do let v ← whole; standAt e.pos; holding [v] (truthy v)) := by rfl) : HH c m nw (isTrue e env whole) Q :=
  fun A s G => wpAny_isTrue_value (h.go A s G fun v s₁ m₁ nw₁ G₁ h₁ => h₁ A s₁ G₁) he
theorem H_isTrue_Not {x : Expr} {pos : Pos} {whole : Sem Value} {Q : Bool → Nm → Nw → Prop} (h : HH c m nw (isTrue x env (eval x env)) fun b m₁ nw₁ => Q (!b) m₁ nw₁) : HH c m nw (isTrue (.UnaryOp .Not x pos) env whole) Q :=
  fun A s G => wpAny_isTrue_Not (h.go A s G fun v s₁ m₁ nw₁ G₁ h₁ => ⟨_, _, G₁, h₁⟩)
theorem H_isTrue_Compare {l r : Expr} {op : CmpOp} {pos : Pos} {whole : Sem Value} {Q : Bool → Nm → Nw → Prop}
    (h : HH c m nw (eval l env) fun a m₁ nw₁ => HH c m₁ nw₁ (eval r env) fun b m₂ nw₂ => HH c m₂ nw₂ (compareOp op a b) fun v m₃ nw₃ => HH c m₃ nw₃ (truthy v) Q)
    (hm : behindInMarks op r = false := by with_unfolding_all rfl) : HH c m nw (isTrue (.Compare l [op] [r] pos) env whole) Q :=
  fun A s G => wpAny_isTrue_Compare1 (h.go A s G fun a s₁ m₁ nw₁ G₁ h₁ => h₁.go A s₁ G₁ fun b s₂ m₂ nw₂ G₂ h₂ => h₂.go A s₂ G₂ fun v s₃ m₃ nw₃ G₃ h₃ => h₃ A s₃ G₃) hm
theorem H_isTrue_Or {x y : Expr} {pos : Pos} {whole : Sem Value} {Q : Bool → Nm → Nw → Prop}
    (h : HH c m nw (isTrue x env (eval x env)) fun b m₁ nw₁ => Br b (Q true m₁ nw₁) (HH c m₁ nw₁ (isTrue y env (eval y env)) Q)) : HH c m nw (isTrue (.BoolOp .Or [x, y] pos) env whole) Q := fun A s G => by
  refine wpAny_isTrue_BoolOp ?_
  show wpAny _ A (do match BoolOp.Or, ← isTrue x env (eval x env) with | .And, false => pure false | .Or, true => pure true | _, _ => allTrue .Or [y] env) _ _ s
  refine wpAny_bind (h.go A s G fun b s₁ m₁ nw₁ G₁ h₁ => ?_)
  cases b with
  | true => exact wpAny_pure ⟨_, _, G₁, h₁.1 rfl⟩
  | false =>
    show wpAny _ A (do match BoolOp.Or, ← isTrue y env (eval y env) with | .And, false => pure false | .Or, true => pure true | _, _ => allTrue .Or [] env) _ _ s₁
    refine wpAny_bind ((h₁.2 rfl).go A s₁ G₁ fun b s₂ m₂ nw₂ G₂ h₂ => ?_)
    cases b <;> exact wpAny_pure ⟨_, _, G₂, h₂⟩
theorem H_truthy_bool {b : Bool} {Q : Bool → Nm → Nw → Prop} (h : Q b m nw) : HH c m nw (truthy (.bool b)) Q := fun _ _ G => wpAny_truthy_bool ⟨_, _, G, h⟩

/-! values -/
theorem H_int {i : Int} {k : Nat} {pos : Pos} {Q : Value → Nm → Nw → Prop} (h : ∀ t, Q (.int i t) m nw) : HH c m nw (eval (.Constant (.int i) k pos) env) Q := fun _ _ G => wpAny_Constant_int ⟨_, _, G.toks _, h _⟩
theorem H_str {x : Str} {k : Nat} {pos : Pos} {Q : Value → Nm → Nw → Prop} (h : ∀ t, Q (.str x t) m nw) : HH c m nw (eval (.Constant (.str x) k pos) env) Q := fun _ _ G => wpAny_Constant_str ⟨_, _, G.toks _, h _⟩
theorem H_none {k : Nat} {pos : Pos} {Q : Value → Nm → Nw → Prop} (h : Q .none m nw) : HH c m nw (eval (.Constant .none k pos) env) Q := fun _ _ G => wpAny_Constant_none ⟨_, _, G, h⟩
theorem H_bool {b : Bool} {k : Nat} {pos : Pos} {Q : Value → Nm → Nw → Prop} (h : Q (.bool b) m nw) : HH c m nw (eval (.Constant (.bool b) k pos) env) Q := fun _ _ G => wpAny_Constant_bool ⟨_, _, G, h⟩
theorem H_BinOp {l r : Expr} {op : Operator} {pos : Pos} {Q : Value → Nm → Nw → Prop} (h : HH c m nw (eval l env) fun a m₁ nw₁ => HH c m₁ nw₁ (eval r env) fun b m₂ nw₂ => HH c m₂ nw₂ (binaryOp op a b) Q) :
    HH c m nw (eval (.BinOp l op r pos) env) Q := fun A s G => wpAny_BinOp (h.go A s G fun a s₁ m₁ nw₁ G₁ h₁ => h₁.go A s₁ G₁ fun b s₂ m₂ nw₂ G₂ h₂ => h₂ A s₂ G₂)
theorem H_UnaryOp {op : UnaryOp} {x : Expr} {pos : Pos} {Q : Value → Nm → Nw → Prop} (h : HH c m nw (eval x env) fun a m₁ nw₁ => HH c m₁ nw₁ (unaryOp op a) Q) :
    HH c m nw (eval (.UnaryOp op x pos) env) Q := fun A s G => wpAny_UnaryOp (h.go A s G fun a s₁ m₁ nw₁ G₁ h₁ => h₁ A s₁ G₁)
theorem H_Compare {l r : Expr} {op : CmpOp} {pos : Pos} {Q : Value → Nm → Nw → Prop} (h : HH c m nw (eval l env) fun a m₁ nw₁ => HH c m₁ nw₁ (eval r env) fun b m₂ nw₂ => HH c m₂ nw₂ (compareOp op a b) Q)
    (hm : behindInMarks op r = false := by with_unfolding_all rfl) : HH c m nw (eval (.Compare l [op] [r] pos) env) Q :=
  fun A s G => wpAny_Compare1 (h.go A s G fun a s₁ m₁ nw₁ G₁ h₁ => h₁.go A s₁ G₁ fun b s₂ m₂ nw₂ G₂ h₂ => h₂ A s₂ G₂) hm
theorem H_IfExp {test body orelse : Expr} {pos : Pos} {Q : Value → Nm → Nw → Prop}
    (h : HH c m nw (isTrue test env (eval test env)) fun b m₁ nw₁ => Br b (HH c m₁ nw₁ (eval body env) Q) (HH c m₁ nw₁ (eval orelse env) Q)) : HH c m nw (eval (.IfExp test body orelse pos) env) Q :=
  fun A s G => wpAny_IfExp (h.go A s G fun b s₁ m₁ nw₁ G₁ h₁ => by
    cases b with
    | true => exact h₁.1 rfl A s₁ G₁
    | false => exact h₁.2 rfl A s₁ G₁)
theorem H_Or2 {x y : Expr} {pos : Pos} {Q : Value → Nm → Nw → Prop} (h : HH c m nw (eval x env) fun v m₁ nw₁ => HH c m₁ nw₁ (truthy v) fun t m₂ nw₂ => Br t (Q v m₂ nw₂) (HH c m₂ nw₂ (eval y env) Q)) :
    HH c m nw (eval (.BoolOp .Or [x, y] pos) env) Q := fun A s G => wpAny_Or2 (h.go A s G fun v s₁ m₁ nw₁ G₁ h₁ => h₁.go A s₁ G₁ fun t s₂ m₂ nw₂ G₂ h₂ => by
    cases t with
    | true => exact ⟨_, _, G₂, h₂.1 rfl⟩
    | false => exact h₂.2 rfl A s₂ G₂)
theorem H_spliced_nil {pos : Pos} {Q : List Value → Nm → Nw → Prop} (h : Q [] m nw) : HH c m nw (spliced (backTo pos (starEach [] env))) Q := fun _ _ G => spliced_none ⟨_, _, G, h⟩
theorem H_spliced_cons {e : Expr} {rest : List Expr} {pos : Pos} {Q : List Value → Nm → Nw → Prop} (h : HH c m nw (eval e env) fun v m₁ nw₁ => HH c m₁ nw₁ (spliced (backTo pos (starEach rest env))) fun vs m₂ nw₂ => Q (v :: vs) m₂ nw₂)
    (he : starEach (e :: rest) env = (false, eval e env) :: starEach rest env := by rfl) : HH c m nw (spliced (backTo pos (starEach (e :: rest) env))) Q :=
  fun A s G => spliced_more (h.go A s G fun v s₁ m₁ nw₁ G₁ h₁ => h₁.go A s₁ G₁ fun vs s₂ m₂ nw₂ G₂ h₂ => ⟨_, _, G₂, h₂⟩) he
abbrev listO (vs : List Value) (n : Nat := 0) : Obj := { cls := .type "list", data := .seq vs.toArray n }
abbrev tupO (vs : List Value) : Obj := { cls := .type "tuple", data := .seq vs.toArray }
theorem H_newList {vs : List Value} {Q : Value → Nm → Nw → Prop} (h : ∀ a, Q (.ref a) m ((a, listO vs) :: nw)) (hsz : vs.length ≤ sizeLine) : HH c m nw (newList vs) Q :=
  fun _ _ G => wpAny_newObj_type ⟨_, _, G.heap' (G.fm.push _ rfl rfl), h _⟩ (by show vs.toArray.size ≤ sizeLine; rw [List.size_toArray]; exact hsz)
theorem H_newTuple {vs : List Value} {Q : Value → Nm → Nw → Prop} (h : ∀ a, Q (.ref a) m ((a, tupO vs) :: nw)) (hsz : vs.length ≤ sizeLine) : HH c m nw (newTuple vs) Q :=
  fun _ _ G => wpAny_newObj_type ⟨_, _, G.heap' (G.fm.push _ rfl rfl), h _⟩ (by show vs.toArray.size ≤ sizeLine; rw [List.size_toArray]; exact hsz)
abbrev fldO (ty : String) (vs : List Value) : Obj := { cls := .type ty, data := .fields vs.toArray }
theorem H_newFields {ty : String} {vs : List Value} {Q : Value → Nm → Nw → Prop} (h : ∀ a, Q (.ref a) m ((a, fldO ty vs) :: nw)) (hsz : vs.length ≤ sizeLine) : HH c m nw (newFields ty vs) Q :=
  fun _ _ G => wpAny_newObj_type ⟨_, _, G.heap' (G.fm.push _ rfl rfl), h _⟩ (by show vs.toArray.size ≤ sizeLine + 2; rw [List.size_toArray]; exact Nat.le_trans hsz (Nat.le_add_right _ _))
theorem H_List {elts : List Expr} {pos : Pos} {Q : Value → Nm → Nw → Prop} (h : HH c m nw (spliced (backTo pos (starEach elts env))) fun vs m₁ nw₁ => vs.length ≤ 1000 ∧ ∀ a, Q (.ref a) m₁ ((a, listO vs) :: nw₁)) :
    HH c m nw (eval (.List elts pos) env) Q := fun A s G => List_ (h.go A s G fun vs s₁ m₁ nw₁ G₁ h₁ => H_newList (m := m₁) (nw := nw₁) h₁.2 (Nat.le_trans h₁.1 (by decide)) A s₁ G₁)
theorem H_Tuple {elts : List Expr} {k : Nat} {pos : Pos} {Q : Value → Nm → Nw → Prop} (h : HH c m nw (spliced (backTo pos (starEach elts env))) fun vs m₁ nw₁ => vs.length ≤ 1000 ∧ ∀ a, Q (.ref a) m₁ ((a, tupO vs) :: nw₁)) :
    HH c m nw (eval (.Tuple elts k pos) env) Q := fun A s G => Tuple_ (h.go A s G fun vs s₁ m₁ nw₁ G₁ h₁ => H_newTuple (m := m₁) (nw := nw₁) h₁.2 (Nat.le_trans h₁.1 (by decide)) A s₁ G₁)
theorem H_Subscript {value slice : Expr} {pos : Pos} {Q : Value → Nm → Nw → Prop} (h : HH c m nw (eval value env) fun o m₁ nw₁ => HH c m₁ nw₁ (eval slice env) fun i m₂ nw₂ => HH c m₂ nw₂ (subscriptTail value slice o i) Q) :
    HH c m nw (eval (.Subscript value slice pos) env) Q := fun A s G => Subscript_ (h.go A s G fun a s₁ m₁ nw₁ G₁ h₁ => h₁.go A s₁ G₁ fun b s₂ m₂ nw₂ G₂ h₂ => h₂ A s₂ G₂)
theorem H_evalPart_none {Q : Value → Nm → Nw → Prop} (h : Q .none m nw) : HH c m nw (evalPart none env) Q := H_pure h
theorem H_evalPart_some {e : Expr} {Q : Value → Nm → Nw → Prop} (h : HH c m nw (eval e env) Q) : HH c m nw (evalPart (some e) env) Q := h
theorem H_Slice {lower upper step : Option Expr} {p : Pos} {Q : Value → Nm → Nw → Prop}
    (h : HH c m nw (evalPart lower env) fun l m₁ nw₁ => HH c m₁ nw₁ (evalPart upper env) fun u m₂ nw₂ => HH c m₂ nw₂ (evalPart step env) fun st m₃ nw₃ => ∀ a, Q (.ref a) m₃ ((a, fldO "slice" [l, u, st]) :: nw₃)) :
    HH c m nw (eval (.Slice lower upper step p) env) Q := fun A s G => wpAny_Slice (h.go A s G fun l s₁ m₁ nw₁ G₁ h₁ => h₁.go A s₁ G₁ fun u s₂ m₂ nw₂ G₂ h₂ => h₂.go A s₂ G₂ fun st s₃ m₃ nw₃ G₃ h₃ => ⟨_, _, G₃.heap' (G₃.fm.push _ rfl rfl), h₃ _⟩)
theorem H_Attribute {value : Expr} {attr : Str} {pos : Pos} {Q : Value → Nm → Nw → Prop} (h : HH c m nw (eval value env) fun o m₁ nw₁ => HH c m₁ nw₁ (getAttr o attr true) Q)
    (he : eval (.Attribute value attr pos) env = (do
      let o ← eval value env
      standAt pos.atName
      let r ← holding [o] (getAttr o attr true)
      letTemporaryGo value o r
      pure r) := by with_unfolding_all rfl) : HH c m nw (eval (.Attribute value attr pos) env) Q :=
  fun A s G => Attribute_any_ (h.go A s G fun a s₁ m₁ nw₁ G₁ h₁ => h₁ A s₁ G₁) he

/-! calls -/
theorem H_Call_Name {x : Str} {p pos : Pos} {args : List Expr} {kws : List Keyword} {Q : Value → Nm → Nw → Prop}
    (h : HH c m nw (eval (.Name x p) env) fun f m₁ nw₁ => HH c m₁ nw₁ (callWith pos f [] (backTo pos (starEach args env)) (backToKw pos (keywordEach kws env))) Q) :
    HH c m nw (eval (.Call (.Name x p) args kws pos) env) Q := fun A s G => wpAny_Call_Name_kw (h.go A s G fun a s₁ m₁ nw₁ G₁ h₁ => h₁ A s₁ G₁)
theorem H_callWith_b0 {pos : Pos} {id : String} {first : List Value} {Q : Value → Nm → Nw → Prop} (h : HH c m nw (call (.builtin id) first) Q) :
    HH c m nw (callWith pos (.builtin id) first (backTo pos (starEach [] env)) []) Q := fun A s G => callWith_method0 (h A s G)
theorem H_callWith_b {pos : Pos} {id : String} {first : List Value} {e : Expr} {rest : List Expr} {Q : Value → Nm → Nw → Prop}
    (h : HH c m nw (spliced (backTo pos (starEach (e :: rest) env))) fun vs m₁ nw₁ => HH c m₁ nw₁ (call (.builtin id) (first ++ vs)) Q)
    (he : starEach (e :: rest) env = (false, eval e env) :: starEach rest env := by rfl) (hplain : (backTo pos (starEach rest env)).any (·.1) = false := by rfl) :
    HH c m nw (callWith pos (.builtin id) first (backTo pos (starEach (e :: rest) env)) []) Q := fun A s G => callWith_method1 (h.go A s G fun a s₁ m₁ nw₁ G₁ h₁ => h₁ A s₁ G₁) he hplain
theorem H_callWith_t {pos : Pos} {T : String} {e : Expr} {rest : List Expr} {Q : Value → Nm → Nw → Prop}
    (h : HH c m nw (spliced (backTo pos (starEach (e :: rest) env))) fun vs m₁ nw₁ => HH c m₁ nw₁ (call (.type T) vs) Q)
    (he : starEach (e :: rest) env = (false, eval e env) :: starEach rest env := by rfl) (hplain : (backTo pos (starEach rest env)).any (·.1) = false := by rfl) :
    HH c m nw (callWith pos (.type T) [] (backTo pos (starEach (e :: rest) env)) []) Q := fun A s G => callWith_type1 (h.go A s G fun a s₁ m₁ nw₁ G₁ h₁ => h₁ A s₁ G₁) he hplain
/-- a def of the text -/
theorem H_callWith_K {pos : Pos} {f : Addr} {o : Obj} {fd : FuncData} {e : Expr} {rest : List Expr} {Q : Value → Nm → Nw → Prop} (hl : (KF c.w).lookup f = some o) (hd : o.data = .func fd)
    (h : HH c m nw (spliced (backTo pos (starEach (e :: rest) env))) fun vs m₁ nw₁ => HH c m₁ nw₁ (call (.ref f) vs) Q)
    (he : starEach (e :: rest) env = (false, eval e env) :: starEach rest env := by rfl) :
    HH c m nw (callWith pos (.ref f) [] (backTo pos (starEach (e :: rest) env)) []) Q := fun A s G => by
  refine Calls.callWith_function (o := o) (fd := fd) ?_
  rw [he]
  refine evalArgs_plain ?_
  rw [he] at h
  exact h.go A s G fun a s₁ m₁ nw₁ G₁ h₁ => ⟨⟨G₁.fm.getK hl, hd⟩, h₁ A s₁ G₁⟩
/-- a lambda of the call's own, held all through the arguments -/
theorem H_callWith_L {pos : Pos} {f : Addr} {o : Obj} {fd : FuncData} {e : Expr} {rest : List Expr} {Q : Value → Nm → Nw → Prop} (hd : o.data = .func fd)
    (h : HH c m nw (spliced (backTo pos (starEach (e :: rest) env))) fun vs m₁ nw₁ => (f, o) ∈ nw₁ ∧ HH c m₁ nw₁ (call (.ref f) vs) Q)
    (he : starEach (e :: rest) env = (false, eval e env) :: starEach rest env := by rfl) :
    HH c m nw (callWith pos (.ref f) [] (backTo pos (starEach (e :: rest) env)) []) Q := fun A s G => by
  refine Calls.callWith_function (o := o) (fd := fd) ?_
  rw [he]
  refine evalArgs_plain ?_
  rw [he] at h
  exact h.go A s G fun a s₁ m₁ nw₁ G₁ h₁ => ⟨⟨G₁.fm.get h₁.1, hd⟩, h₁.2 A s₁ G₁⟩
/-- one keyword behind the arguments -/
theorem H_callWith_Kkw {pos : Pos} {f : Addr} {o : Obj} {fd : FuncData} {e : Expr} {rest : List Expr} {kn : Str} {kv : Expr} {kp : Pos} {Q : Value → Nm → Nw → Prop} (hl : (KF c.w).lookup f = some o) (hd : o.data = .func fd)
    (h : HH c m nw (spliced (backTo pos (starEach (e :: rest) env))) fun vs m₁ nw₁ => HH c m₁ nw₁ (eval kv env) fun kvv m₂ nw₂ => HH c m₂ nw₂ (call (.ref f) vs [(kn, kvv)]) Q)
    (he : starEach (e :: rest) env = (false, eval e env) :: starEach rest env := by rfl) :
    HH c m nw (callWith pos (.ref f) [] (backTo pos (starEach (e :: rest) env)) (backToKw pos (keywordEach [⟨some kn, kv, kp⟩] env))) Q := fun A s G => by
  refine callWith_def_kw (o := o) (fd := fd) hd ?_
  rw [he]
  rw [he] at h
  refine evalArgs_kwB rfl ?_
  refine h.go A s G fun vs s₁ m₁ nw₁ G₁ h₁ => ?_
  exact wpAny_evalAll_cons (wpAny_bind (h₁.go A s₁ G₁ fun kv' s₂ m₂ nw₂ G₂ h₂ => wpAny_bind (wpAny_standAt (wpAny_pure (wpAny_evalAll_nil ⟨G₂.fm.getK hl, h₂ A s₂ G₂⟩)))))

/-! a def of the text, entered -/
def retV (fl : Flow) : Value := match fl with | .ret v => v | _ => .none
abbrev Cx.dn (c : Cx) (g : Heap) (L : Addr) : Cx := { c with g := g, L := L, d := c.d + 1, u := c.u + 3 }

/-- what a frame leaves behind is its caller's -/
theorem ground {A : Around} {s : Shared} (G : Gd c m nw A s) : ∃ (g : Heap) (hid : List (Addr × Obj)), g.objs.size = s.heap.objs.size ∧ (∀ b o, g.get? b = some o → s.heap.get? b = some o) ∧ (∀ b o, c.g.get? b = some o → g.get? b = some o) ∧
    (∃ oL, s.heap.get? c.L = some oL ∧ g.get? c.L = some oL) ∧ HidOk hid ∧ (∀ q ∈ nw, ∀ fd, q.2.data = .func fd → CodeIn hid fd.code fd.qualname) ∧ (∀ p ∈ nw ++ hid, s.heap.get? p.1 = some p.2 ∧ g.get? p.1 = none) ∧ ((nw ++ hid).map (·.1)).Nodup := by
  obtain ⟨hid, hok, hfo, l⟩ := G.fm.led
  obtain ⟨mf, ⟨oL, es, ep, hL, r⟩, hmf⟩ := G.fm.ns
  refine ⟨hideAll s.heap ((nw ++ hid).map (·.1)), hid, hideAll_size _ _, fun b o e => of_hideAll _ e, fun b o e => hideAll_get _ (G.fm.keep b o e) fun q => ?_, ⟨oL, hL, hideAll_get _ hL fun q => ?_⟩, hok, hfo, fun p hp => ⟨(l.1 p hp).1, hideAll_none _ (List.mem_map_of_mem hp)⟩, l.2⟩
  · obtain ⟨p, hp, rfl⟩ := List.mem_map.mp q
    rw [(l.1 p hp).2.2] at e; cases e
  · obtain ⟨p, hp, e⟩ := List.mem_map.mp q
    exact (l.1 p hp).2.1 e

theorem leave {A A' : Around} {s s' : Shared} {g : Heap} {m' : Nm} {nw' : Nw} {c' : Cx} (G : Gd c m nw A s) (hgk : ∀ b o, c.g.get? b = some o → g.get? b = some o) (hgL : ∃ oL, s.heap.get? c.L = some oL ∧ g.get? c.L = some oL)
    (G' : Gd c' m' nw' A' s') (hc : c'.g = g ∧ c'.gn = c.gn ∧ c'.os = c.os) : Gd c m nw' A s' := by
  obtain ⟨hid, hok, hfo, l⟩ := G'.fm.led
  obtain ⟨mf, ⟨oL, es, ep, hL, r⟩, hmf⟩ := G.fm.ns
  obtain ⟨oL', hL', hgL⟩ := hgL
  rw [hL] at hL'; cases hL'
  obtain ⟨e1, e2, e3⟩ := hc
  have kp := G'.fm.keep
  rw [e1] at kp
  refine ⟨G.hh, G.hd, G.hu, ⟨⟨mf, ⟨oL, es, ep, kp _ _ hgL, r⟩, hmf⟩, fun b o e => kp _ _ (hgk b o e), G.fm.above, G.fm.base, hid, hok, hfo, fun p hp => ?_, l.2⟩, G'.gn.trans e2, G'.os.trans e3⟩
  obtain ⟨q1, q2, q3⟩ := l.1 p hp
  rw [e1] at q3
  refine ⟨q1, fun e => ?_, ?_⟩
  · rw [e, hgL] at q3; cases q3
  · cases q : c.g.get? p.1 with
    | none => rfl
    | some o => rw [hgk _ _ q] at q3; cases q3

theorem H_call {f : Addr} {o : Obj} {fd : FuncData} {body : List Stmt} {args : List Value} {kw : List (Str × Value)} {binds : List (Str × Value)} {Q : Value → Nm → Nw → Prop}
    (hl : (KF c.w).lookup f = some o) (hdat : o.data = .func fd) (hcd : codeIn (KF c.w) fd.code fd.qualname = true) (hbody : fd.body = .stmts body) (hroom : c.d < 900)
    (hbind : ∀ s : Shared, (KF c.w).In s.heap → BindsTo s fd ⟨args, kw⟩ binds)
    (hcell : ∀ x ∈ fd.scope.names, x.2 ≠ .cell) (hloc : ∀ x ∈ binds, fd.scope.names.lookup x.1 = some .local)
    (hco : fd.scope.isCoroutine = false) (hgen : fd.scope.isGenerator = false) (hk : fd.scope.kind = .function)
    (h : ∀ g L', HH (c.dn g L') binds.reverse nw (execs body (callEnv fd L' f)) fun fl m' nw' => ∃ nw'', Sb nw'' nw' ∧ Q (retV fl) m nw'') : HH c m nw (call (.ref f) args kw) Q := fun A s G => by
  obtain ⟨g, hid, hsz, hgs, hgk, hgL, hok, hfo, hled, hnd⟩ := ground G
  have XS : (KF c.w).In s.heap := G.fm.base.X.keeps G.fm.keep
  obtain ⟨p, lo, me, mg, mb, T⟩ := G.fm.base.T
  refine wpAny_call (codeAny_call_def (body := body) (binds := binds) (Nat.lt_of_le_of_lt G.hd (Nat.lt_trans hroom (by decide))) (G.fm.getK hl) hdat (T.nolimit.keeps G.fm.keep) (codeRec_of XS hcd) hbody (hbind s XS) hcell hloc (fun h₀ hns hk₀ => ?_) hco hgen hk)
  have G' : Gd (c.dn g s.heap.objs.size) binds.reverse nw (A.deeper (callEnv fd s.heap.objs.size f)) { s with heap := h₀, toks := s.toks + binds.length } := by
    refine ⟨G.hh, Nat.succ_le_succ G.hd, Nat.add_le_add_right G.hu 3, ⟨⟨_, hns, fun y v e => e⟩, fun b o e => hk₀ b o (hgs b o e), Nat.le_of_eq hsz, G.fm.base.keeps hgk, hid, hok, hfo, fun q hq => ⟨hk₀ _ _ (hled q hq).1, Nat.ne_of_lt (Heap.lt_size (hled q hq).1), (hled q hq).2⟩, hnd⟩, G.gn, G.os⟩
  exact (h g s.heap.objs.size).go _ _ G' fun fl s' m' nw' G'' ⟨nw'', hs, q⟩ => ⟨_, _, (leave G hgk hgL G'' ⟨rfl, rfl, rfl⟩).sub (fun _ _ e => e) hs, q⟩

/-- a lambda, called -/
theorem H_callE {f : Addr} {o : Obj} {fd : FuncData} {body : Expr} {args : List Value} {binds : List (Str × Value)} {Q : Value → Nm → Nw → Prop}
    (hm : (f, o) ∈ nw) (hdat : o.data = .func fd) (hbody : fd.body = .expr body) (hroom : c.d < 900)
    (hbind : bindArgs fd ⟨args, []⟩ = pure binds)
    (hcell : ∀ x ∈ fd.scope.names, x.2 ≠ .cell) (hloc : ∀ x ∈ binds, fd.scope.names.lookup x.1 = some .local)
    (hco : fd.scope.isCoroutine = false) (hgen : fd.scope.isGenerator = false) (hk : fd.scope.kind = .function)
    (h : ∀ g L', HH (c.dn g L') binds.reverse nw (eval body (callEnv fd L' f)) fun v m' nw' => ∃ nw'', Sb nw'' nw' ∧ Q v m nw'') : HH c m nw (call (.ref f) args) Q := fun A s G => by
  obtain ⟨g, hid, hsz, hgs, hgk, hgL, hok, hfo, hled, hnd⟩ := ground G
  obtain ⟨p, lo, me, mg, mb, T⟩ := G.fm.base.T
  obtain ⟨c', oc, vs, t, ec, mc, dc, qc⟩ := hfo _ hm fd hdat
  refine wpAny_call (kla_callFunE (Nat.lt_of_le_of_lt G.hd (Nat.lt_trans hroom (by decide))) (G.fm.get hm) hdat hco hgen hbody ⟨c', oc, vs, t, ec, (hled _ (List.mem_append_right _ mc)).1, dc, qc⟩ ?_)
  rw [hbind]
  refine wpAny_pure (wpAny_newFunctionEnv hcell hloc (fun h₁ hns hsb => ⟨(T.nolimit.keeps G.fm.keep).fresh _ hsb, ?_⟩) hk)
  have hk₁ : ∀ b o, s.heap.get? b = some o → h₁.get? b = some o := fun b o e => hsb.extBut b o (Nat.ne_of_lt (Heap.lt_size e)) (Heap.get?_push_of_some _ e)
  have G' : Gd (c.dn g s.heap.objs.size) binds.reverse nw (A.deeper (callEnv fd s.heap.objs.size f)) { s with heap := h₁, toks := s.toks + binds.length } := by
    refine ⟨G.hh, Nat.succ_le_succ G.hd, Nat.add_le_add_right G.hu 3, ⟨⟨_, hns, fun y v e => e⟩, fun b o e => hk₁ b o (hgs b o e), Nat.le_of_eq hsz, G.fm.base.keeps hgk, hid, hok, hfo, fun q hq => ⟨hk₁ _ _ (hled q hq).1, Nat.ne_of_lt (Heap.lt_size (hled q hq).1), (hled q hq).2⟩, hnd⟩, G.gn, G.os⟩
  show codeAny _ A (.expr body (callEnv fd s.heap.objs.size f)) _ _
  exact kla_codeExpr ((h g s.heap.objs.size).go _ _ G' fun v s' m' nw' G'' ⟨nw'', hs, q⟩ => ⟨_, _, (leave G hgk hgL G'' ⟨rfl, rfl, rfl⟩).sub (fun _ _ e => e) hs, q⟩)
end
theorem pa_reP : PlainAttrs "re.Pattern" :=
  ⟨⟨"object.__getattribute__", by rw [typeLookup_type, builtinLookup_eq_fast]; kernel_rfl, by decide +kernel⟩, by rw [typeLookup_type, builtinLookup_eq_fast]; kernel_rfl⟩
theorem pa_reM : PlainAttrs "re.Match" :=
  ⟨⟨"object.__getattribute__", by rw [typeLookup_type, builtinLookup_eq_fast]; kernel_rfl, by decide +kernel⟩, by rw [typeLookup_type, builtinLookup_eq_fast]; kernel_rfl⟩
theorem owner_re_Pattern : Manifest.owners.lookup (String.ofList ['n', 'r', 'e', 't', 't', 'a', 'P', '.', 'e', 'r'].reverse) = some Manifest.sig_re_Pattern := by kernel_rfl
theorem owner_re_Match : Manifest.owners.lookup (String.ofList ['h', 'c', 't', 'a', 'M', '.', 'e', 'r'].reverse) = some Manifest.sig_re_Match := by kernel_rfl
theorem slot_re_Pattern_search : Slot "re.Pattern" "search" "re.Pattern.search" :=
  .of (owner := "re.Pattern") (n := "search") (by rw [typeLookup_type, builtinLookup_eq_fast]; kernel_rfl) (by decide +kernel) (by decide +kernel) (by decide +kernel)
    (by first | exact .inl (by decide +kernel) | exact .inr (by decide +kernel)) (by rw [isSubtype_type]; kernel_rfl)
theorem type_re_Pattern_search : typeOf (.builtin "re.Pattern.search") = pure (.type "method_descriptor") := by show builtinType _ = _; rw [builtinType_eq_fast]; kernel_rfl
theorem entry_re_Pattern_search : entryFor table "re.Pattern.search" = some Builtin.«re.Pattern.search» := entryFor_of_tree (by kernel_rfl)
theorem args_re_Pattern_search (a b : Value) : argsOk "re.Pattern.search" ⟨[a, b], []⟩ := by
  unfold argsOk; rw [signature?_of (id := "re.Pattern.search") (n := ['h', 'c', 'r', 'a', 'e', 's']) (o := ['n', 'r', 'e', 't', 't', 'a', 'P', '.', 'e', 'r']) (by kernel_rfl) owner_re_Pattern]; kernel_rfl
theorem slot_re_Pattern_fullmatch : Slot "re.Pattern" "fullmatch" "re.Pattern.fullmatch" :=
  .of (owner := "re.Pattern") (n := "fullmatch") (by rw [typeLookup_type, builtinLookup_eq_fast]; kernel_rfl) (by decide +kernel) (by decide +kernel) (by decide +kernel)
    (by first | exact .inl (by decide +kernel) | exact .inr (by decide +kernel)) (by rw [isSubtype_type]; kernel_rfl)
theorem type_re_Pattern_fullmatch : typeOf (.builtin "re.Pattern.fullmatch") = pure (.type "method_descriptor") := by show builtinType _ = _; rw [builtinType_eq_fast]; kernel_rfl
theorem entry_re_Pattern_fullmatch : entryFor table "re.Pattern.fullmatch" = some Builtin.«re.Pattern.fullmatch» := entryFor_of_tree (by kernel_rfl)
theorem args_re_Pattern_fullmatch (a b : Value) : argsOk "re.Pattern.fullmatch" ⟨[a, b], []⟩ := by
  unfold argsOk; rw [signature?_of (id := "re.Pattern.fullmatch") (n := ['h', 'c', 't', 'a', 'm', 'l', 'l', 'u', 'f']) (o := ['n', 'r', 'e', 't', 't', 'a', 'P', '.', 'e', 'r']) (by kernel_rfl) owner_re_Pattern]; kernel_rfl
theorem slot_re_Pattern_sub : Slot "re.Pattern" "sub" "re.Pattern.sub" :=
  .of (owner := "re.Pattern") (n := "sub") (by rw [typeLookup_type, builtinLookup_eq_fast]; kernel_rfl) (by decide +kernel) (by decide +kernel) (by decide +kernel)
    (by first | exact .inl (by decide +kernel) | exact .inr (by decide +kernel)) (by rw [isSubtype_type]; kernel_rfl)
theorem type_re_Pattern_sub : typeOf (.builtin "re.Pattern.sub") = pure (.type "method_descriptor") := by show builtinType _ = _; rw [builtinType_eq_fast]; kernel_rfl
theorem entry_re_Pattern_sub : entryFor table "re.Pattern.sub" = some Builtin.«re.Pattern.sub» := entryFor_of_tree (by kernel_rfl)
theorem args_re_Pattern_sub (a b c : Value) : argsOk "re.Pattern.sub" ⟨[a, b, c], []⟩ := by
  unfold argsOk; rw [signature?_of (id := "re.Pattern.sub") (n := ['b', 'u', 's']) (o := ['n', 'r', 'e', 't', 't', 'a', 'P', '.', 'e', 'r']) (by kernel_rfl) owner_re_Pattern]; kernel_rfl
theorem slot_re_Pattern_subn : Slot "re.Pattern" "subn" "re.Pattern.subn" :=
  .of (owner := "re.Pattern") (n := "subn") (by rw [typeLookup_type, builtinLookup_eq_fast]; kernel_rfl) (by decide +kernel) (by decide +kernel) (by decide +kernel)
    (by first | exact .inl (by decide +kernel) | exact .inr (by decide +kernel)) (by rw [isSubtype_type]; kernel_rfl)
theorem type_re_Pattern_subn : typeOf (.builtin "re.Pattern.subn") = pure (.type "method_descriptor") := by show builtinType _ = _; rw [builtinType_eq_fast]; kernel_rfl
theorem entry_re_Pattern_subn : entryFor table "re.Pattern.subn" = some Builtin.«re.Pattern.subn» := entryFor_of_tree (by kernel_rfl)
theorem args_re_Pattern_subn (a b c : Value) : argsOk "re.Pattern.subn" ⟨[a, b, c], []⟩ := by
  unfold argsOk; rw [signature?_of (id := "re.Pattern.subn") (n := ['n', 'b', 'u', 's']) (o := ['n', 'r', 'e', 't', 't', 'a', 'P', '.', 'e', 'r']) (by kernel_rfl) owner_re_Pattern]; kernel_rfl
theorem slot_re_Match_span : Slot "re.Match" "span" "re.Match.span" :=
  .of (owner := "re.Match") (n := "span") (by rw [typeLookup_type, builtinLookup_eq_fast]; kernel_rfl) (by decide +kernel) (by decide +kernel) (by decide +kernel)
    (by first | exact .inl (by decide +kernel) | exact .inr (by decide +kernel)) (by rw [isSubtype_type]; kernel_rfl)
theorem type_re_Match_span : typeOf (.builtin "re.Match.span") = pure (.type "method_descriptor") := by show builtinType _ = _; rw [builtinType_eq_fast]; kernel_rfl
theorem entry_re_Match_span : entryFor table "re.Match.span" = some Builtin.«re.Match.span» := entryFor_of_tree (by kernel_rfl)
theorem args_re_Match_span (a b : Value) : argsOk "re.Match.span" ⟨[a, b], []⟩ := by
  unfold argsOk; rw [signature?_of (id := "re.Match.span") (n := ['n', 'a', 'p', 's']) (o := ['h', 'c', 't', 'a', 'M', '.', 'e', 'r']) (by kernel_rfl) owner_re_Match]; kernel_rfl
theorem slot_re_Match_group : Slot "re.Match" "group" "re.Match.group" :=
  .of (owner := "re.Match") (n := "group") (by rw [typeLookup_type, builtinLookup_eq_fast]; kernel_rfl) (by decide +kernel) (by decide +kernel) (by decide +kernel)
    (by first | exact .inl (by decide +kernel) | exact .inr (by decide +kernel)) (by rw [isSubtype_type]; kernel_rfl)
theorem type_re_Match_group : typeOf (.builtin "re.Match.group") = pure (.type "method_descriptor") := by show builtinType _ = _; rw [builtinType_eq_fast]; kernel_rfl
theorem entry_re_Match_group : entryFor table "re.Match.group" = some Builtin.«re.Match.group» := entryFor_of_tree (by kernel_rfl)
theorem args_re_Match_group (a b : Value) : argsOk "re.Match.group" ⟨[a, b], []⟩ := by
  unfold argsOk; rw [signature?_of (id := "re.Match.group") (n := ['p', 'u', 'o', 'r', 'g']) (o := ['h', 'c', 't', 'a', 'M', '.', 'e', 'r']) (by kernel_rfl) owner_re_Match]; kernel_rfl
theorem entry_subloop : entryFor table "re.Pattern.sub.loop" = some Builtin.«re.Pattern.sub.loop» := entryFor_of_tree (by kernel_rfl)
theorem entry_restring : entryFor table "re.Match.string" = some Builtin.«re.Match.string» := entryFor_of_tree (by kernel_rfl)
theorem nobool_reM : typeLookup (.type "re.Match") "__bool__" = pure none := by rw [typeLookup_type, builtinLookup_eq_fast]; kernel_rfl
theorem nolen_reM : typeLookup (.type "re.Match") "__len__" = pure none := by rw [typeLookup_type, builtinLookup_eq_fast]; kernel_rfl
theorem look_restring : typeLookup (.type "re.Match") "string" = pure (some (.builtin "re.Match.string")) := by rw [typeLookup_type, builtinLookup_eq_fast]; kernel_rfl
theorem type_restring : typeOf (.builtin "re.Match.string") = pure (.type "member_descriptor") := by show builtinType _ = _; rw [builtinType_eq_fast]; kernel_rfl
theorem gl_43 (w : World) : nsIn (KF w) mainGlobals (Str.ofString "unmatched") = some (some (.ref 43)) := by kernel_rfl
theorem gl_48 (w : World) : nsIn (KF w) mainGlobals (Str.ofString "HEADER_TOKEN_RE") = some (some (.ref 48)) := by kernel_rfl
theorem gl_53 (w : World) : nsIn (KF w) mainGlobals (Str.ofString "HEADER_QUOTED_VALUE_RE") = some (some (.ref 53)) := by kernel_rfl
theorem gl_58 (w : World) : nsIn (KF w) mainGlobals (Str.ofString "HEADER_VALUE_RE") = some (some (.ref 58)) := by kernel_rfl
theorem gl_63 (w : World) : nsIn (KF w) mainGlobals (Str.ofString "HEADER_ESCAPE_RE") = some (some (.ref 63)) := by kernel_rfl
theorem gl_36 (w : World) : nsIn (KF w) mainGlobals (Str.ofString "_twin_re_7") = some (some (.ref 36)) := by kernel_rfl
theorem gl_70 (w : World) : nsIn (KF w) mainGlobals (Str.ofString "split_header_words") = some (some (.ref 70)) := by kernel_rfl
theorem gl_75 (w : World) : nsIn (KF w) mainGlobals (Str.ofString "HEADER_JOIN_TOKEN_RE") = some (some (.ref 75)) := by kernel_rfl
theorem gl_80 (w : World) : nsIn (KF w) mainGlobals (Str.ofString "HEADER_JOIN_ESCAPE_RE") = some (some (.ref 80)) := by kernel_rfl
theorem gl_87 (w : World) : nsIn (KF w) mainGlobals (Str.ofString "join_header_words") = some (some (.ref 87)) := by kernel_rfl
theorem gl_96 (w : World) : nsIn (KF w) mainGlobals (Str.ofString "insort_right") = some (some (.ref 96)) := by kernel_rfl
theorem gl_105 (w : World) : nsIn (KF w) mainGlobals (Str.ofString "bisect_right") = some (some (.ref 105)) := by kernel_rfl
theorem gl_114 (w : World) : nsIn (KF w) mainGlobals (Str.ofString "insort_left") = some (some (.ref 114)) := by kernel_rfl
theorem gl_123 (w : World) : nsIn (KF w) mainGlobals (Str.ofString "bisect_left") = some (some (.ref 123)) := by kernel_rfl
theorem gl_130 (w : World) : nsIn (KF w) mainGlobals (Str.ofString "_law_word") = some (some (.ref 130)) := by kernel_rfl
theorem gl_137 (w : World) : nsIn (KF w) mainGlobals (Str.ofString "_law_read") = some (some (.ref 137)) := by kernel_rfl
theorem gl_142 (w : World) : nsIn (KF w) mainGlobals (Str.ofString "_law_count") = some (some (.ref 142)) := by kernel_rfl
theorem gl_147 (w : World) : nsIn (KF w) mainGlobals (Str.ofString "_law_named") = some (some (.ref 147)) := by kernel_rfl
theorem gl_152 (w : World) : nsIn (KF w) mainGlobals (Str.ofString "_law_heads") = some (some (.ref 152)) := by kernel_rfl
theorem gn_isinstance (w : World) : nsIn (KF w) mainGlobals (Str.ofString "isinstance") = some none := by kernel_rfl
theorem bb_isinstance : bootBuiltins (Str.ofString "isinstance") = some (.builtin "isinstance") := by decide +kernel
theorem gn_len (w : World) : nsIn (KF w) mainGlobals (Str.ofString "len") = some none := by kernel_rfl
theorem bb_len : bootBuiltins (Str.ofString "len") = some (.builtin "len") := by decide +kernel
theorem gn_sum (w : World) : nsIn (KF w) mainGlobals (Str.ofString "sum") = some none := by kernel_rfl
theorem bb_sum : bootBuiltins (Str.ofString "sum") = some (.builtin "sum") := by decide +kernel
theorem gn_sorted (w : World) : nsIn (KF w) mainGlobals (Str.ofString "sorted") = some none := by kernel_rfl
theorem bb_sorted : bootBuiltins (Str.ofString "sorted") = some (.builtin "sorted") := by decide +kernel
theorem gn_str (w : World) : nsIn (KF w) mainGlobals (Str.ofString "str") = some none := by kernel_rfl
theorem bb_str : bootBuiltins (Str.ofString "str") = some (.type "str") := by decide +kernel
theorem gn_range (w : World) : nsIn (KF w) mainGlobals (Str.ofString "range") = some none := by kernel_rfl
theorem bb_range : bootBuiltins (Str.ofString "range") = some (.type "range") := by decide +kernel
theorem gn_list (w : World) : nsIn (KF w) mainGlobals (Str.ofString "list") = some none := by kernel_rfl
theorem bb_list : bootBuiltins (Str.ofString "list") = some (.type "list") := by decide +kernel
theorem slot_ms_get : Slot "member_descriptor" "__get__" "member_descriptor.__get__" :=
  .of (owner := "member_descriptor") (n := "__get__") (by rw [typeLookup_type, builtinLookup_eq_fast]; kernel_rfl) (by decide +kernel) (by decide +kernel) (by decide +kernel)
    (by first | exact .inl (by decide +kernel) | exact .inr (by decide +kernel)) (by rw [isSubtype_type]; kernel_rfl)
theorem slot_ms_set : Slot "member_descriptor" "__set__" "member_descriptor.__set__" :=
  .of (owner := "member_descriptor") (n := "__set__") (by rw [typeLookup_type, builtinLookup_eq_fast]; kernel_rfl) (by decide +kernel) (by decide +kernel) (by decide +kernel)
    (by first | exact .inl (by decide +kernel) | exact .inr (by decide +kernel)) (by rw [isSubtype_type]; kernel_rfl)
theorem entry_ms_get : entryFor table "member_descriptor.__get__" = some Builtin.«member_descriptor.__get__» := entryFor_of_tree (by kernel_rfl)
theorem args_ms_get (a b c : Value) : argsOk "member_descriptor.__get__" ⟨[a, b, c], []⟩ := by unfold argsOk; kernel_rfl
theorem owner_restring : (".".intercalate ("re.Match.string".cutAt '.').dropLast) = "re.Match" := by
  have e0 : "re.Match.string".cutAt '.' = ["re", "Match", "string"] := by first | rfl | decide +kernel
  rw [e0]; decide +kernel
theorem sub_reM_owner : isSubtype (.type "re.Match") (.type (".".intercalate ("re.Match.string".cutAt '.').dropLast)) = pure true := by
  rw [owner_restring, isSubtype_type]; kernel_rfl
theorem slot_reM_ga : Slot "re.Match" "__getattribute__" "object.__getattribute__" :=
  .of (owner := "object") (n := "__getattribute__") (by rw [typeLookup_type, builtinLookup_eq_fast]; kernel_rfl) (by decide +kernel) (by decide +kernel) (by decide +kernel)
    (by first | exact .inl (by decide +kernel) | exact .inr (by decide +kernel)) (by rw [isSubtype_type]; kernel_rfl)
theorem entry_obj_ga : entryFor table "object.__getattribute__" = some Builtin.«object.__getattribute__» := entryFor_of_tree (by kernel_rfl)
theorem args_obj_ga (a b : Value) : argsOk "object.__getattribute__" ⟨[a, b], []⟩ := by unfold argsOk; kernel_rfl

section
variable {prog : Program} {w : World} {A : Around} {E : Value → Shared → Prop} {h : Heap} {g : Array GenState} {d : Drawn} {t : Nat} {os : OsState} {a : Addr} {o : Obj} {vs : Array Value} {v : Value}
theorem reString_get {R : Result → Shared → Prop} (hx : h.get? a = some o) (hc : o.cls = .type "re.Match") (hd : o.data = .fields vs) (h0 : vs[0]? = some v) (hq : R (.ok (.ret v)) ⟨h, g, d, t, os⟩) :
    codeAny (model prog w) A (.call (.builtin "member_descriptor.__get__") ⟨[.builtin "re.Match.string", .ref a, .type "re.Match"], []⟩) R ⟨h, g, d, t, os⟩ := by
  have hT : (⟨h, g, d, t, os⟩ : Shared).TypeIs (.ref a) "re.Match" := ⟨_, hx, hc⟩
  have hT5 : (⟨h, g, d, t, os⟩ : Shared).TypeIs (.builtin "re.Match.string") "member_descriptor" := type_restring
  have f8 := sub_reM_owner
  refine codeAny_call_builtin slot_ms_get.plain entry_ms_get (slot_ms_get.check _ _ _ _ _ _ _ _ hT5 (args_ms_get _ _ _) ?_)
  repeat (any_goals (first | assumption | wp_step))
  refine ⟨Code.quiet_builtin _ (by decide +kernel), codeAny_builtin entry_restring ?_⟩
  show wpAny _ _ (do ret (← field (.ref a) 0)) _ _ _
  exact wpAny_bind (wpAny_field hx hd h0 (wpAny_pure hq))
theorem reString_entry {tk : Tok} {Q : Fin → Shared → Prop} (hx : h.get? a = some o) (hc : o.cls = .type "re.Match") (hd : o.data = .fields vs) (h0 : vs[0]? = some v) (hq : Q (.done (.ret v)) ⟨h, g, d, t, os⟩) :
    wpAny (model prog w) A (Builtin.«object.__getattribute__» ⟨[.ref a, .str "string" tk], []⟩) Q E ⟨h, g, d, t, os⟩ := by
  have hT : (⟨h, g, d, t, os⟩ : Shared).TypeIs (.ref a) "re.Match" := ⟨_, hx, hc⟩
  have hT5 : (⟨h, g, d, t, os⟩ : Shared).TypeIs (.builtin "re.Match.string") "member_descriptor" := type_restring
  have f4 := look_restring
  have f5 := type_restring
  have f6 := slot_ms_get.lookup
  have f7 := slot_ms_set.lookup
  repeat (any_goals (first | assumption | wp_step))
  refine reString_get hx hc hd h0 ?_
  repeat (any_goals (first | assumption | wp_step))
theorem reString_call {tk : Tok} {R : Result → Shared → Prop} (hx : h.get? a = some o) (hc : o.cls = .type "re.Match") (hd : o.data = .fields vs) (h0 : vs[0]? = some v) (hq : R (.ok (.ret v)) ⟨h, g, d, t, os⟩) :
    codeAny (model prog w) A (.call (.builtin "object.__getattribute__") ⟨[.ref a, .str "string" tk], []⟩) R ⟨h, g, d, t, os⟩ :=
  codeAny_call_builtin slot_reM_ga.plain entry_obj_ga (slot_reM_ga.check _ _ _ _ _ _ _ _ (show (⟨h, g, d, t, os⟩ : Shared).TypeIs (.ref a) "re.Match" from ⟨_, hx, hc⟩) (args_obj_ga _ _) (reString_entry hx hc hd h0 hq))
theorem reString {Q : Value → Shared → Prop} {x : Str} {tx : Tok} (hx : h.get? a = some o) (hc : o.cls = .type "re.Match") (hd : o.data = .fields vs) (h0 : vs[0]? = some (.str x tx)) (hq : ∀ tk, Q (.str x tx) ⟨h, g, d, tk, os⟩) :
    wpAny (model prog w) A (getAttr (.ref a) "string" true) Q E ⟨h, g, d, t, os⟩ := by
  have hT : (⟨h, g, d, t + 1, os⟩ : Shared).TypeIs (.ref a) "re.Match" := ⟨_, hx, hc⟩
  have f2 := slot_reM_ga.lookup
  have f3 := slot_reM_ga.bind (.ref a)
  unfold getAttr
  refine wpAny_bind (wpAny_mkText ?_)
  repeat (any_goals (first | assumption | wp_step))
  refine reString_call hx hc hd h0 ?_
  repeat (any_goals (first | assumption | wp_step))
  exact hq _
end
abbrev mO (text : Str) (tx : Tok) (pat : Addr) (pos lim li : Int) (sp : Addr) : Obj := fldO "re.Match" [.str text tx, .ref pat, rawInt pos, rawInt lim, rawInt li, .ref sp]
section
variable {prog : Program} {w : World} {A : Around} {E : Value → Shared → Prop} {h : Heap} {g : Array GenState} {d : Drawn} {t : Nat} {os : OsState} {a pat sp : Addr} {x : Str} {tx t0 : Tok} {p l li b e b1 e1 : Int}
theorem reSpan {Q : Value → Shared → Prop} (hx : h.get? a = some (mO x tx pat p l li sp)) (hs : h.get? sp = some (tupO [rawInt b, rawInt e, rawInt b1, rawInt e1]))
    (hq : ∀ t1 t2 tk, Q (.ref h.objs.size) ⟨h.push (tupO [.int b t1, .int e t2]), g, d, tk, os⟩) : wpAny (model prog w) A (call (.builtin "re.Match.span") [.ref a, .int 0 t0]) Q E ⟨h, g, d, t, os⟩ := by
  have hT : (⟨h, g, d, t, os⟩ : Shared).TypeIs (.ref a) "re.Match" := ⟨_, hx, rfl⟩
  refine wpAny_call_entry slot_re_Match_span hT entry_re_Match_span ?_ (args_re_Match_span _ _)
  repeat (any_goals (first | assumption | wp_step))
  refine ⟨_, rfl, ?_⟩
  simp only [Option.getD_some, List.map_toArray, List.map_cons, List.map_nil, Builtin.Re.reRawOf, rawInt]
  exact hq _ _ _
theorem reGroup1 {Q : Value → Shared → Prop} {n m : Nat} (hx : h.get? a = some (mO x tx pat p l li sp)) (hs : h.get? sp = some (tupO [rawInt b, rawInt e, rawInt (n : Int), rawInt (m : Int)]))
    (hz : m ≤ n + sizeLine) (hq : ∀ t1 tk, Q (.str ⟨x.cps.extract n m⟩ t1) ⟨h, g, d, tk, os⟩) : wpAny (model prog w) A (call (.builtin "re.Match.group") [.ref a, .int 1 t0]) Q E ⟨h, g, d, t, os⟩ := by
  have hT : (⟨h, g, d, t, os⟩ : Shared).TypeIs (.ref a) "re.Match" := ⟨_, hx, rfl⟩
  refine wpAny_call_entry slot_re_Match_group hT entry_re_Match_group ?_ (args_re_Match_group _ _)
  have e1 : ((Array.map Builtin.Re.reRawOf ((some #[rawInt b, rawInt e, rawInt (n : Int), rawInt (m : Int)]).getD #[])).getD (2 * Int.toNat 1) (-1)) = (n : Int) := by simp [Builtin.Re.reRawOf, rawInt]
  have e2 : ((Array.map Builtin.Re.reRawOf ((some #[rawInt b, rawInt e, rawInt (n : Int), rawInt (m : Int)]).getD #[])).getD (2 * Int.toNat 1 + 1) (-1)) = (m : Int) := by simp [Builtin.Re.reRawOf, rawInt]
  have e3 : (decide ((n : Int) < 0) || decide ((m : Int) < 0)) = false := by simp
  have e4 : (Str.mk (x.cps.extract n m)).length ≤ sizeLine := by
    show (x.cps.extract n m).size ≤ sizeLine
    rw [Array.size_extract]; omega
  repeat (any_goals (first | assumption | wp_step))
  dsimp only
  simp only [e1, e2, e3, Bool.false_eq_true, if_false, Int.toNat_natCast]
  show wpAny _ _ (do
      let __x ← Builtin.Re.reTextOf (.str x tx)
      match __x with
        | (text, kind) => Builtin.Re.reSlice text kind n m) _ _ _
  refine wpAny_bind ?_
  show wpAny _ _ (pure (x.cps, 0)) _ _ _
  refine wpAny_pure ?_
  show wpAny _ _ (mkStr ⟨x.cps.extract n m⟩) _ _ _
  exact wpAny_mkStr (wpAny_pure ⟨_, rfl, hq _ _⟩) e4
end

/-! in H's form -/
def TyAt (c : Cx) (m : Nm) (nw : Nw) (v : Value) (T : String) : Prop := ∀ A s, Gd c m nw A s → s.TypeIs v T ∧ ∀ a, v = .ref a → ∃ ob, s.heap.get? a = some ob ∧ ob.dict = none
section
variable {c : Cx} {m : Nm} {nw : Nw} {env : Env}
theorem TyAt.str {x : Str} {t : Tok} : TyAt c m nw (.str x t) "str" := fun _ s _ => ⟨typeIs_str s x t, fun _ e => nomatch e⟩
theorem TyAt.led {a : Addr} {o : Obj} {T : String} (hm : (a, o) ∈ nw) (hc : o.cls = .type T := by rfl) (hd : o.dict = none := by rfl) : TyAt c m nw (.ref a) T :=
  fun _ _ G => ⟨⟨o, G.fm.get hm, hc⟩, fun b e => by cases e; exact ⟨o, G.fm.get hm, hd⟩⟩
theorem TyAt.K {a : Addr} {o : Obj} {T : String} (hm : (KF c.w).lookup a = some o) (hc : o.cls = .type T := by rfl) (hd : o.dict = none := by rfl) : TyAt c m nw (.ref a) T :=
  fun _ _ G => ⟨⟨o, G.fm.getK hm, hc⟩, fun b e => by cases e; exact ⟨o, G.fm.getK hm, hd⟩⟩

theorem H_Call_method {o : Expr} {name : Str} {apos pos : Pos} {args : List Expr} {T id : String} {Q : Value → Nm → Nw → Prop} (pa : PlainAttrs T) (sl : Slot T name id) (hty : typeOf (.builtin id) = pure (.type "method_descriptor"))
    (h : HH c m nw (eval o env) fun ov m₁ nw₁ => TyAt c m₁ nw₁ ov T ∧ HH c m₁ nw₁ (callWith pos (.builtin id) [ov] (backTo pos (starEach args env)) []) Q)
    (hbase : attributeBase o name env (eval o env) = eval o env := by rfl)
    (hfew : ((backTo pos (starEach args env)).all (fun x => !x.1) && (backToKw pos (keywordEach [] env)).all (fun x => x.1.isSome)
      && decide (args.length + ([] : List Keyword).length + (if ([] : List Keyword).isEmpty then 0 else 1) < 30)) = true := by rfl)
    (hline : (apos.endLine == pos.line) = true := by rfl) :
    HH c m nw (eval (.Call (.Attribute o name apos) args [] pos) env) Q := fun A s G =>
  wpAny_Call_method hbase hfew hline pa sl hty (h.go A s G fun ov s₁ m₁ nw₁ G₁ h₁ => ⟨(h₁.1 A s₁ G₁).1, (h₁.1 A s₁ G₁).2, h₁.2 A s₁ G₁⟩)

abbrev Cx.up (c : Cx) : Cx := { c with u := c.u + 1 }
theorem Gd.up {A : Around} {s : Shared} (G : Gd c m nw A s) : Gd c.up m nw A.in1 s := ⟨G.hh, G.hd, Nat.succ_le_succ G.hu, ⟨G.fm.ns, G.fm.keep, G.fm.above, G.fm.base, G.fm.led⟩, G.gn, G.os⟩
theorem Gd.down {A : Around} {s s' : Shared} {m' : Nm} {nw' : Nw} (G : Gd c m nw A s) (G' : Gd c.up m' nw' A.in1 s') : Gd c m' nw' A s' := ⟨G.hh, G.hd, G.hu, ⟨G'.fm.ns, G'.fm.keep, G'.fm.above, G'.fm.base, G'.fm.led⟩, G'.gn, G'.os⟩
theorem H_entry {T id : String} {name : Str} {b : Builtin} {self : Value} {rest : List Value} {Q : Value → Nm → Nw → Prop} (sl : Slot T name id) (hT : TyAt c m nw self T) (hb : entryFor table id = some b) (ha : argsOk id ⟨self :: rest, []⟩)
    (h : HH c.up m nw (b ⟨self :: rest, []⟩) fun fin m' nw' => ∃ v, fin = .done (.ret v) ∧ Q v m' nw') : HH c m nw (call (.builtin id) (self :: rest)) Q := fun A s G =>
  wpAny_call_entry sl (hT A s G).1 hb (h.go A.in1 s G.up fun fin s' m' nw' G' ⟨v, e, q⟩ => ⟨v, e, _, _, G.down G', q⟩) ha

theorem H_reString {a pat sp : Addr} {x : Str} {tx : Tok} {p l li : Int} {Q : Value → Nm → Nw → Prop} (hm : (a, mO x tx pat p l li sp) ∈ nw) (hq : Q (.str x tx) m nw) : HH c m nw (getAttr (.ref a) "string" true) Q :=
  fun A ⟨h, g, d, t, os⟩ G => reString (G.fm.get hm) rfl rfl rfl fun tk => ⟨_, _, G.toks tk, hq⟩
theorem H_reSpan {a pat sp : Addr} {x : Str} {tx t0 : Tok} {p l li b e b1 e1 : Int} {Q : Value → Nm → Nw → Prop} (hm : (a, mO x tx pat p l li sp) ∈ nw) (hs : (sp, tupO [rawInt b, rawInt e, rawInt b1, rawInt e1]) ∈ nw)
    (hq : ∀ r t1 t2, Q (.ref r) m ((r, tupO [.int b t1, .int e t2]) :: nw)) : HH c m nw (call (.builtin "re.Match.span") [.ref a, .int 0 t0]) Q :=
  fun A ⟨h, g, d, t, os⟩ G => reSpan (G.fm.get hm) (G.fm.get hs) fun t1 t2 tk => ⟨_, _, G.heap (G.fm.push _ rfl rfl) tk, hq _ t1 t2⟩
theorem H_reGroup1 {a pat sp : Addr} {x : Str} {tx t0 : Tok} {p l li b e : Int} {n k : Nat} {Q : Value → Nm → Nw → Prop} (hm : (a, mO x tx pat p l li sp) ∈ nw) (hs : (sp, tupO [rawInt b, rawInt e, rawInt (n : Int), rawInt (k : Int)]) ∈ nw)
    (hz : k ≤ n + sizeLine) (hq : ∀ t1, Q (.str ⟨x.cps.extract n k⟩ t1) m nw) : HH c m nw (call (.builtin "re.Match.group") [.ref a, .int 1 t0]) Q :=
  fun A ⟨h, g, d, t, os⟩ G => reGroup1 (G.fm.get hm) (G.fm.get hs) hz fun t1 tk => ⟨_, _, G.toks tk, hq t1⟩
end
/-! texts as lists -/
abbrev S (l : List Nat) : Str := ⟨l.toArray⟩
theorem S_length (l : List Nat) : (S l).length = l.length := by simp [Str.length]
theorem S_append (a b : List Nat) : S a ++ S b = S (a ++ b) := by
  show Str.append (S a) (S b) = S (a ++ b)
  simp [Str.append, S]
theorem S_extract (l : List Nat) (n m : Nat) : (⟨(S l).cps.extract n m⟩ : Str) = S ((l.drop n).take (m - n)) := by
  show Str.mk _ = Str.mk _
  congr 1
  simp [S]
theorem sliceRange_nat (a b : Nat) : sliceRange (a : Int) (b : Int) 1 = (List.range (b - a)).map (a + ·) := by
  unfold sliceRange
  simp only [show (1 : Int) > 0 by decide, if_true]
  have e : (if (a : Int) < b then ((b : Int) - a + 1 - 1) / 1 else 0).toNat = b - a := by
    split <;> (try simp only [Int.ediv_one]) <;> omega
  rw [e]
  apply List.map_congr_left
  intro k _
  show ((a : Int) + 1 * (k : Int)).toNat = a + k
  omega
theorem clip_nat (k n : Nat) : (if (k : Int) < 0 then (k : Int) + n else k) = (k : Int) := by rw [if_neg (by omega)]
theorem idx_to (n k : Nat) : Builtin.Str.strSliceIndices none (some (k : Int)) 1 n = (List.range (min k n)).map (0 + ·) := by
  have := sliceRange_nat 0 (min k n)
  unfold Builtin.Str.strSliceIndices
  simp only [clip_nat, show (1 : Int) > 0 by decide, if_true]
  rw [show max 0 (min (k : Int) (n : Int)) = ((min k n : Nat) : Int) by omega]
  simpa using this
theorem idx_from (n k : Nat) : Builtin.Str.strSliceIndices (some (k : Int)) none 1 n = (List.range (n - min k n)).map (min k n + ·) := by
  have := sliceRange_nat (min k n) n
  unfold Builtin.Str.strSliceIndices
  simp only [clip_nat, show (1 : Int) > 0 by decide, if_true]
  rw [show max 0 (min (k : Int) (n : Int)) = ((min k n : Nat) : Int) by omega]
  exact this
theorem filterMap_range (l : List Nat) (a k : Nat) : ((List.range k).map (a + ·)).filterMap (fun i => l[i]?) = (l.drop a).take k := by
  induction k generalizing a with
  | zero => simp
  | succ k ih =>
    rw [List.range_succ_eq_map, List.map_cons, List.filterMap_cons, List.map_map]
    have : ((fun x => a + x) ∘ Nat.succ) = fun x => (a + 1) + x := by funext x; simp only [Function.comp]; omega
    rw [this, ih (a + 1)]
    rw [Nat.add_zero]
    by_cases h : a < l.length
    · rw [List.getElem?_eq_getElem h]
      rw [List.drop_eq_getElem_cons h, List.take_succ_cons]
    · rw [List.getElem?_eq_none (by omega), List.drop_eq_nil_of_le (by omega), List.drop_eq_nil_of_le (by omega)]; simp
theorem slice_to (l : List Nat) (k : Nat) : Txt.slice (S l) none (some (k : Int)) = S (l.take k) := by
  unfold Txt.slice
  rw [S_length, idx_to]
  have e : List.filterMap (fun x => (S l).cps[x]?) (List.map (fun x => 0 + x) (List.range (min k l.length))) = l.take k := by
    have := filterMap_range l 0 (min k l.length)
    simp only [List.drop_zero] at this
    rw [show (fun x => (S l).cps[x]?) = fun i => l[i]? by funext i; simp, this]
    rcases Nat.le_total k l.length with h | h
    · rw [Nat.min_eq_left h]
    · rw [Nat.min_eq_right h, List.take_of_length_le (Nat.le_refl _), List.take_of_length_le h]
  split
  · rename_i h
    simp at h
    rw [List.take_of_length_le (by omega)]
  · rw [e]
theorem slice_from (l : List Nat) (k : Nat) : Txt.slice (S l) (some (k : Int)) none = S (l.drop k) := by
  unfold Txt.slice
  rw [S_length, idx_from]
  have e : List.filterMap (fun x => (S l).cps[x]?) (List.map (fun x => min k l.length + x) (List.range (l.length - min k l.length))) = l.drop k := by
    have := filterMap_range l (min k l.length) (l.length - min k l.length)
    rw [show (fun x => (S l).cps[x]?) = fun i => l[i]? by funext i; simp, this]
    rcases Nat.le_total k l.length with h | h
    · rw [Nat.min_eq_left h, List.take_of_length_le (by simp)]
    · rw [Nat.min_eq_right h, List.drop_eq_nil_of_le h]; simp
  split
  · rename_i h
    simp at h
    have : k = 0 ∨ l.length = 0 := by omega
    rcases this with rfl | h0
    · simp
    · rw [List.length_eq_zero_iff.mp h0]; simp
  · rw [e]

section
variable {c : Cx} {m : Nm} {nw : Nw} {cs : Scope} {cl : List (Str × Addr)} {q : Str} {fo : Option Addr} {cd : Value} {fr : Option Addr} {env : Env}

theorem Fm.keeps {h h' : Heap} (F : Fm c h m nw) (hk : ∀ b o, h.get? b = some o → h'.get? b = some o) : Fm c h' m nw := by
  obtain ⟨hid, hok, hfo, l⟩ := F.led
  obtain ⟨mf, hns, hmf⟩ := F.ns
  exact ⟨⟨mf, hns.keeps hk, hmf⟩, fun b o e => hk _ _ (F.keep b o e), F.above, F.base, hid, hok, hfo, fun p hp => ⟨hk _ _ (l.1 p hp).1, (l.1 p hp).2⟩, l.2⟩

/-- a pair taken apart into two names -/
theorem H_assign2 {x y : Str} {p1 p2 tp : Pos} {k : Nat} {t : Addr} {a b : Value} {Q : Unit → Nm → Nw → Prop} (hx : nmOk cs x .local = true) (hy : nmOk cs y .local = true) (hm : (t, tupO [a, b]) ∈ nw)
    (h : Q () ((y, b) :: (x, a) :: m) nw) : HH c m nw (assign (.Tuple [.Name x p1, .Name y p2] k tp) (envG cs c.L cl q fo cd fr) (.ref t)) Q := fun A s G => by
  refine wpAny_assign_Tuple (items := #[a, b]) G.hh ⟨_, G.fm.get hm, rfl, _, rfl⟩ rfl rfl fun h' hx' => ?_
  have G' : Gd c m nw A { s with heap := h' } := G.heap' (G.fm.keeps fun b o e => hx' b o (Nat.ne_of_lt (Heap.lt_size e)) e)
  show wpAny _ A (assignInOrder [assign (.Name x p1) (envG cs c.L cl q fo cd fr), assign (.Name y p2) (envG cs c.L cl q fo cd fr)] [a, b]) _ _ _
  refine wpAny_assignInOrder_more (wpAny_assign_Name ?_)
  exact (H_store (m := m) (nw := nw) (v := a) (Q := fun _ m' nw' => m' = (x, a) :: m ∧ nw' = nw) hx ⟨rfl, rfl⟩).go A _ G' fun _ s₁ m₁ nw₁ G₁ e₁ => by
    obtain ⟨rfl, rfl⟩ := e₁
    refine wpAny_assignInOrder_more (wpAny_assign_Name ?_)
    exact (H_store (v := b) (Q := fun _ m' nw' => m' = (y, b) :: (x, a) :: m ∧ nw' = nw₁) hy ⟨rfl, rfl⟩).go A _ G₁ fun _ s₂ m₂ nw₂ G₂ e₂ => by
      obtain ⟨rfl, rfl⟩ := e₂
      exact wpAny_assignInOrder_none ⟨_, _, G₂, h⟩
theorem H_Assign2 {x y : Str} {p1 p2 tp pos : Pos} {k : Nat} {value : Expr} {rest : List Stmt} {Q : Flow → Nm → Nw → Prop} (hx : nmOk cs x .local = true) (hy : nmOk cs y .local = true)
    (h : HH c m nw (eval value (envG cs c.L cl q fo cd fr)) fun v m₁ nw₁ => ∃ t a b, v = .ref t ∧ (t, tupO [a, b]) ∈ nw₁ ∧ HH c ((y, b) :: (x, a) :: m₁) nw₁ (execs rest (envG cs c.L cl q fo cd fr)) Q)
    (hs : swapsWithSole [.Tuple [.Name x p1, .Name y p2] k tp] value pos.line (envG cs c.L cl q fo cd fr) = pure false := by rfl)
    (hw : swappedStores [.Tuple [.Name x p1, .Name y p2] k tp] value (envG cs c.L cl q fo cd fr) = pure none := by rfl) :
    HH c m nw (execs (.Assign [.Tuple [.Name x p1, .Name y p2] k tp] value pos :: rest) (envG cs c.L cl q fo cd fr)) Q :=
  H_cons fun A s G => Assign_Tuple (h.go A s G fun v s₁ m₁ nw₁ G₁ ⟨t, a, b, e, hm, h₁⟩ => by
    subst e
    exact H_assign2 (m := m₁) (nw := nw₁) (Q := fun _ m' nw' => Then c rest _ Q .next m' nw') hx hy hm h₁ A s₁ G₁) hs hw

/-! operations on values -/
theorem H_add_str {a b : List Nat} {t u : Tok} {Q : Value → Nm → Nw → Prop} (hz : a.length + b.length ≤ 1000000) (h : ∀ t', Q (.str (S (a ++ b)) t') m nw) : HH c m nw (binaryOp .Add (.str (S a) t) (.str (S b) u)) Q :=
  fun A s G => add_str (fun t' tk => ⟨_, _, G.toks tk, by rw [S_append]; exact h t'⟩) (by rw [S_length, S_length]; exact Nat.le_trans hz (by decide))
theorem H_slice_to {value : Expr} {lo hi : Option Expr} {sp : Pos} {l : List Nat} {t u : Tok} {k : Nat} {a : Addr} {Q : Value → Nm → Nw → Prop} (hm : (a, fldO "slice" [.none, .int (k : Int) u, .none]) ∈ nw) (hz : l.length ≤ 1000000)
    (h : ∀ t', Q (.str (S (l.take k)) t') m nw) : HH c m nw (subscriptTail value (.Slice lo hi none sp) (.str (S l) t) (.ref a)) Q := fun A s G =>
  tail_any (typeIs_str s _ _) F.slot_str_getitem.lookup (wpAny_getItem_str_slice (l := none) (u := some ((k : Int), u)) (st := none) ⟨_, G.fm.get hm, rfl, rfl⟩ rfl
    (post_val_or_str ⟨Nat.le_trans (Txt.slice_le _ _ _) (by rw [S_length]; exact Nat.le_trans hz (by decide)), fun t' k' => ⟨_, _, G.toks k', by
      have e := slice_to l k
      unfold Txt.slice at e
      first | (rw [← slice_to] at h; exact h t') | exact h t'⟩⟩)) (by with_unfolding_all rfl)
theorem H_slice_from {value : Expr} {lo hi : Option Expr} {sp : Pos} {l : List Nat} {t u : Tok} {k : Nat} {a : Addr} {Q : Value → Nm → Nw → Prop} (hm : (a, fldO "slice" [.int (k : Int) u, .none, .none]) ∈ nw) (hz : l.length ≤ 1000000)
    (h : ∀ t', Q (.str (S (l.drop k)) t') m nw) : HH c m nw (subscriptTail value (.Slice lo hi none sp) (.str (S l) t) (.ref a)) Q := fun A s G =>
  tail_any (typeIs_str s _ _) F.slot_str_getitem.lookup (wpAny_getItem_str_slice (l := some ((k : Int), u)) (u := none) (st := none) ⟨_, G.fm.get hm, rfl, rfl⟩ rfl
    (post_val_or_str ⟨Nat.le_trans (Txt.slice_le _ _ _) (by rw [S_length]; exact Nat.le_trans hz (by decide)), fun t' k' => ⟨_, _, G.toks k', by
      first | (rw [← slice_from] at h; exact h t') | exact h t'⟩⟩)) (by with_unfolding_all rfl)
end

/-! the program's parts -/
def nthS : List Stmt → Nat → Option Stmt
  | [], _ => none
  | s :: _, 0 => some s
  | _ :: r, n + 1 => nthS r n
def bodyAt (i : Nat) : List Stmt := match nthS PySem.Challenge.pw_nb0228_01.main.body i with | some (.FunctionDef _ _ b _ _ _ _ _ _ _) => b | _ => []
def scopeAt (i : Nat) : Scope := match nthS PySem.Challenge.pw_nb0228_01.main.body i with | some (.FunctionDef _ _ _ _ _ _ sc _ _ _) => sc | _ => default
def paramsAt (i : Nat) : Arguments := match nthS PySem.Challenge.pw_nb0228_01.main.body i with | some (.FunctionDef _ a _ _ _ _ _ _ _ _) => a | _ => default
abbrev fnD (i : Nat) (name : String) (dv kv pm : Value) (code : Addr) : FuncData :=
  { name := Str.ofString name, qualname := Str.ofString name, params := paramsAt i, body := .stmts (bodyAt i), scope := scopeAt i, globals := mainGlobals, closure := [], defaults := dv, kwdefaults := kv, doc := .none, pyModule := pm, annotations := none, code := .ref code, closureTuple := .none, builtins := builtinsNs }
abbrev fnObj (i : Nat) (name : String) (dv kv pm : Value) (code : Addr) : Obj := { cls := .type "function", data := .func (fnD i name dv kv pm code) }
abbrev envF (i : Nat) (name : String) (f code : Addr) (L : Addr) : Env := envG (scopeAt i) L [] (Str.ofString name ++ ".<locals>.") (some f) (.ref code) (some L)
theorem fl_43 (w : World) : (KF w).lookup 43 = some (fnObj 3 "unmatched" .none .none (.str "cpy313.http.cookiejar" 282) 42) := by kernel_rfl
theorem cd_43 (w : World) : codeIn (KF w) (.ref 42) (Str.ofString "unmatched") = true := by kernel_rfl
theorem locs' {scope : Scope} {binds : List (Str × Value)} (h : (binds.map (·.1)).all (fun x => decide (scope.names.lookup x = some .local)) = true) : ∀ x ∈ binds, scope.names.lookup x.1 = some .local :=
  fun x hx => of_decide_eq_true (List.all_eq_true.mp h x.1 (List.mem_map_of_mem hx))
def cellFree (cs : Scope) : Bool := cs.names.all fun x => !decide (x.2 = .cell)
theorem cellFree.elim {cs : Scope} (h : cellFree cs = true) : ∀ x ∈ cs.names, x.2 ≠ .cell := fun x hx e => by
  have := List.all_eq_true.mp h x hx
  simp [e] at this
theorem call_43 {c : Cx} {m : Nm} {nw : Nw} {v : Value} {Q : Value → Nm → Nw → Prop} (hroom : c.d < 900)
    (h : ∀ g L', HH (c.dn g L') [(Str.ofString "match", v)] nw (execs (bodyAt 3) (envF 3 "unmatched" 43 42 L')) fun fl m' nw' => ∃ nw'', Sb nw'' nw' ∧ Q (retV fl) m nw'') : HH c m nw (call (.ref 43) [v]) Q :=
  H_call (binds := [(Str.ofString "match", v)]) (fl_43 c.w) rfl (cd_43 c.w) rfl hroom (fun s X => BindsTo.of_eq (by kernel_rfl)) (cellFree.elim (by decide +kernel)) (locs' (by kernel_rfl)) (by decide +kernel) (by decide +kernel) (by decide +kernel) h
open PySem.Sre
/-! the matcher on a text whose end it does not look at -/
def sT (m : M) (t : Array Nat) (l ls : Nat) : M := { m with text := t, lim := l, lastStart := ls }

theorem run_sim {code t t0 : Array Nat} {i k : Nat} (ha : ∀ p, p < k → t.getD p 0 = t0.getD p 0) : ∀ (n0 n1 p found : Nat) (seen : Sre.Seen) (r : Nat) (s' : Sre.Seen), run code t0 i n0 p found seen = .ok (r, s') → found ≤ r ∧ (p + (r - found) < k → k ≤ p + n0 → k ≤ p + n1 → run code t i n1 p found seen = .ok (r, s'))
  | 0, n1, p, found, seen, r, s', h => by
    simp only [Sre.run, Except.ok.injEq, Prod.mk.injEq] at h
    obtain ⟨rfl, rfl⟩ := h
    exact ⟨Nat.le_refl _, fun a b => by omega⟩
  | n0 + 1, n1, p, found, seen, r, s', h => by
    simp only [Sre.run] at h
    cases hq : accepts code i (t0.getD p 0) seen with
    | error e => rw [hq] at h; cases h
    | ok x =>
      obtain ⟨yes, s1⟩ := x
      rw [hq] at h
      cases yes with
      | true =>
        have ih := run_sim ha n0 (n1 - 1) (p + 1) (found + 1) s1 r s' h
        refine ⟨by omega, fun a b d => ?_⟩
        obtain ⟨n1', rfl⟩ : ∃ n1', n1 = n1' + 1 := ⟨n1 - 1, by omega⟩
        simp only [Sre.run]
        rw [ha p (by omega), hq]
        exact ih.2 (by omega) (by omega) (by omega)
      | false =>
        have h' : (Except.ok (found, s1) : Except String (Nat × Sre.Seen)) = .ok (r, s') := h
        simp only [Except.ok.injEq, Prod.mk.injEq] at h'
        obtain ⟨rfl, rfl⟩ := h'
        refine ⟨Nat.le_refl _, fun a b d => ?_⟩
        obtain ⟨n1', rfl⟩ : ∃ n1', n1 = n1' + 1 := ⟨n1 - 1, by omega⟩
        simp only [Sre.run]
        rw [ha p (by omega), hq]
        rfl

section
variable {m : M} {t : Array Nat} {l ls : Nat}
theorem sT_ite {c : Prop} [Decidable c] {a b a' b' : M} (h1 : a = sT a' t l ls) (h2 : b = sT b' t l ls) : (if c then a else b) = sT (if c then a' else b') t l ls := by split <;> assumption
theorem sT_say (b : Bool) : (sT m t l ls).say b = sT (m.say b) t l ls := rfl
theorem sT_putBack (k : Sre.Kept) : (sT m t l ls).putBack k = sT (m.putBack k) t l ls := rfl
theorem sT_setLoop (i : Nat) (f : Loop → Loop) : (sT m t l ls).setLoop i f = sT (m.setLoop i f) t l ls := rfl
theorem sT_attempt (f : Sre.Frame) (a b : Nat) (o : Bool) : (sT m t l ls).attempt f a b o = sT (m.attempt f a b o) t l ls := sT_ite (c := m.weight + 1 + f.kept.marks.size > 16777216) rfl rfl
theorem sT_alternative (a : Nat) (k : Sre.Kept) : (sT m t l ls).alternative a k = sT (m.alternative a k) t l ls := sT_ite (c := (m.code.getD a 0 == 0) = true) rfl (sT_attempt _ _ _ _)
theorem sT_afterRun (w : Wait) (n : Int) (k : Sre.Kept) : (sT m t l ls).afterRun w n k = sT (m.afterRun w n k) t l ls := sT_attempt _ _ _ _
theorem sT_afterLoop (w : Wait) (i : Nat) (n : Int) (g : Option Nat → Bool) : (sT m t l ls).afterLoop w i n g = sT (m.afterLoop w i n g) t l ls := sT_attempt (m := { m with inner := (m.loopAt i).outer }) _ _ _ _
theorem sT_round (w : Wait) (i : Nat) (n : Int) (g : Bool) (k : Sre.Kept) : (sT m t l ls).round w i n g k = sT (m.round w i n g k) t l ls :=
  sT_attempt (m := m.setLoop i fun l => { l with count := n, began := if g then some m.pos else l.began }) _ _ _ _
theorem sT_until : (sT m t l ls).until_ true = sT (m.until_ true) t l ls := by
  unfold M.until_
  have e : (sT m t l ls).inner = m.inner := rfl
  rw [e]
  cases m.inner with
  | none => rfl
  | some i =>
    dsimp only
    refine sT_ite (c := (m.loopAt i).count + 1 < ((m.code.getD ((m.loopAt i).pc + 2) 0 : Nat) : Int)) (sT_round _ _ _ _ _) ?_
    refine sT_ite (c := (!true) = true) (sT_afterLoop _ _ _ _) ?_
    exact sT_ite (sT_round _ _ _ _ _) (sT_afterLoop _ _ _ _)
theorem resume_sim {f : Sre.Frame} {yes : Bool} (h : (match f.wait with | .nextStart => yes | .takeMore => false | .minTail => false | .possBelow => false | .possMore => false | _ => true) = true) :
    M.resume (sT m t l ls) f yes = sT (M.resume m f yes) t l ls := by
  unfold M.resume
  cases hw : f.wait <;> rw [hw] at h <;> dsimp only at h ⊢
  case nextStart => cases yes <;> first | rfl | cases h
  case nextBranch => cases yes <;> first | rfl | exact sT_alternative (m := m.putBack f.kept) _ _
  case giveBack => exact sT_ite rfl (sT_ite (c := f.count - 1 < ((m.word 2 : Nat) : Int)) rfl (sT_afterRun (m := { m.putBack f.kept with pos := f.pos - 1 }) _ _ _))
  case takeMore => cases h
  case closeLoop => rfl
  case maxBelow => exact sT_ite rfl rfl
  case minBelow => exact sT_ite rfl rfl
  case maxMore => exact sT_ite rfl (sT_afterLoop (m := (((m.setLoop f.loop fun l => { l with began := f.began }).putBack f.kept).setLoop f.loop fun l => { l with count := f.count - 1 })) _ _ _ _)
  case maxTail => rfl
  case minTail => cases h
  case minMore => exact sT_ite rfl rfl
  case possBelow => cases h
  case possMore => cases h
  case atomic => exact sT_ite rfl rfl
  case look => exact sT_ite rfl rfl
  case lookNot => exact sT_ite rfl rfl
end
def locX (k : Nat) (m : M) : Bool := !m.wholeText && !m.mustAdvance && match ops[m.word 0]? with
    | some .AT => m.word 1 == 0
    | some .ANY | some .LITERAL | some .IN => decide (m.pos < k)
    | some .REPEAT_ONE => decide (m.word 2 + m.pos ≤ k) && decide (k ≤ m.word 3) && (match run m.code m.text (m.pc + 4) (min (m.word 3) ((m.lim : Int) - m.pos).toNat) m.pos 0 ((m.seen.add (m.word 0)).add (m.word 4)) with
        | .ok (n, _) => decide (m.pos + n < k)
        | .error _ => false)
    | some .MARK | some .JUMP | some .INFO | some .SUCCESS | some .REPEAT | some .MAX_UNTIL | some .FAILURE => true
    | _ => false
theorem one_sim {k : Nat} {m : M} {t : Array Nat} {l ls : Nat} (hp : m.pos < k) (ha : ∀ p, p < k → t.getD p 0 = m.text.getD p 0) (h1 : k ≤ l) (h2 : k ≤ m.lim) :
    (if m.pos ≥ l then (sT m t l ls).say false else
      match accepts m.code m.pc (t.getD m.pos 0) m.seen with
      | .error why => (sT m t l ls).stick why
      | .ok (false, seen) => { sT m t l ls with seen }.say false
      | .ok (true, seen) => { sT m t l ls with seen, pc := m.pc + itemWidth m.code m.pc, pos := m.pos + 1 }) =
    sT (if m.pos ≥ m.lim then m.say false else
      match accepts m.code m.pc (m.text.getD m.pos 0) m.seen with
      | .error why => m.stick why
      | .ok (false, seen) => { m with seen }.say false
      | .ok (true, seen) => { m with seen, pc := m.pc + itemWidth m.code m.pc, pos := m.pos + 1 }) t l ls := by
  rw [if_neg (by omega), if_neg (by omega), ha m.pos hp]
  cases accepts m.code m.pc (m.text.getD m.pos 0) m.seen with
  | error e => rfl
  | ok x => obtain ⟨b, s'⟩ := x; cases b <;> rfl
theorem at_sim {n : M} {t : Array Nat} {l ls : Nat} (hz : n.word 1 = 0) :
    (match (sT n t l ls).isAt ((sT n t l ls).word 1) with
      | .error why => (sT n t l ls).stick why
      | .ok yes => if yes then { { sT n t l ls with seen := (sT n t l ls).seen.add (43 + (sT n t l ls).word 1) } with pc := (sT n t l ls).pc + 2 } else M.say { sT n t l ls with seen := (sT n t l ls).seen.add (43 + (sT n t l ls).word 1) } false) =
    sT (match n.isAt (n.word 1) with
      | .error why => n.stick why
      | .ok yes => if yes then { { n with seen := n.seen.add (43 + n.word 1) } with pc := n.pc + 2 } else M.say { n with seen := n.seen.add (43 + n.word 1) } false) t l ls := by
  have e : (sT n t l ls).word 1 = 0 := hz
  rw [e, hz]
  exact sT_ite (c := (n.pos == 0) = true) rfl rfl
theorem exec_sim {k : Nat} {m : M} {t : Array Nat} {l ls : Nat} (hl : locX k m = true) (ha : ∀ p, p < k → t.getD p 0 = m.text.getD p 0) (h1 : k ≤ l) (h2 : k ≤ m.lim) : (sT m t l ls).exec = sT m.exec t l ls := by
  unfold locX at hl
  simp only [Bool.and_eq_true, Bool.not_eq_true'] at hl
  obtain ⟨⟨hw, hmu⟩, hl⟩ := hl
  unfold M.exec
  have e0 : (sT m t l ls).word 0 = m.word 0 := rfl
  rw [e0]
  cases hop : ops[m.word 0]? with
  | none => rfl
  | some op =>
    rw [hop] at hl
    cases op
    case FAILURE => rfl
    case SUCCESS =>
      dsimp only
      have f1 : (m.outermost && ((m.wholeText && m.pos != m.lim) || (m.mustAdvance && m.pos == m.start))) = false := by rw [hw, hmu]; simp
      have f2 : (m.outermost && ((m.wholeText && m.pos != l) || (m.mustAdvance && m.pos == m.start))) = false := by rw [hw, hmu]; simp
      show (if (m.outermost && ((m.wholeText && m.pos != l) || (m.mustAdvance && m.pos == m.start))) = true then _ else _) = sT (if (m.outermost && ((m.wholeText && m.pos != m.lim) || (m.mustAdvance && m.pos == m.start))) = true then _ else _) t l ls
      rw [f1, f2]; rfl
    case ANY => exact one_sim (m := { m with seen := m.seen.add (m.word 0) }) (of_decide_eq_true hl) ha h1 h2
    case LITERAL => exact one_sim (m := { m with seen := m.seen.add (m.word 0) }) (of_decide_eq_true hl) ha h1 h2
    case IN => exact one_sim (m := { m with seen := m.seen.add (m.word 0) }) (of_decide_eq_true hl) ha h1 h2
    case AT =>
      have hz : m.word 1 = 0 := by simpa using hl
      exact at_sim (n := { m with seen := m.seen.add (m.word 0) }) hz
    case JUMP => rfl
    case INFO => rfl
    case MARK => rfl
    case REPEAT => exact sT_attempt (m := { m with seen := m.seen.add (m.word 0), loops := m.loops.push { pc := m.pc, outer := m.inner }, inner := some m.loops.size }) _ _ _ _
    case MAX_UNTIL => exact sT_until (m := { m with seen := m.seen.add (m.word 0), pc := m.pc + 1 })
    case REPEAT_ONE =>
      dsimp only at hl ⊢
      simp only [Bool.and_eq_true, decide_eq_true_eq] at hl
      obtain ⟨⟨l1, l2⟩, l3⟩ := hl
      cases hr : run m.code m.text (m.pc + 4) (min (m.word 3) ((m.lim : Int) - m.pos).toNat) m.pos 0 ((m.seen.add (m.word 0)).add (m.word 4)) with
      | error e => rw [hr] at l3; cases l3
      | ok x =>
        obtain ⟨n, s'⟩ := x
        rw [hr] at l3
        have l3' : m.pos + n < k := of_decide_eq_true l3
        have key := (run_sim ha _ (min (m.word 3) ((l : Int) - m.pos).toNat) _ _ _ _ _ hr).2 (by omega) (by omega) (by omega)
        show (if ((m.word 2 : Nat) : Int) > (l : Int) - m.pos then _ else
            match run m.code t (m.pc + 4) (min (m.word 3) ((l : Int) - m.pos).toNat) m.pos 0 ((m.seen.add (m.word 0)).add (m.word 4)) with
            | .error why => _
            | .ok (n, seen) => _) = sT (if ((m.word 2 : Nat) : Int) > (m.lim : Int) - m.pos then _ else
            match run m.code m.text (m.pc + 4) (min (m.word 3) ((m.lim : Int) - m.pos).toNat) m.pos 0 ((m.seen.add (m.word 0)).add (m.word 4)) with
            | .error why => _
            | .ok (n, seen) => _) t l ls
        have hA : ¬ ((m.word 2 : Nat) : Int) > (l : Int) - m.pos := by omega
        have hB : ¬ ((m.word 2 : Nat) : Int) > (m.lim : Int) - m.pos := by omega
        rw [if_neg hA, if_neg hB, key, hr]
        exact sT_ite (c := n < m.word 2) (a' := M.say { m with seen := s' } false) rfl (sT_afterRun (m := { m with seen := s', pos := m.pos + n }) .giveBack n (m.keep m.inner.isSome))
    all_goals cases hl

def loc (k : Nat) (m : M) : Bool :=
  if m.outcome.isSome then true else
  match m.answer, m.frames with
  | some _, [] => true
  | some yes, f :: _ => (match f.wait with | .nextStart => yes | .takeMore => false | .minTail => false | .possBelow => false | .possMore => false | _ => true)
  | none, _ => locX k m
theorem step_sim {k : Nat} {m : M} {t : Array Nat} {l ls : Nat} (hl : loc k m = true) (ha : ∀ p, p < k → t.getD p 0 = m.text.getD p 0) (h1 : k ≤ l) (h2 : k ≤ m.lim) : (sT m t l ls).step = sT m.step t l ls := by
  unfold loc at hl
  unfold M.step
  have eo : (sT m t l ls).outcome = m.outcome := rfl
  have ea : (sT m t l ls).answer = m.answer := rfl
  have ef : (sT m t l ls).frames = m.frames := rfl
  rw [eo, ea, ef]
  split
  · rfl
  · rename_i ho
    rw [if_neg ho] at hl
    cases hans : m.answer with
    | some yes =>
      rw [hans] at hl
      cases hfr : m.frames with
      | nil => rfl
      | cons f rest =>
        rw [hfr] at hl
        dsimp only at hl ⊢
        exact resume_sim (m := { m with answer := none, frames := rest, weight := m.weight - (1 + f.kept.marks.size), pc := f.pc, pos := f.pos, outermost := f.outermost }) hl
    | none =>
      rw [hans] at hl
      dsimp only
      exact sT_ite (c := m.pc < m.code.size) (exec_sim hl ha h1 h2) rfl

/-- every step on the way looks at the head alone -/
def locs (k : Nat) : Nat → M → Bool
  | 0, _ => true
  | n + 1, m => if m.outcome.isSome then true else loc k m && locs k n m.step
theorem step_text {k : Nat} {m : M} (hl : loc k m = true) (h2 : k ≤ m.lim) : m.step.text = m.text ∧ m.step.lim = m.lim := by
  have e : m.step = sT m.step m.text m.lim m.lastStart := step_sim (t := m.text) (l := m.lim) (ls := m.lastStart) hl (fun _ _ => rfl) h2 h2
  exact ⟨(congrArg M.text e : m.step.text = (sT m.step m.text m.lim m.lastStart).text), (congrArg M.lim e : m.step.lim = (sT m.step m.text m.lim m.lastStart).lim)⟩
theorem runFor_sim {k : Nat} {t : Array Nat} {l ls : Nat} (h1 : k ≤ l) : ∀ (n : Nat) (m : M), locs k n m = true → (∀ p, p < k → t.getD p 0 = m.text.getD p 0) → k ≤ m.lim → (sT m t l ls).runFor n = sT (m.runFor n) t l ls
  | 0, _, _, _, _ => rfl
  | n + 1, m, hl, ha, h2 => by
    unfold locs at hl
    unfold M.runFor
    have eo : (sT m t l ls).outcome = m.outcome := rfl
    rw [eo]
    split
    · rfl
    · rename_i ho
      rw [if_neg ho, Bool.and_eq_true] at hl
      rw [step_sim hl.1 ha h1 h2]
      obtain ⟨e1, e2⟩ := step_text hl.1 h2
      exact runFor_sim h1 n m.step hl.2 (by rw [e1]; exact ha) (by rw [e2]; exact h2)

/-! a search that begins at the text's head -/
def cTok : Array Nat := #[14, 4, 0, 1, 4294967295, 6, 0, 24, 9, 0, 4294967295, 13, 4, 8, 12, 0, 1, 17, 0, 24, 19, 1, 4294967295, 13, 14, 21, 9, 0, 671092736, 0, 0, 0, 0, 0, 0, 8, 12, 0, 1, 17, 1, 1]
def cQuo : Array Nat := #[14, 4, 0, 3, 4294967295, 6, 0, 24, 9, 0, 4294967295, 13, 4, 8, 12, 0, 1, 16, 61, 24, 9, 0, 4294967295, 13, 4, 8, 12, 0, 1, 16, 34, 17, 0, 24, 12, 0, 4294967295, 13, 7, 21, 16, 34, 16, 92, 0, 1, 23, 19, 0, 4294967295, 16, 92, 2, 24, 12, 0, 4294967295, 13, 7, 21, 16, 34, 16, 92, 0, 1, 18, 17, 1, 16, 34, 1]
def cVal : Array Nat := #[14, 4, 0, 1, 4294967295, 6, 0, 24, 9, 0, 4294967295, 13, 4, 8, 12, 0, 1, 16, 61, 24, 9, 0, 4294967295, 13, 4, 8, 12, 0, 1, 17, 0, 24, 14, 0, 4294967295, 13, 9, 21, 8, 12, 16, 59, 16, 44, 0, 1, 17, 1, 1]
def cTwin : Array Nat := #[14, 4, 0, 0, 4294967295, 6, 0, 24, 13, 0, 4294967295, 13, 8, 16, 61, 8, 12, 16, 59, 0, 1, 1]
/-- what a found match says: its end, its group -/
def hit (m : M) (e g1 g2 : Nat) : Bool := (match m.outcome with | some .matched => true | _ => false) && m.start == 0 && m.handed == e && m.lastmark == 1 && m.lastindex == 1 && m.marks == #[some g1, some g2]
def miss (m : M) : Bool := match m.outcome with | some .failed => true | _ => false
def at0 (code : Array Nat) (g : Nat) (t : List Nat) : M := forSearch code t.toArray g 0 t.length false
theorem runFor_succ (n : Nat) (m : M) : m.runFor (n + 1) = if m.outcome.isSome then m else m.step.runFor n := rfl
theorem runFor_done {m : M} (h : m.outcome.isSome = true) (n : Nat) : m.runFor n = m := by
  cases n with
  | zero => rfl
  | succ n => rw [runFor_succ, if_pos h]
theorem runFor_add (a b : Nat) : ∀ m : M, m.runFor (a + b) = (m.runFor a).runFor b := by
  induction a with
  | zero => intro m; rw [Nat.zero_add]; rfl
  | succ a ih =>
    intro m
    rw [Nat.succ_add, runFor_succ, runFor_succ]
    split
    · rename_i h
      exact (runFor_done h b).symm
    · exact ih _
theorem runFor_one {m : M} (h : m.outcome.isSome = false) : m.runFor 1 = m.step := by rw [runFor_succ, h]; rfl

/-- at a later start an anchored pattern fails, whatever stands there -/
structure Fl (m : M) (s : Nat) : Prop where
  o : m.outcome = none
  a : m.answer = none
  f : ∃ f, m.frames = [f] ∧ f.wait = .nextStart ∧ f.pos = s ∧ f.pc = 5 ∧ f.kept.marks.size = 0
  p : m.pos = s
  pc : m.pc = 5
  c5 : m.code.getD 5 0 = 6
  c6 : m.code.getD 6 0 = 0
  cs : 5 < m.code.size
  hf : m.hasFirstSet = false
  w : m.weight = 1
theorem Fl.go : ∀ (d : Nat) (m : M) (s : Nat), Fl m s → 1 ≤ s → m.lastStart - s ≤ d → ∃ n, n ≤ 2 * d + 4 ∧ miss (m.runFor n) = true
  | d, m, s, F, h1, hd => by
    obtain ⟨f, ff, fw, fp, fc, fk⟩ := F.f
    -- the anchor
    have e1 : m.step = { m with seen := (m.seen.add 6).add 43, answer := some false } := by
      unfold M.step
      have ho : m.outcome.isSome = false := by rw [F.o]; rfl
      rw [ho, F.a]
      have hpc : m.pc < m.code.size := by rw [F.pc]; exact F.cs
      have hw0 : m.word 0 = 6 := by unfold M.word; rw [F.pc]; exact F.c5
      have hw1 : m.word 1 = 0 := by unfold M.word; rw [F.pc]; exact F.c6
      simp only [Bool.false_eq_true, if_false, if_pos hpc]
      unfold M.exec
      rw [hw0]
      show (match M.isAt { m with seen := m.seen.add 6 } (m.word 1) with
        | .error why => _
        | .ok yes => _) = _
      rw [hw1]
      show (if (m.pos == 0) = true then _ else _) = _
      have hp : (m.pos == 0) = false := by rw [F.p]; simp; omega
      rw [hp]
      show M.say { m with seen := (m.seen.add 6).add (43 + m.word 1) } false = _
      rw [hw1]; rfl
    have e2 : m.step.step = (if s < m.lastStart then M.attemptFrom { m with seen := (m.seen.add 6).add 43, answer := none, frames := [], weight := 0, pc := 5, pos := f.pos, outermost := f.outermost, mustAdvance := false } (s + 1) false
        else M.say { m with seen := (m.seen.add 6).add 43, answer := none, frames := [], weight := 0, pc := 5, pos := f.pos, outermost := f.outermost } false) := by
      rw [e1]
      unfold M.step
      simp only [F.o, Option.isSome_none, Bool.false_eq_true, if_false, ff]
      unfold M.resume
      rw [fw]
      simp only [Bool.false_eq_true, if_false, fp, fk, F.w, fc]
    have r2 : m.runFor 2 = m.step.step := by
      have ho : m.outcome.isSome = false := by rw [F.o]; rfl
      have ho2 : m.step.outcome.isSome = false := by rw [e1]; exact ho
      rw [show (2 : Nat) = 1 + 1 from rfl, runFor_add, runFor_one ho, runFor_one ho2]
    by_cases hs : s < m.lastStart
    · rw [if_pos hs] at e2
      cases d with
      | zero => omega
      | succ d =>
        have e3 : m.step.step = { m with seen := (m.seen.add 6).add 43, answer := none, weight := 1, pc := 5, pos := s + 1, outermost := false, mustAdvance := false, start := s + 1, lastmark := (-1 : Int), lastindex := (-1 : Int), «handed» := s + 1, frames := [{ wait := .nextStart, pc := 5, pos := s + 1, outermost := false }] } := by
          rw [e2]
          unfold M.attemptFrom
          have : (!M.hasFirstSet { m with seen := (m.seen.add 6).add 43, answer := none, frames := [], weight := 0, pc := 5, pos := f.pos, outermost := f.outermost, mustAdvance := false }) = true := by
            show (!m.hasFirstSet) = true
            rw [F.hf]; rfl
          rw [if_pos this]
          rfl
        obtain ⟨n, hn, hm⟩ := Fl.go d m.step.step (s + 1) (by
          rw [e3]
          exact ⟨F.o, rfl, ⟨_, rfl, rfl, rfl, rfl, rfl⟩, rfl, rfl, F.c5, F.c6, F.cs, F.hf, rfl⟩) (by omega) (by rw [e3]; show m.lastStart - (s + 1) ≤ d; omega)
        exact ⟨2 + n, by omega, by rw [runFor_add, r2]; exact hm⟩
    · rw [if_neg hs] at e2
      refine ⟨2 + 1, by omega, ?_⟩
      rw [runFor_add, r2, e2, runFor_one (by show m.outcome.isSome = false; rw [F.o]; rfl)]
      have e4 : ∀ n : M, n.outcome = none → n.answer = some false → n.frames = [] → miss n.step = true := by
        intro n h1 h2 h3
        unfold M.step
        rw [h1, h2, h3]
        rfl
      exact e4 _ F.o rfl rfl
/-- the first start has failed -/
def b0 (m : M) : Bool := m.outcome.isNone && m.answer == some false && (match m.frames with
    | [f] => (match f.wait with | .nextStart => true | _ => false) && f.pos == 0 && f.pc == 5 && f.kept.marks.size == 0
    | _ => false) && m.code.getD 5 0 == 6 && m.code.getD 6 0 == 0 && decide (5 < m.code.size) && !m.hasFirstSet && m.weight == 1
theorem b0.miss {m : M} (h : b0 m = true) : ∃ n, n ≤ 2 * m.lastStart + 8 ∧ miss (m.runFor n) = true := by
  unfold b0 at h
  simp only [Bool.and_eq_true, beq_iff_eq, decide_eq_true_eq, Bool.not_eq_true', Option.isNone_iff_eq_none] at h
  obtain ⟨⟨⟨⟨⟨⟨⟨ho, ha⟩, hfr⟩, c5⟩, c6⟩, cs⟩, hf⟩, hw⟩ := h
  split at hfr
  · rename_i f ff
    simp only [Bool.and_eq_true, beq_iff_eq] at hfr
    obtain ⟨⟨⟨fw, fp⟩, fc⟩, fk⟩ := hfr
    have fw' : f.wait = .nextStart := by
      cases hq : f.wait <;> rw [hq] at fw <;> first | rfl | cases fw
    have e2 : m.step = (if 0 < m.lastStart then M.attemptFrom { m with answer := none, frames := [], weight := 0, pc := 5, pos := f.pos, outermost := f.outermost, mustAdvance := false } (0 + 1) false
        else M.say { m with answer := none, frames := [], weight := 0, pc := 5, pos := f.pos, outermost := f.outermost } false) := by
      unfold M.step
      have ho' : m.outcome.isSome = false := by rw [ho]; rfl
      rw [ho', ha, ff]
      simp only [Bool.false_eq_true, if_false]
      unfold M.resume
      rw [fw']
      simp only [Bool.false_eq_true, if_false, fp, fk, hw, fc]
    have r1 : m.runFor 1 = m.step := runFor_one (by rw [ho]; rfl)
    by_cases hs : 0 < m.lastStart
    · rw [if_pos hs] at e2
      have e3 : m.step = { m with answer := none, weight := 1, pc := 5, pos := 1, outermost := false, mustAdvance := false, start := 1, lastmark := (-1 : Int), lastindex := (-1 : Int), «handed» := 1, frames := [{ wait := .nextStart, pc := 5, pos := 1, outermost := false }] } := by
        rw [e2]
        unfold M.attemptFrom
        have : (!M.hasFirstSet { m with answer := none, frames := [], weight := 0, pc := 5, pos := f.pos, outermost := f.outermost, mustAdvance := false }) = true := by
          show (!m.hasFirstSet) = true
          rw [hf]; rfl
        rw [if_pos this]
        rfl
      obtain ⟨n, hn, hm⟩ := Fl.go (m.lastStart - 1) m.step 1 (by rw [e3]; exact ⟨ho, rfl, ⟨_, rfl, rfl, rfl, rfl, rfl⟩, rfl, rfl, c5, c6, cs, hf, rfl⟩) (Nat.le_refl _) (by rw [e3]; exact Nat.le_refl _)
      exact ⟨1 + n, by omega, by rw [runFor_add, r1]; exact hm⟩
    · rw [if_neg hs] at e2
      refine ⟨1 + 1, by omega, ?_⟩
      rw [runFor_add, r1, e2, runFor_one (by show m.outcome.isSome = false; rw [ho]; rfl)]
      have e4 : ∀ n : M, n.outcome = none → n.answer = some false → n.frames = [] → Mine.miss n.step = true := by
        intro n h1 h2 h3
        unfold M.step
        rw [h1, h2, h3]
        rfl
      exact e4 _ ho rfl rfl
  · cases hfr

def noFirst (code : Array Nat) : Bool := !((match ops[code.getD 0 0]? with | some .INFO => true | _ => false) && code.getD 2 0 == 4)
theorem start_sim {code : Array Nat} {g : Nat} {t t0 : List Nat} (hf : noFirst code = true) (h0 : (header code).1 ≤ t0.length) (h1 : (header code).1 ≤ t.length) :
    ∃ ls, ls ≤ t.length ∧ at0 code g t = sT (at0 code g t0) t.toArray t.length ls := by
  have c0 : ¬ ((0 > t0.length || decide (t0.length - 0 < (header code).1)) = true) := by simp; omega
  have c1 : ¬ ((0 > t.length || decide (t.length - 0 < (header code).1)) = true) := by simp; omega
  unfold at0 forSearch
  simp only []
  rw [if_neg c0, if_neg c1]
  have hq : ∀ m : M, m.code = code → (!m.hasFirstSet) = true := fun m e => by unfold M.hasFirstSet; rw [e]; exact hf
  refine ⟨if (decide ((header code).1 > 1) && !((header code).2 != 0 && code.getD 2 0 &&& 5 != 0)) = true then max 0 (t.length - ((header code).1 - 1)) else t.length, ?_, ?_⟩
  · split
    · simp
    · exact Nat.le_refl _
  · unfold M.attemptFrom
    rw [if_pos (hq _ rfl), if_pos (hq _ rfl)]
    rfl
theorem at0_text {code : Array Nat} {g : Nat} {t : List Nat} (hf : noFirst code = true) (h1 : (header code).1 ≤ t.length) : (at0 code g t).text = t.toArray ∧ (at0 code g t).lim = t.length := by
  obtain ⟨ls, _, e⟩ := start_sim (g := g) (t := t) (t0 := t) hf h1 h1
  exact ⟨(congrArg M.text e : _ = (sT (at0 code g t) t.toArray t.length ls).text), (congrArg M.lim e : _ = (sT (at0 code g t) t.toArray t.length ls).lim)⟩
theorem agree_pre (pre a b : List Nat) : ∀ p, p < pre.length → (pre ++ a).toArray.getD p 0 = (pre ++ b).toArray.getD p 0 := fun p hp => by
  simp [Array.getD, List.getElem_append_left hp, Nat.lt_of_lt_of_le hp (Nat.le_add_right _ _)]
theorem search_hit {code : Array Nat} {g n e g1 g2 : Nat} {pre a b : List Nat} (hf : noFirst code = true) (h0 : (header code).1 ≤ pre.length)
    (h : hit ((at0 code g (pre ++ a)).runFor n) e g1 g2 = true) (hl : locs pre.length n (at0 code g (pre ++ a)) = true) : hit ((at0 code g (pre ++ b)).runFor n) e g1 g2 = true := by
  obtain ⟨ls, _, e1⟩ := start_sim (g := g) (t := pre ++ b) (t0 := pre ++ a) hf (by rw [List.length_append]; omega) (by rw [List.length_append]; omega)
  have e2 := at0_text (g := g) (t := pre ++ a) hf (by rw [List.length_append]; omega)
  rw [e1, runFor_sim (by rw [List.length_append]; omega) n _ hl (by rw [e2.1]; exact agree_pre pre b a) (by rw [e2.2, List.length_append]; omega)]
  exact h
theorem search_miss {code : Array Nat} {g n : Nat} {pre a b : List Nat} (hf : noFirst code = true) (h0 : (header code).1 ≤ (pre ++ a).length)
    (h : b0 ((at0 code g (pre ++ a)).runFor n) = true) (hl : locs pre.length n (at0 code g (pre ++ a)) = true) : ∃ k, k ≤ n + 2 * (pre ++ b).length + 10 ∧ miss ((at0 code g (pre ++ b)).runFor k) = true := by
  by_cases h1 : (header code).1 ≤ (pre ++ b).length
  · obtain ⟨ls, hls, e1⟩ := start_sim (g := g) (t := pre ++ b) (t0 := pre ++ a) hf h0 h1
    have e2 := at0_text (g := g) (t := pre ++ a) hf h0
    have e3 := runFor_sim (t := (pre ++ b).toArray) (l := (pre ++ b).length) (ls := ls) (by rw [List.length_append]; omega) n _ hl (by rw [e2.1]; exact agree_pre pre b a) (by rw [e2.2, List.length_append]; omega)
    have hb : b0 (sT ((at0 code g (pre ++ a)).runFor n) (pre ++ b).toArray (pre ++ b).length ls) = true := h
    obtain ⟨k, hk, hm⟩ := b0.miss hb
    have hk' : k ≤ 2 * ls + 8 := hk
    refine ⟨n + k, by omega, ?_⟩
    rw [runFor_add, e1, e3]; exact hm
  · refine ⟨1, by omega, ?_⟩
    have c1 : (decide (0 > (pre ++ b).length) || decide ((pre ++ b).length - 0 < (header code).1)) = true := by simp only [Bool.or_eq_true, decide_eq_true_eq]; omega
    unfold at0 forSearch
    simp only []
    rw [if_pos c1, runFor_one rfl]
    rfl
example : hit ((at0 cTok 1 [107]).runFor 40) 1 0 1 = true := by decide +kernel
example : hit ((at0 cTok 1 [107, 59]).runFor 40) 1 0 1 = true := by decide +kernel
example : locs 2 40 (at0 cTok 1 [107, 59]) = true := by decide +kernel
example : hit ((at0 cQuo 1 [61, 34, 97, 92, 34, 98, 34, 59]).runFor 100) 7 2 6 = true := by decide +kernel
example : locs 8 100 (at0 cQuo 1 [61, 34, 97, 92, 34, 98, 34, 59]) = true := by decide +kernel
example : hit ((at0 cVal 1 [61, 55, 59]).runFor 100) 2 1 2 = true := by decide +kernel
example : locs 3 100 (at0 cVal 1 [61, 55, 59]) = true := by decide +kernel
open PySem.Builtin.Re
abbrev patO (p : String) (tp tf : Tok) (g : Int) (ct : Addr) : Obj := fldO "re.Pattern" [.str (Str.ofString p) tp, .int 32 tf, rawInt g, .none, .none, .ref ct, rawInt 0]
abbrev codO (c : List Int) : Obj := tupO (c.map rawInt)
theorem named1 (id f : String) (v : Value) : reNamed id f ["string", "pos", "endpos"] 1 [v] [] = pure [some v, none, none] := by rfl
section
variable {c : Cx} {m : Nm} {nw : Nw}
theorem H_neg {α : Type} {p : Prop} [Decidable p] {a b : Sem α} {Q : α → Nm → Nw → Prop} (hn : ¬ p) (h : HH c m nw b Q) : HH c m nw (if p then a else b) Q := by rw [if_neg hn]; exact h
theorem H_pos {α : Type} {p : Prop} [Decidable p] {a b : Sem α} {Q : α → Nm → Nw → Prop} (hn : p) (h : HH c m nw a Q) : HH c m nw (if p then a else b) Q := by rw [if_pos hn]; exact h
theorem H_fieldsOfK {a : Addr} {o : Obj} {vs : Array Value} {Q : Array Value → Nm → Nw → Prop} (hl : (KF c.w).lookup a = some o) (hd : o.data = .fields vs) (h : Q vs m nw) : HH c m nw (fieldsOf (.ref a)) Q :=
  fun _ _ G => wpAny_fieldsOf (G.fm.getK hl) hd ⟨_, _, G, h⟩
theorem H_seqItemsK {a : Addr} {o : Obj} {vs : Array Value} {n : Nat} {Q : Option (Array Value) → Nm → Nw → Prop} (hl : (KF c.w).lookup a = some o) (hd : o.data = .seq vs n) (h : Q (some vs) m nw) : HH c m nw (seqItems? (.ref a)) Q :=
  fun _ _ G => wpAny_seqItems (G.fm.getK hl) hd ⟨_, _, G, h⟩
theorem H_reTarget {id f : String} {pat ct : Addr} {p : String} {tp tf : Tok} {g : Nat} {cd : List Int} {l : List Nat} {t : Tok} {Q : ReTarget → Nm → Nw → Prop}
    (hp : (KF c.w).lookup pat = some (patO p tp tf g ct)) (hc : (KF c.w).lookup ct = some (codO cd)) (hz : l.length ≤ 1000000)
    (h : Q { pattern := .ref pat, string := .str (S l) t, code := (cd.map (·.toNat)).toArray, text := l.toArray, kind := 0, groups := g, pos := 0, lim := l.length } m nw) :
    HH c m nw (reTarget id f ⟨[.ref pat, .str (S l) t], []⟩) Q := by
  unfold reTarget
  dsimp only
  rw [named1]
  refine H_bind (H_pure ?_)
  dsimp only
  refine H_bind (H_pure ?_)
  refine H_bind (H_pure ?_)
  refine H_bind (H_fieldsOfK hp rfl ?_)
  have e1 : reTextOf (.str (S l) t) = pure (l.toArray, 0) := rfl
  rw [e1]
  refine H_bind (H_pure ?_)
  dsimp only
  refine H_neg (by simp) ?_
  refine H_neg (by simp [reRawNat, rawInt]) ?_
  refine H_bind (t := reNoCollectionInside (.str (S l) t) 0) (H_pure ?_)
  refine H_bind ?_
  show HH c m nw (reRawItems (.ref ct)) _
  unfold reRawItems
  refine H_bind (H_seqItemsK hc rfl ?_)
  refine H_pure (H_pure ?_)
  have e2 : Array.map (fun x : Int => x.toNat) (Array.map reRawOf ((some (List.map rawInt cd).toArray).getD #[])) = (cd.map (·.toNat)).toArray := by
    simp [Function.comp_def, reRawOf, rawInt]
  rw [e2]
  have e3 : min (Int.toNat 0) l.toArray.size = 0 := by simp
  have e4 : min (((2 : Int) ^ 63 - 1).toNat) l.toArray.size = l.length := by
    rw [List.size_toArray]
    have : ((2 : Int) ^ 63 - 1).toNat = 9223372036854775807 := by decide
    rw [this]; omega
  rw [e3, e4]
  exact h
/-- the machine to its end -/
theorem H_reDrive : ∀ (turns n : Nat) (M : Sre.M) (Q : Sre.M → Nm → Nw → Prop), (M.runFor n).outcome.isSome = true → n ≤ 4 * turns → 0 < turns → Q (M.runFor n) m nw → HH c m nw (reDrive turns M) Q
  | 0, _, _, _, _, _, h0, _ => absurd h0 (Nat.lt_irrefl _)
  | turns + 1, n, M, Q, ho, hn, _, hq => by
    unfold reDrive
    dsimp only
    by_cases h4 : n ≤ 4
    · have e : M.runFor reTurnSteps = M.runFor n := by
        show M.runFor 4 = _
        rw [show (4 : Nat) = n + (4 - n) by omega, runFor_add, runFor_done ho]
      rw [e]
      exact H_pos ho (H_pure hq)
    · have e : M.runFor n = (M.runFor reTurnSteps).runFor (n - 4) := by
        show _ = (M.runFor 4).runFor (n - 4)
        rw [← runFor_add]; congr 1; omega
      rw [e] at ho hq
      by_cases h5 : (M.runFor reTurnSteps).outcome.isSome = true
      · rw [runFor_done h5] at hq
        exact H_pos h5 (H_pure hq)
      · exact H_neg h5 (H_bind (H_rule (H_reDrive turns (n - 4) _ Q ho (by omega) (by omega) hq)))
theorem H_forRules {l : List Nat} {M : Sre.M} {Q : PUnit → Nm → Nw → Prop} (h : Q ⟨⟩ m nw) :
    HH c m nw (forIn l PUnit.unit fun i r => if M.seen.has i = true then (do rule (Sre.names.getD i ""); pure (ForInStep.yield PUnit.unit)) else pure (ForInStep.yield PUnit.unit)) Q := by
  induction l with
  | nil => exact H_pure h
  | cons i l ih =>
    rw [List.forIn_cons]
    refine H_bind ?_
    by_cases hs : M.seen.has i = true
    · exact H_pos hs (H_bind (H_rule (H_pure ih)))
    · exact H_neg hs (H_pure ih)
theorem H_runToEnd {M : Sre.M} {n : Nat} {Q : Option Sre.M → Nm → Nw → Prop} (hn : n ≤ 100000000)
    (h : (miss (M.runFor n) = true ∧ Q none m nw) ∨ ((match (M.runFor n).outcome with | some .matched => true | _ => false) = true ∧ Q (some (M.runFor n)) m nw)) : HH c m nw (reRunToEnd M) Q := by
  unfold reRunToEnd
  have ho : (M.runFor n).outcome.isSome = true := by
    rcases h with h | h
    · have := h.1; unfold miss at this
      cases hq : (M.runFor n).outcome with
      | none => rw [hq] at this; cases this
      | some x => rfl
    · have := h.1
      cases hq : (M.runFor n).outcome with
      | none => rw [hq] at this; cases this
      | some x => rfl
  refine H_bind (H_reDrive (2 ^ 64) n M _ ho (by omega) (by omega) ?_)
  refine H_bind ?_
  refine H_mono (Q' := fun _ m' nw' => m' = m ∧ nw' = nw) (H_forRules ⟨rfl, rfl⟩) ?_
  rintro _ m' nw' ⟨rfl, rfl⟩
  rcases h with ⟨h, hq⟩ | ⟨h, hq⟩
  · unfold miss at h
    split at h
    · rename_i e; rw [e]; exact H_pure hq
    · cases h
  · split at h
    · rename_i e; rw [e]; exact H_pure hq
    · cases h

/-- what the call brings back where nothing is found -/
theorem H_search_miss {pat ct : Addr} {p : String} {tp tf : Tok} {g : Nat} {cd : List Int} {code : Array Nat} {l : List Nat} {t : Tok} {n : Nat} {Q : Value → Nm → Nw → Prop}
    (hp : (KF c.w).lookup pat = some (patO p tp tf g ct)) (hc : (KF c.w).lookup ct = some (codO cd)) (hcode : (cd.map (·.toNat)).toArray = code) (hz : l.length ≤ 1000000) (hn : n ≤ 100000000)
    (hm : miss ((at0 code g l).runFor n) = true) (h : Q .none m nw) : HH c m nw (call (.builtin "re.Pattern.search") [.ref pat, .str (S l) t]) Q := by
  refine H_entry slot_re_Pattern_search (TyAt.K hp) entry_re_Pattern_search (args_re_Pattern_search _ _) ?_
  unfold Builtin.«re.Pattern.search»
  refine H_bind (H_reTarget (c := c.up) hp hc hz ?_)
  dsimp only
  rw [hcode]
  unfold reAnswer
  refine H_bind (H_runToEnd hn (.inl ⟨hm, ?_⟩))
  exact H_pure ⟨_, rfl, h⟩
theorem H_newMatch {pat : Addr} {l : List Nat} {t : Tok} {M : Sre.M} {e g1 g2 p lim : Nat} {Q : Value → Nm → Nw → Prop} {b : Nat} (h2 : M.start = b) (h3 : M.handed = e) (h4 : M.lastmark = 1) (h5 : M.lastindex = 1) (h6 : M.marks = #[some g1, some g2]) (hg : g1 ≤ g2)
    (h : ∀ a sp, Q (.ref a) m ((a, mO (S l) t pat p lim 1 sp) :: (sp, tupO [rawInt b, rawInt e, rawInt g1, rawInt g2]) :: nw)) :
    HH c m nw (reNewMatch (.ref pat) (.str (S l) t) 1 p lim M) Q := by
  unfold reNewMatch
  dsimp only
  rw [h2, h3, h4, h5, h6]
  refine H_neg ?_ ?_
  · show ¬ (((decide (((2 * 0 + 1 : Nat) : Int) ≤ 1) && decide (g2 < g1)) || false) = true)
    simp; omega
  · refine H_bind ?_
    show HH c m nw (newTuple [rawInt b, rawInt e, rawInt g1, rawInt g2]) _
    refine H_newTuple (fun sp => ?_) (show 4 ≤ sizeLine by decide)
    exact H_newFields (fun a => h a sp) (show 6 ≤ sizeLine by decide)
theorem H_search_hit {pat ct : Addr} {p : String} {tp tf : Tok} {cd : List Int} {code : Array Nat} {l : List Nat} {t : Tok} {n e g1 g2 : Nat} {Q : Value → Nm → Nw → Prop}
    (hp : (KF c.w).lookup pat = some (patO p tp tf 1 ct)) (hc : (KF c.w).lookup ct = some (codO cd)) (hcode : (cd.map (·.toNat)).toArray = code) (hz : l.length ≤ 1000000) (hn : n ≤ 100000000)
    (hm : hit ((at0 code 1 l).runFor n) e g1 g2 = true) (hg : g1 ≤ g2) (h : ∀ a sp, Q (.ref a) m ((a, mO (S l) t pat 0 l.length 1 sp) :: (sp, tupO [rawInt 0, rawInt e, rawInt g1, rawInt g2]) :: nw)) :
    HH c m nw (call (.builtin "re.Pattern.search") [.ref pat, .str (S l) t]) Q := by
  refine H_entry slot_re_Pattern_search (TyAt.K hp) entry_re_Pattern_search (args_re_Pattern_search _ _) ?_
  unfold Builtin.«re.Pattern.search»
  refine H_bind (H_reTarget (c := c.up) (g := 1) hp hc hz ?_)
  dsimp only
  rw [hcode]
  unfold reAnswer
  unfold hit at hm
  simp only [Bool.and_eq_true, beq_iff_eq] at hm
  obtain ⟨⟨⟨⟨⟨h1, h2⟩, h3⟩, h4⟩, h5⟩, h6⟩ := hm
  refine H_bind (H_runToEnd hn (.inr ⟨h1, ?_⟩))
  refine H_bind (H_newMatch (b := 0) (p := 0) (lim := l.length) h2 h3 h4 h5 h6 hg fun a sp => ?_)
  exact H_pure ⟨_, rfl, h a sp⟩
end
theorem lk_48 (w : World) : (KF w).lookup 48 = some (patO "^\\s*([^=\\s;,]+)" 322 367 1 47) := by kernel_rfl
theorem lk_47 (w : World) : (KF w).lookup 47 = some (codO [14, 4, 0, 1, 4294967295, 6, 0, 24, 9, 0, 4294967295, 13, 4, 8, 12, 0, 1, 17, 0, 24, 19, 1, 4294967295, 13, 14, 21, 9, 0, 671092736, 0, 0, 0, 0, 0, 0, 8, 12, 0, 1, 17, 1, 1]) := by kernel_rfl
theorem lk_53 (w : World) : (KF w).lookup 53 = some (patO "^\\s*=\\s*\\\"([^\\\"\\\\]*(?:\\\\.[^\\\"\\\\]*)*)\\\"" 370 445 1 52) := by kernel_rfl
theorem lk_52 (w : World) : (KF w).lookup 52 = some (codO [14, 4, 0, 3, 4294967295, 6, 0, 24, 9, 0, 4294967295, 13, 4, 8, 12, 0, 1, 16, 61, 24, 9, 0, 4294967295, 13, 4, 8, 12, 0, 1, 16, 34, 17, 0, 24, 12, 0, 4294967295, 13, 7, 21, 16, 34, 16, 92, 0, 1, 23, 19, 0, 4294967295, 16, 92, 2, 24, 12, 0, 4294967295, 13, 7, 21, 16, 34, 16, 92, 0, 1, 18, 17, 1, 16, 34, 1]) := by kernel_rfl
theorem lk_58 (w : World) : (KF w).lookup 58 = some (patO "^\\s*=\\s*([^\\s;,]*)" 448 500 1 57) := by kernel_rfl
theorem lk_57 (w : World) : (KF w).lookup 57 = some (codO [14, 4, 0, 1, 4294967295, 6, 0, 24, 9, 0, 4294967295, 13, 4, 8, 12, 0, 1, 16, 61, 24, 9, 0, 4294967295, 13, 4, 8, 12, 0, 1, 17, 0, 24, 14, 0, 4294967295, 13, 9, 21, 8, 12, 16, 59, 16, 44, 0, 1, 17, 1, 1]) := by kernel_rfl
theorem lk_36 (w : World) : (KF w).lookup 36 = some (patO "^[=\\s;]*" 285 310 0 35) := by kernel_rfl
theorem lk_35 (w : World) : (KF w).lookup 35 = some (codO [14, 4, 0, 0, 4294967295, 6, 0, 24, 13, 0, 4294967295, 13, 8, 16, 61, 8, 12, 16, 59, 0, 1, 1]) := by kernel_rfl
theorem lk_63 (w : World) : (KF w).lookup 63 = some (patO "\\\\(.)" 503 523 1 62) := by kernel_rfl
theorem lk_62 (w : World) : (KF w).lookup 62 = some (codO [14, 8, 1, 2, 2, 1, 1, 92, 0, 16, 92, 17, 0, 2, 17, 1, 1]) := by kernel_rfl
theorem lk_75 (w : World) : (KF w).lookup 75 = some (patO "[!#$%&'*+\\-.^_`|~0-9A-Za-z]+" 542 568 0 74) := by kernel_rfl
theorem lk_74 (w : World) : (KF w).lookup 74 = some (codO [14, 4, 0, 1, 4294967295, 24, 16, 1, 4294967295, 13, 11, 9, 0, 67071226, 3355443198, 1476395007, 0, 0, 0, 0, 0, 1, 1]) := by kernel_rfl
theorem lk_80 (w : World) : (KF w).lookup 80 = some (patO "([\\\"\\\\])" 571 596 1 79) := by kernel_rfl
theorem lk_79 (w : World) : (KF w).lookup 79 = some (codO [14, 9, 4, 1, 1, 16, 34, 16, 92, 0, 17, 0, 13, 6, 16, 34, 16, 92, 0, 17, 1, 1]) := by kernel_rfl
section
variable {c : Cx} {m : Nm} {nw : Nw}
end
section
variable {c : Cx} {m : Nm} {nw : Nw} {env : Env}
theorem H_truthy_str {l : List Nat} {t : Tok} {Q : Bool → Nm → Nw → Prop} (hz : l.length ≤ 1000000) (h : Q (!l.isEmpty) m nw) : HH c m nw (truthy (.str (S l) t)) Q := fun A s G =>
  PySem.P.truthy_str (by rw [S_length]; omega) ⟨_, _, G.toks _, by
    rw [S_length]
    have : ((l.length : Int) != 0) = !l.isEmpty := by cases l <;> simp <;> omega
    rw [this]; exact h⟩
theorem H_truthy_none {Q : Bool → Nm → Nw → Prop} (h : Q false m nw) : HH c m nw (truthy .none) Q := fun A s G => fun _ _ _ => ⟨_, _, G, h⟩
theorem H_truthy_match {a : Addr} {Q : Bool → Nm → Nw → Prop} (hT : TyAt c m nw (.ref a) "re.Match") (h : Q true m nw) : HH c m nw (truthy (.ref a)) Q := fun A s G => by
  unfold truthy
  refine wpAny_bind (wpAny_callSpecial?_none (hT A s G).1 nobool_reM ?_)
  refine wpAny_bind (wpAny_specialOf (hT A s G).1 nolen_reM ?_)
  exact wpAny_pure ⟨_, _, G, h⟩
theorem H_truthy_list {a : Addr} {vs : List Value} {n : Nat} {Q : Bool → Nm → Nw → Prop} (hm : (a, listO vs n) ∈ nw) (hz : vs.length ≤ 1000000) (h : Q (!vs.isEmpty) m nw) : HH c m nw (truthy (.ref a)) Q := fun A s G =>
  wpAny_truthy_list (items := vs.toArray) ⟨_, G.fm.get hm, rfl, n, rfl⟩ (by rw [List.size_toArray]; omega) ⟨_, _, G.toks _, by
    have : (!vs.toArray.isEmpty) = !vs.isEmpty := by simp
    rw [this]; exact h⟩

theorem H_lstrip {l : List Nat} {t : Tok} {Q : Value → Nm → Nw → Prop} (hz : l.length ≤ 1000000) (h : ∀ t', Q (.str (Txt.lstrip (S l)) t') m nw) : HH c m nw (call (.builtin "str.lstrip") [.str (S l) t]) Q := fun A s G =>
  SC.lstrip (fun t' k => ⟨_, _, G.toks k, h t'⟩) (by rw [S_length]; exact Nat.le_trans hz (by decide))
theorem H_rstrip {l : List Nat} {t : Tok} {Q : Value → Nm → Nw → Prop} (hz : l.length ≤ 1000000) (h : ∀ t', Q (.str (Txt.rstrip (S l)) t') m nw) : HH c m nw (call (.builtin "str.rstrip") [.str (S l) t]) Q := fun A s G =>
  SC.rstrip (fun t' k => ⟨_, _, G.toks k, h t'⟩) (by rw [S_length]; exact Nat.le_trans hz (by decide))
theorem H_startswith {x y : Str} {t u : Tok} {Q : Value → Nm → Nw → Prop} (h : Q (.bool (Txt.startswith x y)) m nw) : HH c m nw (call (.builtin "str.startswith") [.str x t, .str y u]) Q := fun A s G =>
  SC.startswith ⟨_, _, G, h⟩
theorem H_append {a : Addr} {vs : List Value} {n : Nat} {v : Value} {nw' : Nw} {Q : Value → Nm → Nw → Prop} (U : Up a (listO vs n) (listO (vs ++ [v]) (n + 1)) nw nw') (hz : vs.length ≤ 1000000) (h : Q .none m nw') :
    HH c m nw (call (.builtin "list.append") [.ref a, v]) Q := fun A s G => by
  have ho := G.fm.get U.mem
  refine wpAny_call_entry slot_list_append ⟨_, ho, rfl⟩ entry_list_append ?_ (args_list_append _ _)
  show wpAny _ _ (updateSeq a (·.push v) >>= fun _ => ret .none) _ _ s
  refine wpAny_bind (wpAny_updateSeq (xs := vs.toArray) (n := n) ho rfl (wpAny_pure ⟨.none, rfl, _, _, G.heap' (G.fm.upd U ?_ rfl rfl), h⟩) (by rw [List.size_toArray]; exact Nat.le_trans hz (by decide)) (by simp; exact Nat.le_trans hz (by decide)))
  show Obj.mapSeq (·.push v) (listO vs n) = listO (vs ++ [v]) (n + 1)
  simp [Obj.mapSeq]

/-! while -/
theorem H_while {test : Expr} {body : List Stmt} {pos : Pos} {rest : List Stmt} {Q : Flow → Nm → Nw → Prop} (I : Nat → Nm → Nw → Prop) (n : Nat) (h0 : I n m nw)
    (turn : ∀ n m nw, I n m nw → HH c m nw (isTrue test env (eval test env)) fun b m₁ nw₁ => Br b (HH c m₁ nw₁ (execs body env) fun fl m₂ nw₂ => fl = .next ∧ ∃ k, k < n ∧ I k m₂ nw₂) (HH c m₁ nw₁ (execs rest env) Q)) :
    HH c m nw (execs (.While test body [] pos :: rest) env) Q :=
  H_cons fun A s G => by
    refine wpAny_While (codeAny_whileLoop (fun n s' => ∃ m' nw', Gd c m' nw' A s' ∧ I n m' nw') ?_ n ⟨m, nw, G, h0⟩)
    rintro n s ⟨m, nw, G, hI⟩
    refine (turn n m nw hI).go A s G fun b s₁ m₁ nw₁ G₁ h₁ => ?_
    cases b with
    | true =>
      rw [if_pos rfl]
      refine (h₁.1 rfl).go A s₁ G₁ fun fl s₂ m₂ nw₂ G₂ h₂ => ?_
      obtain ⟨rfl, k, hk, hI'⟩ := h₂
      exact ⟨k, hk, m₂, nw₂, G₂, hI'⟩
    | false =>
      rw [if_neg Bool.false_ne_true]
      exact wpAny_execs_nil ⟨m₁, nw₁, G₁, h₁.2 rfl⟩
end
theorem codeAmong_append {pos : Pos} {r : List Value} : ∀ {l : List Value}, TriplesOk l → codeAmong pos (l ++ r) = (codeAmong pos l).or (codeAmong pos r) := by
  intro l h
  fun_induction TriplesOk l with
  | case1 => simp [codeAmong]
  | case2 a t b u x rest ih =>
    show codeAmong pos (.int a t :: .int b u :: x :: (rest ++ r)) = _
    simp only [codeAmong]
    split
    · rfl
    · exact ih h
  | case3 => exact absurd h (by simp)
abbrev lamO (qual : Str) (params : Arguments) (body : Expr) (scope : Scope) (clos : List (Str × Addr)) (pm cv ctv : Value) : Obj :=
  { cls := .type "function", data := .func (kla_fn "<lambda>" qual params body scope clos pm cv ctv) }
section
variable {c : Cx} {m : Nm} {nw : Nw}
/-- a code record stays among the hidden ones where a table grows -/
theorem CodeIn.grow {hid : Nw} {P c' : Addr} {ps : Array Value} {o1 o2 : Obj} {cv : Value} {q : Str} (x : CodeIn hid cv q) (hP : (P, tabObj ps) ∈ hid) (hn : (hid.map (·.1)).Nodup) (ht : TriplesOk ps.toList) :
    CodeIn ((c', o1) :: (P, o2) :: hid.filter fun p => !decide (p.1 = P)) cv q := by
  obtain ⟨a, oc, vs, t, e, hm, hd, hv⟩ := x
  refine ⟨a, oc, vs, t, e, .tail _ (.tail _ (List.mem_filter.mpr ⟨hm, ?_⟩)), hd, hv⟩
  simp only [Bool.not_eq_true', decide_eq_false_iff_not]
  rintro rfl
  have : oc = tabObj ps := by
    have key : ∀ {l : Nw}, (l.map (·.1)).Nodup → ∀ {a : Addr} {x y : Obj}, (a, x) ∈ l → (a, y) ∈ l → x = y := by
      intro l
      induction l with
      | nil => intro _ _ _ _ h; cases h
      | cons p l ih =>
        intro hn a x y h1 h2
        rw [List.map_cons, List.nodup_cons] at hn
        rcases List.mem_cons.mp h1 with e1 | e1 <;> rcases List.mem_cons.mp h2 with e2 | e2
        · have := e1.trans e2.symm; simpa using this
        · exact absurd (List.mem_map_of_mem e2) (by rw [← e1] at hn; exact hn.1)
        · exact absurd (List.mem_map_of_mem e1) (by rw [← e2] at hn; exact hn.1)
        · exact ih hn.2 e1 e2
    exact key hn hm hP
  subst this
  cases hd
  exact triples_no_str ht q t (by rw [Array.getElem?_toList]; exact hv)

theorem H_Lambda {cs : Scope} {cl : List (Str × Addr)} {q : Str} {fo : Option Addr} {code P : Addr} {fr : Option Addr} {params : Arguments} {body : Expr} {scope : Scope} {pos : Pos} {clos : List (Str × Addr)} {Q : Value → Nm → Nw → Prop}
    (hc : (code, P) ∈ tabs5) (hq : q ++ ("<lambda>" : Str) = qualAt P) (hdef : defaultsOf params (envG cs c.L cl q fo (.ref code) fr) = ([], [])) (hcl : closureFor scope (envG cs c.L cl q fo (.ref code) fr) = pure clos)
    (h : ∀ f pm cv ctv, Q (.ref f) m ((f, lamO (q ++ ("<lambda>" : Str)) params body scope clos pm cv ctv) :: nw)) :
    HH c m nw (eval (.Lambda params body scope pos) (envG cs c.L cl q fo (.ref code) fr)) Q := fun A s G => by
  refine kla_eval hdef ?_
  obtain ⟨hid, hok, hfo, l⟩ := G.fm.led
  obtain ⟨mf, hns, hmf⟩ := G.fm.ns
  obtain ⟨p, lo, me, mg, mb, T⟩ := G.fm.base.T
  obtain ⟨ps, hPm, htr, hcodes⟩ := hok.tab (code, P) hc
  have hPl := l.1 (P, tabObj ps) (List.mem_append_right _ hPm)
  have hgs := T.g.keeps G.fm.keep
  have hC : CodeHd s.heap code P := (G.fm.base.C (code, P) hc).keeps G.fm.keep
  obtain ⟨bm, ob, b1, b2, b3, b4, b5, b6⟩ := T.bmain
  have hgP : mainGlobals ≠ P := fun e => by
    obtain ⟨o, es, ep, e1, hd, _⟩ := hgs
    rw [e, hPl.1] at e1; cases e1; cases hd
  have hbP : bm ≠ P := fun e => by
    have e1 := G.fm.keep _ _ b3
    rw [e, hPl.1] at e1; cases e1; cases b4
  have hbG : bm ≠ mainGlobals := fun e => by
    obtain ⟨o, es, ep, e1, hd, _⟩ := T.g
    rw [e, e1] at b3; cases b3; rw [hd] at b6; cases b6
  have hB : s.heap.BuiltinsAt mg P := ⟨bm, ob, b1, b2, hbG, hbP, G.fm.keep _ _ b3, b4, b5, b6⟩
  have hnh : (hid.map (·.1)).Nodup := by
    have := l.2; rw [List.map_append] at this
    exact (List.nodup_append.mp this).2.1
  have fresh : ∀ b, s.heap.objs.size ≤ b → c.g.get? b = none := fun b hb => by
    cases e : c.g.get? b with
    | none => rfl
    | some o => exact absurd (Heap.lt_size (G.fm.keep _ _ e)) (Nat.not_lt.mpr hb)
  cases hcm : codeAmong pos ps.toList with
  | some cv =>
    obtain ⟨a, oc, vs, t, e, hm', hd', hv'⟩ := hcodes pos cv hcm
    refine kla_makeFunctionHit (mg := mg) (cv := cv) hcl rfl hgs rfl hC hPl.1 htr hcm hB fun ctv h' tk hk hsz => ?_
    refine ⟨m, (h'.objs.size, lamO (q ++ ("<lambda>" : Str)) params body scope clos ((mg "__name__").getD .none) cv ctv) :: nw, ?_, h _ _ _ _⟩
    refine ⟨G.hh, G.hd, G.hu, ⟨⟨mf, (hns.keeps hk).push _, hmf⟩, fun b o e => Heap.get?_push_of_some _ (hk _ _ (G.fm.keep b o e)), G.fm.above, G.fm.base, hid, hok, ?_, ?_, ?_⟩, G.gn, G.os⟩
    · intro r hr fd hfd
      rcases List.mem_cons.mp hr with rfl | hr
      · cases hfd
        exact ⟨a, oc, vs, t, e, hm', hd', hq ▸ hv'⟩
      · exact hfo r hr fd hfd
    · intro r hr
      rcases List.mem_cons.mp (show r ∈ (_, _) :: (nw ++ hid) from hr) with rfl | hr
      · exact ⟨Heap.get?_push_size _ rfl, Nat.ne_of_gt (Nat.lt_of_lt_of_le hns.lt hsz), fresh _ hsz⟩
      · exact ⟨Heap.get?_push_of_some _ (hk _ _ (l.1 r hr).1), (l.1 r hr).2⟩
    · show (h'.objs.size :: (nw ++ hid).map (·.1)).Nodup
      refine List.nodup_cons.mpr ⟨fun hm => ?_, l.2⟩
      obtain ⟨r, hr, e⟩ := List.mem_map.mp hm
      exact absurd (l.lt hr) (by rw [e]; exact Nat.not_lt.mpr hsz)
  | none =>
    refine kla_makeFunction (mg := mg) hcl rfl hgs rfl hC hPl.1 htr hcm hgP hB fun c' ctv h' tk hx hge hlt hrec htb => ?_
    obtain ⟨c₂, oc, vs, t, e2, hoc, hd, hv⟩ := hrec
    cases e2
    refine ⟨m, (h'.objs.size, lamO (q ++ ("<lambda>" : Str)) params body scope clos ((mg "__name__").getD .none) (.ref c') ctv) :: nw, ?_, h _ _ _ _⟩
    have hne : ∀ r ∈ nw, r.1 ≠ P := fun r hr e => by
      have := l.2; rw [List.map_append] at this
      exact (List.nodup_append.mp this).2.2 _ (List.mem_map_of_mem hr) _ (List.mem_map_of_mem hPm) e
    have hfil : ∀ r ∈ hid.filter (fun p => !decide (p.1 = P)), r ∈ hid ∧ r.1 ≠ P := fun r hr => by
      obtain ⟨a, b⟩ := List.mem_filter.mp hr
      exact ⟨a, by simpa using b⟩
    refine ⟨G.hh, G.hd, G.hu, ⟨⟨mf, (hns.extBut hx hPl.2.1.symm).push _, hmf⟩, fun b o e => Heap.get?_push_of_some _ (hx b o (fun z => by rw [z, hPl.2.2] at e; cases e) (G.fm.keep b o e)), G.fm.above, G.fm.base,
      (c', oc) :: (P, tabObj (ps ++ #[rawInt pos.line, rawInt pos.col, .ref c'])) :: hid.filter (fun p => !decide (p.1 = P)), ⟨?_⟩, ?_, ?_, ?_⟩, G.gn, G.os⟩
    · intro r hr
      by_cases hrP : r.2 = P
      · refine ⟨ps ++ #[rawInt pos.line, rawInt pos.col, .ref c'], by rw [hrP]; exact .tail _ (.head _), ?_, ?_⟩
        · have := TriplesOk_snoc pos.line pos.col (.ref c') ps.toList htr
          simpa using this
        · intro pos' cv hcv
          have e1 : (ps ++ #[rawInt pos.line, rawInt pos.col, .ref c']).toList = ps.toList ++ [rawInt pos.line, rawInt pos.col, .ref c'] := by simp
          rw [e1, codeAmong_append htr] at hcv
          cases h0 : codeAmong pos' ps.toList with
          | some cv' =>
            rw [h0] at hcv
            cases hcv
            rw [hrP]
            exact (hcodes pos' _ h0).grow hPm hnh htr
          | none =>
            rw [h0] at hcv
            have : cv = .ref c' := by
              simp only [codeAmong, rawInt, Option.none_or] at hcv
              split at hcv
              · exact (Option.some.inj hcv).symm
              · cases hcv
            subst this
            rw [hrP]
            exact ⟨c', oc, vs, t, rfl, .head _, hd, hq ▸ hv⟩
      · obtain ⟨ps2, hm2, ht2, hc2⟩ := hok.tab r hr
        refine ⟨ps2, .tail _ (.tail _ (List.mem_filter.mpr ⟨hm2, by simpa using hrP⟩)), ht2, fun pos' cv hcv => (hc2 pos' cv hcv).grow hPm hnh htr⟩
    · intro r hr fd hfd
      rcases List.mem_cons.mp hr with rfl | hr
      · cases hfd
        exact ⟨c', oc, vs, t, rfl, .head _, hd, hv⟩
      · exact (hfo r hr fd hfd).grow hPm hnh htr
    · intro r hr
      simp only [List.cons_append, List.mem_cons, List.mem_append] at hr
      rcases hr with rfl | hr | rfl | rfl | hr
      · exact ⟨Heap.get?_push_size _ rfl, Nat.ne_of_gt (Nat.lt_of_lt_of_le hns.lt (Nat.le_of_lt (Nat.lt_of_le_of_lt hge hlt))), fresh _ (Nat.le_of_lt (Nat.lt_of_le_of_lt hge hlt))⟩
      · have z := l.1 r (List.mem_append_left _ hr)
        exact ⟨Heap.get?_push_of_some _ (hx _ _ (hne r hr) z.1), z.2⟩
      · exact ⟨Heap.get?_push_of_some _ hoc, Nat.ne_of_gt (Nat.lt_of_lt_of_le hns.lt hge), fresh _ hge⟩
      · exact ⟨Heap.get?_push_of_some _ htb, hPl.2⟩
      · obtain ⟨h1, h2⟩ := hfil r hr
        have z := l.1 r (List.mem_append_right _ h1)
        exact ⟨Heap.get?_push_of_some _ (hx _ _ h2 z.1), z.2⟩
    · have nd := l.2
      rw [List.map_append, List.nodup_append] at nd
      have lo : ∀ r ∈ nw ++ hid, @LT.lt Nat instLTNat r.1 s.heap.objs.size := fun r hr => l.lt hr
      have hge' : @LE.le Nat instLENat s.heap.objs.size c' := hge
      have hlt' : @LT.lt Nat instLTNat c' h'.objs.size := hlt
      show (h'.objs.size :: (nw ++ (c', oc) :: (P, _) :: hid.filter _).map (·.1)).Nodup
      rw [List.nodup_cons, List.map_append, List.nodup_append]
      refine ⟨?_, nd.1, ?_, ?_⟩
      · intro hm
        simp only [List.mem_append, List.map_cons, List.mem_cons, List.mem_map] at hm
        have hPlt : @LT.lt Nat instLTNat P s.heap.objs.size := Heap.lt_size hPl.1
        rcases hm with ⟨r, hr, e⟩ | e | e | ⟨r, hr, e⟩
        · have e' : @Eq Nat r.1 h'.objs.size := e
          have := lo r (List.mem_append_left _ hr)
          omega
        · omega
        · have e' : @Eq Nat h'.objs.size P := e
          omega
        · have e' : @Eq Nat r.1 h'.objs.size := e
          have := lo r (List.mem_append_right _ (hfil r hr).1)
          omega
      · rw [List.map_cons, List.map_cons, List.nodup_cons, List.nodup_cons]
        refine ⟨?_, ?_, ((List.filter_sublist).map _).nodup nd.2.1⟩
        · intro hm
          simp only [List.mem_cons, List.mem_map] at hm
          have hPlt : @LT.lt Nat instLTNat P s.heap.objs.size := Heap.lt_size hPl.1
          rcases hm with e | ⟨r, hr, e⟩
          · have e' : @Eq Nat c' P := e
            omega
          · have e' : @Eq Nat r.1 c' := e
            have := lo r (List.mem_append_right _ (hfil r hr).1)
            omega
        · intro hm
          obtain ⟨r, hr, e⟩ := List.mem_map.mp hm
          exact (hfil r hr).2 e
      · intro a ha b hb e
        obtain ⟨r, hr, rfl⟩ := List.mem_map.mp ha
        simp only [List.map_cons, List.mem_cons, List.mem_map] at hb
        rcases hb with hb | rfl | ⟨r', hr', rfl⟩
        · have e' : @Eq Nat r.1 c' := e.trans hb
          have := lo r (List.mem_append_left _ hr)
          omega
        · exact hne r hr e
        · exact nd.2.2 _ (List.mem_map_of_mem hr) _ (List.mem_map_of_mem (hfil r' hr').1) e
end
section
variable {c : Cx} {m : Nm} {nw : Nw} {env : Env}

/-- one object of the ledger changed, all else as it was -/
theorem Fm.same {h h' : Heap} {it : Addr} {o o' : Obj} (F : Fm c h m ((it, o) :: nw)) (hs : Heap.SameBut it h h') (ho : h'.get? it = some o') (hfn : isFn o' = false) : Fm c h' m ((it, o') :: nw) := by
  obtain ⟨hid, hok, hfo, l⟩ := F.led
  obtain ⟨mf, hns, hmf⟩ := F.ns
  have hi := l.1 (it, o) (.head _)
  have nd : it ∉ (nw ++ hid).map (·.1) ∧ ((nw ++ hid).map (·.1)).Nodup := List.nodup_cons.mp l.2
  refine ⟨⟨mf, hns.extBut hs.extBut hi.2.1.symm, hmf⟩, fun b ob e => ?_, F.above, F.base, hid, hok, ?_, ?_, ?_⟩
  · refine (hs.2 b fun q => ?_).trans (F.keep b ob e)
    rw [q, hi.2.2] at e; cases e
  · intro q hq fd hd
    rcases List.mem_cons.mp hq with rfl | hq
    · have hd' : o'.data = .func fd := hd
      simp [isFn, hd'] at hfn
    · exact hfo q (.tail _ hq) fd hd
  · intro p hp
    rcases List.mem_cons.mp (show p ∈ (it, o') :: (nw ++ hid) from hp) with rfl | hp
    · exact ⟨ho, hi.2⟩
    · have z := l.1 p (.tail _ hp)
      exact ⟨(hs.2 p.1 fun q => nd.1 (by rw [← q]; exact List.mem_map_of_mem hp)).trans z.1, z.2⟩
  · exact l.2
theorem Fm.ext {h h' : Heap} {it : Addr} {o : Obj} (F : Fm c h m ((it, o) :: nw)) (hs : Heap.ExtBut it h h') : Fm c h' m nw := by
  obtain ⟨hid, hok, hfo, l⟩ := F.led
  obtain ⟨mf, hns, hmf⟩ := F.ns
  have hi := l.1 (it, o) (.head _)
  have nd : it ∉ (nw ++ hid).map (·.1) ∧ ((nw ++ hid).map (·.1)).Nodup := List.nodup_cons.mp l.2
  refine ⟨⟨mf, hns.extBut hs hi.2.1.symm, hmf⟩, fun b ob e => ?_, F.above, F.base, hid, hok, fun q hq => hfo q (.tail _ hq), ?_, nd.2⟩
  · refine hs b ob (fun q => ?_) (F.keep b ob e)
    rw [q, hi.2.2] at e; cases e
  · intro p hp
    have z := l.1 p (.tail _ hp)
    exact ⟨hs p.1 p.2 (fun q => nd.1 (by rw [← q]; exact List.mem_map_of_mem hp)) z.1, z.2⟩

/-- the bridge to the library's frames and ledgers -/
theorem Gd.split {A : Around} {s : Shared} (G : Gd c m nw A s) : ∃ mf hid, Fr c.g c.L s.heap mf ∧ (∀ y v, m.lookup y = some v → mf y = some v) ∧ HidOk hid ∧ (∀ q ∈ nw, ∀ fd, q.2.data = .func fd → CodeIn hid fd.code fd.qualname) ∧
    News c.g c.L s.heap (nw ++ hid) ∧ ((nw ++ hid).map (·.1)).Nodup := by
  obtain ⟨hid, hok, hfo, l⟩ := G.fm.led
  obtain ⟨mf, hns, hmf⟩ := G.fm.ns
  exact ⟨mf, hid, ⟨hns, G.fm.keep, G.fm.above⟩, hmf, hok, hfo, l.1, l.2⟩
theorem Gd.join {A : Around} {s s' : Shared} {mf : Str → Option Value} {hid : Nw} {nw' : Nw} (G : Gd c m nw A s) (F : Fr c.g c.L s'.heap mf) (hmf : ∀ y v, m.lookup y = some v → mf y = some v) (hok : HidOk hid)
    (hfo : ∀ q ∈ nw', ∀ fd, q.2.data = .func fd → CodeIn hid fd.code fd.qualname) (N : News c.g c.L s'.heap (nw' ++ hid)) (nd : ((nw' ++ hid).map (·.1)).Nodup) (hg : s'.gens = s.gens) (ho : s'.os = s.os) : Gd c m nw' A s' :=
  ⟨G.hh, G.hd, G.hu, ⟨⟨mf, F.ns, hmf⟩, F.keep, F.above, G.fm.base, hid, hok, hfo, N, nd⟩, hg.trans G.gn, ho.trans G.os⟩
theorem Gd.join1 {A : Around} {s s' : Shared} {mf : Str → Option Value} {hid : Nw} {D : Addr} {o : Obj} (G : Gd c m nw A s) (F : Fr c.g c.L s'.heap mf) (hmf : ∀ y v, m.lookup y = some v → mf y = some v) (hok : HidOk hid)
    (hfo : ∀ q ∈ nw, ∀ fd, q.2.data = .func fd → CodeIn hid fd.code fd.qualname) (N : News c.g c.L s'.heap ((D, o) :: (nw ++ hid))) (nd : ((nw ++ hid).map (·.1)).Nodup) (hD : ∀ q ∈ nw ++ hid, q.1 < D) (hfn : isFn o = false) (hg : s'.gens = s.gens) (ho : s'.os = s.os) :
    Gd c m ((D, o) :: nw) A s' := by
  refine G.join F hmf hok ?_ N ?_ hg ho
  · intro q hq fd hd
    rcases List.mem_cons.mp hq with rfl | hq
    · have hd' : o.data = .func fd := hd
      simp [isFn, hd'] at hfn
    · exact hfo q hq fd hd
  · refine List.nodup_cons.mpr ⟨fun hm => ?_, nd⟩
    obtain ⟨p, hp, e⟩ := List.mem_map.mp hm
    exact absurd (hD p hp) (by rw [e]; exact Nat.lt_irrefl _)

/-! for over a list -/
def LIt (l : Addr) (i : Nat) (o : Obj) : Prop := o.cls = .type "list_iterator" ∧ o.data = .fields #[.ref l, .int i 0]
theorem LIt.noFn {l : Addr} {i : Nat} {o : Obj} (h : LIt l i o) : isFn o = false := by unfold isFn; rw [h.2]
theorem H_forL {target iter : Expr} {body : List Stmt} {pos : Pos} {rest : List Stmt} {Q : Flow → Nm → Nw → Prop} {l : Addr} {vs : List Value} {n : Nat} (I : Nat → Nm → Nw → Prop)
    (h0 : HH c m nw (eval iter env) fun v m₁ nw₁ => v = .ref l ∧ I 0 m₁ nw₁)
    (hl : ∀ i m nw, I i m nw → (l, listO vs n) ∈ nw)
    (turn : ∀ it o i m nw v, vs[i]? = some v → I i m nw → HH c m ((it, o) :: nw) (assign target env v) fun _ m₁ nw₁ => HH c m₁ nw₁ (execs body env) fun fl m₂ nw₂ => fl = .next ∧ ∃ nw₃, Sb ((it, o) :: nw₃) nw₂ ∧ I (i + 1) m₂ nw₃)
    (fin : ∀ m nw, I vs.length m nw → HH c m nw (execs rest env) Q)
    (hs : ∀ x, foldedSetIterable iter env x = pure x := by intro _; rfl) (ht : ∀ it v, letOwnedTupleGo target it v = pure () := by intro _ _; rfl) :
    HH c m nw (execs (.For target iter body [] pos :: rest) env) Q :=
  H_cons fun A s G => by
    refine wpAny_For (h0.go A s G fun v s₁ m₁ nw₁ G₁ ⟨e, hI⟩ => ?_) hs
    subst e
    refine wpAny_pyIter_list (items := vs.toArray) ⟨_, G₁.fm.get (hl _ _ _ hI), rfl, n, rfl⟩ ?_
    refine codeAny_forLoop (fun k s' => ∃ i m' nw' o, k = vs.length - i ∧ i ≤ vs.length ∧ LIt l i o ∧ Gd c m' ((s₁.heap.objs.size, o) :: nw') A s' ∧ I i m' nw') ?_ (vs.length - 0)
      ⟨0, m₁, nw₁, _, rfl, Nat.zero_le _, ⟨rfl, rfl⟩, G₁.heap' (G₁.fm.push _ rfl rfl), hI⟩ (ht _)
    rintro k s' ⟨i, m', nw', o, rfl, hi, hit, G', hI'⟩
    have hli := hl _ _ _ hI'
    by_cases hlt : i < vs.length
    · have hx : vs.toArray[i]? = some vs[i] := by simp [hlt]
      refine wpAny_pyNext_list_item (l := l) (i := i) ⟨_, G'.fm.get (.head _), hit.1, hit.2⟩ ⟨_, G'.fm.get (.tail _ hli), rfl, n, rfl⟩ hx fun h' hit' hsb => ?_
      obtain ⟨o', ho', hc', hd'⟩ := hit'
      have hit2 : LIt l (i + 1) o' := ⟨hc', hd'⟩
      have G₂ : Gd c m' ((s₁.heap.objs.size, o') :: nw') A { s' with heap := h' } := G'.heap' (G'.fm.same hsb ho' hit2.noFn)
      refine (turn s₁.heap.objs.size o' i m' nw' vs[i] (by simp [hlt]) hI').go A _ G₂ fun _ s₃ m₃ nw₃ G₃ h₃ => ?_
      refine h₃.go A _ G₃ fun fl s₄ m₄ nw₄ G₄ h₄ => ?_
      obtain ⟨rfl, nw₅, hsb5, hI5⟩ := h₄
      exact ⟨vs.length - (i + 1), by omega, i + 1, m₄, nw₅, o', rfl, hlt, hit2, G₄.sub (fun _ _ e => e) hsb5, hI5⟩
    · have hx : vs.toArray[i]? = none := by simp; omega
      refine wpAny_pyNext_list_end (l := l) (i := i) G'.hh ⟨_, G'.fm.get (.head _), hit.1, hit.2⟩ ⟨_, G'.fm.get (.tail _ hli), rfl, n, rfl⟩ hx fun h' hxt => ?_
      have hie : i = vs.length := by omega
      subst hie
      exact wpAny_execs_nil ⟨m', nw', G'.heap' (G'.fm.ext hxt), fin _ _ hI'⟩
end
section
variable {c : Cx} {m : Nm} {nw : Nw} {env : Env}
/-! ints -/
theorem H_add_int {a b : Int} {t u : Tok} {Q : Value → Nm → Nw → Prop} (h : ∀ t', Q (.int (a + b) t') m nw) : HH c m nw (binaryOp .Add (.int a t) (.int b u)) Q := fun A s G => P.add_int ⟨_, _, G.toks _, h _⟩
theorem H_sub_int {a b : Int} {t u : Tok} {Q : Value → Nm → Nw → Prop} (h : ∀ t', Q (.int (a - b) t') m nw) : HH c m nw (binaryOp .Sub (.int a t) (.int b u)) Q := fun A s G => P.sub_int ⟨_, _, G.toks _, h _⟩
theorem H_neg_int {a : Int} {t : Tok} {Q : Value → Nm → Nw → Prop} (h : ∀ t', Q (.int (-a) t') m nw) : HH c m nw (unaryOp .USub (.int a t)) Q := fun A s G => P.neg_int ⟨_, _, G.toks _, h _⟩
theorem H_mod_int {a b : Int} {t u : Tok} {Q : Value → Nm → Nw → Prop} (hb : b ≠ 0) (h : ∀ t', Q (.int (a.fmod b) t') m nw) : HH c m nw (binaryOp .Mod (.int a t) (.int b u)) Q := fun A s G => mod_int' hb ⟨_, _, G.toks _, h _⟩
theorem H_div_int {a b : Int} {t u : Tok} {Q : Value → Nm → Nw → Prop} (hb : b ≠ 0) (hs : b.natAbs < 1073741824) (h : ∀ t', Q (.int (a.fdiv b) t') m nw) : HH c m nw (binaryOp .FloorDiv (.int a t) (.int b u)) Q :=
  fun A s G => floordiv_int hb ⟨_, _, G.toks _, h _⟩ (Or.inl (PyProof.noPylong_small hs))
theorem H_eq_int {a b : Int} {t u : Tok} {Q : Value → Nm → Nw → Prop} (h : Q (.bool (a == b)) m nw) : HH c m nw (compareOp .Eq (.int a t) (.int b u)) Q := fun A s G => P.eq_int ⟨_, _, G, h⟩
theorem H_ne_int {a b : Int} {t u : Tok} {Q : Value → Nm → Nw → Prop} (h : Q (.bool (a != b)) m nw) : HH c m nw (compareOp .NotEq (.int a t) (.int b u)) Q := fun A s G => P.ne_int ⟨_, _, G, h⟩
theorem H_lt_int {a b : Int} {t u : Tok} {Q : Value → Nm → Nw → Prop} (h : Q (.bool (decide (a < b))) m nw) : HH c m nw (compareOp .Lt (.int a t) (.int b u)) Q := fun A s G => P.lt_int ⟨_, _, G, h⟩
theorem H_gt_int {a b : Int} {t u : Tok} {Q : Value → Nm → Nw → Prop} (h : Q (.bool (decide (a > b))) m nw) : HH c m nw (compareOp .Gt (.int a t) (.int b u)) Q := fun A s G => P.gt_int ⟨_, _, G, h⟩
/-! texts -/
theorem H_ne_str {a b : List Nat} {t u : Tok} {Q : Value → Nm → Nw → Prop} (h : Q (.bool (a != b)) m nw) : HH c m nw (compareOp .NotEq (.str (S a) t) (.str (S b) u)) Q := fun A s G => P.ne_str ⟨_, _, G, h⟩
theorem H_lt_str {a b : List Nat} {t u : Tok} {Q : Value → Nm → Nw → Prop} (h : Q (.bool (decide (a < b))) m nw) : HH c m nw (compareOp .Lt (.str (S a) t) (.str (S b) u)) Q := fun A s G => P.lt_str ⟨_, _, G, h⟩
theorem H_le_str {a b : List Nat} {t u : Tok} {Q : Value → Nm → Nw → Prop} (h : Q (.bool (!decide (b < a))) m nw) : HH c m nw (compareOp .LtE (.str (S a) t) (.str (S b) u)) Q := fun A s G => P.le_str ⟨_, _, G, h⟩
theorem H_is_plain {a b : Value} {Q : Value → Nm → Nw → Prop} (hp : plainIs a b = true) (h : Q (.bool (a == b)) m nw) : HH c m nw (compareOp .Is a b) Q := fun A s G => wpAny_is_plain hp ⟨_, _, G, h⟩
theorem H_isNot_plain {a b : Value} {Q : Value → Nm → Nw → Prop} (hp : plainIs a b = true) (h : Q (.bool (!(a == b))) m nw) : HH c m nw (compareOp .IsNot a b) Q := fun A s G => wpAny_isNot_plain hp ⟨_, _, G, h⟩
theorem H_len_str {l : List Nat} {t : Tok} {Q : Value → Nm → Nw → Prop} (hz : l.length ≤ 1000000) (h : ∀ t', Q (.int (l.length : Int) t') m nw) : HH c m nw (call (.builtin "len") [.str (S l) t]) Q := fun A s G =>
  P.len_str (by rw [S_length]; omega) ⟨_, _, G.toks _, by rw [S_length]; exact h _⟩
theorem H_len_list {a : Addr} {vs : List Value} {n : Nat} {Q : Value → Nm → Nw → Prop} (hm : (a, listO vs n) ∈ nw) (hz : vs.length ≤ 1000000) (h : ∀ t', Q (.int (vs.length : Int) t') m nw) : HH c m nw (call (.builtin "len") [.ref a]) Q := fun A s G =>
  Calls.call_len_list (items := vs.toArray) ⟨_, G.fm.get hm, rfl, n, rfl⟩ (by rw [List.size_toArray]; omega) ⟨_, _, G.toks _, by rw [List.size_toArray]; exact h _⟩
theorem H_isi_list_str {a : Addr} {vs : List Value} {n : Nat} {Q : Value → Nm → Nw → Prop} (hm : (a, listO vs n) ∈ nw) (h : Q (.bool false) m nw) : HH c m nw (call (.builtin "isinstance") [.ref a, .type "str"]) Q := fun A s G =>
  IsiPair.list_str (G.fm.get hm) rfl ⟨_, _, G.toks _, h⟩
/-! items -/
theorem H_item_list {value slice : Expr} {a : Addr} {vs : List Value} {n : Nat} {k : Int} {u : Tok} {x : Value} {ops : List Value} {Q : Value → Nm → Nw → Prop} (hm : (a, listO vs n) ∈ nw) (h0 : 0 ≤ k) (hfit : k < 1000000) (hx : vs[k.toNat]? = some x) (h : Q x m nw)
    (hs : subscripted slice false (.ref a) (.int k u) = operate ops (getItem (.ref a) (.int k u)) := by with_unfolding_all rfl) : HH c m nw (subscriptTail value slice (.ref a) (.int k u)) Q := fun A s G =>
  tail_any (T := "list") ⟨_, G.fm.get hm, rfl⟩ list_getitem_lookup (wpAny_getItem_list (items := vs.toArray) ⟨_, G.fm.get hm, rfl, n, rfl⟩ h0 (by omega) (by simpa using hx) ⟨_, _, G, h⟩) hs
theorem H_item_list_neg {value slice : Expr} {a : Addr} {vs : List Value} {n : Nat} {u : Tok} {x : Value} {ops : List Value} {Q : Value → Nm → Nw → Prop} (hm : (a, listO vs n) ∈ nw) (hx : vs.getLast? = some x) (h : Q x m nw)
    (hs : subscripted slice false (.ref a) (.int (-1) u) = operate ops (getItem (.ref a) (.int (-1) u)) := by with_unfolding_all rfl) : HH c m nw (subscriptTail value slice (.ref a) (.int (-1) u)) Q := fun A s G => by
  have hne : vs ≠ [] := fun e => by rw [e] at hx; cases hx
  have hl : 0 < vs.length := List.length_pos_iff.mpr hne
  refine tail_any (T := "list") ⟨_, G.fm.get hm, rfl⟩ list_getitem_lookup (wpAny_getItem_list_neg (items := vs.toArray) (x := x) ⟨_, G.fm.get hm, rfl, n, rfl⟩ (by decide) (by rw [List.size_toArray]; omega) (by decide) ?_ ⟨_, _, G, h⟩) hs
  rw [List.size_toArray, show ((-1 : Int) + (vs.length : Int)).toNat = vs.length - 1 by omega]
  rw [List.getLast?_eq_getElem?] at hx
  simpa using hx
theorem H_item_tuple {value slice : Expr} {a : Addr} {vs : List Value} {k : Nat} {u : Tok} {x : Value} {ops : List Value} {Q : Value → Nm → Nw → Prop} (hm : (a, tupO vs) ∈ nw) (hfit : k < 1000000) (hx : vs[k]? = some x) (h : Q x m nw)
    (hs : subscripted slice false (.ref a) (.int (k : Int) u) = operate ops (getItem (.ref a) (.int (k : Int) u)) := by with_unfolding_all rfl) : HH c m nw (subscriptTail value slice (.ref a) (.int (k : Int) u)) Q := fun A s G => by
  have hlt : k < vs.length := by
    rcases Nat.lt_or_ge k vs.length with h | h
    · exact h
    · rw [List.getElem?_eq_none h] at hx; cases hx
  refine tail_any (T := "tuple") ⟨_, G.fm.get hm, rfl⟩ slot_tuple_getitem.lookup (getItem_tuple (items := vs.toArray) (j := k) ⟨_, G.fm.get hm, rfl, 0, rfl⟩ (by omega) (by omega) ?_ (by simpa using hx) ⟨_, _, G, h⟩) hs
  rw [List.size_toArray]
  unfold seqIndex?
  have e1 : ¬ ((k : Int) < 0) := by omega
  simp [e1, hlt]
theorem pick_list (vs : List Value) (lo hi : Option Nat) : (slicePick vs.toArray (lo.map Int.ofNat) (hi.map Int.ofNat) none) = ((vs.take (hi.getD vs.length)).drop (lo.getD 0)).toArray := by
  have key : ∀ a b : Nat, b ≤ vs.length → ((sliceRange (a : Int) (b : Int) 1).filterMap (fun i => vs.toArray[i]?)) = (vs.take b).drop a := by
    intro a b hb
    rw [sliceRange_nat]
    have gen : ∀ (l : List Value) (a k : Nat), ((List.range k).map (a + ·)).filterMap (fun i => l[i]?) = (l.drop a).take k := by
      intro l a k
      induction k generalizing a with
      | zero => simp
      | succ k ih =>
        rw [List.range_succ_eq_map, List.map_cons, List.filterMap_cons, List.map_map]
        have : ((fun x => a + x) ∘ Nat.succ) = fun x => (a + 1) + x := by funext x; simp only [Function.comp]; omega
        rw [this, ih (a + 1), Nat.add_zero]
        by_cases h : a < l.length
        · rw [List.getElem?_eq_getElem h, List.drop_eq_getElem_cons h, List.take_succ_cons]
        · rw [List.getElem?_eq_none (by omega), List.drop_eq_nil_of_le (by omega), List.drop_eq_nil_of_le (by omega)]; simp
    have := gen vs a (b - a)
    rw [show (fun i => vs.toArray[i]?) = fun i => vs[i]? by funext i; simp, this, ← List.drop_take]
  unfold slicePick
  congr 1
  cases lo with
  | none => cases hi with
    | none =>
      have := key 0 vs.length (Nat.le_refl _)
      simpa [sliceBounds] using this
    | some b =>
      have := key 0 (min b vs.length) (Nat.min_le_right _ _)
      have e : max 0 (min (b : Int) (vs.length : Int)) = ((min b vs.length : Nat) : Int) := by omega
      have e2 : ¬ ((b : Int) < 0) := by omega
      simp only [sliceBounds, Int.ofNat_eq_natCast, Option.map_some, Option.map_none, Option.getD_none, Option.getD_some, List.size_toArray, e2, if_false, show (1 : Int) > 0 by decide, if_true, e]
      rw [show (0 : Int) = ((0 : Nat) : Int) by rfl, this]
      rw [List.drop_zero, List.drop_zero]
      rcases Nat.le_total b vs.length with h | h
      · rw [Nat.min_eq_left h]
      · rw [Nat.min_eq_right h, List.take_of_length_le (Nat.le_refl _), List.take_of_length_le h]
  | some a =>
    have e1 : ¬ ((a : Int) < 0) := by omega
    have ea : max 0 (min (a : Int) (vs.length : Int)) = ((min a vs.length : Nat) : Int) := by omega
    have drp : ∀ l : List Value, l.length ≤ vs.length → l.drop (min a vs.length) = l.drop a := fun l hl => by
      rcases Nat.le_total a vs.length with h | h
      · rw [Nat.min_eq_left h]
      · rw [Nat.min_eq_right h, List.drop_eq_nil_of_le hl, List.drop_eq_nil_of_le (Nat.le_trans hl h)]
    cases hi with
    | none =>
      have := key (min a vs.length) vs.length (Nat.le_refl _)
      simp only [sliceBounds, Int.ofNat_eq_natCast, Option.map_some, Option.map_none, Option.getD_none, Option.getD_some, List.size_toArray, e1, if_false, show (1 : Int) > 0 by decide, if_true, ea]
      rw [this, drp _ (by rw [List.length_take]; omega)]
    | some b =>
      have := key (min a vs.length) (min b vs.length) (Nat.min_le_right _ _)
      have e : max 0 (min (b : Int) (vs.length : Int)) = ((min b vs.length : Nat) : Int) := by omega
      have e2 : ¬ ((b : Int) < 0) := by omega
      simp only [sliceBounds, Int.ofNat_eq_natCast, Option.map_some, Option.getD_none, Option.getD_some, List.size_toArray, e1, e2, if_false, show (1 : Int) > 0 by decide, if_true, ea, e]
      rw [this, drp _ (by rw [List.length_take]; omega)]
      rcases Nat.le_total b vs.length with h | h
      · rw [Nat.min_eq_left h]
      · rw [Nat.min_eq_right h, List.take_of_length_le (Nat.le_refl _), List.take_of_length_le h]
theorem H_lslice {value : Expr} {lo hi : Option Expr} {sp : Pos} {l a : Addr} {vs : List Value} {n : Nat} {vl vu : Value} {pl pu : Option Nat} {Q : Value → Nm → Nw → Prop} (hm : (l, listO vs n) ∈ nw) (hs : (a, fldO "slice" [vl, vu, .none]) ∈ nw)
    (hl : IsPart vl (pl.map Int.ofNat)) (hu : IsPart vu (pu.map Int.ofNat)) (hz : vs.length ≤ 1000000)
    (h : ∀ r, Q (.ref r) m ((r, listO ((vs.take (pu.getD vs.length)).drop (pl.getD 0))) :: nw)) : HH c m nw (subscriptTail value (.Slice lo hi none sp) (.ref l) (.ref a)) Q := fun A s G =>
  tail_any (T := "list") ⟨_, G.fm.get hm, rfl⟩ list_getitem_lookup (wpAny_getItem_list_slice (items := vs.toArray) (st := none) ⟨_, G.fm.get hm, rfl, n, rfl⟩ ⟨_, G.fm.get hs, rfl, rfl⟩ hl hu .none (by simp)
    ⟨_, _, G.heap' (G.fm.push _ rfl rfl), by
      rw [pick_list]
      exact h _⟩ (by rw [List.size_toArray]; exact Nat.le_trans hz (by decide))) (by with_unfolding_all rfl)
theorem H_add_list {a b : Addr} {vs ws : List Value} {n k : Nat} {Q : Value → Nm → Nw → Prop} (ha : (a, listO vs n) ∈ nw) (hb : (b, listO ws k) ∈ nw) (hz : vs.length + ws.length ≤ 1000000)
    (h : ∀ r, Q (.ref r) m ((r, listO (vs ++ ws)) :: nw)) : HH c m nw (binaryOp .Add (.ref a) (.ref b)) Q := fun A s G =>
  P.add_list (items := vs.toArray) (items2 := ws.toArray) (n := n) (n2 := k) (G.fm.get ha) (G.fm.get hb) ⟨_, _, G.heap' (G.fm.push _ rfl rfl), by
    have e : vs.toArray ++ ws.toArray = (vs ++ ws).toArray := by simp
    rw [e]; exact h _⟩ (by simp only [List.size_toArray]; exact Nat.le_trans hz (by decide))
theorem H_insert {a : Addr} {vs : List Value} {n : Nat} {k : Nat} {u : Tok} {v : Value} {nw' : Nw} {Q : Value → Nm → Nw → Prop} (U : Up a (listO vs n) (listO (vs.take k ++ v :: vs.drop k) (n + 1)) nw nw') (hk : k ≤ vs.length) (hz : vs.length ≤ 1000000) (h : Q .none m nw') :
    HH c m nw (call (.builtin "list.insert") [.ref a, .int (k : Int) u, v]) Q := fun A s G => by
  have ho := G.fm.get U.mem
  have hf : ¬ (!Builtin.List.listFitsIndex (k : Int)) = true := by
    have : Builtin.List.listFitsIndex (k : Int) = true := by
      unfold Builtin.List.listFitsIndex
      have h1 : ((k : Int) < 9223372036854775808) := by omega
      have h2 : (-9223372036854775808 ≤ (k : Int)) := by omega
      simp [h1, h2]
    rw [this]; simp
  have hzz : vs.toArray.size ≤ sizeLine := by rw [List.size_toArray]; exact Nat.le_trans hz (by decide)
  obtain ⟨x, hx⟩ : ∃ x : Int, x = (k : Int) := ⟨_, rfl⟩
  rw [← hx] at hf ⊢
  have ME := AutoSeq1.list_insert_list_int_val_1 a vs.toArray n x u v hf hzz
  refine call_meets F.slot_list_insert ⟨_, ho, rfl⟩ F.entry_list_insert (F.args_list_insert_3 _ _ _) ME ⟨ho, ?_⟩
  refine ⟨m, nw', G.heap (G.fm.upd U ?_ rfl rfl) s.toks, h⟩
  have e1 : ¬ ((k : Int) < 0) := by omega
  subst hx
  simp only [Obj.mapSeq, e1, if_false, Int.toNat_natCast, List.size_toArray, Nat.min_eq_left hk]
  have e2 : (vs.toArray.extract 0 k).push v ++ vs.toArray.extract k vs.length = (vs.take k ++ v :: vs.drop k).toArray := by
    apply Array.toList_inj.mp
    simp [List.take_of_length_le]
  have e3 : ((vs.take k ++ v :: vs.drop k).toArray.size == vs.length) = false := by
    rw [beq_eq_false_iff_ne, List.size_toArray, List.length_append, List.length_cons, List.length_take, List.length_drop]; omega
  rw [e2, e3]
  rfl
theorem H_join {D : Addr} {sep : List Nat} {l : List (List Nat × Tok)} {n : Nat} {t : Tok} {Q : Value → Nm → Nw → Prop} (hm : (D, listO (l.map fun p => .str (S p.1) p.2) n) ∈ nw) (hok : JoinOk (S sep) (l.map fun p => S p.1) = true)
    (h : ∀ t', Q (.str (Txt.join (S sep) (l.map fun p => S p.1)) t') m nw) : HH c m nw (call (.builtin "str.join") [.str (S sep) t, .ref D]) Q := fun A s G =>
  SC.join (l := l.map fun p => (S p.1, p.2)) ⟨_, G.fm.get hm, rfl, n, by simp [strValues, Function.comp_def]⟩ (by simp [Function.comp_def]) hok fun t' k => ⟨_, _, G.toks k, h t'⟩
theorem H_sum {a : Addr} {vs : List Value} {ns : List Int} {n : Nat} {Q : Value → Nm → Nw → Prop} (hm : (a, listO vs n) ∈ nw) (hi : IntsAre vs ns) (h : ∀ t', Q (.int ns.sum t') m nw) : HH c m nw (call (.builtin "sum") [.ref a]) Q := fun A s G => by
  obtain ⟨mf, hid, F, hmf, hok, hfo, N, nd⟩ := G.split
  exact LSm.sum_ints F N G.hh ⟨_, G.fm.get hm, rfl, n, rfl⟩ hi fun h' tk t' F' N' => ⟨_, _, G.join F' hmf hok hfo N' nd rfl rfl, h t'⟩
theorem H_range {n : Int} {t : Tok} {Q : Value → Nm → Nw → Prop} (h : ∀ r t1 t2, Q (.ref r) m ((r, fldO "range" [.int 0 t1, .int n t, .int 1 t2]) :: nw)) : HH c m nw (call (.type "range") [.int n t]) Q := fun A s G =>
  call_range_1 ⟨_, _, G.heap (G.fm.push _ rfl rfl) _, h _ _ _⟩
end
open PySem.Builtin.Re
theorem call_function : ∃ r, typeLookup (.type "function") "__call__" = pure (some r) := ⟨.builtin "function.__call__", by rw [typeLookup_type, builtinLookup_eq_fast]; kernel_rfl⟩
theorem nocall_str : typeLookup (.type "str") "__call__" = pure none := by rw [typeLookup_type, builtinLookup_eq_fast]; kernel_rfl
theorem named2 (id f : String) (u v : Value) : reNamed id f ["repl", "string", "count"] 2 [u, v] [] = pure [some u, some v, none] := by rfl

/-- codes, in H's form -/
def CL (c : Cx) (m : Nm) (nw : Nw) (code : Code) (Q : Value → Nm → Nw → Prop) : Prop :=
  ∀ A s, Gd c m nw A s → codeAny (model prg c.w) A code (fun r s' => ∃ v m' nw', r = .ok (.ret v) ∧ Gd c m' nw' A s' ∧ Q v m' nw') s
def FinQ (c : Cx) (Q : Value → Nm → Nw → Prop) : Fin → Nm → Nw → Prop := fun fin m nw => match fin with
  | .done (.ret v) => Q v m nw
  | .again c' => c'.quiet = true ∧ CL c m nw c' Q
  | _ => False
section
variable {c : Cx} {m : Nm} {nw : Nw}
theorem H_entryA {T id : String} {name : Str} {b : Builtin} {self : Value} {rest : List Value} {Q : Value → Nm → Nw → Prop} (sl : Slot T name id) (hT : TyAt c m nw self T) (hb : entryFor table id = some b) (ha : argsOk id ⟨self :: rest, []⟩)
    (h : HH c.up m nw (b ⟨self :: rest, []⟩) (FinQ c Q)) : HH c m nw (call (.builtin id) (self :: rest)) Q := fun A s G =>
  wpAny_call (codeAny_call_builtin sl.plain hb (sl.check _ _ _ _ _ _ _ _ (hT A s G).1 ha (h.go A.in1 s G.up fun fin s' m' nw' G' q => by
    cases fin with
    | done f => cases f with
      | ret v => exact ⟨m', nw', G.down G', q⟩
      | _ => exact q.elim
    | again c' => exact ⟨q.1, codeAny_mono (q.2 A s' (G.down G')) fun r s'' ⟨v, m'', nw'', e, G'', q''⟩ => by rw [e]; exact ⟨m'', nw'', G'', q''⟩⟩)))
theorem CL_builtin {id : String} {b : Builtin} {args : Args} {Q : Value → Nm → Nw → Prop} (hp : plainId id = true) (hb : entryFor table id = some b) (h : HH c.up m nw (b args) (FinQ c Q)) : CL c m nw (.builtin id args) Q := fun A s G => by
  refine codeAny_builtin hb ?_
  rw [Around.under_plainId hp]
  exact h.go A.in1 s G.up fun fin s' m' nw' G' q => by
    cases fin with
    | done f => cases f with
      | ret v => exact ⟨v, m', nw', rfl, G.down G', q⟩
      | _ => exact q.elim
    | again c' => exact ⟨q.1, q.2 A s' (G.down G')⟩

theorem H_wholeTarget {pat ct : Addr} {p : String} {tp tf : Tok} {g : Nat} {cd : List Int} {l : List Nat} {t : Tok} {Q : ReTarget → Nm → Nw → Prop}
    (hp : (KF c.w).lookup pat = some (patO p tp tf g ct)) (hc : (KF c.w).lookup ct = some (codO cd))
    (h : Q { pattern := .ref pat, string := .str (S l) t, code := (cd.map (·.toNat)).toArray, text := l.toArray, kind := 0, groups := g, pos := 0, lim := l.toArray.size } m nw) :
    HH c m nw (reWholeTarget (.ref pat) (.str (S l) t)) Q := by
  unfold reWholeTarget
  refine H_bind (H_fieldsOfK hp rfl ?_)
  have e1 : reTextOf (.str (S l) t) = pure (l.toArray, 0) := rfl
  rw [e1]
  refine H_bind (H_pure ?_)
  dsimp only
  refine H_neg (by simp) ?_
  refine H_neg (by simp [reRawNat, rawInt]) ?_
  refine H_bind (t := reNoCollectionInside (.str (S l) t) 0) (H_pure ?_)
  refine H_bind ?_
  show HH c m nw (reRawItems (.ref ct)) _
  unfold reRawItems
  refine H_bind (H_seqItemsK hc rfl ?_)
  refine H_pure (H_pure ?_)
  have e2 : Array.map (fun x : Int => x.toNat) (Array.map reRawOf ((some (List.map rawInt cd).toArray).getD #[])) = (cd.map (·.toNat)).toArray := by
    simp [Function.comp_def, reRawOf, rawInt]
  rw [e2]
  exact h
theorem H_pushSeq {a : Addr} {vs : List Value} {n : Nat} {v : Value} {nw' : Nw} {Q : Unit → Nm → Nw → Prop} (U : Up a (listO vs n) (listO (vs ++ [v]) (n + 1)) nw nw') (hz : vs.length ≤ 1000000) (h : Q () m nw') :
    HH c m nw (updateSeq a (·.push v)) Q := fun A s G => by
  have ho := G.fm.get U.mem
  refine wpAny_updateSeq (xs := vs.toArray) (n := n) ho rfl ⟨_, _, G.heap' (G.fm.upd U ?_ rfl rfl), h⟩ (by rw [List.size_toArray]; exact Nat.le_trans hz (by decide)) (by simp; exact Nat.le_trans hz (by decide))
  show Obj.mapSeq (·.push v) (listO vs n) = listO (vs ++ [v]) (n + 1)
  simp [Obj.mapSeq]
theorem H_seqItems {a : Addr} {vs : List Value} {n : Nat} {Q : Option (Array Value) → Nm → Nw → Prop} (hm : (a, listO vs n) ∈ nw) (h : Q (some vs.toArray) m nw) : HH c m nw (seqItems? (.ref a)) Q :=
  fun _ _ G => wpAny_seqItems (G.fm.get hm) rfl ⟨_, _, G, h⟩
theorem H_reSlice {l : List Nat} {b e : Nat} {Q : Value → Nm → Nw → Prop} (hz : l.length ≤ 1000000) (h : ∀ t, Q (.str (S ((l.drop b).take (e - b))) t) m nw) : HH c m nw (reSlice l.toArray 0 b e) Q := by
  unfold reSlice
  refine H_pos (by decide) ?_
  refine H_mkStr ?_ fun t => ?_
  · show (l.toArray.extract b e).size ≤ sizeLine
    rw [Array.size_extract, List.size_toArray]
    exact Nat.le_trans (show min e l.length - b ≤ 1000000 by omega) (by decide)
  · have := S_extract l b e
    rw [show (⟨l.toArray.extract b e⟩ : Str) = S ((l.drop b).take (e - b)) from this]
    exact h t
/-- the loop's end: no match more -/
theorem CL_sub_end {pat ct : Addr} {p : String} {tp tf : Tok} {g : Nat} {cd : List Int} {code : Array Nat} {l : List Nat} {t : Tok} {repl : Value} {way : Int} {n done start : Nat} {must wc : Bool} {L : Addr} {ps : List (List Nat × Tok)} {k : Nat} {steps : Nat} {Q : Value → Nm → Nw → Prop} {nw' : Value → Nw}
    (hp : (KF c.w).lookup pat = some (patO p tp tf g ct)) (hc : (KF c.w).lookup ct = some (codO cd)) (hcode : (cd.map (·.toNat)).toArray = code) (hz : l.length ≤ 100000) (hr : way = 0 → ∃ x u, repl = .str x u)
    (hs : steps ≤ 100000000) (hm : miss ((Sre.forSearch code l.toArray g start l.length must).runFor steps) = true) (hok : JoinOk (S []) (ps.map fun q => S q.1) = true) (hps : ps.length ≤ 1000)
    (hok2 : JoinOk (S []) (ps.map (fun q => S q.1) ++ [S (l.drop done)]) = true)
    (U : ∀ v, Up L (listO (ps.map fun q => .str (S q.1) q.2) k) (listO (ps.map (fun q => .str (S q.1) q.2) ++ [v]) (k + 1)) nw (nw' v))
    (h1 : ∀ v t', done < l.length → wc = false → Q (.str (Txt.join (S []) (ps.map (fun q => S q.1) ++ [S (l.drop done)])) t') m (nw' v))
    (h2 : ∀ t', ¬ done < l.length → wc = false → Q (.str (Txt.join (S []) (ps.map fun q => S q.1)) t') m nw)
    (h3 : ∀ v a t' t2, done < l.length → wc = true → Q (.ref a) m ((a, tupO [.str (Txt.join (S []) (ps.map (fun q => S q.1) ++ [S (l.drop done)])) t', .int n t2]) :: nw' v))
    (h4 : ∀ a t' t2, ¬ done < l.length → wc = true → Q (.ref a) m ((a, tupO [.str (Txt.join (S []) (ps.map fun q => S q.1)) t', .int n t2]) :: nw)) :
    CL c m nw (.builtin "re.Pattern.sub.loop" ⟨[.ref pat, .str (S l) t, repl, rawInt way, rawInt 0, rawInt n, rawInt done, rawInt start, .bool must, .ref L, .bool wc], []⟩) Q := by
  refine CL_builtin (by decide +kernel) entry_subloop ?_
  unfold Builtin.«re.Pattern.sub.loop»
  dsimp only [rawInt]
  refine H_bind (H_wholeTarget (c := c.up) hp hc ?_)
  have fin : ∀ (q : List (List Nat × Tok)) (k' : Nat) (nw2 : Nw) (hin : (L, listO (q.map fun q => .str (S q.1) q.2) k') ∈ nw2) (hok : JoinOk (S []) (q.map fun q => S q.1) = true)
      (a1 : ∀ t', wc = false → Q (.str (Txt.join (S []) (q.map fun q => S q.1)) t') m nw2) (a2 : ∀ a t' t2, wc = true → Q (.ref a) m ((a, tupO [.str (Txt.join (S []) (q.map fun q => S q.1)) t', .int n t2]) :: nw2)),
      HH c.up m nw2 (do
        let joiner ← reSlice l.toArray 0 0 0
        let text ← if ((← seqItems? (.ref L)).getD #[]).isEmpty then pure joiner
          else call (.builtin (if (0 : Nat) == 0 then "str.join" else "bytes.join")) [joiner, .ref L]
        if wc = true then ret (← holding [text] do newTuple [text, ← mkInt (n : Int)]) else ret text) (FinQ c Q) := by
    intro q k' nw2 hin hok a1 a2
    refine H_bind (H_reSlice (by omega) fun t0 => ?_)
    rw [show (l.drop 0).take (0 - 0) = [] by simp]
    have tail : ∀ t', HH c.up m nw2 (if wc = true then (do ret (← holding [.str (Txt.join (S []) (q.map fun q => S q.1)) t'] do newTuple [.str (Txt.join (S []) (q.map fun q => S q.1)) t', ← mkInt (n : Int)])) else ret (.str (Txt.join (S []) (q.map fun q => S q.1)) t')) (FinQ c Q) := by
      intro t'
      cases wc with
      | false => exact H_neg (by simp) (H_pure (a1 t' rfl))
      | true => exact H_pos rfl (H_bind (H_holding (H_bind (H_mkInt fun t2 => H_newTuple (fun a => H_pure (a2 a t' t2 rfl)) (show 2 ≤ sizeLine by decide)))))
    refine H_bind (H_seqItems hin ?_)
    cases q with
    | nil =>
      refine H_pos (by simp) (H_bind (H_pure ?_))
      exact tail t0
    | cons x q =>
      refine H_neg (by simp) (H_bind ?_)
      exact H_join (c := c.up) hin hok fun t' => tail t'
  have hj : HH c.up m nw (reNextFound { pattern := .ref pat, string := .str (S l) t, code := (cd.map (·.toNat)).toArray, text := l.toArray, kind := 0, groups := g, pos := 0, lim := l.toArray.size } start must) fun r m' nw' => r = none ∧ m' = m ∧ nw' = nw := by
    unfold reNextFound
    refine H_runToEnd hs (.inl ⟨?_, rfl, rfl, rfl⟩)
    rw [hcode]
    simpa using hm
  have go : HH c.up m nw (do
      match ← (if ((0 : Int) != 0 && decide ((n : Int) ≥ 0)) = true then pure none else reNextFound { pattern := .ref pat, string := .str (S l) t, code := (cd.map (·.toNat)).toArray, text := l.toArray, kind := 0, groups := g, pos := 0, lim := l.toArray.size } (start : Int).toNat must) with
      | some m =>
        if (done : Int).toNat < m.start then updateSeq L (·.push (← reSlice l.toArray 0 (done : Int).toNat m.start))
        let item ← if (way == 0) = true then pure repl else do
            let found ← reNewMatch (.ref pat) (.str (S l) t) g 0 l.toArray.size m
            holding [found] (if (way == 1) = true then call repl [found] else do reExpand repl (← reFound found))
        if (item != .none) = true then updateSeq L (·.push item)
        again (.builtin "re.Pattern.sub.loop" ⟨[.ref pat, .str (S l) t, repl, rawInt way, rawInt 0, rawInt (n + 1), rawInt m.handed, rawInt m.handed, .bool (m.handed == m.start), .ref L, .bool wc], []⟩)
      | none =>
        if (done : Int).toNat < l.toArray.size then updateSeq L (·.push (← reSlice l.toArray 0 (done : Int).toNat l.toArray.size))
        let joiner ← reSlice l.toArray 0 0 0
        let text ← if ((← seqItems? (.ref L)).getD #[]).isEmpty then pure joiner
          else call (.builtin (if (0 : Nat) == 0 then "str.join" else "bytes.join")) [joiner, .ref L]
        if wc = true then ret (← holding [text] do newTuple [text, ← mkInt (n : Int)]) else ret text) (FinQ c Q) := by
    refine H_bind (H_neg (by simp) ?_)
    rw [Int.toNat_natCast]
    refine H_mono hj ?_
    rintro _ m9 nw9 ⟨rfl, e9, e8⟩
    rw [e9, e8]
    dsimp only
    rw [Int.toNat_natCast, List.size_toArray]
    by_cases hd : done < l.length
    · rw [if_pos hd]
      refine H_bind (H_reSlice (l := l) (by omega) fun t1 => ?_)
      rw [List.take_of_length_le (by rw [List.length_drop]; omega)]
      refine H_bind (H_pushSeq (U (.str (S (l.drop done)) t1)) (by rw [List.length_map]; omega) ?_)
      have e1 : ps.map (fun q => Value.str (S q.1) q.2) ++ [.str (S (l.drop done)) t1] = (ps ++ [(l.drop done, t1)]).map fun q => Value.str (S q.1) q.2 := by simp
      have e2 : ps.map (fun q => S q.1) ++ [S (l.drop done)] = (ps ++ [(l.drop done, t1)]).map fun q => S q.1 := by simp
      refine fin (ps ++ [(l.drop done, t1)]) (k + 1) _ ?_ (by rw [← e2]; exact hok2) ?_ ?_
      · rw [← e1]
        have := (U (.str (S (l.drop done)) t1)).split
        obtain ⟨x, y, _, e⟩ := this
        rw [e]; simp
      · intro t' hw; rw [← e2]; exact h1 _ t' hd hw
      · intro a t' t2 hw; rw [← e2]; exact h3 _ a t' t2 hd hw
    · rw [if_neg hd]
      exact fin ps k nw (U .none).mem hok (fun t' hw => h2 t' hd hw) (fun a t' t2 hw => h4 a t' t2 hd hw)
  by_cases hw : way = 0
  · obtain ⟨x, u, e⟩ := hr hw
    subst hw
    subst e
    refine H_pos (by decide) (H_bind (t := reLiteralCannotBeTurned (.str x u)) (H_pure ?_))
    exact go
  · refine H_neg (by simpa using hw) ?_
    exact go
end
open PySem.Builtin.Re PySem.Builtin.Str
/-- texts laid one behind the other -/
def jn (sep : List Nat) : List (List Nat) → List Nat
  | [] => []
  | [x] => x
  | x :: y :: r => x ++ sep ++ jn sep (y :: r)
theorem join_S (sep : List Nat) : ∀ ls : List (List Nat), Txt.join (S sep) (ls.map S) = S (jn sep ls) := by
  have key : ∀ ls : List (List Nat), Str.join (S sep) (ls.map S) = S (jn sep ls) := by
    intro ls
    induction ls with
    | nil => rfl
    | cons x r ih =>
      cases r with
      | nil => rfl
      | cons y r =>
        show S x ++ S sep ++ Str.join (S sep) ((y :: r).map S) = _
        rw [ih, S_append, S_append]
        rfl
  intro ls
  show glued (S sep) (ls.map S) = _
  rw [StrLaws.glued_eq_join]
  exact key ls
theorem joinOk_of {sep : List Nat} {ls : List (List Nat)} (h : (ls.map List.length).sum + ls.length * sep.length ≤ 1000000) : JoinOk (S sep) (ls.map S) = true := by
  unfold JoinOk
  rw [StrLaws.joinTotal]
  have e : ((ls.map S).map fun x => x.length).sum + (ls.map S).length * (S sep).length = (ls.map List.length).sum + ls.length * sep.length := by
    rw [List.map_map, List.length_map, S_length]
    congr 2
  rw [e]
  have : ¬ ((ls.map List.length).sum + ls.length * sep.length > sizeLine) := by rw [sizeLine_eq]; omega
  simp [tooLong, this]
theorem jn_nil : ∀ ls : List (List Nat), jn [] ls = ls.flatten
  | [] => rfl
  | [x] => by simp [jn]
  | x :: y :: r => by
    show x ++ [] ++ jn [] (y :: r) = _
    rw [jn_nil (y :: r)]; simp

def hitAt (m : Sre.M) (b e g1 g2 : Nat) : Bool := (match m.outcome with | some .matched => true | _ => false) && m.start == b && m.handed == e && m.lastmark == 1 && m.lastindex == 1 && m.marks == #[some g1, some g2]
def hit0 (m : Sre.M) (b e : Nat) : Bool := (match m.outcome with | some .matched => true | _ => false) && m.start == b && m.handed == e
section
variable {c : Cx} {m : Nm} {nw : Nw}
theorem CL_sub_hit1 {pat ct : Addr} {p : String} {tp tf : Tok} {cd : List Int} {code : Array Nat} {l : List Nat} {t : Tok} {repl : Value} {n done start : Nat} {must wc : Bool} {L : Addr} {vs : List Value} {k : Nat} {steps b e g1 g2 : Nat} {r : List Nat} {Q : Value → Nm → Nw → Prop}
    (hp : (KF c.w).lookup pat = some (patO p tp tf 1 ct)) (hc : (KF c.w).lookup ct = some (codO cd)) (hcode : (cd.map (·.toNat)).toArray = code) (hz : l.length ≤ 100000) (hvs : vs.length ≤ 1000)
    (hs : steps ≤ 100000000) (hm : hitAt ((Sre.forSearch code l.toArray 1 start l.length must).runFor steps) b e g1 g2 = true) (hg : g1 ≤ g2)
    (hcall : ∀ a sp vs' k', HH c.up m ((a, mO (S l) t pat 0 l.length 1 sp) :: (sp, tupO [rawInt b, rawInt e, rawInt g1, rawInt g2]) :: (L, listO vs' k') :: nw) (call repl [.ref a]) fun v m' nw' => m' = m ∧ ∃ t', v = .str (S r) t' ∧ Sb ((L, listO vs' k') :: nw) nw')
    (h1 : ∀ t1 t' k', done < b → CL c m ((L, listO (vs ++ [.str (S ((l.drop done).take (b - done))) t1] ++ [.str (S r) t']) k') :: nw)
      (.builtin "re.Pattern.sub.loop" ⟨[.ref pat, .str (S l) t, repl, rawInt 1, rawInt 0, rawInt (n + 1 : Nat), rawInt e, rawInt e, .bool (e == b), .ref L, .bool wc], []⟩) Q)
    (h2 : ∀ t' k', ¬ done < b → CL c m ((L, listO (vs ++ [.str (S r) t']) k') :: nw)
      (.builtin "re.Pattern.sub.loop" ⟨[.ref pat, .str (S l) t, repl, rawInt 1, rawInt 0, rawInt (n + 1 : Nat), rawInt e, rawInt e, .bool (e == b), .ref L, .bool wc], []⟩) Q) :
    CL c m ((L, listO vs k) :: nw) (.builtin "re.Pattern.sub.loop" ⟨[.ref pat, .str (S l) t, repl, rawInt 1, rawInt 0, rawInt n, rawInt done, rawInt start, .bool must, .ref L, .bool wc], []⟩) Q := by
  refine CL_builtin (by decide +kernel) entry_subloop ?_
  unfold Builtin.«re.Pattern.sub.loop»
  dsimp only [rawInt]
  refine H_bind (H_wholeTarget (c := c.up) (g := 1) hp hc ?_)
  unfold hitAt at hm
  simp only [Bool.and_eq_true, beq_iff_eq] at hm
  obtain ⟨⟨⟨⟨⟨q1, q2⟩, q3⟩, q4⟩, q5⟩, q6⟩ := hm
  refine H_neg (by decide) ?_
  have hj : HH c.up m ((L, listO vs k) :: nw) (reNextFound { pattern := .ref pat, string := .str (S l) t, code := (cd.map (·.toNat)).toArray, text := l.toArray, kind := 0, groups := 1, pos := 0, lim := l.toArray.size } start must) fun r m' nw' => r = some ((Sre.forSearch code l.toArray 1 start l.length must).runFor steps) ∧ m' = m ∧ nw' = (L, listO vs k) :: nw := by
    unfold reNextFound
    refine H_runToEnd (n := steps) hs (.inr ⟨?_, ?_, rfl, rfl⟩)
    · rw [hcode, List.size_toArray]; exact q1
    · rw [hcode, List.size_toArray]
  generalize (Sre.forSearch code l.toArray 1 start l.length must).runFor steps = M at q1 q2 q3 q4 q5 q6 hj
  refine H_bind (H_neg (by simp) ?_)
  rw [Int.toNat_natCast]
  refine H_mono hj ?_
  rintro _ m9 nw9 ⟨rfl, e9, e8⟩
  rw [e9, e8]
  dsimp only
  rw [Int.toNat_natCast, q2, q3]
  have step : ∀ (vs' : List Value) (k' : Nat) (hv : vs'.length ≤ 1001), (∀ t' k'', CL c m ((L, listO (vs' ++ [.str (S r) t']) k'') :: nw)
      (.builtin "re.Pattern.sub.loop" ⟨[.ref pat, .str (S l) t, repl, rawInt 1, rawInt 0, rawInt (n + 1 : Nat), rawInt e, rawInt e, .bool (e == b), .ref L, .bool wc], []⟩) Q) →
      HH c.up m ((L, listO vs' k') :: nw) (do
        let item ← if ((1 : Int) == 0) = true then pure repl else do
            let found ← reNewMatch (.ref pat) (.str (S l) t) 1 0 l.toArray.size M
            holding [found] (if ((1 : Int) == 1) = true then call repl [found] else do reExpand repl (← reFound found))
        if (item != .none) = true then updateSeq L (·.push item)
        again (.builtin "re.Pattern.sub.loop" ⟨[.ref pat, .str (S l) t, repl, .int 1 0, .int 0 0, .int (n + 1 : Int) 0, .int (e : Int) 0, .int (e : Int) 0, .bool (e == b), .ref L, .bool wc], []⟩)) (FinQ c Q) := by
    intro vs' k' hv hn
    refine H_neg (by decide) (H_bind ?_)
    refine H_newMatch (b := b) (e := e) (g1 := g1) (g2 := g2) (p := 0) (lim := l.toArray.size) q2 q3 q4 q5 q6 hg fun a sp => ?_
    refine H_bind (H_holding (H_pos (by decide) ?_))
    have hcall' := hcall a sp vs' k'
    rw [← List.size_toArray] at hcall'
    refine H_mono hcall' ?_
    rintro v m8 nw8 ⟨e7, t', rfl, hsb⟩
    rw [e7]
    refine H_wk hsb ?_
    refine H_pos (by rfl) (H_bind (H_pushSeq Up.hd (by omega) ?_))
    exact H_pure ⟨Code.quiet_builtin _ (by decide +kernel), hn t' _⟩
  by_cases hd : done < b
  · rw [if_pos hd]
    refine H_bind (H_reSlice (l := l) (by omega) fun t1 => ?_)
    refine H_bind (H_pushSeq Up.hd (by omega) ?_)
    exact step _ _ (by simp; omega) fun t' k'' => h1 t1 t' k'' hd
  · rw [if_neg hd]
    exact step _ _ (by omega) fun t' k'' => h2 t' k'' hd
/-- the head of sub and subn -/
theorem H_sub_head {wc : Bool} {id f : String} {pat ct : Addr} {p : String} {tp tf : Tok} {g : Nat} {cd : List Int} {l : List Nat} {t : Tok} {fa : Addr} {o : Obj} {fd : FuncData} {Q : Value → Nm → Nw → Prop}
    (hp : (KF c.w).lookup pat = some (patO p tp tf g ct)) (hc : (KF c.w).lookup ct = some (codO cd)) (hf : (fa, o) ∈ nw) (ho : o.cls = .type "function")
    (h : ∀ L, CL c m ((L, listO []) :: nw) (.builtin "re.Pattern.sub.loop" ⟨[.ref pat, .str (S l) t, .ref fa, rawInt 1, rawInt 0, rawInt (0 : Nat), rawInt (0 : Nat), rawInt (0 : Nat), .bool false, .ref L, .bool wc], []⟩) Q) :
    HH c.up m nw (reSubstitute id f wc ⟨[.ref pat, .ref fa, .str (S l) t], []⟩) (FinQ c Q) := by
  unfold reSubstitute
  dsimp only
  rw [named2]
  refine H_bind (H_pure ?_)
  dsimp only
  refine H_bind (H_pure ?_)
  obtain ⟨r, hr⟩ := call_function
  refine H_bind (H_look (a := some r) (fun A s G Q' hq => wpAny_specialOf ⟨_, G.fm.get hf, ho⟩ hr hq) ?_)
  dsimp only [Option.isSome]
  refine H_bind (H_pure ?_)
  refine H_pos rfl (H_bind (H_pure ?_))
  dsimp only
  refine H_bind (H_holding (H_wholeTarget (c := c.up) hp hc ?_))
  refine H_pos (by decide) ?_
  refine H_bind ?_
  unfold reNotHeld
  refine H_bind (H_look (a := false) (fun A s G Q' hq => wpAny_isInstance (typeIs_str s _ _) F.sub_str_bytearray hq) ?_)
  refine H_neg (by decide) (H_pure ?_)
  refine H_bind (H_newList (fun L => ?_) (by decide))
  exact H_pure ⟨Code.quiet_builtin _ (by decide +kernel), h L⟩
theorem H_post {α : Type} {t : Sem α} {Q : α → Nm → Nw → Prop} (h : HH c m nw t fun a m' nw' => ∃ nw'', Sb nw'' nw' ∧ Q a m' nw'') : HH c m nw t Q :=
  fun A s G => h.go A s G fun a s' m' nw' G' ⟨nw'', hs, q⟩ => ⟨m', nw'', G'.sub (fun _ _ e => e) hs, q⟩
theorem join1 (l : List Nat) : Txt.join (S []) ([] ++ [S l]) = S l := by
  have := join_S [] [l]
  simpa [jn] using this
theorem H_sub_none {pat ct : Addr} {p : String} {tp tf : Tok} {g : Nat} {cd : List Int} {code : Array Nat} {l : List Nat} {t : Tok} {fa : Addr} {o : Obj} {steps : Nat} {Q : Value → Nm → Nw → Prop}
    (hp : (KF c.w).lookup pat = some (patO p tp tf g ct)) (hc : (KF c.w).lookup ct = some (codO cd)) (hcode : (cd.map (·.toNat)).toArray = code) (hz : l.length ≤ 100000) (hf : (fa, o) ∈ nw) (ho : o.cls = .type "function") (hfd : ∃ fd, o.data = .func fd)
    (hs : steps ≤ 100000000) (hm : miss ((at0 code g l).runFor steps) = true) (h : ∀ t', Q (.str (S l) t') m nw) : HH c m nw (call (.builtin "re.Pattern.sub") [.ref pat, .ref fa, .str (S l) t]) Q := by
  refine H_post (H_entryA slot_re_Pattern_sub (TyAt.K hp) entry_re_Pattern_sub (args_re_Pattern_sub _ _ _) ?_)
  obtain ⟨fd, hfd⟩ := hfd
  refine H_sub_head (fd := fd) hp hc hf ho fun L => ?_
  refine CL_sub_end (ps := []) (nw' := fun v => (L, listO [v] 1) :: nw) hp hc hcode hz (fun e => nomatch e) hs ?_ (joinOk_of (ls := []) (by simp)) (by simp) ?_ (fun v => Up.hd) ?_ ?_ ?_ ?_
  · unfold at0 at hm; simpa using hm
  · have := joinOk_of (sep := []) (ls := [l.drop 0]) (by simp; omega)
    simpa using this
  · intro v t' _ _
    exact ⟨nw, Sb.drop Sb.refl, by rw [List.map_nil, join1, List.drop_zero]; exact h t'⟩
  · intro t' hd _
    have : l = [] := by cases l with | nil => rfl | cons x l => simp at hd
    subst this
    exact ⟨nw, Sb.drop Sb.refl, h t'⟩
  · intro _ _ _ _ _ e; cases e
  · intro _ _ _ _ e; cases e
theorem H_sub_one {pat ct : Addr} {p : String} {tp tf : Tok} {cd : List Int} {code : Array Nat} {l r : List Nat} {t : Tok} {fa : Addr} {o : Obj} {st1 st2 b e g1 g2 : Nat} {Q : Value → Nm → Nw → Prop}
    (hp : (KF c.w).lookup pat = some (patO p tp tf 1 ct)) (hc : (KF c.w).lookup ct = some (codO cd)) (hcode : (cd.map (·.toNat)).toArray = code) (hz : l.length ≤ 100000) (hr : r.length ≤ 100000) (hf : (fa, o) ∈ nw) (ho : o.cls = .type "function") (hfd : ∃ fd, o.data = .func fd)
    (hs : st1 ≤ 100000000) (hm : hitAt ((at0 code 1 l).runFor st1) b e g1 g2 = true) (hg : g1 ≤ g2) (hs2 : st2 ≤ 100000000) (hm2 : miss ((Sre.forSearch code l.toArray 1 e l.length (e == b)).runFor st2) = true)
    (hcall : ∀ a sp nw', HH c.up m ((a, mO (S l) t pat 0 l.length 1 sp) :: (sp, tupO [rawInt b, rawInt e, rawInt g1, rawInt g2]) :: nw' :: nw) (call (.ref fa) [.ref a]) fun v m' nw'' => m' = m ∧ ∃ t', v = .str (S r) t' ∧ Sb (nw' :: nw) nw'')
    (h : ∀ t', Q (.str (S (l.take b ++ r ++ l.drop e)) t') m nw) : HH c m nw (call (.builtin "re.Pattern.sub") [.ref pat, .ref fa, .str (S l) t]) Q := by
  refine H_post (H_entryA slot_re_Pattern_sub (TyAt.K hp) entry_re_Pattern_sub (args_re_Pattern_sub _ _ _) ?_)
  obtain ⟨fd, hfd⟩ := hfd
  refine H_sub_head (fd := fd) hp hc hf ho fun L => ?_
  have hend : ∀ (ps : List (List Nat × Tok)) (k : Nat), ps.length ≤ 3 → (∀ q ∈ ps, q.1.length ≤ 100000) → (ps.map (·.1)).flatten = l.take b ++ r → CL c m ((L, listO (ps.map fun q => .str (S q.1) q.2) k) :: nw)
      (.builtin "re.Pattern.sub.loop" ⟨[.ref pat, .str (S l) t, .ref fa, rawInt 1, rawInt 0, rawInt (0 + 1 : Nat), rawInt e, rawInt e, .bool (e == b), .ref L, .bool false], []⟩) fun v m' nw' => ∃ nw'', Sb nw'' nw' ∧ Q v m' nw'' := by
    intro ps k hl hle hps
    have sum_le : ∀ qs : List (List Nat × Tok), (∀ q ∈ qs, q.1.length ≤ 100000) → ((qs.map (·.1)).map List.length).sum ≤ qs.length * 100000 := by
      intro qs
      induction qs with
      | nil => simp
      | cons q qs ih =>
        intro hq
        have h1 := hq q (.head _)
        have h2 := ih fun x hx => hq x (.tail _ hx)
        simp only [List.map_cons, List.sum_cons, List.length_cons]
        omega
    have e0 : ps.map (fun q => S q.1) = (ps.map (·.1)).map S := by rw [List.map_map]; rfl
    have e1 : ps.map (fun q => S q.1) ++ [S (l.drop e)] = (ps.map (·.1) ++ [l.drop e]).map S := by rw [e0, List.map_append]; rfl
    have hs0 := sum_le ps hle
    refine CL_sub_end (ps := ps) (nw' := fun v => (L, listO (ps.map (fun q => .str (S q.1) q.2) ++ [v]) (k + 1)) :: nw) hp hc hcode hz (fun e => nomatch e) hs2 ?_ ?_ (by omega) ?_ (fun v => Up.hd) ?_ ?_ ?_ ?_
    · simpa using hm2
    · rw [e0]; exact joinOk_of (by simp only [List.length_nil, Nat.mul_zero, Nat.add_zero]; omega)
    · rw [e1]; refine joinOk_of ?_
      simp only [List.length_nil, Nat.mul_zero, Nat.add_zero, List.map_append, List.map_cons, List.map_nil, List.sum_append, List.sum_cons, List.sum_nil, List.length_drop]
      simp only [List.map_map] at hs0 ⊢
      omega
    · intro v t' _ _
      refine ⟨nw, Sb.drop Sb.refl, ?_⟩
      rw [e1, join_S, jn_nil, List.flatten_append, hps]
      simpa using h t'
    · intro t' hd _
      refine ⟨nw, Sb.drop Sb.refl, ?_⟩
      rw [e0, join_S, jn_nil, hps]
      have := h t'
      rw [List.drop_eq_nil_of_le (by omega), List.append_nil] at this
      exact this
    · intro _ _ _ _ _ e; cases e
    · intro _ _ _ _ e; cases e
  refine CL_sub_hit1 (r := r) (b := b) (e := e) (g1 := g1) (g2 := g2) hp hc hcode hz (by simp) hs ?_ hg ?_ ?_ ?_
  · unfold at0 at hm; exact hm
  · intro a sp vs' k'; exact hcall a sp _
  · intro t1 t' k' hd
    refine hend [((l.drop 0).take (b - 0), t1), (r, t')] k' (by simp) ?_ (by simp)
    intro q hq
    simp only [List.mem_cons, List.not_mem_nil, or_false] at hq
    rcases hq with rfl | rfl
    · show ((l.drop 0).take (b - 0)).length ≤ 100000
      rw [List.length_take, List.length_drop]; omega
    · exact hr
  · intro t' k' hd
    refine hend [(r, t')] k' (by simp) ?_ ?_
    · intro q hq
      simp only [List.mem_cons, List.not_mem_nil, or_false] at hq
      subst hq; exact hr
    · have : b = 0 := by omega
      subst this; simp
end
open PySem.Builtin.Re PySem.Builtin.Str
section
variable {c : Cx} {m : Nm} {nw : Nw}
theorem H_subn {pat ct : Addr} {p : String} {tp tf : Tok} {cd : List Int} {code : Array Nat} {l : List Nat} {t u : Tok} {st1 st2 e : Nat} {Q : Value → Nm → Nw → Prop}
    (hp : (KF c.w).lookup pat = some (patO p tp tf 0 ct)) (hc : (KF c.w).lookup ct = some (codO cd)) (hcode : (cd.map (·.toNat)).toArray = code) (hz : l.length ≤ 100000)
    (hs : st1 ≤ 100000000) (hm : hit0 ((at0 code 0 l).runFor st1) 0 e = true) (hs2 : st2 ≤ 100000000) (hm2 : miss ((Sre.forSearch code l.toArray 0 e l.length (e == 0)).runFor st2) = true)
    (h : ∀ a t1 t2, Q (.ref a) m ((a, tupO [.str (S (l.drop e)) t1, .int 1 t2]) :: nw)) : HH c m nw (call (.builtin "re.Pattern.subn") [.ref pat, .str (S []) u, .str (S l) t]) Q := by
  refine H_post (H_entryA slot_re_Pattern_subn (TyAt.K hp) entry_re_Pattern_subn (args_re_Pattern_subn _ _ _) ?_)
  show HH c.up m nw (reSubstitute "re.Pattern.subn" "subn" true ⟨[.ref pat, .str (S []) u, .str (S l) t], []⟩) _
  unfold reSubstitute
  dsimp only
  rw [named2]
  refine H_bind (H_pure ?_)
  dsimp only
  refine H_bind (H_pure ?_)
  refine H_bind (H_look (a := none) (fun A s G Q' hq => wpAny_specialOf (typeIs_str s _ _) nocall_str hq) ?_)
  dsimp only [Option.isSome]
  refine H_neg (by decide) ?_
  refine H_bind (H_pure ?_)
  refine H_bind (H_pure ?_)
  refine H_neg (by decide) ?_
  refine H_pos (by decide +kernel) ?_
  refine H_bind (H_pure ?_)
  dsimp only
  refine H_bind (H_holding (H_wholeTarget (c := c.up) (g := 0) hp hc ?_))
  refine H_neg (by decide) ?_
  refine H_bind (H_newList (fun L => ?_) (by decide))
  refine H_pure ⟨Code.quiet_builtin _ (by decide +kernel), ?_⟩
  -- the first turn
  refine CL_builtin (by decide +kernel) entry_subloop ?_
  unfold Builtin.«re.Pattern.sub.loop»
  dsimp only [rawInt]
  refine H_bind (H_wholeTarget (c := c.up) (g := 0) hp hc ?_)
  refine H_pos (by decide) (H_bind (t := reLiteralCannotBeTurned (.str (S []) u)) (H_pure ?_))
  unfold hit0 at hm
  simp only [Bool.and_eq_true, beq_iff_eq] at hm
  obtain ⟨⟨q1, q2⟩, q3⟩ := hm
  have hj : HH c.up m ((L, listO []) :: nw) (reNextFound { pattern := .ref pat, string := .str (S l) t, code := (cd.map (·.toNat)).toArray, text := l.toArray, kind := 0, groups := 0, pos := 0, lim := l.toArray.size } 0 false) fun r m' nw' => r = some ((at0 code 0 l).runFor st1) ∧ m' = m ∧ nw' = (L, listO []) :: nw := by
    unfold reNextFound
    refine H_runToEnd (n := st1) hs (.inr ⟨?_, ?_, rfl, rfl⟩)
    · rw [hcode, List.size_toArray]; exact q1
    · rw [hcode, List.size_toArray]; rfl
  generalize (at0 code 0 l).runFor st1 = M at q1 q2 q3 hj
  refine H_bind (H_neg (by simp) ?_)
  refine H_mono hj ?_
  rintro _ m9 nw9 ⟨rfl, e9, e8⟩
  rw [e9, e8]
  dsimp only
  rw [q2, q3]
  refine H_neg (by decide) ?_
  refine H_pos (by decide) (H_bind (H_pure ?_))
  refine H_pos (by rfl) (H_bind (H_pushSeq Up.hd (by simp) ?_))
  refine H_pure ⟨Code.quiet_builtin _ (by decide +kernel), ?_⟩
  -- the second
  have j2 : Txt.join (S []) (([([], u)] : List (List Nat × Tok)).map (fun q => S q.1) ++ [S (l.drop e)]) = S (l.drop e) := by
    have := join_S [] [[], l.drop e]
    rw [jn_nil] at this
    simpa using this
  refine CL_sub_end (n := 1) (done := e) (start := e) (ps := [([], u)]) (nw' := fun v => (L, listO ([.str (S []) u] ++ [v]) (0 + 1 + 1)) :: nw) hp hc hcode hz (fun _ => ⟨_, _, rfl⟩) hs2 hm2 (joinOk_of (ls := [[]]) (by simp)) (by simp) ?_ (fun v => Up.hd) ?_ ?_ ?_ ?_
  · exact joinOk_of (sep := []) (ls := [[], l.drop e]) (by simp; omega)
  · intro _ _ _ e; cases e
  · intro _ _ e; cases e
  · intro v a t' t2 _ _
    rw [j2]
    exact ⟨_, Sb.keep (Sb.drop Sb.refl), h a t' t2⟩
  · intro a t' t2 hd _
    have e5 : l.drop e = [] := List.drop_eq_nil_of_le (by omega)
    have := h a t' t2
    rw [e5] at this
    exact ⟨_, Sb.keep (Sb.drop Sb.refl), this⟩
/-- anchored, from a later start -/
theorem late_miss {t : List Nat} {s : Nat} (h1 : 1 ≤ s) (h2 : s ≤ t.length) : ∃ n, n ≤ 2 * t.length + 4 ∧ miss ((Sre.forSearch cTwin t.toArray 0 s t.length false).runFor n) = true := by
  have hh : Sre.header cTwin = (0, 5) := by decide +kernel
  have hf : ∀ m : Sre.M, m.code = cTwin → (!m.hasFirstSet) = true := fun m e => by unfold Sre.M.hasFirstSet; rw [e]; decide +kernel
  have hf' : ∀ m : Sre.M, m.code = cTwin → m.hasFirstSet = false := fun m e => by have := hf m e; simpa using this
  have key : ∃ M : Sre.M, Sre.forSearch cTwin t.toArray 0 s t.length false = M ∧ Fl M s ∧ M.lastStart ≤ t.length := by
    refine ⟨_, rfl, ?_⟩
    unfold Sre.forSearch
    simp only [hh]
    rw [if_neg (by simp; omega)]
    unfold Sre.M.attemptFrom
    rw [if_pos (hf _ rfl)]
    exact ⟨⟨rfl, rfl, ⟨_, rfl, rfl, rfl, rfl, rfl⟩, rfl, rfl, (show cTwin.getD 5 0 = 6 by decide +kernel), (show cTwin.getD 6 0 = 0 by decide +kernel), (show 5 < cTwin.size by decide +kernel), hf' _ rfl, rfl⟩, Nat.le_refl _⟩
  obtain ⟨M, e, F, hl⟩ := key
  obtain ⟨n, hn, hm⟩ := Fl.go (t.length - s) M s F h1 (by omega)
  exact ⟨n, by omega, by rw [e]; exact hm⟩
theorem named1' (id f : String) (v : Value) : reNamed id f ["string", "pos", "endpos"] 1 [v] [] = pure [some v, none, none] := by rfl
def atF (code : Array Nat) (g : Nat) (t : List Nat) : Sre.M := Sre.forMatch code t.toArray g 0 t.length true false
theorem H_full_miss {pat ct : Addr} {p : String} {tp tf : Tok} {g : Nat} {cd : List Int} {code : Array Nat} {l : List Nat} {t : Tok} {n : Nat} {Q : Value → Nm → Nw → Prop}
    (hp : (KF c.w).lookup pat = some (patO p tp tf g ct)) (hc : (KF c.w).lookup ct = some (codO cd)) (hcode : (cd.map (·.toNat)).toArray = code) (hz : l.length ≤ 1000000) (hn : n ≤ 100000000)
    (hm : miss ((atF code g l).runFor n) = true) (h : Q .none m nw) : HH c m nw (call (.builtin "re.Pattern.fullmatch") [.ref pat, .str (S l) t]) Q := by
  refine H_entry slot_re_Pattern_fullmatch (TyAt.K hp) entry_re_Pattern_fullmatch (args_re_Pattern_fullmatch _ _) ?_
  unfold Builtin.«re.Pattern.fullmatch»
  refine H_bind (H_reTarget (c := c.up) hp hc hz ?_)
  dsimp only
  rw [hcode]
  unfold reAnswer
  refine H_bind (H_runToEnd hn (.inl ⟨hm, ?_⟩))
  exact H_pure ⟨_, rfl, h⟩
theorem H_full_hit {pat ct : Addr} {p : String} {tp tf : Tok} {cd : List Int} {code : Array Nat} {l : List Nat} {t : Tok} {n : Nat} {Q : Value → Nm → Nw → Prop}
    (hp : (KF c.w).lookup pat = some (patO p tp tf 0 ct)) (hc : (KF c.w).lookup ct = some (codO cd)) (hcode : (cd.map (·.toNat)).toArray = code) (hz : l.length ≤ 1000000) (hn : n ≤ 100000000)
    (hm : (match ((atF code 0 l).runFor n).outcome with | some .matched => true | _ => false) = true) (h : ∀ a o, o.cls = .type "re.Match" → o.dict = none → Q (.ref a) m ((a, o) :: nw)) : HH c m nw (call (.builtin "re.Pattern.fullmatch") [.ref pat, .str (S l) t]) Q := by
  refine H_entry slot_re_Pattern_fullmatch (TyAt.K hp) entry_re_Pattern_fullmatch (args_re_Pattern_fullmatch _ _) ?_
  unfold Builtin.«re.Pattern.fullmatch»
  refine H_bind (H_reTarget (c := c.up) (g := 0) hp hc hz ?_)
  dsimp only
  rw [hcode]
  unfold reAnswer
  refine H_bind (H_runToEnd hn (.inr ⟨hm, ?_⟩))
  refine H_bind ?_
  unfold reNewMatch
  dsimp only
  refine H_neg (by simp) ?_
  refine H_bind (H_newTuple (fun sp => ?_) (show 2 ≤ sizeLine by decide))
  refine H_newFields (fun a => ?_) (show 6 ≤ sizeLine by decide)
  exact H_wk (nw' := _ :: nw) (Sb.keep (Sb.drop Sb.refl)) (H_pure ⟨_, rfl, h a _ rfl rfl⟩)
end
theorem lk_hit {x : Str} {v : Value} {m : Nm} : List.lookup x ((x, v) :: m) = some v := by simp
theorem lk_miss {x y : Str} {u v : Value} {m : Nm} (h : (x == y) = false) (e : List.lookup x m = some v) : List.lookup x ((y, u) :: m) = some v := by rw [List.lookup_cons, h]; exact e
local macro_rules | `(tactic| walk_at "kd") => `(tactic| decide +kernel)
local macro_rules | `(tactic| walk_at "lk") => `(tactic| first | with_reducible exact lk_hit | with_reducible assumption | ((with_reducible apply lk_miss); (focus decide +kernel); walk_at "lk"))
local macro_rules | `(tactic| walk_at "mem") => `(tactic| first | with_reducible exact List.mem_cons_self | with_reducible assumption | ((with_reducible refine' List.mem_cons_of_mem _ ?_); walk_at "mem"))
local macro_rules | `(tactic| walk_at "up") => `(tactic| first | with_reducible exact Up.hd | ((with_reducible apply Up.tl); walk_at "up"))
local macro_rules | `(tactic| walk_at "sb") => `(tactic| first | with_reducible exact Sb.refl | ((with_reducible refine' Sb.keep ?_); walk_at "sb") | ((with_reducible refine' Sb.drop ?_); walk_at "sb"))
local macro_rules | `(tactic| walk_at "gl") => `(tactic| with_reducible first | exact gl_43 _ | exact gl_48 _ | exact gl_53 _ | exact gl_58 _ | exact gl_63 _ | exact gl_36 _ | exact gl_70 _ | exact gl_75 _ | exact gl_80 _ | exact gl_87 _ | exact gl_96 _ | exact gl_105 _ | exact gl_114 _ | exact gl_123 _ | exact gl_130 _ | exact gl_137 _ | exact gl_142 _ | exact gl_147 _ | exact gl_152 _)
local macro_rules | `(tactic| walk_at "nm") => `(tactic| first
  | ((with_reducible apply H_Name_local); (focus decide +kernel); (focus walk_at "lk"))
  | ((with_reducible apply H_Name_K); (focus decide +kernel); (focus walk_at "gl"))
  | ((with_reducible apply H_Name_B); (focus decide +kernel); (focus with_reducible first | exact gn_len _ | exact gn_isinstance _ | exact gn_sum _ | exact gn_sorted _ | exact gn_str _ | exact gn_range _ | exact gn_list _); (focus with_reducible first | exact bb_len | exact bb_isinstance | exact bb_sum | exact bb_sorted | exact bb_str | exact bb_range | exact bb_list)))
local macro_rules | `(tactic| walk_at "ev") => `(tactic| first
  | ((with_reducible refine' H_int ?_); intro _)
  | ((with_reducible refine' H_str ?_); intro _)
  | with_reducible refine' H_none ?_
  | with_reducible refine' H_bool ?_
  | with_reducible refine' H_BinOp ?_
  | with_reducible refine' H_UnaryOp ?_
  | with_reducible refine' H_Subscript ?_
  | with_reducible refine' H_Slice ?_
  | with_reducible refine' H_evalPart_none ?_
  | with_reducible refine' H_evalPart_some ?_
  | (with_reducible refine' H_spliced_nil ?_)
  | ((with_reducible refine' H_spliced_cons ?_ ?e); (case e => exact rfl))
  | with_reducible refine' H_List ?_
  | with_reducible refine' H_Tuple ?_
  | with_reducible refine' H_Call_Name ?_
  | with_reducible refine' H_IfExp ?_
  | ((with_reducible refine' H_Attribute ?_ ?e); (case e => with_unfolding_all exact rfl))
  | walk_at "nm")
local macro_rules | `(tactic| walk_at "ex") => `(tactic| first
  | ((with_reducible refine' H_Assign ?a ?_ ?e); (case a => decide +kernel); (case e => exact rfl))
  | ((with_reducible refine' H_Assign2 ?a ?b ?_ ?e ?f); (case a => decide +kernel); (case b => decide +kernel); (case e => exact rfl); (case f => exact rfl))
  | ((with_reducible refine' H_Expr ?_ ?e ?f); (case e => exact rfl); (case f => exact rfl))
  | with_reducible refine' H_Return ?_
  | with_reducible refine' H_If ?_
  | with_reducible refine' H_Assert ?_)
theorem unmatched_ok {c : Cx} {m : Nm} {nw : Nw} {mv pat sp : Addr} {l : List Nat} {tx : Tok} {p lm li b1 e1 : Int} {b e : Nat} {Q : Value → Nm → Nw → Prop} (hroom : c.d < 900)
    (hm : (mv, mO (S l) tx pat p lm li sp) ∈ nw) (hs : (sp, tupO [rawInt b, rawInt e, rawInt b1, rawInt e1]) ∈ nw) (hz : l.length ≤ 100000)
    (h : ∀ t, Q (.str (S (l.take b ++ l.drop e)) t) m nw) : HH c m nw (call (.ref 43) [.ref mv]) Q := by
  refine call_43 hroom fun g L' => ?_
  show HH _ _ _ (execs (_ :: _) _) _
  walk_at "ex"
  refine H_Call_method pa_reM slot_re_Match_span type_re_Match_span ?_
  walk_at "ev"
  refine ⟨TyAt.led hm, H_callWith_b ?_⟩
  walk_at "ev"
  walk_at "ev"
  walk_at "ev"
  refine H_reSpan hm hs fun r t1 t2 => ?_
  refine ⟨_, _, _, rfl, .head _, ?_⟩
  walk_at "ex"
  walk_at "ev"
  walk_at "ev"
  walk_at "ev"
  walk_at "ev"
  refine H_reString (.tail _ hm) ?_
  walk_at "ev"
  walk_at "ev"
  walk_at "ev"
  walk_at "ev"
  walk_at "ev"
  intro a1
  refine H_slice_to (.head _) (by omega) fun t3 => ?_
  walk_at "ev"
  walk_at "ev"
  walk_at "ev"
  refine H_reString (.tail _ (.tail _ hm)) ?_
  walk_at "ev"
  walk_at "ev"
  walk_at "ev"
  walk_at "ev"
  walk_at "ev"
  intro a2
  refine H_slice_from (.head _) (by omega) fun t4 => ?_
  refine H_add_str (by rw [List.length_take, List.length_drop]; omega) fun t5 => ?_
  exact ⟨nw, by walk_at "sb", h t5⟩
/-! what the reading of a text is, on the regex machine's word -/
def cEsc : Array Nat := #[14, 8, 1, 2, 2, 1, 1, 92, 0, 16, 92, 17, 0, 2, 17, 1, 1]
inductive SE : List Nat → List Nat → Prop
  | none {l : List Nat} {st : Nat} : st ≤ 100000 → miss ((at0 cEsc 1 l).runFor st) = true → SE l l
  | one {l : List Nat} {st st2 b e g1 g2 : Nat} : st ≤ 100000 → hitAt ((at0 cEsc 1 l).runFor st) b e g1 g2 = true → g1 < g2 → g2 ≤ l.length → st2 ≤ 100000 → miss ((Sre.forSearch cEsc l.toArray 1 e l.length (e == b)).runFor st2) = true →
      SE l (l.take b ++ (l.drop g1).take (g2 - g1) ++ l.drop e)
inductive VF : List Nat → Option (List Nat) → List Nat → Prop
  | q {t v : List Nat} {st e g1 g2 : Nat} : st ≤ 1000000 → hit ((at0 cQuo 1 t).runFor st) e g1 g2 = true → g1 ≤ g2 → g2 ≤ g1 + 10000 → SE ((t.drop g1).take (g2 - g1)) v → VF t (some v) (t.drop e)
  | v {t v : List Nat} {st st2 e g1 g2 : Nat} : st ≤ 1000000 → miss ((at0 cQuo 1 t).runFor st) = true → st2 ≤ 1000000 → hit ((at0 cVal 1 t).runFor st2) e g1 g2 = true → g1 ≤ g2 → g2 ≤ g1 + 10000 → Txt.rstrip (S ((t.drop g1).take (g2 - g1))) = S v → VF t (some v) (t.drop e)
  | n {t : List Nat} {st st2 : Nat} : st ≤ 1000000 → miss ((at0 cQuo 1 t).runFor st) = true → st2 ≤ 1000000 → miss ((at0 cVal 1 t).runFor st2) = true → VF t none t
inductive RD : Nat → List Nat → List (List Nat × Option (List Nat)) → Prop
  | nil : RD 0 [] []
  | wd {k st n : Nat} {t t' : List Nat} {v : Option (List Nat)} {ps : List (List Nat × Option (List Nat))} : st ≤ 1000000 → hit ((at0 cTok 1 (n :: t)).runFor st) 1 0 1 = true → VF t v t' → RD k t' ps → RD (k + 1) (n :: t) (([n], v) :: ps)
  | sp {k st st2 st3 e : Nat} {l : List Nat} {ps : List (List Nat × Option (List Nat))} : l ≠ [] → st ≤ 1000000 → miss ((at0 cTok 1 l).runFor st) = true → Txt.startswith (Txt.lstrip (S l)) (Str.ofString ",") = false →
      st2 ≤ 1000000 → hit0 ((at0 cTwin 0 l).runFor st2) 0 e = true → st3 ≤ 1000000 → miss ((Sre.forSearch cTwin l.toArray 0 e l.length (e == 0)).runFor st3) = true → RD k (l.drop e) ps → RD (k + 1) l ps
def OptIs (u : Value) : Option (List Nat) → Prop
  | none => u = .none
  | some x => ∃ t, u = .str (S x) t
def PairIs (nw : Nw) (v : Value) (p : List Nat × Option (List Nat)) : Prop := ∃ a t u, v = .ref a ∧ (a, tupO [.str (S p.1) t, u]) ∈ nw ∧ OptIs u p.2
inductive Tups (nw : Nw) : List Value → List (List Nat × Option (List Nat)) → Prop
  | nil : Tups nw [] []
  | cons {v : Value} {vs : List Value} {p : List Nat × Option (List Nat)} {ps : List (List Nat × Option (List Nat))} : PairIs nw v p → Tups nw vs ps → Tups nw (v :: vs) (p :: ps)
theorem PairIs.mono {nw nw' : Nw} {v : Value} {p : List Nat × Option (List Nat)} (h : PairIs nw v p) (hs : ∀ q ∈ nw, q ∈ nw') : PairIs nw' v p := let ⟨a, t, u, e, m, r⟩ := h; ⟨a, t, u, e, hs _ m, r⟩
theorem Tups.mono {nw nw' : Nw} {vs : List Value} {ps : List (List Nat × Option (List Nat))} (h : Tups nw vs ps) (hs : ∀ q ∈ nw, q ∈ nw') : Tups nw' vs ps := by
  induction h with
  | nil => exact .nil
  | cons h _ ih => exact .cons (h.mono hs) ih
theorem Tups.append {nw : Nw} {vs ws : List Value} {ps qs : List (List Nat × Option (List Nat))} (h : Tups nw vs ps) (h' : Tups nw ws qs) : Tups nw (vs ++ ws) (ps ++ qs) := by
  induction h with
  | nil => exact h'
  | cons h _ ih => exact .cons h ih
theorem Tups.length {nw : Nw} {vs : List Value} {ps : List (List Nat × Option (List Nat))} (h : Tups nw vs ps) : vs.length = ps.length := by
  induction h with
  | nil => rfl
  | cons _ _ ih => simp [ih]
theorem fl_70 (w : World) : (KF w).lookup 70 = some (fnObj 8 "split_header_words" .none .none (.str "cpy313.http.cookiejar" 282) 69) := by kernel_rfl
theorem cd_70 (w : World) : codeIn (KF w) (.ref 69) (Str.ofString "split_header_words") = true := by kernel_rfl
theorem call_70 {c : Cx} {m : Nm} {nw : Nw} {v : Value} {Q : Value → Nm → Nw → Prop} (hroom : c.d < 900)
    (h : ∀ g L', HH (c.dn g L') [(Str.ofString "header_values", v)] nw (execs (bodyAt 8) (envF 8 "split_header_words" 70 69 L')) fun fl m' nw' => ∃ nw'', Sb nw'' nw' ∧ Q (retV fl) m nw'') : HH c m nw (call (.ref 70) [v]) Q :=
  H_call (binds := [(Str.ofString "header_values", v)]) (fl_70 c.w) rfl (cd_70 c.w) rfl hroom (fun s X => BindsTo.of_eq (by kernel_rfl)) (cellFree.elim (by decide +kernel)) (locs' (by kernel_rfl)) (by decide +kernel) (by decide +kernel) (by decide +kernel) h
abbrev strVs (ts : List (List Nat × Tok)) : List Value := ts.map fun q => .str (S q.1) q.2
def RowIs (T : Nw) (v : Value) (ps : List (List Nat × Option (List Nat))) : Prop := ∃ a vs n, v = .ref a ∧ (a, listO vs n) ∈ T ∧ Tups T vs ps
inductive RowsIs (T : Nw) : List Value → List (List (List Nat × Option (List Nat))) → Prop
  | nil : RowsIs T [] []
  | cons {v : Value} {vs : List Value} {p : List (List Nat × Option (List Nat))} {ps : List (List (List Nat × Option (List Nat)))} : RowIs T v p → RowsIs T vs ps → RowsIs T (v :: vs) (p :: ps)
theorem RowIs.mono {nw nw' : Nw} {v : Value} {p : List (List Nat × Option (List Nat))} (h : RowIs nw v p) (hs : ∀ q ∈ nw, q ∈ nw') : RowIs nw' v p := let ⟨a, vs, n, e, m, r⟩ := h; ⟨a, vs, n, e, hs _ m, r.mono hs⟩
theorem RowsIs.mono {nw nw' : Nw} {vs : List Value} {ps : List (List (List Nat × Option (List Nat)))} (h : RowsIs nw vs ps) (hs : ∀ q ∈ nw, q ∈ nw') : RowsIs nw' vs ps := by
  induction h with
  | nil => exact .nil
  | cons h _ ih => exact .cons (h.mono hs) ih
theorem RowsIs.snoc {nw : Nw} {vs : List Value} {ps : List (List (List Nat × Option (List Nat)))} {v : Value} {p : List (List Nat × Option (List Nat))} (h : RowsIs nw vs ps) (h' : RowIs nw v p) : RowsIs nw (vs ++ [v]) (ps ++ [p]) := by
  induction h with
  | nil => exact .cons h' .nil
  | cons h _ ih => exact .cons h ih
theorem RowsIs.length {nw : Nw} {vs : List Value} {ps : List (List (List Nat × Option (List Nat)))} (h : RowsIs nw vs ps) : vs.length = ps.length := by
  induction h with
  | nil => rfl
  | cons _ _ ih => simp [ih]
theorem Sb.of_perm_drop {l r : Nw} (h : ∃ k, List.Perm (l ++ k) r) : Sb l r := let ⟨k, hk⟩ := h; ⟨l ++ k, List.sublist_append_left l k, hk⟩
theorem H_isTrue_Name {x : Str} {p : Pos} {c : Cx} {m : Nm} {nw : Nw} {env : Env} {Q : Bool → Nm → Nw → Prop} (h : HH c m nw (eval (.Name x p) env) fun v m₁ nw₁ => HH c m₁ nw₁ (truthy v) Q) : HH c m nw (isTrue (.Name x p) env (eval (.Name x p) env)) Q := H_isTrue_value h
theorem H_assignN {c : Cx} {m : Nm} {nw : Nw} {cs : Scope} {cl : List (Str × Addr)} {q : Str} {fo : Option Addr} {cd : Value} {fr : Option Addr} {x : Str} {p : Pos} {v : Value} {Q : Unit → Nm → Nw → Prop} (hn : nmOk cs x .local = true) (h : Q () ((x, v) :: m) nw) :
    HH c m nw (assign (.Name x p) (envG cs c.L cl q fo cd fr) v) Q := fun A s G => wpAny_assign_Name (H_store hn h A s G)
theorem rot4 {a b c d : Addr × Obj} {T nw : Nw} : Sb (b :: c :: d :: ((a :: T) ++ nw)) (a :: b :: c :: d :: (T ++ nw)) :=
  Sb.perm (List.perm_middle (l₁ := [b, c, d]) (l₂ := T ++ nw) (a := a))
theorem rot3 {a b c : Addr × Obj} {T nw : Nw} : Sb (b :: c :: ((a :: T) ++ nw)) (a :: b :: c :: (T ++ nw)) :=
  Sb.perm (List.perm_middle (l₁ := [b, c]) (l₂ := T ++ nw) (a := a))
theorem szl {g1 g2 : Nat} (h : g2 ≤ g1 + 10000) : g2 ≤ g1 + sizeLine := Nat.le_trans h (Nat.add_le_add_left (by decide) _)
theorem esc_sub {c : Cx} {m : Nm} {nw : Nw} {pat ct : Addr} {p : String} {tp tf : Tok} {cd : List Int} {fa : Addr} {o : Obj} {l v : List Nat} {t : Tok} {Q : Value → Nm → Nw → Prop}
    (hp : (KF c.w).lookup pat = some (patO p tp tf 1 ct)) (hc : (KF c.w).lookup ct = some (codO cd)) (hcode : (cd.map (·.toNat)).toArray = cEsc) (hf : (fa, o) ∈ nw) (ho : o.cls = .type "function") (hfd : ∃ fd, o.data = .func fd) (hz : l.length ≤ 10000) (hse : SE l v)
    (hcall : ∀ (a sp : Addr) (x : Addr × Obj) (b e g1 g2 : Nat), g1 < g2 → g2 ≤ l.length → HH c.up m ((a, mO (S l) t pat 0 l.length 1 sp) :: (sp, tupO [rawInt b, rawInt e, rawInt g1, rawInt g2]) :: x :: nw) (call (.ref fa) [.ref a]) fun v m' nw'' => m' = m ∧ ∃ t', v = .str (S ((l.drop g1).take (g2 - g1))) t' ∧ Sb (x :: nw) nw'')
    (h : ∀ t', Q (.str (S v) t') m nw) : HH c m nw (call (.builtin "re.Pattern.sub") [.ref pat, .ref fa, .str (S l) t]) Q := by
  cases hse with
  | none h1 h2 => exact H_sub_none hp hc hcode (by omega) hf ho hfd (by omega) h2 h
  | @one st st2 b e g1 g2 h1 h2 h3 h4 h5 h6 =>
    exact H_sub_one (r := (l.drop g1).take (g2 - g1)) hp hc hcode (by omega) (by rw [List.length_take, List.length_drop]; omega) hf ho hfd (by omega) h2 (Nat.le_of_lt h3) (by omega) h6 (fun a sp x => hcall a sp x b e g1 g2 h3 h4) h
theorem H_callLam {c : Cx} {m : Nm} {nw : Nw} {f : Addr} {q : Str} {params : Arguments} {body : Expr} {scope : Scope} {clos : List (Str × Addr)} {pm cv ctv v : Value} {x : Str} {Q : Value → Nm → Nw → Prop} (hm : (f, lamO q params body scope clos pm cv ctv) ∈ nw) (hroom : c.d < 900)
    (hbind : bindArgs (kla_fn "<lambda>" q params body scope clos pm cv ctv) ⟨[v], []⟩ = pure [(x, v)]) (hcell : ∀ x ∈ scope.names, x.2 ≠ .cell) (hloc : scope.names.lookup x = some .local) (hco : scope.isCoroutine = false) (hgen : scope.isGenerator = false) (hk : scope.kind = .function)
    (h : ∀ g L', HH (c.dn g L') [(x, v)] nw (eval body (envG scope L' clos (q ++ ".<locals>.") (some f) cv (some L'))) fun v m' nw' => ∃ nw'', Sb nw'' nw' ∧ Q v m nw'') : HH c m nw (call (.ref f) [v]) Q :=
  H_callE (binds := [(x, v)]) hm rfl rfl hroom hbind hcell (fun y hy => by rw [List.mem_singleton.mp hy]; exact hloc) hco hgen hk h
/-- the state at the while's head -/
def SpI (A B rA pA it : Addr) (o : Obj) (rs : List Value) (rk : Nat) (pss : List (List (List Nat × Option (List Nat)))) (all : List (List Nat × Option (List Nat))) (nw0 : Nw) (hv : Addr) (n : Nat) (m : Nm) (nw : Nw) : Prop :=
  ∃ (l : List Nat) (t : Tok) (rest dn : List (List Nat × Option (List Nat))) (vs : List Value) (k : Nat) (T : Nw), RD n l rest ∧ l.length ≤ 10000 ∧ all = dn ++ rest ∧ m.lookup (Str.ofString "text") = some (.str (S l) t) ∧ m.lookup (Str.ofString "pairs") = some (.ref pA) ∧
    m.lookup (Str.ofString "result") = some (.ref rA) ∧ Tups T vs dn ∧ RowsIs T rs pss ∧ Sb ((pA, listO vs k) :: (it, o) :: (rA, listO rs rk) :: (T ++ nw0)) nw
theorem split_ok {c : Cx} {m : Nm} {nw : Nw} {hv : Addr} {ts : List (List Nat × Tok)} {k : Nat} {pss : List (List (List Nat × Option (List Nat)))} {Q : Value → Nm → Nw → Prop} (hroom : c.d < 880)
    (hm : (hv, listO (strVs ts) k) ∈ nw) (hR : ∀ (i : Nat) (t : List Nat × Tok), ts[i]? = some t → ∃ n ps, pss[i]? = some ps ∧ RD n t.1 ps ∧ t.1.length ≤ 10000 ∧ ps.length ≤ 1000) (hl : ts.length ≤ 1000) (hlen : pss.length = ts.length)
    (h : ∀ r rs T n, RowsIs T rs (pss.filter fun ps => !ps.isEmpty) → Q (.ref r) m ((r, listO rs n) :: (T ++ nw))) : HH c m nw (call (.ref 70) [.ref hv]) Q := by
  refine call_70 (by omega) fun g L' => ?_
  show HH _ _ _ (execs (_ :: _) _) _
  walk_at "ex"
  refine H_isTrue_Not (H_isTrue_value ?_)
  walk_at "ev"
  walk_at "ev"
  refine H_callWith_b ?_
  walk_at "ev"
  walk_at "ev"
  walk_at "ev"
  walk_at "ev"
  walk_at "ev"
  refine H_isi_list_str hm (H_truthy_bool ⟨rfl, ?_⟩)
  walk_at "ex"
  walk_at "ev"
  walk_at "ev"
  refine ⟨by decide, fun rA => ?_⟩
  refine H_forL (l := hv) (vs := strVs ts) (n := k) (fun i m' nw' => ∃ rs rk T, m'.lookup (Str.ofString "result") = some (.ref rA) ∧ RowsIs T rs ((pss.take i).filter fun ps => !ps.isEmpty) ∧ nw' = (rA, listO rs rk) :: (T ++ nw)) ?_ ?_ ?_ ?_
  · walk_at "ev"
    exact ⟨rfl, [], 0, [], lk_hit, .nil, rfl⟩
  · rintro i m' nw' ⟨rs, rk, T, _, _, rfl⟩
    exact .tail _ (List.mem_append_right _ hm)
  · rintro it o i m' nw' v hv' ⟨rs, rk, T, hres, hrows, rfl⟩
    have hi : i < ts.length := by
      rcases Nat.lt_or_ge i ts.length with h | h
      · exact h
      · rw [List.getElem?_eq_none (by rw [strVs, List.length_map]; exact h)] at hv'; cases hv'
    have hti : ts[i]? = some ts[i] := List.getElem?_eq_getElem hi
    have hve : v = .str (S ts[i].1) ts[i].2 := by
      have : (strVs ts)[i]? = some (.str (S ts[i].1) ts[i].2) := by simp [strVs, hi]
      rw [this] at hv'; exact (Option.some.inj hv').symm
    subst hve
    obtain ⟨n, ps, hps, hrd, hz, hpl⟩ := hR i ts[i] hti
    refine H_assignN (by decide +kernel) ?_
    show HH _ _ _ (execs (_ :: _) _) _
    walk_at "ex"
    walk_at "ev"
    walk_at "ex"
    walk_at "ev"
    walk_at "ev"
    refine ⟨by decide, fun pA => ?_⟩
    refine H_while (SpI 0 0 rA pA it o rs rk ((pss.take i).filter fun ps => !ps.isEmpty) ps nw hv) n ⟨ts[i].1, ts[i].2, ps, [], [], 0, T, hrd, hz, rfl, by walk_at "lk", by walk_at "lk", by walk_at "lk", .nil, hrows, Sb.refl⟩ ?_
    rintro n m nw' ⟨l, t, rest, dn, vs, k', T', hrd, hz, hall, htx, hpa, hre, htu, hro, hsb⟩
    refine H_wk hsb ?_
    refine H_isTrue_Name ?_
    walk_at "ev"
    refine H_truthy_str (by omega) (Br_of (fun hne => ?_) (fun he => ?_))
    · cases hrd with
      | nil => cases hne
      | @wd k st n t t' v ps h1 h2 hvf hrd =>
        show HH _ _ _ (execs (_ :: _) _) _
        walk_at "ex"
        refine H_Call_method pa_reP slot_re_Pattern_search type_re_Pattern_search ?_
        walk_at "ev"
        refine ⟨TyAt.K (lk_48 _), H_callWith_b ?_⟩
        walk_at "ev"
        walk_at "ev"
        walk_at "ev"
        refine H_search_hit (lk_48 _) (lk_47 _) (code := cTok) rfl (by omega) (by omega) h2 (by decide) fun a1 sp1 => ?_
        walk_at "ex"
        refine H_isTrue_Name ?_
        walk_at "ev"
        refine H_truthy_match (TyAt.led (.head _)) (Br_true ?_)
        show HH _ _ _ (execs (_ :: _) _) _
        walk_at "ex"
        walk_at "ev"
        walk_at "ev"
        refine H_callWith_K (fl_43 _) rfl ?_
        walk_at "ev"
        walk_at "ev"
        walk_at "ev"
        refine unmatched_ok (b := 0) (e := 1) (by show c.d + 1 < 900; omega) (.head _) (.tail _ (.head _)) (by omega) fun t2 => ?_
        rw [show List.take 0 (n :: t) ++ List.drop 1 (n :: t) = t from rfl]
        walk_at "ex"
        refine H_Call_method pa_reM slot_re_Match_group type_re_Match_group ?_
        walk_at "ev"
        refine ⟨TyAt.led (.head _), H_callWith_b ?_⟩
        walk_at "ev"
        walk_at "ev"
        walk_at "ev"
        refine H_reGroup1 (n := 0) (k := 1) (.head _) (.tail _ (.head _)) (szl (by omega)) fun t3 => ?_
        rw [S_extract, show List.take (1 - 0) (List.drop 0 (n :: t)) = [n] from rfl]
        have hdl : dn.length ≤ 1000 := by rw [hall, List.length_append] at hpl; omega
        simp only [List.length_cons] at hz
        walk_at "ex"
        refine H_Call_method pa_reP slot_re_Pattern_search type_re_Pattern_search ?_
        walk_at "ev"
        refine ⟨TyAt.K (lk_53 _), H_callWith_b ?_⟩
        walk_at "ev"
        walk_at "ev"
        walk_at "ev"
        cases hvf with
        | @q v st e g1 g2 k1 k2 k3 kz hse =>
          refine H_search_hit (lk_53 _) (lk_52 _) (code := cQuo) rfl (by omega) (by omega) k2 k3 fun a2 sp2 => ?_
          walk_at "ex"
          refine H_isTrue_Name ?_
          walk_at "ev"
          refine H_truthy_match (TyAt.led (.head _)) (Br_true ?_)
          show HH _ _ _ (execs (_ :: _) _) _
          walk_at "ex"
          walk_at "ev"
          walk_at "ev"
          refine H_callWith_K (fl_43 _) rfl ?_
          walk_at "ev"
          walk_at "ev"
          walk_at "ev"
          refine unmatched_ok (b := 0) (e := e) (by show c.d + 1 < 900; omega) (.head _) (.tail _ (.head _)) (by omega) fun t4 => ?_
          rw [show List.take 0 t ++ List.drop e t = t.drop e by simp]
          walk_at "ex"
          refine H_Call_method pa_reM slot_re_Match_group type_re_Match_group ?_
          walk_at "ev"
          refine ⟨TyAt.led (.head _), H_callWith_b ?_⟩
          walk_at "ev"
          walk_at "ev"
          walk_at "ev"
          refine H_reGroup1 (n := g1) (k := g2) (.head _) (.tail _ (.head _)) (szl kz) fun t5 => ?_
          rw [S_extract]
          walk_at "ex"
          refine H_Call_method pa_reP slot_re_Pattern_sub type_re_Pattern_sub ?_
          walk_at "ev"
          refine ⟨TyAt.K (lk_63 _), H_callWith_b ?_⟩
          walk_at "ev"
          refine H_Lambda (P := 65) (clos := []) (by decide) (by decide +kernel) rfl (by kernel_rfl) fun fa pm cv ctv => ?_
          walk_at "ev"
          walk_at "ev"
          walk_at "ev"
          refine esc_sub (lk_63 _) (lk_62 _) rfl (.head _) rfl ⟨_, rfl⟩ (by rw [List.length_take, List.length_drop]; omega) hse ?_ fun t6 => ?_
          · intro a sp x b e' g1' g2' hg hg2
            refine H_callLam (x := Str.ofString "_m") (.tail _ (.tail _ (.tail _ (.head _)))) (by show c.d + 1 < 900; omega) (by kernel_rfl) (cellFree.elim (by decide +kernel)) (by decide +kernel) rfl rfl rfl fun g' L2 => ?_
            walk_at "ev"
            walk_at "ev"
            refine H_Or2 ?_
            refine H_Call_method pa_reM slot_re_Match_group type_re_Match_group ?_
            walk_at "ev"
            refine ⟨TyAt.led (.head _), H_callWith_b ?_⟩
            walk_at "ev"
            walk_at "ev"
            walk_at "ev"
            refine H_reGroup1 (n := g1') (k := g2') (.head _) (.tail _ (.head _)) (szl (by rw [List.length_take, List.length_drop] at hg2; omega)) fun t7 => ?_
            rw [S_extract]
            refine H_truthy_str (by rw [List.length_take, List.length_drop, List.length_take, List.length_drop]; omega) ?_
            have hne : (List.take (g2' - g1') (List.drop g1' (List.take (g2 - g1) (List.drop g1 t)))).isEmpty = false := by
              rw [List.isEmpty_eq_false_iff_exists_mem]
              exact List.exists_mem_of_length_pos (by rw [List.length_take, List.length_drop]; omega)
            rw [hne]
            refine Br_true ?_
            refine H_add_str (by rw [List.length_take, List.length_drop, List.length_take, List.length_drop]; show 0 + _ ≤ _; omega) fun t8 => ?_
            exact ⟨_, Sb.drop (Sb.drop Sb.refl), rfl, t8, rfl, Sb.refl⟩
          refine H_nil (Then_next ?_)
          walk_at "ex"
          refine H_Call_method F.plainAttrs_list slot_list_append type_list_append ?_
          walk_at "ev"
          refine ⟨TyAt.led (o := listO vs k') (by walk_at "mem"), H_callWith_b ?_⟩
          walk_at "ev"
          walk_at "ev"
          walk_at "ev"
          walk_at "ev"
          walk_at "ev"
          walk_at "ev"
          walk_at "ev"
          refine ⟨by simp, fun tA => ?_⟩
          walk_at "ev"
          apply H_append
          focus walk_at "up"
          focus (rw [htu.length]; omega)
          refine H_nil (Then_next (H_nil ?_))
          refine ⟨rfl, k, by omega, _, _, ps, dn ++ [([n], some v)], vs ++ [.ref tA], _, (tA, tupO [.str (S [n]) t3, .str (S v) t6]) :: T', hrd, by (first | rw [List.length_drop] | skip); omega, by rw [hall]; simp, by walk_at "lk", by walk_at "lk", by walk_at "lk",
            (htu.mono fun q hq => .tail _ hq).append (.cons ⟨tA, t3, .str (S v) t6, rfl, .head _, ⟨t6, rfl⟩⟩ .nil), hro.mono fun q hq => .tail _ hq, Sb.trans rot4 (by walk_at "sb")⟩
        | @v v st st2 e g1 g2 k1 k2 k3 k4 k5 kz k6 =>
          refine H_search_miss (lk_53 _) (lk_52 _) (code := cQuo) (g := 1) rfl (by omega) (n := st) (by omega) k2 ?_
          walk_at "ex"
          refine H_isTrue_Name ?_
          walk_at "ev"
          refine H_truthy_none (Br_false ?_)
          show HH _ _ _ (execs (_ :: _) _) _
          walk_at "ex"
          refine H_Call_method pa_reP slot_re_Pattern_search type_re_Pattern_search ?_
          walk_at "ev"
          refine ⟨TyAt.K (lk_58 _), H_callWith_b ?_⟩
          walk_at "ev"
          walk_at "ev"
          walk_at "ev"
          refine H_search_hit (lk_58 _) (lk_57 _) (code := cVal) rfl (by omega) (by omega) k4 k5 fun a2 sp2 => ?_
          walk_at "ex"
          refine H_isTrue_Name ?_
          walk_at "ev"
          refine H_truthy_match (TyAt.led (.head _)) (Br_true ?_)
          show HH _ _ _ (execs (_ :: _) _) _
          walk_at "ex"
          walk_at "ev"
          walk_at "ev"
          refine H_callWith_K (fl_43 _) rfl ?_
          walk_at "ev"
          walk_at "ev"
          walk_at "ev"
          refine unmatched_ok (b := 0) (e := e) (by show c.d + 1 < 900; omega) (.head _) (.tail _ (.head _)) (by omega) fun t4 => ?_
          rw [show List.take 0 t ++ List.drop e t = t.drop e by simp]
          walk_at "ex"
          refine H_Call_method pa_reM slot_re_Match_group type_re_Match_group ?_
          walk_at "ev"
          refine ⟨TyAt.led (.head _), H_callWith_b ?_⟩
          walk_at "ev"
          walk_at "ev"
          walk_at "ev"
          refine H_reGroup1 (n := g1) (k := g2) (.head _) (.tail _ (.head _)) (szl kz) fun t5 => ?_
          rw [S_extract]
          walk_at "ex"
          refine H_Call_method F.plainAttrs_str F.slot_str_rstrip F.type_str_rstrip ?_
          walk_at "ev"
          refine ⟨TyAt.str, H_callWith_b0 ?_⟩
          refine H_rstrip (by rw [List.length_take, List.length_drop]; omega) fun t6 => ?_
          rw [k6]
          refine H_nil (Then_next (H_nil (Then_next ?_)))
          walk_at "ex"
          refine H_Call_method F.plainAttrs_list slot_list_append type_list_append ?_
          walk_at "ev"
          refine ⟨TyAt.led (o := listO vs k') (by walk_at "mem"), H_callWith_b ?_⟩
          walk_at "ev"
          walk_at "ev"
          walk_at "ev"
          walk_at "ev"
          walk_at "ev"
          walk_at "ev"
          walk_at "ev"
          refine ⟨by simp, fun tA => ?_⟩
          walk_at "ev"
          apply H_append
          focus walk_at "up"
          focus (rw [htu.length]; omega)
          refine H_nil (Then_next (H_nil ?_))
          refine ⟨rfl, k, by omega, _, _, ps, dn ++ [([n], some v)], vs ++ [.ref tA], _, (tA, tupO [.str (S [n]) t3, .str (S v) t6]) :: T', hrd, by (first | rw [List.length_drop] | skip); omega, by rw [hall]; simp, by walk_at "lk", by walk_at "lk", by walk_at "lk",
            (htu.mono fun q hq => .tail _ hq).append (.cons ⟨tA, t3, .str (S v) t6, rfl, .head _, ⟨t6, rfl⟩⟩ .nil), hro.mono fun q hq => .tail _ hq, Sb.trans rot4 (by walk_at "sb")⟩
        | @n st st2 k1 k2 k3 k4 =>
          refine H_search_miss (lk_53 _) (lk_52 _) (code := cQuo) (g := 1) rfl (by omega) (n := st) (by omega) k2 ?_
          walk_at "ex"
          refine H_isTrue_Name ?_
          walk_at "ev"
          refine H_truthy_none (Br_false ?_)
          show HH _ _ _ (execs (_ :: _) _) _
          walk_at "ex"
          refine H_Call_method pa_reP slot_re_Pattern_search type_re_Pattern_search ?_
          walk_at "ev"
          refine ⟨TyAt.K (lk_58 _), H_callWith_b ?_⟩
          walk_at "ev"
          walk_at "ev"
          walk_at "ev"
          refine H_search_miss (lk_58 _) (lk_57 _) (code := cVal) (g := 1) rfl (by omega) (n := st2) (by omega) k4 ?_
          walk_at "ex"
          refine H_isTrue_Name ?_
          walk_at "ev"
          refine H_truthy_none (Br_false ?_)
          show HH _ _ _ (execs (_ :: _) _) _
          walk_at "ex"
          walk_at "ev"
          refine H_nil (Then_next (H_nil (Then_next ?_)))
          walk_at "ex"
          refine H_Call_method F.plainAttrs_list slot_list_append type_list_append ?_
          walk_at "ev"
          refine ⟨TyAt.led (o := listO vs k') (by walk_at "mem"), H_callWith_b ?_⟩
          walk_at "ev"
          walk_at "ev"
          walk_at "ev"
          walk_at "ev"
          walk_at "ev"
          walk_at "ev"
          walk_at "ev"
          refine ⟨by simp, fun tA => ?_⟩
          walk_at "ev"
          apply H_append
          focus walk_at "up"
          focus (rw [htu.length]; omega)
          refine H_nil (Then_next (H_nil ?_))
          refine ⟨rfl, k, by omega, _, _, ps, dn ++ [([n], none)], vs ++ [.ref tA], _, (tA, tupO [.str (S [n]) t3, .none]) :: T', hrd, by (first | rw [List.length_drop] | skip); omega, by rw [hall]; simp, by walk_at "lk", by walk_at "lk", by walk_at "lk",
            (htu.mono fun q hq => .tail _ hq).append (.cons ⟨tA, t3, .none, rfl, .head _, rfl⟩ .nil), hro.mono fun q hq => .tail _ hq, Sb.trans rot4 (by walk_at "sb")⟩
      | @sp k st st2 st3 e _ ps h1 h2 h3 h4 h5 h6 h7 h8 hrd =>
        show HH _ _ _ (execs (_ :: _) _) _
        walk_at "ex"
        refine H_Call_method pa_reP slot_re_Pattern_search type_re_Pattern_search ?_
        walk_at "ev"
        refine ⟨TyAt.K (lk_48 _), H_callWith_b ?_⟩
        walk_at "ev"
        walk_at "ev"
        walk_at "ev"
        refine H_search_miss (lk_48 _) (lk_47 _) (code := cTok) (g := 1) rfl (by omega) (n := st) (by omega) h3 ?_
        walk_at "ex"
        refine H_isTrue_Name ?_
        walk_at "ev"
        refine H_truthy_none (Br_false ?_)
        show HH _ _ _ (execs (_ :: _) _) _
        walk_at "ex"
        refine H_isTrue_value ?_
        refine H_Call_method F.plainAttrs_str F.slot_str_startswith F.type_str_startswith ?_
        refine H_Call_method F.plainAttrs_str F.slot_str_lstrip F.type_str_lstrip ?_
        walk_at "ev"
        refine ⟨TyAt.str, H_callWith_b0 (H_lstrip (by omega) fun t2 => ?_)⟩
        refine ⟨TyAt.str, H_callWith_b ?_⟩
        walk_at "ev"
        walk_at "ev"
        walk_at "ev"
        refine H_startswith (H_truthy_bool ?_)
        rw [h4]
        refine Br_false ?_
        show HH _ _ _ (execs (_ :: _) _) _
        walk_at "ex"
        refine H_Call_method pa_reP slot_re_Pattern_subn type_re_Pattern_subn ?_
        walk_at "ev"
        refine ⟨TyAt.K (lk_36 _), H_callWith_b ?_⟩
        walk_at "ev"
        walk_at "ev"
        walk_at "ev"
        walk_at "ev"
        walk_at "ev"
        refine H_subn (lk_36 _) (lk_35 _) (code := cTwin) rfl (by omega) (by omega) h6 (by omega) h8 fun a1 t3 t4 => ?_
        refine ⟨_, _, _, rfl, .head _, ?_⟩
        walk_at "ex"
        refine H_isTrue_Compare ?_
        walk_at "ev"
        walk_at "ev"
        refine H_gt_int (H_truthy_bool ⟨by decide, ?_⟩)
        walk_at "ex"
        walk_at "ev"
        refine H_nil (Then_next (H_nil (Then_next (H_nil ?_))))
        refine ⟨rfl, k, by omega, l.drop e, _, rest, dn, vs, _, T', hrd, by rw [List.length_drop]; omega, hall, by walk_at "lk", by walk_at "lk", by walk_at "lk", htu, hro, by walk_at "sb"⟩
    · have hl0 : l = [] := by cases l with | nil => rfl | cons _ _ => cases he
      subst hl0
      have hr0 : rest = [] := by cases hrd with | nil => rfl | sp h0 => exact absurd rfl h0
      subst hr0
      rw [List.append_nil] at hall
      subst hall
      have htk : (pss.take (i + 1)).filter (fun ps => !ps.isEmpty) = (pss.take i).filter (fun ps => !ps.isEmpty) ++ (if ps.isEmpty then [] else [ps]) := by
        rw [List.take_add_one, hps, List.filter_append]
        congr 1
        cases ps <;> simp
      walk_at "ex"
      refine H_isTrue_Name ?_
      walk_at "ev"
      refine H_truthy_list (vs := vs) (n := k') (by walk_at "mem") (by rw [htu.length]; omega) (Br_of (fun hne => ?_) (fun he2 => ?_))
      · show HH _ _ _ (execs (_ :: _) _) _
        walk_at "ex"
        refine H_Call_method F.plainAttrs_list slot_list_append type_list_append ?_
        walk_at "ev"
        refine ⟨TyAt.led (o := listO rs rk) (by walk_at "mem"), H_callWith_b ?_⟩
        walk_at "ev"
        walk_at "ev"
        walk_at "ev"
        apply H_append
        focus walk_at "up"
        focus (rw [hro.length]; exact Nat.le_trans (List.length_filter_le _ _) (by rw [List.length_take]; omega))
        refine H_nil (Then_next (H_nil ?_))
        refine ⟨rfl, (rA, listO (rs ++ [.ref pA]) (rk + 1)) :: (((pA, listO vs k') :: T') ++ nw), rot3, rs ++ [.ref pA], rk + 1, (pA, listO vs k') :: T', by walk_at "lk", ?_, rfl⟩
        have : ps.isEmpty = false := by
          have := htu.length
          cases ps with
          | nil => cases vs with
            | nil => cases hne
            | cons _ _ => simp at this
          | cons _ _ => rfl
        rw [htk, this]
        exact (hro.mono fun q hq => .tail _ hq).snoc ⟨pA, vs, k', rfl, .head _, htu.mono fun q hq => .tail _ hq⟩
      · refine H_nil (Then_next (H_nil ?_))
        refine ⟨rfl, (rA, listO rs rk) :: (T' ++ nw), Sb.drop Sb.refl, rs, rk, T', by walk_at "lk", ?_, rfl⟩
        have : ps.isEmpty = true := by
          have := htu.length
          cases ps with
          | nil => rfl
          | cons _ _ => cases vs with
            | nil => simp at this
            | cons _ _ => cases he2
        rw [htk, this]
        simpa using hro
  · rintro m' nw' ⟨rs, rk, T, hres, hrows, rfl⟩
    walk_at "ex"
    walk_at "ev"
    refine ⟨_, Sb.refl, ?_⟩
    have e : pss.take (strVs ts).length = pss := List.take_of_length_le (by rw [strVs, List.length_map, hlen]; exact Nat.le_refl _)
    rw [e] at hrows
    exact h _ _ _ _ hrows
set_option maxHeartbeats 4000000
theorem mod_q_meets (t u : Tok) : ∀ z : Str, z.length ≤ 1000000 → Meets (PySem.Builtin.«str.__mod__» ⟨[.str ⟨#[34, 37, 115, 34]⟩ t, .str z u], []⟩) (fun _ R s => ∀ t' k, R (.ok (.ret (.str (Str.ofString "\"" ++ z ++ Str.ofString "\"") t'))) { s with toks := k }) := by
  kpc_run_s
theorem ofq : Str.ofString "\"" = S [34] := by decide +kernel
theorem ofe : Str.ofString "=" = S [61] := by decide +kernel
def cJEsc : Array Nat := #[14, 9, 4, 1, 1, 16, 34, 16, 92, 0, 17, 0, 13, 6, 16, 34, 16, 92, 0, 17, 1, 1]
def cJTok : Array Nat := #[14, 4, 0, 1, 4294967295, 24, 16, 1, 4294967295, 13, 11, 9, 0, 67071226, 3355443198, 1476395007, 0, 0, 0, 0, 0, 1, 1]
inductive JE : List Nat → List Nat → Prop
  | none {l : List Nat} {st : Nat} : st ≤ 100000 → miss ((at0 cJEsc 1 l).runFor st) = true → JE l l
  | one {l : List Nat} {st st2 b e g1 g2 : Nat} : st ≤ 100000 → hitAt ((at0 cJEsc 1 l).runFor st) b e g1 g2 = true → g1 < g2 → g2 ≤ l.length → st2 ≤ 100000 → miss ((Sre.forSearch cJEsc l.toArray 1 e l.length (e == b)).runFor st2) = true →
      JE l (l.take b ++ (92 :: (l.drop g1).take (g2 - g1)) ++ l.drop e)
inductive JW : List Nat × Option (List Nat) → List Nat → Prop
  | n {k : List Nat} : k.length ≤ 1000 → JW (k, none) k
  | t {k v : List Nat} {st : Nat} : k.length ≤ 1000 → v.length ≤ 1000 → st ≤ 100000 → (match ((atF cJTok 0 v).runFor st).outcome with | some .matched => true | _ => false) = true → JW (k, some v) (k ++ [61] ++ v)
  | q {k v v' : List Nat} {st : Nat} : k.length ≤ 1000 → v.length ≤ 1000 → v'.length ≤ 10000 → st ≤ 100000 → miss ((atF cJTok 0 v).runFor st) = true → JE v v' → JW (k, some v) (k ++ [61] ++ ([34] ++ v' ++ [34]))
section
variable {c : Cx} {m : Nm} {nw : Nw} {env : Env}
theorem H_mod_q {v : List Nat} {t u : Tok} {Q : Value → Nm → Nw → Prop} (hz : v.length ≤ 100000) (h : ∀ t', Q (.str (S ([34] ++ v ++ [34])) t') m nw) : HH c m nw (binaryOp .Mod (.str (Str.ofString "\"%s\"") t) (.str (S v) u)) Q := fun A s G =>
  KPc.mod_str (X' := ⟨#[34, 37, 115, 34]⟩) (T := fun z => Str.ofString "\"" ++ z ++ Str.ofString "\"") (by decide +kernel) (by rw [S_length]; omega) (mod_q_meets t u) fun t' k => ⟨_, _, G.toks k, by
    show Q (.str (Str.ofString "\"" ++ S v ++ Str.ofString "\"") t') m nw
    rw [ofq, S_append, S_append]; exact h t'⟩
theorem H_fval {e : Expr} {p : Pos} {Q : Value → Nm → Nw → Prop} (h : HH c m nw (eval e env) fun v m₁ nw₁ => ∃ x t, v = .str (S x) t ∧ x.length ≤ 100000 ∧ ∀ t', Q (.str (S x) t') m₁ nw₁) : HH c m nw (eval (.FormattedValue e 115 none p) env) Q := fun A s G => by
  refine wpAny_FormattedValue_s (h.go A s G fun v s₁ m₁ nw₁ G₁ h₁ => ?_)
  obtain ⟨x, t, rfl, hz, hq⟩ := h₁
  have hsz : (S x).length ≤ sizeLine := by rw [S_length]; exact Nat.le_trans hz (by decide)
  show wpAny _ A (habitSame _ _) _ _ _
  exact habitSame_str (fun t' tk => formatField_str (fun t2 tk2 => ⟨_, _, G₁.toks tk2, hq t2⟩) hsz) hsz
theorem H_fkv {ea eb : Expr} {k : Nat} {p1 p2 p3 pos : Pos} {Q : Value → Nm → Nw → Prop}
    (h : HH c m nw (eval ea env) fun va m₁ nw₁ => ∃ x t, va = .str (S x) t ∧ x.length ≤ 100000 ∧ HH c m₁ nw₁ (eval eb env) fun vb m₂ nw₂ => ∃ y u, vb = .str (S y) u ∧ y.length ≤ 100000 ∧ ∀ t', Q (.str (S (x ++ [61] ++ y)) t') m₂ nw₂) :
    HH c m nw (eval (.JoinedStr [.FormattedValue ea 115 none p1, .Constant (.str (Str.ofString "=")) k p2, .FormattedValue eb 115 none p3] pos) env) Q := fun A s G => by
  have sz : ∀ l : List Nat, l.length ≤ 1000000 → (S l).length ≤ sizeLine := fun l hl => by rw [S_length]; exact Nat.le_trans hl (by decide)
  refine JoinedStr_many (joinParts_cons ?_)
  refine (H_fval (Q := fun v m₁ nw₁ => ∃ x t, v = .str (S x) t ∧ x.length ≤ 100000 ∧ HH c m₁ nw₁ (eval eb env) fun vb m₂ nw₂ => ∃ y u, vb = .str (S y) u ∧ y.length ≤ 100000 ∧ ∀ t', Q (.str (S (x ++ [61] ++ y)) t') m₂ nw₂)
    (H_mono h fun v m₁ nw₁ ⟨x, t, e, hz, hh⟩ => ⟨x, t, e, hz, fun t' => ⟨x, t', rfl, hz, hh⟩⟩)).go A s G fun v s₁ m₁ nw₁ G₁ ⟨x, t, e, hz, hh⟩ => ?_
  subst e
  dsimp only
  have e0 : Str.empty ++ S x = S x := by
    show S [] ++ S x = S x
    rw [S_append]; rfl
  rw [e0]
  refine ⟨sz x (by omega), joinParts_cons ?_⟩
  refine (H_str (c := c) (m := m₁) (nw := nw₁) (env := env) (x := Str.ofString "=") (k := k) (pos := p2) (Q := fun v m' nw' => (∃ t, v = .str (S [61]) t) ∧ m' = m₁ ∧ nw' = nw₁) fun t => ⟨⟨t, by rw [ofe]⟩, rfl, rfl⟩).go A s₁ G₁ fun v s₂ m₂ nw₂ G₂ ⟨⟨t, e⟩, e1, e2⟩ => ?_
  subst e
  rw [e1, e2] at G₂
  dsimp only
  rw [S_append]
  refine ⟨sz _ (by simp; omega), ?_⟩
  show wpAny _ A (joinParts _ [eval (.FormattedValue eb 115 none p3) env]) _ _ _
  refine joinParts_cons ?_
  refine (H_fval (Q := fun v m₂ nw₂ => ∃ y u, v = .str (S y) u ∧ y.length ≤ 100000 ∧ ∀ t', Q (.str (S (x ++ [61] ++ y)) t') m₂ nw₂)
    (H_mono hh fun v m₁ nw₁ ⟨y, u, e, hz, hq⟩ => ⟨y, u, e, hz, fun t' => ⟨y, t', rfl, hz, hq⟩⟩)).go A s₂ G₂ fun v s₃ m₃ nw₃ G₃ ⟨y, u, e, hz2, hq⟩ => ?_
  subst e
  dsimp only
  rw [S_append]
  exact ⟨sz _ (by simp; omega), joinParts_nil ⟨_, _, G₃.toks _, hq _⟩ (sz _ (by simp; omega))⟩
/-- for over a list of pairs -/
theorem H_forL2 {elts : List Expr} {x1 : Nat} {tp : Pos} {iter : Expr} {body : List Stmt} {pos : Pos} {rest : List Stmt} {Q : Flow → Nm → Nw → Prop} {l : Addr} {vs : List Value} {n : Nat} (I : Nat → Nm → Nw → Prop)
    (h0 : HH c m nw (eval iter env) fun v m₁ nw₁ => v = .ref l ∧ I 0 m₁ nw₁)
    (hl : ∀ i m nw, I i m nw → (l, listO vs n) ∈ nw) (href : ∀ v ∈ vs, ∃ a, v = .ref a)
    (turn : ∀ it o i m nw v, vs[i]? = some v → I i m nw → HH c m ((it, o) :: nw) (assign (.Tuple elts x1 tp) env v) fun _ m₁ nw₁ => HH c m₁ nw₁ (execs body env) fun fl m₂ nw₂ => fl = .next ∧ ∃ nw₃, Sb ((it, o) :: nw₃) nw₂ ∧ I (i + 1) m₂ nw₃)
    (fin : ∀ m nw, I vs.length m nw → HH c m nw (execs rest env) Q)
    (hs : ∀ x, foldedSetIterable iter env x = pure x := by intro _; rfl) :
    HH c m nw (execs (.For (.Tuple elts x1 tp) iter body [] pos :: rest) env) Q :=
  H_cons fun A s G => by
    refine wpAny_For (h0.go A s G fun v s₁ m₁ nw₁ G₁ ⟨e, hI⟩ => ?_) hs
    subst e
    refine wpAny_pyIter_list (items := vs.toArray) ⟨_, G₁.fm.get (hl _ _ _ hI), rfl, n, rfl⟩ ?_
    refine codeAny_forLoop_any (fun k s' => ∃ i m' nw' o, k = vs.length - i ∧ i ≤ vs.length ∧ LIt l i o ∧ Gd c m' ((s₁.heap.objs.size, o) :: nw') A s' ∧ I i m' nw') ?_ (vs.length - 0)
      ⟨0, m₁, nw₁, _, rfl, Nat.zero_le _, ⟨rfl, rfl⟩, G₁.heap' (G₁.fm.push _ rfl rfl), hI⟩
    rintro k s' ⟨i, m', nw', o, rfl, hi, hit, G', hI'⟩
    have hli := hl _ _ _ hI'
    by_cases hlt : i < vs.length
    · have hx : vs.toArray[i]? = some vs[i] := by simp [hlt]
      refine wpAny_pyNext_list_item (l := l) (i := i) ⟨_, G'.fm.get (.head _), hit.1, hit.2⟩ ⟨_, G'.fm.get (.tail _ hli), rfl, n, rfl⟩ hx fun h' hit' hsb => ?_
      have hit'' := hit'
      obtain ⟨o', ho', hc', hd'⟩ := hit'
      have hit2 : LIt l (i + 1) o' := ⟨hc', hd'⟩
      have G₂ : Gd c m' ((s₁.heap.objs.size, o') :: nw') A { s' with heap := h' } := G'.heap' (G'.fm.same hsb ho' hit2.noFn)
      obtain ⟨ta, hta⟩ := href vs[i] (List.getElem_mem hlt)
      have ht := turn s₁.heap.objs.size o' i m' nw' vs[i] (by simp [hlt]) hI'
      rw [hta] at ht ⊢
      refine wpAny_letOwnedTupleGo_listiter (s := { s' with heap := h' }) hit'' ?_
      refine ht.go A _ G₂ fun _ s₃ m₃ nw₃ G₃ h₃ => ?_
      refine h₃.go A _ G₃ fun fl s₄ m₄ nw₄ G₄ h₄ => ?_
      obtain ⟨rfl, nw₅, hsb5, hI5⟩ := h₄
      exact ⟨vs.length - (i + 1), by omega, i + 1, m₄, nw₅, o', rfl, hlt, hit2, G₄.sub (fun _ _ e => e) hsb5, hI5⟩
    · have hx : vs.toArray[i]? = none := by simp; omega
      refine wpAny_pyNext_list_end (l := l) (i := i) G'.hh ⟨_, G'.fm.get (.head _), hit.1, hit.2⟩ ⟨_, G'.fm.get (.tail _ hli), rfl, n, rfl⟩ hx fun h' hxt => ?_
      have hie : i = vs.length := by omega
      subst hie
      exact wpAny_execs_nil ⟨m', nw', G'.heap' (G'.fm.ext hxt), fin _ _ hI'⟩
end
theorem fl_87 (w : World) : (KF w).lookup 87 = some (fnObj 11 "join_header_words" .none .none (.str "cpy313.http.cookiejar" 282) 86) := by kernel_rfl
theorem cd_87 (w : World) : codeIn (KF w) (.ref 86) (Str.ofString "join_header_words") = true := by kernel_rfl
theorem call_87 {c : Cx} {m : Nm} {nw : Nw} {v : Value} {Q : Value → Nm → Nw → Prop} (hroom : c.d < 900)
    (h : ∀ g L', HH (c.dn g L') [(Str.ofString "lists", v)] nw (execs (bodyAt 11) (envF 11 "join_header_words" 87 86 L')) fun fl m' nw' => ∃ nw'', Sb nw'' nw' ∧ Q (retV fl) m nw'') : HH c m nw (call (.ref 87) [v]) Q :=
  H_call (binds := [(Str.ofString "lists", v)]) (fl_87 c.w) rfl (cd_87 c.w) rfl hroom (fun s X => BindsTo.of_eq (by kernel_rfl)) (cellFree.elim (by decide +kernel)) (locs' (by kernel_rfl)) (by decide +kernel) (by decide +kernel) (by decide +kernel) h
set_option maxHeartbeats 4000000
theorem jesc_sub {c : Cx} {m : Nm} {nw : Nw} {pat ct : Addr} {p : String} {tp tf : Tok} {cd : List Int} {fa : Addr} {o : Obj} {l v : List Nat} {t : Tok} {Q : Value → Nm → Nw → Prop}
    (hp : (KF c.w).lookup pat = some (patO p tp tf 1 ct)) (hc : (KF c.w).lookup ct = some (codO cd)) (hcode : (cd.map (·.toNat)).toArray = cJEsc) (hf : (fa, o) ∈ nw) (ho : o.cls = .type "function") (hfd : ∃ fd, o.data = .func fd) (hz : l.length ≤ 10000) (hse : JE l v)
    (hcall : ∀ (a sp : Addr) (x : Addr × Obj) (b e g1 g2 : Nat), g1 < g2 → g2 ≤ l.length → HH c.up m ((a, mO (S l) t pat 0 l.length 1 sp) :: (sp, tupO [rawInt b, rawInt e, rawInt g1, rawInt g2]) :: x :: nw) (call (.ref fa) [.ref a]) fun v m' nw'' => m' = m ∧ ∃ t', v = .str (S (92 :: (l.drop g1).take (g2 - g1))) t' ∧ Sb (x :: nw) nw'')
    (h : ∀ t', Q (.str (S v) t') m nw) : HH c m nw (call (.builtin "re.Pattern.sub") [.ref pat, .ref fa, .str (S l) t]) Q := by
  cases hse with
  | none h1 h2 => exact H_sub_none hp hc hcode (by omega) hf ho hfd (by omega) h2 h
  | @one st st2 b e g1 g2 h1 h2 h3 h4 h5 h6 =>
    exact H_sub_one (r := 92 :: (l.drop g1).take (g2 - g1)) hp hc hcode (by omega) (by rw [List.length_cons, List.length_take, List.length_drop]; omega) hf ho hfd (by omega) h2 (Nat.le_of_lt h3) (by omega) h6 (fun a sp x => hcall a sp x b e g1 g2 h3 h4) h
theorem Tups.get {nw : Nw} {vs : List Value} {ps : List (List Nat × Option (List Nat))} (h : Tups nw vs ps) {i : Nat} {v : Value} (hv : vs[i]? = some v) : ∃ p, ps[i]? = some p ∧ PairIs nw v p := by
  induction h generalizing i with
  | nil => simp at hv
  | cons hp _ ih =>
    cases i with
    | zero => simp at hv; exact ⟨_, rfl, hv ▸ hp⟩
    | succ i => simpa using ih (by simpa using hv)
theorem Tups.refs {nw : Nw} {vs : List Value} {ps : List (List Nat × Option (List Nat))} (h : Tups nw vs ps) : ∀ v ∈ vs, ∃ a, v = .ref a := by
  induction h with
  | nil => intro v hv; cases hv
  | cons hp _ ih =>
    intro v hv
    rcases List.mem_cons.mp hv with rfl | hv
    · obtain ⟨a, _, _, e, _⟩ := hp; exact ⟨a, e⟩
    · exact ih v hv
theorem ofc : Str.ofString ", " = S [44, 32] := by decide +kernel
theorem ofs : Str.ofString "; " = S [59, 32] := by decide +kernel
theorem strVs_snoc (ats : List (List Nat × Tok)) (w : List Nat) (t : Tok) : strVs ats ++ [.str (S w) t] = strVs (ats ++ [(w, t)]) := by simp [strVs]
theorem joinOk_small {sep : List Nat} {ls : List (List Nat)} (h1 : sep.length ≤ 10) (h2 : ls.length ≤ 40) (h3 : ∀ w ∈ ls, w.length ≤ 20000) : JoinOk (S sep) (ls.map S) = true := by
  refine joinOk_of ?_
  have : (ls.map List.length).sum ≤ ls.length * 20000 := by
    induction ls with
    | nil => simp
    | cons x ls ih =>
      have a := h3 x (.head _)
      have b := ih (by simp at h2; omega) fun w hw => h3 w (.tail _ hw)
      simp only [List.map_cons, List.sum_cons, List.length_cons]
      omega
  have : ls.length * sep.length ≤ 40 * 10 := Nat.mul_le_mul h2 h1
  omega
theorem jn_le {sep : List Nat} : ∀ {ls : List (List Nat)}, sep.length ≤ 10 → ls.length ≤ 40 → (∀ w ∈ ls, w.length ≤ 20000) → (jn sep ls).length ≤ ls.length * 20010
  | [], _, _, _ => by simp [jn]
  | [x], h1, h2, h3 => by
    have := h3 x (.head _)
    show x.length ≤ _
    simp; omega
  | x :: y :: r, h1, h2, h3 => by
    have := h3 x (.head _)
    have ih := jn_le (ls := y :: r) h1 (by simp at h2 ⊢; omega) fun w hw => h3 w (.tail _ hw)
    show (x ++ sep ++ jn sep (y :: r)).length ≤ _
    simp only [List.length_append, List.length_cons] at ih ⊢
    omega
theorem join_ok {c : Cx} {m : Nm} {nw : Nw} {la ra : Addr} {k0 n : Nat} {vs : List Value} {ps : List (List Nat × Option (List Nat))} {ws : List (List Nat)} {Q : Value → Nm → Nw → Prop} (hroom : c.d < 880)
    (hla : (la, listO [.ref ra] k0) ∈ nw) (hra : (ra, listO vs n) ∈ nw) (htu : Tups nw vs ps) (hlen : ps.length = ws.length) (hj : ∀ (i : Nat) p, ps[i]? = some p → ∃ w, ws[i]? = some w ∧ JW p w) (hne : ps ≠ []) (hps : ps.length ≤ 30) (hws : ∀ w ∈ ws, w.length ≤ 20000)
    (h : ∀ t, Q (.str (S (jn [59, 32] ws)) t) m nw) : HH c m nw (call (.ref 87) [.ref la]) Q := by
  refine call_87 (by omega) fun g L' => ?_
  show HH _ _ _ (execs (_ :: _) _) _
  walk_at "ex"
  walk_at "ev"
  walk_at "ev"
  refine ⟨by simp, fun hA => ?_⟩
  refine H_forL (l := la) (vs := [.ref ra]) (n := k0) (fun i m' nw' => ∃ (hs : List (List Nat × Tok)) (hk : Nat), m'.lookup (Str.ofString "headers") = some (.ref hA) ∧ nw' = (hA, listO (strVs hs) hk) :: nw ∧ (i = 0 → hs = []) ∧ (i = 1 → hs.map (·.1) = [jn [59, 32] ws])) ?_ ?_ ?_ ?_
  · walk_at "ev"
    exact ⟨rfl, [], 0, lk_hit, rfl, fun _ => rfl, fun e => by cases e⟩
  · rintro i m' nw' ⟨hs, hk, _, rfl, _, _⟩
    exact .tail _ hla
  · rintro it o i m' nw' v hv' ⟨hs, hk, hhe, rfl, hi0, hi1⟩
    have hi : i = 0 := by
      cases i with
      | zero => rfl
      | succ i => simp at hv'
    subst hi
    have hs0 : hs = [] := hi0 rfl
    subst hs0
    have hve : v = .ref ra := by simp at hv'; exact hv'.symm
    subst hve
    refine H_assignN (by decide +kernel) ?_
    show HH _ _ _ (execs (_ :: _) _) _
    walk_at "ex"
    walk_at "ev"
    walk_at "ev"
    refine ⟨by simp, fun aA => ?_⟩
    refine H_forL2 (l := ra) (vs := vs) (n := n) (fun j m' nw' => ∃ (ats : List (List Nat × Tok)) (ak : Nat), m'.lookup (Str.ofString "headers") = some (.ref hA) ∧ m'.lookup (Str.ofString "attr") = some (.ref aA) ∧ nw' = (aA, listO (strVs ats) ak) :: (it, o) :: (hA, listO (strVs []) hk) :: nw ∧ ats.map (·.1) = ws.take j) ?_ ?_ htu.refs ?_ ?_
    · walk_at "ev"
      exact ⟨rfl, [], 0, by walk_at "lk", by walk_at "lk", rfl, rfl⟩
    · rintro j m' nw' ⟨ats, ak, _, _, rfl, _⟩
      exact .tail _ (.tail _ (.tail _ hra))
    · rintro it2 o2 j m' nw' v hv2 ⟨ats, ak, hhe, hat, rfl, hta⟩
      obtain ⟨p, hpj, a, t, u, rfl, hmem, hopt⟩ := htu.get hv2
      obtain ⟨w, hwj, hjw⟩ := hj j p hpj
      have hjl : j < ps.length := by
        rcases Nat.lt_or_ge j ps.length with h | h
        · exact h
        · rw [List.getElem?_eq_none h] at hpj; cases hpj
      have hal : ats.length ≤ 30 := by
        have := congrArg List.length hta
        rw [List.length_map, List.length_take] at this
        omega
      have htk : ∀ t' : Tok, (ats ++ [(w, t')]).map (fun q : List Nat × Tok => q.1) = ws.take (j + 1) := fun t' => by
        rw [List.map_append, hta, List.take_add_one, hwj]; rfl
      refine H_assign2 (t := a) (a := .str (S p.1) t) (b := u) (by decide +kernel) (by decide +kernel) (.tail _ (.tail _ (.tail _ (.tail _ hmem)))) ?_
      show HH _ _ _ (execs (_ :: _) _) _
      walk_at "ex"
      refine H_isTrue_Compare ?_
      walk_at "ev"
      walk_at "ev"
      cases hjw with
      | @n k h1 =>
        have hu : u = .none := hopt
        subst hu
        refine H_isNot_plain (by decide) (H_truthy_bool (Br_false ?_))
        refine H_nil (Then_next ?_)
        walk_at "ex"
        refine H_Call_method F.plainAttrs_list slot_list_append type_list_append ?_
        walk_at "ev"
        refine ⟨TyAt.led (o := listO (strVs ats) ak) (by walk_at "mem"), H_callWith_b ?_⟩
        walk_at "ev"
        walk_at "ev"
        walk_at "ev"
        apply H_append
        focus walk_at "up"
        focus (rw [strVs, List.length_map]; omega)
        refine H_nil ?_
        rw [strVs_snoc]
        exact ⟨rfl, _, by walk_at "sb", _, _, by walk_at "lk", by walk_at "lk", rfl, htk _⟩
      | @t k v st h1 h2 h3 h4 =>
        obtain ⟨tu, rfl⟩ := hopt
        refine H_isNot_plain (by rfl) (H_truthy_bool (Br_true ?_))
        show HH _ _ _ (execs (_ :: _) _) _
        walk_at "ex"
        refine H_isTrue_Not (H_isTrue_value ?_)
        refine H_Call_method pa_reP slot_re_Pattern_fullmatch type_re_Pattern_fullmatch ?_
        walk_at "ev"
        refine ⟨TyAt.K (lk_75 _), H_callWith_b ?_⟩
        walk_at "ev"
        walk_at "ev"
        walk_at "ev"
        refine H_full_hit (lk_75 _) (lk_74 _) (code := cJTok) (n := st) rfl (by omega) (by omega) h4 fun am om hc hd => ?_
        refine H_truthy_match (TyAt.led (.head _) hc hd) (Br_false ?_)
        refine H_nil (Then_next ?_)
        walk_at "ex"
        refine H_fkv ?_
        walk_at "ev"
        refine ⟨k, _, rfl, by omega, ?_⟩
        walk_at "ev"
        refine ⟨_, _, rfl, by omega, fun tk => ?_⟩
        refine H_nil (Then_next ?_)
        walk_at "ex"
        refine H_Call_method F.plainAttrs_list slot_list_append type_list_append ?_
        walk_at "ev"
        refine ⟨TyAt.led (o := listO (strVs ats) ak) (by walk_at "mem"), H_callWith_b ?_⟩
        walk_at "ev"
        walk_at "ev"
        walk_at "ev"
        apply H_append
        focus walk_at "up"
        focus (rw [strVs, List.length_map]; omega)
        refine H_nil ?_
        rw [strVs_snoc]
        exact ⟨rfl, _, by walk_at "sb", _, _, by walk_at "lk", by walk_at "lk", rfl, htk _⟩
      | @q k v v' st h1 h2 h2' h3 h4 h5 =>
        obtain ⟨tu, rfl⟩ := hopt
        refine H_isNot_plain (by rfl) (H_truthy_bool (Br_true ?_))
        show HH _ _ _ (execs (_ :: _) _) _
        walk_at "ex"
        refine H_isTrue_Not (H_isTrue_value ?_)
        refine H_Call_method pa_reP slot_re_Pattern_fullmatch type_re_Pattern_fullmatch ?_
        walk_at "ev"
        refine ⟨TyAt.K (lk_75 _), H_callWith_b ?_⟩
        walk_at "ev"
        walk_at "ev"
        walk_at "ev"
        refine H_full_miss (lk_75 _) (lk_74 _) (code := cJTok) (g := 0) (n := st) rfl (by omega) (by omega) h4 ?_
        refine H_truthy_none (Br_true ?_)
        show HH _ _ _ (execs (_ :: _) _) _
        walk_at "ex"
        refine H_Call_method pa_reP slot_re_Pattern_sub type_re_Pattern_sub ?_
        walk_at "ev"
        refine ⟨TyAt.K (lk_80 _), H_callWith_b ?_⟩
        walk_at "ev"
        refine H_Lambda (P := 82) (clos := []) (by decide) (by decide +kernel) rfl (by kernel_rfl) fun fa pm cv ctv => ?_
        walk_at "ev"
        walk_at "ev"
        walk_at "ev"
        refine jesc_sub (lk_80 _) (lk_79 _) rfl (.head _) rfl ⟨_, rfl⟩ (by omega) h5 ?_ fun t6 => ?_
        · intro a sp x b e' g1' g2' hg hg2
          refine H_callLam (x := Str.ofString "_m") (.tail _ (.tail _ (.tail _ (.head _)))) (by show c.d + 1 < 900; omega) (by kernel_rfl) (cellFree.elim (by decide +kernel)) (by decide +kernel) rfl rfl rfl fun g' L2 => ?_
          walk_at "ev"
          walk_at "ev"
          refine H_Or2 ?_
          refine H_Call_method pa_reM slot_re_Match_group type_re_Match_group ?_
          walk_at "ev"
          refine ⟨TyAt.led (.head _), H_callWith_b ?_⟩
          walk_at "ev"
          walk_at "ev"
          walk_at "ev"
          refine H_reGroup1 (n := g1') (k := g2') (.head _) (.tail _ (.head _)) (szl (by omega)) fun t7 => ?_
          rw [S_extract]
          refine H_truthy_str (by rw [List.length_take, List.length_drop]; omega) ?_
          have hne : (List.take (g2' - g1') (List.drop g1' v)).isEmpty = false := by
            rw [List.isEmpty_eq_false_iff_exists_mem]
            exact List.exists_mem_of_length_pos (by rw [List.length_take, List.length_drop]; omega)
          rw [hne]
          refine Br_true ?_
          refine H_add_str (a := [92]) (by rw [List.length_take, List.length_drop]; simp only [List.length_cons, List.length_nil]; omega) fun t8 => ?_
          exact ⟨_, Sb.drop (Sb.drop Sb.refl), rfl, t8, rfl, Sb.refl⟩
        walk_at "ex"
        walk_at "ev"
        walk_at "ev"
        walk_at "ev"
        refine H_mod_q (by omega) fun t7 => ?_
        refine H_nil (Then_next ?_)
        walk_at "ex"
        refine H_fkv ?_
        walk_at "ev"
        refine ⟨k, _, rfl, by omega, ?_⟩
        walk_at "ev"
        refine ⟨_, _, rfl, by simp; omega, fun tk => ?_⟩
        refine H_nil (Then_next ?_)
        walk_at "ex"
        refine H_Call_method F.plainAttrs_list slot_list_append type_list_append ?_
        walk_at "ev"
        refine ⟨TyAt.led (o := listO (strVs ats) ak) (by walk_at "mem"), H_callWith_b ?_⟩
        walk_at "ev"
        walk_at "ev"
        walk_at "ev"
        apply H_append
        focus walk_at "up"
        focus (rw [strVs, List.length_map]; omega)
        refine H_nil ?_
        rw [strVs_snoc]
        exact ⟨rfl, _, by walk_at "sb", _, _, by walk_at "lk", by walk_at "lk", rfl, htk _⟩
    · rintro m' nw' ⟨ats, ak, hhe, hat, rfl, hta⟩
      have hta' : ats.map (·.1) = ws := by rw [hta, List.take_of_length_le (by rw [htu.length]; omega)]
      have hal : ats.length = ps.length := by
        have := congrArg List.length hta'
        rw [List.length_map] at this; omega
      walk_at "ex"
      refine H_isTrue_Name ?_
      walk_at "ev"
      refine H_truthy_list (vs := strVs ats) (n := ak) (by walk_at "mem") (by rw [strVs, List.length_map]; omega) ?_
      have he : (strVs ats).isEmpty = false := by
        rw [List.isEmpty_eq_false_iff_exists_mem]
        exact List.exists_mem_of_length_pos (by rw [strVs, List.length_map, hal]; exact List.length_pos_iff.mpr hne)
      rw [he]
      refine Br_true ?_
      show HH _ _ _ (execs (_ :: _) _) _
      walk_at "ex"
      refine H_Call_method F.plainAttrs_list slot_list_append type_list_append ?_
      walk_at "ev"
      refine ⟨TyAt.led (o := listO (strVs []) hk) (by walk_at "mem"), H_callWith_b ?_⟩
      walk_at "ev"
      refine H_Call_method F.plainAttrs_str F.slot_str_join F.type_str_join ?_
      walk_at "ev"
      refine ⟨TyAt.str, H_callWith_b ?_⟩
      walk_at "ev"
      walk_at "ev"
      walk_at "ev"
      refine H_join (sep := [59, 32]) (l := ats) (n := ak) (by walk_at "mem") ?_ fun t9 => ?_
      · have := joinOk_small (sep := [59, 32]) (ls := ats.map (·.1)) (by simp) (by rw [List.length_map]; omega) (by rw [hta']; exact hws)
        rw [List.map_map] at this; exact this
      have hje : Txt.join (S [59, 32]) (ats.map fun p => S p.1) = S (jn [59, 32] ws) := by
        rw [← join_S, ← hta', List.map_map]; rfl
      rw [hje]
      walk_at "ev"
      apply H_append
      focus walk_at "up"
      focus (simp [strVs])
      refine H_nil (Then_next (H_nil ?_))
      rw [strVs_snoc]
      refine ⟨rfl, (hA, listO (strVs ([] ++ [(jn [59, 32] ws, t9)])) (hk + 1)) :: nw, by walk_at "sb", _, _, by walk_at "lk", rfl, (fun e => by cases e), fun _ => rfl⟩
  · rintro m' nw' ⟨hs, hk, hhe, rfl, _, hi1⟩
    have h1 : hs.map (·.1) = [jn [59, 32] ws] := hi1 rfl
    obtain ⟨th, rfl⟩ : ∃ th, hs = [(jn [59, 32] ws, th)] := by
      match hs, h1 with
      | [(x, th)], h1 => simp at h1; exact ⟨th, by rw [h1]⟩
    walk_at "ex"
    refine H_Call_method F.plainAttrs_str F.slot_str_join F.type_str_join ?_
    walk_at "ev"
    refine ⟨TyAt.str, H_callWith_b ?_⟩
    walk_at "ev"
    walk_at "ev"
    walk_at "ev"
    refine H_join (sep := [44, 32]) (l := [(jn [59, 32] ws, th)]) (n := hk) (.head _) ?_ fun t9 => ?_
    · have h2 := jn_le (sep := [59, 32]) (ls := ws) (by simp) (by omega) hws
      exact joinOk_of (sep := [44, 32]) (ls := [jn [59, 32] ws]) (by simp; omega)
    exact ⟨nw, Sb.drop Sb.refl, by
      have : Txt.join (S [44, 32]) ([(jn [59, 32] ws, th)].map fun p => S p.1) = S (jn [59, 32] ws) := join_S [44, 32] [jn [59, 32] ws]
      rw [this]; exact h t9⟩
theorem fl_123 (w : World) : (KF w).lookup 123 = some (fnObj 16 "bisect_left" (.ref 115) (.ref 116) (.str "cpy313.bisect" 610) 122) := by kernel_rfl
theorem cd_123 (w : World) : codeIn (KF w) (.ref 122) (Str.ofString "bisect_left") = true := by kernel_rfl
theorem df_115 (w : World) : (KF w).lookup 115 = some (tupO [.int 0 652, .none]) := by kernel_rfl
theorem fl_105 (w : World) : (KF w).lookup 105 = some (fnObj 14 "bisect_right" (.ref 97) (.ref 98) (.str "cpy313.bisect" 610) 104) := by kernel_rfl
theorem cd_105 (w : World) : codeIn (KF w) (.ref 104) (Str.ofString "bisect_right") = true := by kernel_rfl
theorem df_97 (w : World) : (KF w).lookup 97 = some (tupO [.int 0 625, .none]) := by kernel_rfl
theorem fl_114 (w : World) : (KF w).lookup 114 = some (fnObj 15 "insort_left" (.ref 106) (.ref 107) (.str "cpy313.bisect" 610) 113) := by kernel_rfl
theorem cd_114 (w : World) : codeIn (KF w) (.ref 113) (Str.ofString "insort_left") = true := by kernel_rfl
theorem df_106 (w : World) : (KF w).lookup 106 = some (tupO [.int 0 639, .none]) := by kernel_rfl
theorem fl_96 (w : World) : (KF w).lookup 96 = some (fnObj 13 "insort_right" (.ref 88) (.ref 89) (.str "cpy313.bisect" 610) 95) := by kernel_rfl
theorem cd_96 (w : World) : codeIn (KF w) (.ref 95) (Str.ofString "insort_right") = true := by kernel_rfl
theorem df_88 (w : World) : (KF w).lookup 88 = some (tupO [.int 0 612, .none]) := by kernel_rfl
theorem call_123 {c : Cx} {m : Nm} {nw : Nw} {va vx vf : Value} {Q : Value → Nm → Nw → Prop} (hroom : c.d < 900)
    (h : ∀ g L', HH (c.dn g L') [(Str.ofString "key", vf), (Str.ofString "hi", .none), (Str.ofString "lo", .int 0 652), (Str.ofString "x", vx), (Str.ofString "a", va)] nw (execs (bodyAt 16) (envF 16 "bisect_left" 123 122 L')) fun fl m' nw' => ∃ nw'', Sb nw'' nw' ∧ Q (retV fl) m nw'') : HH c m nw (call (.ref 123) [va, vx] [(Str.ofString "key", vf)]) Q :=
  H_call (binds := [(Str.ofString "a", va), (Str.ofString "x", vx), (Str.ofString "lo", .int 0 652), (Str.ofString "hi", .none), (Str.ofString "key", vf)]) (fl_123 c.w) rfl (cd_123 c.w) rfl hroom
    (fun s X => BindsTo.of_defaults (T := 115) rfl (X _ _ (df_115 c.w)) rfl rfl rfl) (cellFree.elim (by decide +kernel)) (locs' (by kernel_rfl)) (by decide +kernel) (by decide +kernel) (by decide +kernel) h
theorem call_105 {c : Cx} {m : Nm} {nw : Nw} {va vx vf : Value} {Q : Value → Nm → Nw → Prop} (hroom : c.d < 900)
    (h : ∀ g L', HH (c.dn g L') [(Str.ofString "key", vf), (Str.ofString "hi", .none), (Str.ofString "lo", .int 0 625), (Str.ofString "x", vx), (Str.ofString "a", va)] nw (execs (bodyAt 14) (envF 14 "bisect_right" 105 104 L')) fun fl m' nw' => ∃ nw'', Sb nw'' nw' ∧ Q (retV fl) m nw'') : HH c m nw (call (.ref 105) [va, vx] [(Str.ofString "key", vf)]) Q :=
  H_call (binds := [(Str.ofString "a", va), (Str.ofString "x", vx), (Str.ofString "lo", .int 0 625), (Str.ofString "hi", .none), (Str.ofString "key", vf)]) (fl_105 c.w) rfl (cd_105 c.w) rfl hroom
    (fun s X => BindsTo.of_defaults (T := 97) rfl (X _ _ (df_97 c.w)) rfl rfl rfl) (cellFree.elim (by decide +kernel)) (locs' (by kernel_rfl)) (by decide +kernel) (by decide +kernel) (by decide +kernel) h
theorem call_123' {c : Cx} {m : Nm} {nw : Nw} {va vx vf vl vh : Value} {Q : Value → Nm → Nw → Prop} (hroom : c.d < 900)
    (h : ∀ g L', HH (c.dn g L') [(Str.ofString "key", vf), (Str.ofString "hi", vh), (Str.ofString "lo", vl), (Str.ofString "x", vx), (Str.ofString "a", va)] nw (execs (bodyAt 16) (envF 16 "bisect_left" 123 122 L')) fun fl m' nw' => ∃ nw'', Sb nw'' nw' ∧ Q (retV fl) m nw'') : HH c m nw (call (.ref 123) [va, vx, vl, vh] [(Str.ofString "key", vf)]) Q :=
  H_call (binds := [(Str.ofString "a", va), (Str.ofString "x", vx), (Str.ofString "lo", vl), (Str.ofString "hi", vh), (Str.ofString "key", vf)]) (fl_123 c.w) rfl (cd_123 c.w) rfl hroom
    (fun s X => BindsTo.of_defaults (T := 115) rfl (X _ _ (df_115 c.w)) rfl rfl rfl) (cellFree.elim (by decide +kernel)) (locs' (by kernel_rfl)) (by decide +kernel) (by decide +kernel) (by decide +kernel) h
theorem call_105' {c : Cx} {m : Nm} {nw : Nw} {va vx vf vl vh : Value} {Q : Value → Nm → Nw → Prop} (hroom : c.d < 900)
    (h : ∀ g L', HH (c.dn g L') [(Str.ofString "key", vf), (Str.ofString "hi", vh), (Str.ofString "lo", vl), (Str.ofString "x", vx), (Str.ofString "a", va)] nw (execs (bodyAt 14) (envF 14 "bisect_right" 105 104 L')) fun fl m' nw' => ∃ nw'', Sb nw'' nw' ∧ Q (retV fl) m nw'') : HH c m nw (call (.ref 105) [va, vx, vl, vh] [(Str.ofString "key", vf)]) Q :=
  H_call (binds := [(Str.ofString "a", va), (Str.ofString "x", vx), (Str.ofString "lo", vl), (Str.ofString "hi", vh), (Str.ofString "key", vf)]) (fl_105 c.w) rfl (cd_105 c.w) rfl hroom
    (fun s X => BindsTo.of_defaults (T := 97) rfl (X _ _ (df_97 c.w)) rfl rfl rfl) (cellFree.elim (by decide +kernel)) (locs' (by kernel_rfl)) (by decide +kernel) (by decide +kernel) (by decide +kernel) h
theorem mid_eq (l h : Nat) : Int.fdiv ((l : Int) + (h : Int)) 2 = (((l + h) / 2 : Nat) : Int) := by
  rw [Int.fdiv_eq_ediv_of_nonneg _ (by decide)]
  omega
/-- the key's word: what the call of it brings, and how that stands to x -/
def KeyL (c : Cx) (D : Nat) (nw : Nw) (fa : Addr) (vs : List Value) (x : Value) (lt : Nat → Bool) : Prop :=
  ∀ (c' : Cx) (m : Nm) (i : Nat) (v : Value), c'.w = c.w → c'.d ≤ D → vs[i]? = some v → HH c' m nw (call (.ref fa) [v]) fun kv m' nw' => m' = m ∧ nw' = nw ∧ ∀ (m3 : Nm) (Q : Value → Nm → Nw → Prop), Q (.bool (lt i)) m3 nw → HH c' m3 nw (compareOp .Lt kv x) Q
def KeyR (c : Cx) (D : Nat) (nw : Nw) (fa : Addr) (vs : List Value) (x : Value) (lt : Nat → Bool) : Prop :=
  ∀ (c' : Cx) (m : Nm) (i : Nat) (v : Value), c'.w = c.w → c'.d ≤ D → vs[i]? = some v → HH c' m nw (call (.ref fa) [v]) fun kv m' nw' => m' = m ∧ nw' = nw ∧ ∀ (m3 : Nm) (Q : Value → Nm → Nw → Prop), Q (.bool (lt i)) m3 nw → HH c' m3 nw (compareOp .Lt x kv) Q
def BsI (aA fa : Addr) (x : Value) (cnt n : Nat) (nw : Nw) (k : Nat) (m : Nm) (nw' : Nw) : Prop :=
  ∃ l h tl th, k = h - l ∧ l ≤ cnt ∧ cnt ≤ h ∧ h ≤ n ∧ m.lookup (Str.ofString "lo") = some (.int (l : Nat) tl) ∧ m.lookup (Str.ofString "hi") = some (.int (h : Nat) th) ∧ m.lookup (Str.ofString "a") = some (.ref aA) ∧ m.lookup (Str.ofString "x") = some x ∧ m.lookup (Str.ofString "key") = some (.ref fa) ∧ nw' = nw
theorem bl_body {c : Cx} {nw : Nw} {aA fa : Addr} {o : Obj} {fd : FuncData} {vs : List Value} {n cnt : Nat} {x : Value} {lt : Nat → Bool} {tl : Tok} {Q : Value → Nw → Prop} (hroom : c.d < 870) (ha : (aA, listO vs n) ∈ nw) (hf : (fa, o) ∈ nw) (hfd : o.data = .func fd) (hz : vs.length ≤ 100000)
    (hk : KeyL c c.d nw fa vs x lt) (hlt : ∀ i, i < vs.length → lt i = decide (i < cnt)) (hc : cnt ≤ vs.length) (h : ∀ t, Q (.int (cnt : Nat) t) nw) {g : Heap} {L' : Addr} :
    HH c [(Str.ofString "key", .ref fa), (Str.ofString "hi", .none), (Str.ofString "lo", .int 0 tl), (Str.ofString "x", x), (Str.ofString "a", .ref aA)] nw (execs (bodyAt 16) (envF 16 "bisect_left" 123 122 c.L)) fun fl m' nw' => ∃ nw'', Sb nw'' nw' ∧ Q (retV fl) nw'' := by
  show HH _ _ _ (execs (_ :: _) _) _
  walk_at "ex"
  refine H_isTrue_Compare ?_
  walk_at "ev"
  walk_at "ev"
  refine H_lt_int (H_truthy_bool (Br_false ?_))
  refine H_nil (Then_next ?_)
  walk_at "ex"
  refine H_isTrue_Compare ?_
  walk_at "ev"
  walk_at "ev"
  refine H_is_plain rfl (H_truthy_bool (Br_true ?_))
  show HH _ _ _ (execs (_ :: _) _) _
  walk_at "ex"
  walk_at "ev"
  walk_at "ev"
  refine H_callWith_b ?_
  walk_at "ev"
  walk_at "ev"
  walk_at "ev"
  refine H_len_list ha (by omega) fun t1 => ?_
  refine H_nil (Then_next ?_)
  walk_at "ex"
  refine H_isTrue_Compare ?_
  walk_at "ev"
  walk_at "ev"
  refine H_is_plain rfl (H_truthy_bool (Br_false ?_))
  show HH _ _ _ (execs (_ :: _) _) _
  refine H_while (BsI aA fa x cnt vs.length nw) (vs.length - 0) ⟨0, vs.length, tl, t1, rfl, Nat.zero_le _, hc, Nat.le_refl _, (by show List.lookup _ _ = some (Value.int 0 tl); walk_at "lk"), by walk_at "lk", by walk_at "lk", by walk_at "lk", by walk_at "lk", rfl⟩ ?_
  rintro k m nw' ⟨l, hh, tl, th, rfl, h1, h2, h3, kl, kh, ka, kx, kk, rfl⟩
  refine H_isTrue_Compare ?_
  walk_at "ev"
  walk_at "ev"
  refine H_lt_int (H_truthy_bool (Br_of (fun hb => ?_) (fun hb => ?_)))
  · have hlh : l < hh := by have := of_decide_eq_true hb; omega
    show HH _ _ _ (execs (_ :: _) _) _
    walk_at "ex"
    walk_at "ev"
    walk_at "ev"
    walk_at "ev"
    walk_at "ev"
    refine H_add_int fun t2 => ?_
    walk_at "ev"
    refine H_div_int (by decide) (by decide) fun t3 => ?_
    rw [mid_eq]
    have hmid : (l + hh) / 2 < vs.length := by omega
    walk_at "ex"
    refine H_isTrue_Compare ?_
    walk_at "ev"
    walk_at "ev"
    refine H_callWith_L hfd ?_
    walk_at "ev"
    walk_at "ev"
    walk_at "ev"
    walk_at "ev"
    refine H_item_list (x := vs[(l + hh) / 2]) ha (by omega) (by omega) (by rw [Int.toNat_natCast]; exact List.getElem?_eq_getElem hmid) ?_
    walk_at "ev"
    refine ⟨hf, ?_⟩
    refine H_mono (hk c _ ((l + hh) / 2) _ rfl (Nat.le_refl _) (List.getElem?_eq_getElem hmid)) ?_
    rintro kv m2 nw2 ⟨rfl, rfl, hcmp⟩
    walk_at "ev"
    refine hcmp _ _ (H_truthy_bool ?_)
    rw [hlt _ hmid]
    refine Br_of (fun hb2 => ?_) (fun hb2 => ?_)
    · have hb3 := of_decide_eq_true hb2
      show HH _ _ _ (execs (_ :: _) _) _
      walk_at "ex"
      walk_at "ev"
      walk_at "ev"
      walk_at "ev"
      refine H_add_int fun t4 => ?_
      refine H_nil (Then_next (H_nil ?_))
      refine ⟨rfl, hh - ((l + hh) / 2 + 1), by omega, (l + hh) / 2 + 1, hh, t4, th, rfl, by omega, h2, h3, ?_, by walk_at "lk", by walk_at "lk", by walk_at "lk", by walk_at "lk", rfl⟩
      rw [show (((l + hh) / 2 + 1 : Nat) : Int) = (((l + hh) / 2 : Nat) : Int) + 1 by omega]
      walk_at "lk"
    · have hb3 := of_decide_eq_false hb2
      show HH _ _ _ (execs (_ :: _) _) _
      walk_at "ex"
      walk_at "ev"
      refine H_nil (Then_next (H_nil ?_))
      exact ⟨rfl, (l + hh) / 2 - l, by omega, l, (l + hh) / 2, tl, t3, rfl, h1, by omega, by omega, by walk_at "lk", by walk_at "lk", by walk_at "lk", by walk_at "lk", by walk_at "lk", rfl⟩
  · have hlh : ¬ (l < hh) := by have := of_decide_eq_false hb; omega
    have hcl : l = cnt := by omega
    refine H_nil (Then_next ?_)
    walk_at "ex"
    walk_at "ev"
    subst hcl
    exact ⟨_, Sb.refl, h _⟩
theorem br_body {c : Cx} {nw : Nw} {aA fa : Addr} {o : Obj} {fd : FuncData} {vs : List Value} {n cnt : Nat} {x : Value} {lt : Nat → Bool} {tl : Tok} {Q : Value → Nw → Prop} (hroom : c.d < 870) (ha : (aA, listO vs n) ∈ nw) (hf : (fa, o) ∈ nw) (hfd : o.data = .func fd) (hz : vs.length ≤ 100000)
    (hk : KeyR c c.d nw fa vs x lt) (hlt : ∀ i, i < vs.length → lt i = decide (cnt ≤ i)) (hc : cnt ≤ vs.length) (h : ∀ t, Q (.int (cnt : Nat) t) nw) {g : Heap} {L' : Addr} :
    HH c [(Str.ofString "key", .ref fa), (Str.ofString "hi", .none), (Str.ofString "lo", .int 0 tl), (Str.ofString "x", x), (Str.ofString "a", .ref aA)] nw (execs (bodyAt 14) (envF 14 "bisect_right" 105 104 c.L)) fun fl m' nw' => ∃ nw'', Sb nw'' nw' ∧ Q (retV fl) nw'' := by
  show HH _ _ _ (execs (_ :: _) _) _
  walk_at "ex"
  refine H_isTrue_Compare ?_
  walk_at "ev"
  walk_at "ev"
  refine H_lt_int (H_truthy_bool (Br_false ?_))
  refine H_nil (Then_next ?_)
  walk_at "ex"
  refine H_isTrue_Compare ?_
  walk_at "ev"
  walk_at "ev"
  refine H_is_plain rfl (H_truthy_bool (Br_true ?_))
  show HH _ _ _ (execs (_ :: _) _) _
  walk_at "ex"
  walk_at "ev"
  walk_at "ev"
  refine H_callWith_b ?_
  walk_at "ev"
  walk_at "ev"
  walk_at "ev"
  refine H_len_list ha (by omega) fun t1 => ?_
  refine H_nil (Then_next ?_)
  walk_at "ex"
  refine H_isTrue_Compare ?_
  walk_at "ev"
  walk_at "ev"
  refine H_is_plain rfl (H_truthy_bool (Br_false ?_))
  show HH _ _ _ (execs (_ :: _) _) _
  refine H_while (BsI aA fa x cnt vs.length nw) (vs.length - 0) ⟨0, vs.length, tl, t1, rfl, Nat.zero_le _, hc, Nat.le_refl _, (by show List.lookup _ _ = some (Value.int 0 tl); walk_at "lk"), by walk_at "lk", by walk_at "lk", by walk_at "lk", by walk_at "lk", rfl⟩ ?_
  rintro k m nw' ⟨l, hh, tl, th, rfl, h1, h2, h3, kl, kh, ka, kx, kk, rfl⟩
  refine H_isTrue_Compare ?_
  walk_at "ev"
  walk_at "ev"
  refine H_lt_int (H_truthy_bool (Br_of (fun hb => ?_) (fun hb => ?_)))
  · have hlh : l < hh := by have := of_decide_eq_true hb; omega
    show HH _ _ _ (execs (_ :: _) _) _
    walk_at "ex"
    walk_at "ev"
    walk_at "ev"
    walk_at "ev"
    walk_at "ev"
    refine H_add_int fun t2 => ?_
    walk_at "ev"
    refine H_div_int (by decide) (by decide) fun t3 => ?_
    rw [mid_eq]
    have hmid : (l + hh) / 2 < vs.length := by omega
    walk_at "ex"
    refine H_isTrue_Compare ?_
    walk_at "ev"
    walk_at "ev"
    walk_at "ev"
    refine H_callWith_L hfd ?_
    walk_at "ev"
    walk_at "ev"
    walk_at "ev"
    walk_at "ev"
    refine H_item_list (x := vs[(l + hh) / 2]) ha (by omega) (by omega) (by rw [Int.toNat_natCast]; exact List.getElem?_eq_getElem hmid) ?_
    walk_at "ev"
    refine ⟨hf, ?_⟩
    refine H_mono (hk c _ ((l + hh) / 2) _ rfl (Nat.le_refl _) (List.getElem?_eq_getElem hmid)) ?_
    rintro kv m2 nw2 ⟨rfl, rfl, hcmp⟩
    refine hcmp _ _ (H_truthy_bool ?_)
    rw [hlt _ hmid]
    refine Br_of (fun hb2 => ?_) (fun hb2 => ?_)
    · have hb3 := of_decide_eq_true hb2
      show HH _ _ _ (execs (_ :: _) _) _
      walk_at "ex"
      walk_at "ev"
      refine H_nil (Then_next (H_nil ?_))
      exact ⟨rfl, (l + hh) / 2 - l, by omega, l, (l + hh) / 2, tl, t3, rfl, h1, by omega, by omega, by walk_at "lk", by walk_at "lk", by walk_at "lk", by walk_at "lk", by walk_at "lk", rfl⟩
    · have hb3 := of_decide_eq_false hb2
      show HH _ _ _ (execs (_ :: _) _) _
      walk_at "ex"
      walk_at "ev"
      walk_at "ev"
      walk_at "ev"
      refine H_add_int fun t4 => ?_
      refine H_nil (Then_next (H_nil ?_))
      refine ⟨rfl, hh - ((l + hh) / 2 + 1), by omega, (l + hh) / 2 + 1, hh, t4, th, rfl, by omega, h2, h3, ?_, by walk_at "lk", by walk_at "lk", by walk_at "lk", by walk_at "lk", rfl⟩
      rw [show (((l + hh) / 2 + 1 : Nat) : Int) = (((l + hh) / 2 : Nat) : Int) + 1 by omega]
      walk_at "lk"
  · have hlh : ¬ (l < hh) := by have := of_decide_eq_false hb; omega
    have hcl : l = cnt := by omega
    refine H_nil (Then_next ?_)
    walk_at "ex"
    walk_at "ev"
    subst hcl
    exact ⟨_, Sb.refl, h _⟩
theorem bl_ok {c : Cx} {m : Nm} {nw : Nw} {aA fa : Addr} {o : Obj} {fd : FuncData} {vs : List Value} {n cnt : Nat} {x : Value} {lt : Nat → Bool} {Q : Value → Nm → Nw → Prop} (hroom : c.d < 860) (ha : (aA, listO vs n) ∈ nw) (hf : (fa, o) ∈ nw) (hfd : o.data = .func fd) (hz : vs.length ≤ 100000)
    (hk : KeyL c (c.d + 1) nw fa vs x lt) (hlt : ∀ i, i < vs.length → lt i = decide (i < cnt)) (hc : cnt ≤ vs.length) (h : ∀ t, Q (.int (cnt : Nat) t) m nw) :
    HH c m nw (call (.ref 123) [.ref aA, x] [(Str.ofString "key", .ref fa)]) Q :=
  call_123 (by omega) fun g L' => bl_body (c := c.dn g L') (Q := fun v nw => Q v m nw) (by show c.d + 1 < 870; omega) ha hf hfd hz hk hlt hc h (g := g) (L' := L')
theorem br_ok {c : Cx} {m : Nm} {nw : Nw} {aA fa : Addr} {o : Obj} {fd : FuncData} {vs : List Value} {n cnt : Nat} {x : Value} {lt : Nat → Bool} {Q : Value → Nm → Nw → Prop} (hroom : c.d < 860) (ha : (aA, listO vs n) ∈ nw) (hf : (fa, o) ∈ nw) (hfd : o.data = .func fd) (hz : vs.length ≤ 100000)
    (hk : KeyR c (c.d + 1) nw fa vs x lt) (hlt : ∀ i, i < vs.length → lt i = decide (cnt ≤ i)) (hc : cnt ≤ vs.length) (h : ∀ t, Q (.int (cnt : Nat) t) m nw) :
    HH c m nw (call (.ref 105) [.ref aA, x] [(Str.ofString "key", .ref fa)]) Q :=
  call_105 (by omega) fun g L' => br_body (c := c.dn g L') (Q := fun v nw => Q v m nw) (by show c.d + 1 < 870; omega) ha hf hfd hz hk hlt hc h (g := g) (L' := L')
theorem bl_ok' {c : Cx} {m : Nm} {nw : Nw} {aA fa : Addr} {o : Obj} {fd : FuncData} {vs : List Value} {n cnt : Nat} {x : Value} {t0 : Tok} {lt : Nat → Bool} {Q : Value → Nm → Nw → Prop} (hroom : c.d < 860) (ha : (aA, listO vs n) ∈ nw) (hf : (fa, o) ∈ nw) (hfd : o.data = .func fd) (hz : vs.length ≤ 100000)
    (hk : KeyL c (c.d + 1) nw fa vs x lt) (hlt : ∀ i, i < vs.length → lt i = decide (i < cnt)) (hc : cnt ≤ vs.length) (h : ∀ t, Q (.int (cnt : Nat) t) m nw) :
    HH c m nw (call (.ref 123) [.ref aA, x, .int 0 t0, .none] [(Str.ofString "key", .ref fa)]) Q :=
  call_123' (by omega) fun g L' => bl_body (c := c.dn g L') (Q := fun v nw => Q v m nw) (by show c.d + 1 < 870; omega) ha hf hfd hz hk hlt hc h (g := g) (L' := L')
theorem br_ok' {c : Cx} {m : Nm} {nw : Nw} {aA fa : Addr} {o : Obj} {fd : FuncData} {vs : List Value} {n cnt : Nat} {x : Value} {t0 : Tok} {lt : Nat → Bool} {Q : Value → Nm → Nw → Prop} (hroom : c.d < 860) (ha : (aA, listO vs n) ∈ nw) (hf : (fa, o) ∈ nw) (hfd : o.data = .func fd) (hz : vs.length ≤ 100000)
    (hk : KeyR c (c.d + 1) nw fa vs x lt) (hlt : ∀ i, i < vs.length → lt i = decide (cnt ≤ i)) (hc : cnt ≤ vs.length) (h : ∀ t, Q (.int (cnt : Nat) t) m nw) :
    HH c m nw (call (.ref 105) [.ref aA, x, .int 0 t0, .none] [(Str.ofString "key", .ref fa)]) Q :=
  call_105' (by omega) fun g L' => br_body (c := c.dn g L') (Q := fun v nw => Q v m nw) (by show c.d + 1 < 870; omega) ha hf hfd hz hk hlt hc h (g := g) (L' := L')
theorem call_114 {c : Cx} {m : Nm} {nw : Nw} {va vx vf : Value} {Q : Value → Nm → Nw → Prop} (hroom : c.d < 900)
    (h : ∀ g L', HH (c.dn g L') [(Str.ofString "key", vf), (Str.ofString "hi", .none), (Str.ofString "lo", .int 0 639), (Str.ofString "x", vx), (Str.ofString "a", va)] nw (execs (bodyAt 15) (envF 15 "insort_left" 114 113 L')) fun fl m' nw' => ∃ nw'', Sb nw'' nw' ∧ Q (retV fl) m nw'') : HH c m nw (call (.ref 114) [va, vx] [(Str.ofString "key", vf)]) Q :=
  H_call (binds := [(Str.ofString "a", va), (Str.ofString "x", vx), (Str.ofString "lo", .int 0 639), (Str.ofString "hi", .none), (Str.ofString "key", vf)]) (fl_114 c.w) rfl (cd_114 c.w) rfl hroom
    (fun s X => BindsTo.of_defaults (T := 106) rfl (X _ _ (df_106 c.w)) rfl rfl rfl) (cellFree.elim (by decide +kernel)) (locs' (by kernel_rfl)) (by decide +kernel) (by decide +kernel) (by decide +kernel) h
theorem call_96 {c : Cx} {m : Nm} {nw : Nw} {va vx vf : Value} {Q : Value → Nm → Nw → Prop} (hroom : c.d < 900)
    (h : ∀ g L', HH (c.dn g L') [(Str.ofString "key", vf), (Str.ofString "hi", .none), (Str.ofString "lo", .int 0 612), (Str.ofString "x", vx), (Str.ofString "a", va)] nw (execs (bodyAt 13) (envF 13 "insort_right" 96 95 L')) fun fl m' nw' => ∃ nw'', Sb nw'' nw' ∧ Q (retV fl) m nw'') : HH c m nw (call (.ref 96) [va, vx] [(Str.ofString "key", vf)]) Q :=
  H_call (binds := [(Str.ofString "a", va), (Str.ofString "x", vx), (Str.ofString "lo", .int 0 612), (Str.ofString "hi", .none), (Str.ofString "key", vf)]) (fl_96 c.w) rfl (cd_96 c.w) rfl hroom
    (fun s X => BindsTo.of_defaults (T := 88) rfl (X _ _ (df_88 c.w)) rfl rfl rfl) (cellFree.elim (by decide +kernel)) (locs' (by kernel_rfl)) (by decide +kernel) (by decide +kernel) (by decide +kernel) h
def KeyX (c : Cx) (D : Nat) (nw : Nw) (fa : Addr) (x : Value) (P : Value → Prop) : Prop :=
  ∀ (c' : Cx) (m : Nm), c'.w = c.w → c'.d ≤ D → HH c' m nw (call (.ref fa) [x]) fun kv m' nw' => m' = m ∧ nw' = nw ∧ P kv
theorem il_ok {c : Cx} {m : Nm} {nw nw' : Nw} {aA fa : Addr} {o : Obj} {fd : FuncData} {vs : List Value} {n cnt : Nat} {x : Value} {lt : Nat → Bool} {P : Value → Prop} {Q : Value → Nm → Nw → Prop} (hroom : c.d < 850) (ha : (aA, listO vs n) ∈ nw) (hf : (fa, o) ∈ nw) (hfd : o.data = .func fd) (hz : vs.length ≤ 100000)
    (hx : KeyX c (c.d + 2) nw fa x P) (hk : ∀ kx, P kx → KeyL c (c.d + 2) nw fa vs kx lt) (hlt : ∀ i, i < vs.length → lt i = decide (i < cnt)) (hc : cnt ≤ vs.length) (U : Up aA (listO vs n) (listO (vs.take cnt ++ x :: vs.drop cnt) (n + 1)) nw nw') (h : Q .none m nw') :
    HH c m nw (call (.ref 114) [.ref aA, x] [(Str.ofString "key", .ref fa)]) Q := by
  refine call_114 (by omega) fun g L' => ?_
  show HH _ _ _ (execs (_ :: _) _) _
  walk_at "ex"
  refine H_isTrue_Compare ?_
  walk_at "ev"
  walk_at "ev"
  refine H_is_plain rfl (H_truthy_bool (Br_false ?_))
  show HH _ _ _ (execs (_ :: _) _) _
  walk_at "ex"
  walk_at "ev"
  walk_at "ev"
  refine H_callWith_Kkw (fl_123 _) rfl ?_
  walk_at "ev"
  walk_at "ev"
  walk_at "ev"
  walk_at "ev"
  walk_at "ev"
  refine H_callWith_L hfd ?_
  walk_at "ev"
  walk_at "ev"
  walk_at "ev"
  refine ⟨hf, ?_⟩
  refine H_mono (hx (c.dn g L') _ rfl (by show c.d + 1 ≤ c.d + 2; omega)) ?_
  rintro kv m2 nw2 ⟨rfl, rfl, hp⟩
  walk_at "ev"
  walk_at "ev"
  walk_at "ev"
  walk_at "ev"
  walk_at "ev"
  walk_at "ev"
  refine bl_ok' (by show c.d + 1 < 860; omega) ha hf hfd hz (hk kv hp) hlt hc fun t1 => ?_
  refine H_nil (Then_next ?_)
  walk_at "ex"
  refine H_Call_method F.plainAttrs_list F.slot_list_insert F.type_list_insert ?_
  walk_at "ev"
  refine ⟨TyAt.led ha, H_callWith_b ?_⟩
  walk_at "ev"
  walk_at "ev"
  walk_at "ev"
  walk_at "ev"
  walk_at "ev"
  refine H_insert U hc (by omega) ?_
  refine H_nil ?_
  exact ⟨_, Sb.refl, h⟩
theorem ir_ok {c : Cx} {m : Nm} {nw nw' : Nw} {aA fa : Addr} {o : Obj} {fd : FuncData} {vs : List Value} {n cnt : Nat} {x : Value} {lt : Nat → Bool} {P : Value → Prop} {Q : Value → Nm → Nw → Prop} (hroom : c.d < 850) (ha : (aA, listO vs n) ∈ nw) (hf : (fa, o) ∈ nw) (hfd : o.data = .func fd) (hz : vs.length ≤ 100000)
    (hx : KeyX c (c.d + 2) nw fa x P) (hk : ∀ kx, P kx → KeyR c (c.d + 2) nw fa vs kx lt) (hlt : ∀ i, i < vs.length → lt i = decide (cnt ≤ i)) (hc : cnt ≤ vs.length) (U : Up aA (listO vs n) (listO (vs.take cnt ++ x :: vs.drop cnt) (n + 1)) nw nw') (h : Q .none m nw') :
    HH c m nw (call (.ref 96) [.ref aA, x] [(Str.ofString "key", .ref fa)]) Q := by
  refine call_96 (by omega) fun g L' => ?_
  show HH _ _ _ (execs (_ :: _) _) _
  walk_at "ex"
  refine H_isTrue_Compare ?_
  walk_at "ev"
  walk_at "ev"
  refine H_is_plain rfl (H_truthy_bool (Br_false ?_))
  show HH _ _ _ (execs (_ :: _) _) _
  walk_at "ex"
  walk_at "ev"
  walk_at "ev"
  refine H_callWith_Kkw (fl_105 _) rfl ?_
  walk_at "ev"
  walk_at "ev"
  walk_at "ev"
  walk_at "ev"
  walk_at "ev"
  refine H_callWith_L hfd ?_
  walk_at "ev"
  walk_at "ev"
  walk_at "ev"
  refine ⟨hf, ?_⟩
  refine H_mono (hx (c.dn g L') _ rfl (by show c.d + 1 ≤ c.d + 2; omega)) ?_
  rintro kv m2 nw2 ⟨rfl, rfl, hp⟩
  walk_at "ev"
  walk_at "ev"
  walk_at "ev"
  walk_at "ev"
  walk_at "ev"
  walk_at "ev"
  refine br_ok' (by show c.d + 1 < 860; omega) ha hf hfd hz (hk kv hp) hlt hc fun t1 => ?_
  refine H_nil (Then_next ?_)
  walk_at "ex"
  refine H_Call_method F.plainAttrs_list F.slot_list_insert F.type_list_insert ?_
  walk_at "ev"
  refine ⟨TyAt.led ha, H_callWith_b ?_⟩
  walk_at "ev"
  walk_at "ev"
  walk_at "ev"
  walk_at "ev"
  walk_at "ev"
  refine H_insert U hc (by omega) ?_
  refine H_nil ?_
  exact ⟨_, Sb.refl, h⟩
section
variable {prog : Program} {w : World} {A : Around} {E : Value → Shared → Prop} {env : Env}
theorem lc_late {s : Shared} {elt iter : Expr} {x : Str} {px : Pos} {ifs : List Expr} {scope : Scope} {cl : List (Str × Addr)} {pos : Pos} {Q : Value → Shared → Prop}
    (hclos : closureFor scope env = pure cl) (hcell : ∀ y ∈ scope.names, y.2 ≠ .cell) (hkind : scope.kind = .function)
    (hnames : ∀ y ∈ scope.names, y.2 = .local → scope.names.lookup y.1 = some .local) (hx : scope.names.lookup x = some .local)
    (h : wpAny (model prog w) A (eval iter env) (fun xv s₁ => wpAny (model prog w) A (pyIter xv) (fun it s₂ => ∃ I fp wr n P St p F, it = .ref I ∧ Walks prog w A I fp wr n P St ∧ n ≤ sizeLine ∧ St 0 s₂.heap ∧ (∀ b ∈ fp, b < s₂.heap.objs.size) ∧
      QuietOnC prog w A env scope cl x ifs elt wr P p F s₂ ∧
      (∀ D h' tk ys (vs : List Value), s₂.heap.get? D = none → h'.PlainList D ys → vs.length = n → (∀ j v, vs[j]? = some v → P j v) → Paired F (vs.filter p) ys.toList →
        (∀ b o, b ∉ wr → s₂.heap.get? b = some o → h'.get? b = some o) → Q (.ref D) { s₂ with heap := h', toks := tk })) E s₁) E s)
    (hs : ∀ x, foldedSetIterable iter env x = pure x) : wpAny (model prog w) A (eval (.ListComp elt [⟨.Name x px, iter, ifs, 0⟩] scope pos) env) Q E s := by
  rw [eval_ListComp]
  refine wpAny_comprehension_free (use := none) rfl hs hclos hkind hnames (wpAny_mono h (fun xv s₁ h₁ => wpAny_mono h₁ (fun it s₂ h₂ => ?_) fun _ _ e => e) fun _ _ e => e)
  obtain ⟨I, fp, wr, n, P, St, p, F, rfl, W, hsz, hst, hfp, hq, hQ⟩ := h₂
  refine comp_block_walkC (RR := fun acc C => compPost (model prog w) A E none Q acc C) W hsz p F hcell hkind hx hst hfp hq ?_
  intro D C h' tk m' ys vs hD hC hDC hn hl hpl hlen hP hF hk
  exact ⟨m', hn, fun h'' hs'' => hQ D h'' tk ys vs hD (hpl.extBut hs''.extBut hDC) hlen hP hF fun b o hbf e => hs''.extBut b o (fun e' => by rw [e', hC] at e; cases e) (hk b o hbf e)⟩
theorem lc_late_Assign {s : Shared} {elt iter : Expr} {x y : Str} {px py : Pos} {ifs : List Expr} {scope : Scope} {cl : List (Str × Addr)} {pos spos : Pos} {Q : Flow → Shared → Prop}
    (hsw : swapsWith (.ListComp elt [⟨.Name x px, iter, ifs, 0⟩] scope pos) (some (.Name y py)) spos.line env = pure true)
    (hclos : closureFor scope env = pure cl) (hcell : ∀ z ∈ scope.names, z.2 ≠ .cell) (hkind : scope.kind = .function)
    (hnames : ∀ z ∈ scope.names, z.2 = .local → scope.names.lookup z.1 = some .local) (hx : scope.names.lookup x = some .local)
    (hy : env.kindOf y = some .local) (hp : (env.scope.kind == .class || (env.scope.kind == .module && env.locals != env.globals)) = false)
    (h : wpAny (model prog w) A (eval iter env) (fun xv s₁ => wpAny (model prog w) A (pyIter xv) (fun it s₂ => ∃ I fp wr n P St p F m, it = .ref I ∧ Walks prog w A I fp wr n P St ∧ n ≤ sizeLine ∧ St 0 s₂.heap ∧ (∀ b ∈ fp, b < s₂.heap.objs.size) ∧
      env.locals ∉ wr ∧ s₂.heap.Ns env.locals m ∧ QuietOnC prog w A env scope cl x ifs elt wr P p F s₂ ∧
      (∀ D h' tk ys (vs : List Value), s₂.heap.get? D = none → h'.PlainList D ys → vs.length = n → (∀ j v, vs[j]? = some v → P j v) → Paired F (vs.filter p) ys.toList →
        h'.Ns env.locals (fun z => if z = y then some (.ref D) else m z) → (∀ b o, b ≠ env.locals → b ∉ wr → s₂.heap.get? b = some o → h'.get? b = some o) → Q .next { s₂ with heap := h', toks := tk })) E s₁) E s)
    (hs : ∀ x, foldedSetIterable iter env x = pure x) :
    wpAny (model prog w) A (exec (.Assign [.Name y py] (.ListComp elt [⟨.Name x px, iter, ifs, 0⟩] scope pos) spos) env) Q E s := by
  rw [exec_Assign_Name_used _ _ _ _ hsw]
  refine wpAny_bind (wpAny_standAt (wpAny_bind ?_))
  show wpAny _ A (do let _ ← comprehension (.ListComp elt [⟨.Name x px, iter, ifs, 0⟩] scope pos) scope env _ (newList []) false (eval iter env) (some (assign (.Name y py) env))) _ _ s
  refine wpAny_bind (wpAny_mono (wpAny_comprehension_free (use := some (assign (.Name y py) env)) (Q := fun _ s' => Q .next s') rfl hs hclos hkind hnames
    (wpAny_mono h (fun xv s₁ h₁ => wpAny_mono h₁ (fun it s₂ h₂ => ?_) fun _ _ e => e) fun _ _ e => e)) (fun _ s' hq => wpAny_pure (wpAny_pure hq)) fun _ _ e => e)
  obtain ⟨I, fp, wr, n, P, St, p, F, m, rfl, W, hsz, hst, hfp, hLf, hn, hq, hQ⟩ := h₂
  refine comp_block_walkC (RR := fun acc C => compPost (model prog w) A E (some (assign (.Name y py) env)) (fun _ s' => Q .next s') acc C) W hsz p F hcell hkind hx hst hfp hq ?_
  intro D C h' tk m' ys vs hD hC hDC hnC hlD hplD hlen hP hF hk
  have hLC : env.locals ≠ C := fun e => by obtain ⟨o, _, _, ho, _⟩ := hn; rw [e, hC] at ho; cases ho
  have hLD : env.locals ≠ D := fun e => by obtain ⟨o, _, _, ho, _⟩ := hn; rw [e, hD] at ho; cases ho
  show wpAny _ A (assign (.Name y py) env (.ref D)) _ _ _
  refine wpAny_assign_Name (wpAny_storeName_local hy (hn.at' fun o e => hk _ o hLf e) (fun h₂ hn₂ hs₂ => ?_) hp)
  refine ⟨m', hnC.sameBut hs₂ (Ne.symm hLC), fun h₃ hs₃ => ?_⟩
  exact hQ D h₃ _ ys vs hD ((hplD.extBut hs₂.extBut (Ne.symm hLD)).extBut hs₃.extBut hDC) hlen hP hF (hn₂.sameBut hs₃ hLC) fun b o hbL hbf e =>
    hs₃.extBut b o (fun e' => by rw [e', hC] at e; cases e) (hs₂.extBut b o hbL (hk b o hbf e))
end
section
variable {c : Cx} {m : Nm} {nw : Nw}
theorem Fm.extNew {h h' : Heap} {it D : Addr} {o oD : Obj} (F : Fm c h m ((it, o) :: nw)) (hs : Heap.ExtBut it h h') (hD : h.get? D = none) (hD' : h'.get? D = some oD) (hfn : isFn oD = false) : Fm c h' m ((D, oD) :: nw) := by
  obtain ⟨hid, hok, hfo, l⟩ := F.led
  obtain ⟨mf, hns, hmf⟩ := F.ns
  have hi := l.1 (it, o) (.head _)
  have nd : it ∉ (nw ++ hid).map (·.1) ∧ ((nw ++ hid).map (·.1)).Nodup := List.nodup_cons.mp l.2
  refine ⟨⟨mf, hns.extBut hs hi.2.1.symm, hmf⟩, fun b ob e => ?_, F.above, F.base, hid, hok, ?_, ?_, ?_⟩
  · refine hs b ob (fun q => ?_) (F.keep b ob e)
    rw [q, hi.2.2] at e; cases e
  · intro q hq fd hd
    rcases List.mem_cons.mp hq with rfl | hq
    · have hd' : oD.data = .func fd := hd
      simp [isFn, hd'] at hfn
    · exact hfo q (.tail _ hq) fd hd
  · intro p hp
    rcases List.mem_cons.mp (show p ∈ (D, oD) :: (nw ++ hid) from hp) with rfl | hp
    · refine ⟨hD', fun e => ?_, ?_⟩
      · obtain ⟨oL, _, _, e1, _⟩ := hns
        have e' : D = c.L := e
        rw [e', e1] at hD; cases hD
      · cases q : c.g.get? D with
        | none => rfl
        | some o' => rw [F.keep _ _ q] at hD; cases hD
    · have z := l.1 p (.tail _ hp)
      exact ⟨hs p.1 p.2 (fun q => nd.1 (by rw [← q]; exact List.mem_map_of_mem hp)) z.1, z.2⟩
  · refine List.nodup_cons.mpr ⟨fun hm => ?_, nd.2⟩
    obtain ⟨p, hp, e⟩ := List.mem_map.mp hm
    have z := (l.1 p (.tail _ hp)).1
    rw [e, hD] at z; cases z
theorem Fm.extNewL {h h' : Heap} {it D : Addr} {o oD : Obj} {x : Str} {v : Value} {mf : Str → Option Value} (F : Fm c h m ((it, o) :: nw)) (hmf : ∀ y v, m.lookup y = some v → mf y = some v) (hn : h'.Ns c.L (fun y => if y = x then some v else mf y)) (hs : ∀ b o, b ≠ c.L → b ≠ it → h.get? b = some o → h'.get? b = some o)
    (hD : h.get? D = none) (hD' : h'.get? D = some oD) (hfn : isFn oD = false) : Fm c h' ((x, v) :: m) ((D, oD) :: nw) := by
  obtain ⟨hid, hok, hfo, l⟩ := F.led
  obtain ⟨mf', hns, _⟩ := F.ns
  have hi := l.1 (it, o) (.head _)
  have nd : it ∉ (nw ++ hid).map (·.1) ∧ ((nw ++ hid).map (·.1)).Nodup := List.nodup_cons.mp l.2
  refine ⟨⟨_, hn, fun y u e => ?_⟩, fun b ob e => ?_, F.above, F.base, hid, hok, ?_, ?_, ?_⟩
  · rw [List.lookup_cons] at e
    by_cases hy : y = x
    · subst hy; simp only [beq_self_eq_true] at e; simpa using e
    · have : (y == x) = false := beq_eq_false_iff_ne.mpr hy
      rw [this] at e
      show (if y = x then some v else mf y) = some u
      rw [if_neg hy]; exact hmf _ _ e
  · refine hs b ob (Nat.ne_of_lt (Nat.lt_of_lt_of_le (Heap.lt_size e) F.above)) (fun q => ?_) (F.keep b ob e)
    rw [q, hi.2.2] at e; cases e
  · intro q hq fd hd
    rcases List.mem_cons.mp hq with rfl | hq
    · have hd' : oD.data = .func fd := hd
      simp [isFn, hd'] at hfn
    · exact hfo q (.tail _ hq) fd hd
  · intro p hp
    rcases List.mem_cons.mp (show p ∈ (D, oD) :: (nw ++ hid) from hp) with rfl | hp
    · refine ⟨hD', fun e => ?_, ?_⟩
      · obtain ⟨oL, _, _, e1, _⟩ := hns
        have e' : D = c.L := e
        rw [e', e1] at hD; cases hD
      · cases q : c.g.get? D with
        | none => rfl
        | some o' => rw [F.keep _ _ q] at hD; cases hD
    · have z := l.1 p (.tail _ hp)
      exact ⟨hs p.1 p.2 z.2.1 (fun q => nd.1 (by rw [← q]; exact List.mem_map_of_mem hp)) z.1, z.2⟩
  · refine List.nodup_cons.mpr ⟨fun hm => ?_, nd.2⟩
    obtain ⟨p, hp, e⟩ := List.mem_map.mp hm
    have z := (l.1 p (.tail _ hp)).1
    rw [e, hD] at z; cases z
/-- what a comprehension's parts say, each by itself -/
structure LcQ (w : World) (A : Around) (s₁ : Shared) (env : Env) (scope : Scope) (cl : List (Str × Addr)) (x : Str) (ifs : List Expr) (elt : Expr) (vs : List Value) (p : Value → Bool) (F : Value → Value → Prop) : Prop where
  tests : ∀ C v s₃ m₃ E', v ∈ vs → s₃.heap.Ns C m₃ → m₃ x = some v → (∀ b o, s₁.heap.get? b = some o → s₃.heap.get? b = some o) →
    wpAny (model prg w) A (forIn ifs true fun c r => if r = true then do let ok ← isTrue c (compEnvC scope cl C env) (eval c (compEnvC scope cl C env)); pure (ForInStep.yield ok) else pure (ForInStep.yield r))
      (fun ok s₄ => ok = p v ∧ Keeps s₃ s₄) E' s₃
  elt : ∀ C v s₃ m₃ E', v ∈ vs → p v = true → s₃.heap.Ns C m₃ → m₃ x = some v → (∀ b o, s₁.heap.get? b = some o → s₃.heap.get? b = some o) →
    wpAny (model prg w) A (eval elt (compEnvC scope cl C env)) (fun y s₄ => F v y ∧ Keeps s₃ s₄) E' s₃
theorem LcQ.quiet {w : World} {A : Around} {s₁ : Shared} {env : Env} {scope : Scope} {cl : List (Str × Addr)} {x : Str} {ifs : List Expr} {elt : Expr} {vs : List Value} {p : Value → Bool} {F : Value → Value → Prop} {o : Obj} (q : LcQ w A s₁ env scope cl x ifs elt vs p F) :
    QuietOnC prg w A env scope cl x ifs elt [s₁.heap.objs.size] (fun i v => vs.toArray[i]? = some v) p F { s₁ with heap := s₁.heap.push o } := by
  have key : ∀ s₃ : Shared, (∀ b o', b ∉ [s₁.heap.objs.size] → (s₁.heap.push o).get? b = some o' → s₃.heap.get? b = some o') → ∀ b o', s₁.heap.get? b = some o' → s₃.heap.get? b = some o' :=
    fun s₃ hk b o' e => hk b o' (fun hm => by rw [List.mem_singleton.mp hm] at e; exact Nat.lt_irrefl _ (Heap.lt_size e)) (Heap.get?_push_of_some _ e)
  have mem : ∀ i v, vs.toArray[i]? = some v → v ∈ vs := fun i v hv => by
    rw [List.getElem?_toArray] at hv; exact List.mem_of_getElem? hv
  exact ⟨fun C i v s₃ m₃ E' _ hv hn hm hk _ => q.tests C v s₃ m₃ E' (mem i v hv) hn hm (key s₃ hk), fun C i v s₃ m₃ E' _ hv hp hn hm hk _ => q.elt C v s₃ m₃ E' (mem i v hv) hp hn hm (key s₃ hk)⟩
theorem same_items {vs vs' : List Value} (hl : vs'.length = vs.toArray.size) (h : ∀ (j : Nat) v, vs'[j]? = some v → vs.toArray[j]? = some v) : vs' = vs := by
  apply List.ext_getElem?
  intro j
  rcases Nat.lt_or_ge j vs'.length with hj | hj
  · have := h j vs'[j] (List.getElem?_eq_getElem hj)
    rw [List.getElem?_eq_getElem hj, ← this, List.getElem?_toArray]
  · rw [List.getElem?_eq_none hj, List.getElem?_eq_none (by rw [hl, List.size_toArray] at hj; exact hj)]
def scopeOk (scope : Scope) (x : Str) : Bool := cellFree scope && decide (scope.kind = .function) && (scope.names.all fun y => !decide (y.2 = .local) || decide (scope.names.lookup y.1 = some .local)) && decide (scope.names.lookup x = some .local)
theorem scopeOk.elim {scope : Scope} {x : Str} (h : scopeOk scope x = true) : (∀ y ∈ scope.names, y.2 ≠ .cell) ∧ scope.kind = .function ∧ (∀ y ∈ scope.names, y.2 = .local → scope.names.lookup y.1 = some .local) ∧ scope.names.lookup x = some .local := by
  simp only [scopeOk, Bool.and_eq_true, decide_eq_true_eq] at h
  refine ⟨cellFree.elim h.1.1.1, h.1.1.2, fun y hy e => ?_, h.2⟩
  have := List.all_eq_true.mp h.1.2 y hy
  simpa [e] using this
variable {cs : Scope} {cl' : List (Str × Addr)} {q : Str} {fo : Option Addr} {cd : Value} {fr : Option Addr}
theorem H_lc {elt iter : Expr} {x : Str} {px : Pos} {ifs : List Expr} {scope : Scope} {cl : List (Str × Addr)} {pos : Pos} {Q : Value → Nm → Nw → Prop}
    (hclos : closureFor scope (envG cs c.L cl' q fo cd fr) = pure cl) (hsc : scopeOk scope x = true)
    (h : HH c m nw (eval iter (envG cs c.L cl' q fo cd fr)) fun xv m₁ nw₁ => ∃ l vs n p F, xv = .ref l ∧ (l, listO vs n) ∈ nw₁ ∧ vs.length ≤ 100000 ∧ (∀ A s₁, Gd c m₁ nw₁ A s₁ → LcQ c.w A s₁ (envG cs c.L cl' q fo cd fr) scope cl x ifs elt vs p F) ∧
      ∀ D ys n', Paired F (vs.filter p) ys → Q (.ref D) m₁ ((D, listO ys n') :: nw₁))
    (hs : ∀ x, foldedSetIterable iter (envG cs c.L cl' q fo cd fr) x = pure x := by intro _; rfl) :
    HH c m nw (eval (.ListComp elt [⟨.Name x px, iter, ifs, 0⟩] scope pos) (envG cs c.L cl' q fo cd fr)) Q := fun A s G => by
  obtain ⟨hcell, hkind, hnames, hx⟩ := scopeOk.elim hsc
  refine lc_late hclos hcell hkind hnames hx (h.go A s G fun xv s₁ m₁ nw₁ G₁ ⟨l, vs, n, p, F, e, hm, hz, hq, hQ⟩ => ?_) hs
  subst e
  have hl := G₁.fm.get hm
  have hlt : l < s₁.heap.objs.size := Heap.lt_size hl
  refine wpAny_pyIter_list (items := vs.toArray) ⟨_, hl, rfl, n, rfl⟩ ?_
  refine ⟨s₁.heap.objs.size, _, _, _, _, _, p, F, rfl, Walks.list G₁.hh _ l (Nat.ne_of_lt hlt) vs.toArray, by rw [List.size_toArray]; exact Nat.le_trans hz (by decide), ⟨⟨_, Heap.get?_push_size _ rfl, rfl, rfl⟩, ⟨_, Heap.get?_push_of_some _ hl, rfl, n, rfl⟩⟩, ?_, (hq A s₁ G₁).quiet, ?_⟩
  · intro b hb
    simp only [List.mem_cons, List.not_mem_nil, or_false] at hb
    show b < (s₁.heap.push _).objs.size
    rw [Heap.size_push]
    rcases hb with rfl | rfl
    · exact Nat.lt_succ_self _
    · exact Nat.lt_succ_of_lt hlt
  · intro D h' tk ys vs' hD hpl hlen hP hF hk
    have e := same_items hlen hP
    subst e
    obtain ⟨n', hpl⟩ := hpl
    have F₂ : Fm c (s₁.heap.push { cls := .type "list_iterator", data := .fields #[.ref l, .int 0 0] }) m₁ ((s₁.heap.objs.size, _) :: nw₁) := G₁.fm.push _ rfl rfl
    have F₃ : Fm c h' m₁ ((D, listO ys.toList n') :: nw₁) := F₂.extNew (fun b o hb e => hk b o (by simpa using hb) e) hD (by simpa using hpl) rfl
    exact ⟨m₁, _, ⟨G₁.hh, G₁.hd, G₁.hu, F₃, G₁.gn, G₁.os⟩, hQ D ys.toList n' hF⟩
theorem H_Assign_lc {elt iter : Expr} {x y : Str} {px py : Pos} {ifs : List Expr} {scope : Scope} {cl : List (Str × Addr)} {pos spos : Pos} {rest : List Stmt} {Q : Flow → Nm → Nw → Prop}
    (hsw : swapsWith (.ListComp elt [⟨.Name x px, iter, ifs, 0⟩] scope pos) (some (.Name y py)) spos.line (envG cs c.L cl' q fo cd fr) = pure true)
    (hclos : closureFor scope (envG cs c.L cl' q fo cd fr) = pure cl) (hsc : scopeOk scope x = true) (hy : nmOk cs y .local = true)
    (h : HH c m nw (eval iter (envG cs c.L cl' q fo cd fr)) fun xv m₁ nw₁ => ∃ l vs n p F, xv = .ref l ∧ (l, listO vs n) ∈ nw₁ ∧ vs.length ≤ 100000 ∧ (∀ A s₁, Gd c m₁ nw₁ A s₁ → LcQ c.w A s₁ (envG cs c.L cl' q fo cd fr) scope cl x ifs elt vs p F) ∧
      ∀ D ys n', Paired F (vs.filter p) ys → HH c ((y, .ref D) :: m₁) ((D, listO ys n') :: nw₁) (execs rest (envG cs c.L cl' q fo cd fr)) Q)
    (hs : ∀ x, foldedSetIterable iter (envG cs c.L cl' q fo cd fr) x = pure x := by intro _; rfl) :
    HH c m nw (execs (.Assign [.Name y py] (.ListComp elt [⟨.Name x px, iter, ifs, 0⟩] scope pos) spos :: rest) (envG cs c.L cl' q fo cd fr)) Q := H_cons fun A s G => by
  obtain ⟨hcell, hkind, hnames, hx⟩ := scopeOk.elim hsc
  obtain ⟨h1, h2, _⟩ := nmOk.elim hy
  refine lc_late_Assign hsw hclos hcell hkind hnames hx h2 ?_ (h.go A s G fun xv s₁ m₁ nw₁ G₁ ⟨l, vs, n, p, F, e, hm, hz, hq, hQ⟩ => ?_) hs
  · show (cs.kind == .class || (cs.kind == .module && c.L != mainGlobals)) = false
    rw [h1]; rfl
  subst e
  have hl := G₁.fm.get hm
  have hlt : l < s₁.heap.objs.size := Heap.lt_size hl
  obtain ⟨mf, hns, hmf⟩ := G₁.fm.ns
  refine wpAny_pyIter_list (items := vs.toArray) ⟨_, hl, rfl, n, rfl⟩ ?_
  refine ⟨s₁.heap.objs.size, _, _, _, _, _, p, F, mf, rfl, Walks.list G₁.hh _ l (Nat.ne_of_lt hlt) vs.toArray, by rw [List.size_toArray]; exact Nat.le_trans hz (by decide), ⟨⟨_, Heap.get?_push_size _ rfl, rfl, rfl⟩, ⟨_, Heap.get?_push_of_some _ hl, rfl, n, rfl⟩⟩, ?_, ?_, hns.push _, (hq A s₁ G₁).quiet, ?_⟩
  · intro b hb
    simp only [List.mem_cons, List.not_mem_nil, or_false] at hb
    show b < (s₁.heap.push _).objs.size
    rw [Heap.size_push]
    rcases hb with rfl | rfl
    · exact Nat.lt_succ_self _
    · exact Nat.lt_succ_of_lt hlt
  · intro hm'
    exact Nat.ne_of_lt hns.lt (List.mem_singleton.mp hm')
  · intro D h' tk ys vs' hD hpl hlen hP hF hn' hk
    have e := same_items hlen hP
    subst e
    obtain ⟨n', hpl⟩ := hpl
    have F₂ : Fm c (s₁.heap.push { cls := .type "list_iterator", data := .fields #[.ref l, .int 0 0] }) m₁ ((s₁.heap.objs.size, _) :: nw₁) := G₁.fm.push _ rfl rfl
    have F₃ : Fm c h' ((y, .ref D) :: m₁) ((D, listO ys.toList n') :: nw₁) := F₂.extNewL hmf hn' (fun b o hb hb2 e => hk b o hb (by simpa using hb2) e) hD (by simpa using hpl) rfl
    exact ⟨_, _, ⟨G₁.hh, G₁.hd, G₁.hu, F₃, G₁.gn, G₁.os⟩, hQ D ys.toList n' hF⟩
end
section
variable {w : World} {A : Around} {E : Value → Shared → Prop} {s : Shared} {cs : Scope} {C : Addr} {cl : List (Str × Addr)} {q : Str} {cd : Value} {fr : Option Addr} {m₃ : Str → Option Value}
theorem q_name {x : Str} {p : Pos} {v : Value} {Q : Value → Shared → Prop} (hnm : nmOk cs x .local = true) (hn : s.heap.Ns C m₃) (hv : m₃ x = some v) (hq : Q v s) : wpAny (model prg w) A (eval (.Name x p) (envG cs C cl q none cd fr)) Q E s := by
  obtain ⟨h1, h2, h3, _⟩ := nmOk.elim hnm
  exact wpAny_Name (wpAny_loadName_local h1 h2 hn hv hq) h3
theorem q_item {x : Str} {p1 p2 p3 : Pos} {kk k : Nat} {a : Addr} {us : List Value} {y : Value} {Q : Value → Shared → Prop} (hnm : nmOk cs x .local = true) (hn : s.heap.Ns C m₃) (hv : m₃ x = some (.ref a)) (ho : s.heap.get? a = some (tupO us)) (hx : us[k]? = some y) (hk : k < 1000)
    (hs : ∀ t, subscripted (.Constant (.int (k : Int)) kk p2) false (.ref a) (.int (k : Int) t) = operate [.ref a, .int (k : Int) t] (getItem (.ref a) (.int (k : Int) t)))
    (hq : ∀ tk, Q y { s with toks := tk }) : wpAny (model prg w) A (eval (.Subscript (.Name x p1) (.Constant (.int (k : Int)) kk p2) p3) (envG cs C cl q none cd fr)) Q E s := by
  refine Subscript_ (q_name hnm hn hv (wpAny_Constant_int ?_))
  have hlt : k < us.length := by
    rcases Nat.lt_or_ge k us.length with h | h
    · exact h
    · rw [List.getElem?_eq_none h] at hx; cases hx
  refine tail_any (T := "tuple") ⟨_, ho, rfl⟩ slot_tuple_getitem.lookup (getItem_tuple (items := us.toArray) (j := k) ⟨_, ho, rfl, 0, rfl⟩ (by omega) (by omega) ?_ (by simpa using hx) (hq _)) (hs _)
  rw [List.size_toArray]
  unfold seqIndex?
  have e1 : ¬ ((k : Int) < 0) := by omega
  simp [e1, hlt]
theorem Keeps.toks {s : Shared} (tk : Nat) : Keeps s { s with toks := tk } := ⟨s.heap, tk, rfl, fun _ _ e => e⟩
theorem Keeps.rfl' {s : Shared} : Keeps s s := ⟨s.heap, s.toks, rfl, fun _ _ e => e⟩
end
/-- a comprehension that takes one part of each tuple -/
theorem lc_item {c : Cx} {m : Nm} {nw : Nw} {A : Around} {s₁ : Shared} {cs : Scope} {cl' : List (Str × Addr)} {q : Str} {fo : Option Addr} {cd : Value} {fr : Option Addr} {scope : Scope} {x : Str} {p1 p2 p3 : Pos} {kk k : Nat} {vs : List Value} (G : Gd c m nw A s₁)
    (hnm : nmOk (relabel scope (envG cs c.L cl' q fo cd fr)) x .local = true) (hk : k < 1000) {PF : Value → Value → Prop} (ht : ∀ v ∈ vs, ∃ a us y, v = .ref a ∧ (a, tupO us) ∈ nw ∧ us[k]? = some y ∧ PF v y)
    (hs : ∀ a t, subscripted (.Constant (.int (k : Int)) kk p2) false (.ref a) (.int (k : Int) t) = operate [.ref a, .int (k : Int) t] (getItem (.ref a) (.int (k : Int) t))) :
    LcQ c.w A s₁ (envG cs c.L cl' q fo cd fr) scope [] x [] (.Subscript (.Name x p1) (.Constant (.int (k : Int)) kk p2) p3) vs (fun _ => true) PF where
  tests := fun C v s₃ m₃ E' _ _ _ _ => wpAny_pure ⟨rfl, Keeps.rfl'⟩
  elt := fun C v s₃ m₃ E' hv _ hn hm hk' => by
    obtain ⟨a, us, y, rfl, hmem, hy, hpf⟩ := ht v hv
    exact q_item (cs := relabel scope (envG cs c.L cl' q fo cd fr)) hnm hn hm (hk' _ _ (G.fm.get hmem)) hy hk (hs a) fun tk => ⟨hpf, Keeps.toks tk⟩
/-- one that keeps the pairs whose name stands so to the cell's text -/
theorem lc_test {c : Cx} {m : Nm} {nw : Nw} {A : Around} {s₁ : Shared} {cs : Scope} {cl' cl : List (Str × Addr)} {q : Str} {fo : Option Addr} {cd : Value} {fr : Option Addr} {scope : Scope} {x nm : Str} {p1 p2 p3 p4 p5 p6 : Pos} {kk : Nat} {op : CmpOp} {vs : List Value} {ca : Addr} {oc : Obj} {nv : Value} {p : Value → Bool} (G : Gd c m nw A s₁)
    (hnm : nmOk (relabel scope (envG cs c.L cl' q fo cd fr)) x .local = true) (hcn : nmOk (relabel scope (envG cs c.L cl' q fo cd fr)) nm .cell = true) (hcl : cl.lookup nm = some ca) (hca : (ca, oc) ∈ nw) (hcd : oc.data = .cell (some nv))
    (ht : ∀ v ∈ vs, ∃ a us y, v = .ref a ∧ (a, tupO us) ∈ nw ∧ us[0]? = some y ∧ ∀ (s : Shared) (E : Value → Shared → Prop) (Q : Value → Shared → Prop), Q (.bool (p v)) s → wpAny (model prg c.w) A (compareOp op y nv) Q E s)
    (hs : ∀ a t, subscripted (.Constant (.int (0 : Nat)) kk p2) false (.ref a) (.int (0 : Nat) t) = operate [.ref a, .int (0 : Nat) t] (getItem (.ref a) (.int (0 : Nat) t)))
    (hb : behindInMarks op (.Name nm p4) = false) :
    LcQ c.w A s₁ (envG cs c.L cl' q fo cd fr) scope cl x [.Compare (.Subscript (.Name x p1) (.Constant (.int (0 : Nat)) kk p2) p3) [op] [.Name nm p4] p5] (.Name x p6) vs p (fun v y => y = v) where
  tests := fun C v s₃ m₃ E' hv hn hm hk' => by
    obtain ⟨a, us, y, rfl, hmem, hy, hcmp⟩ := ht v hv
    rw [List.forIn_cons]
    refine wpAny_bind ?_
    rw [if_pos rfl]
    refine wpAny_bind (wpAny_isTrue_Compare1 ?_ hb)
    refine q_item (cs := relabel scope (envG cs c.L cl' q fo cd fr)) hnm hn hm (hk' _ _ (G.fm.get hmem)) hy (by decide) (hs a) fun tk => ?_
    obtain ⟨h1, h2, h3, _⟩ := nmOk.elim hcn
    refine wpAny_Name (wpAny_loadName_cell (env := envG (relabel scope (envG cs c.L cl' q fo cd fr)) C cl q none cd fr) h1 h2 hcl ⟨oc, hk' _ _ (G.fm.get hca), hcd⟩ ?_) h3
    refine hcmp _ _ _ (wpAny_truthy_bool (wpAny_pure ?_))
    dsimp only
    rw [List.forIn_nil]
    exact wpAny_pure ⟨rfl, Keeps.toks tk⟩
  elt := fun C v s₃ m₃ E' hv _ hn hm hk' => q_name (cs := relabel scope (envG cs c.L cl' q fo cd fr)) hnm hn hm ⟨rfl, Keeps.rfl'⟩
/-- one that keeps the lists with something in them -/
theorem lc_some {c : Cx} {m : Nm} {nw : Nw} {A : Around} {s₁ : Shared} {cs : Scope} {cl' cl : List (Str × Addr)} {q : Str} {fo : Option Addr} {cd : Value} {fr : Option Addr} {scope : Scope} {x : Str} {p1 p2 : Pos} {vs : List Value} {p : Value → Bool} (G : Gd c m nw A s₁)
    (hnm : nmOk (relabel scope (envG cs c.L cl' q fo cd fr)) x .local = true) (ht : ∀ v ∈ vs, ∃ a us n, v = .ref a ∧ (a, listO us n) ∈ nw ∧ us.length ≤ 1000 ∧ p v = !us.isEmpty) :
    LcQ c.w A s₁ (envG cs c.L cl' q fo cd fr) scope cl x [.Name x p1] (.Name x p2) vs p (fun v y => y = v) where
  tests := fun C v s₃ m₃ E' hv hn hm hk' => by
    obtain ⟨a, us, n, rfl, hmem, hz, hp⟩ := ht v hv
    rw [List.forIn_cons]
    refine wpAny_bind ?_
    rw [if_pos rfl]
    refine wpAny_bind (wpAny_isTrue_value (q_name (cs := relabel scope (envG cs c.L cl' q fo cd fr)) hnm hn hm ?_) rfl)
    refine wpAny_truthy_list (items := us.toArray) ⟨_, hk' _ _ (G.fm.get hmem), rfl, n, rfl⟩ (by rw [List.size_toArray]; omega) (wpAny_pure ?_)
    dsimp only
    rw [List.forIn_nil]
    exact wpAny_pure ⟨by rw [hp]; simp, Keeps.toks _⟩
  elt := fun C v s₃ m₃ E' hv _ hn hm hk' => q_name (cs := relabel scope (envG cs c.L cl' q fo cd fr)) hnm hn hm ⟨rfl, Keeps.rfl'⟩
/-- and one that takes each list's length -/
theorem lc_len {c : Cx} {m : Nm} {nw : Nw} {A : Around} {s₁ : Shared} {cs : Scope} {cl' cl : List (Str × Addr)} {q : Str} {fo : Option Addr} {cd : Value} {fr : Option Addr} {scope : Scope} {x : Str} {p1 p2 p3 : Pos} {vs : List Value} (G : Gd c m nw A s₁)
    (hnm : nmOk (relabel scope (envG cs c.L cl' q fo cd fr)) x .local = true) (hln : nmOk (relabel scope (envG cs c.L cl' q fo cd fr)) (Str.ofString "len") .globalImplicit = true) {PF : Value → Value → Prop} (ht : ∀ v ∈ vs, ∃ a us n, v = .ref a ∧ (a, listO us n) ∈ nw ∧ us.length ≤ 100000 ∧ ∀ t, PF v (.int (us.length : Int) t)) :
    LcQ c.w A s₁ (envG cs c.L cl' q fo cd fr) scope cl x [] (.Call (.Name (Str.ofString "len") p1) [.Name x p2] [] p3) vs (fun _ => true) PF where
  tests := fun C v s₃ m₃ E' _ _ _ _ => wpAny_pure ⟨rfl, Keeps.rfl'⟩
  elt := fun C v s₃ m₃ E' hv _ hn hm hk' => by
    obtain ⟨a, us, n, rfl, hmem, hz, hpf⟩ := ht v hv
    obtain ⟨h1, h2, h3, _, h5⟩ := nmOk.elim hln
    obtain ⟨p, lo, me, mg, mb, T⟩ := G.fm.base.T
    refine wpAny_Call_Name_kw ?_
    have kp : ∀ b o, c.g.get? b = some o → s₃.heap.get? b = some o := fun b o e => hk' _ _ (G.fm.keep b o e)
    refine Name_function_global (env := envG (relabel scope (envG cs c.L cl' q fo cd fr)) C cl q none cd fr) h1 h2 (loadGlobal_builtin (T.g.keeps kp) (mg_none_of G.fm.base.X T.g (gn_len _)) (T.b.keeps kp) ((T.builtins _ h5).trans bb_len) ?_) h3
    refine callWith_method1 ?_ rfl rfl
    refine spliced_more (q_name (cs := relabel scope (envG cs c.L cl' q fo cd fr)) hnm hn hm ?_) rfl
    refine spliced_none ?_
    refine Calls.call_len_list (items := us.toArray) ⟨_, hk' _ _ (G.fm.get hmem), rfl, n, rfl⟩ (by rw [List.size_toArray]; omega) ⟨by rw [List.size_toArray]; exact hpf _, Keeps.toks _⟩
set_option maxHeartbeats 600000
def nmc (r : Nat) : Nat := if r = 0 then 107 else if r = 1 then 109 else 112
def val : Nat → Option (List Nat)
  | 0 => none
  | 1 => some []
  | 2 => some [55]
  | 3 => some [97, 34, 98]
  | 4 => some [92]
  | _ => some [120, 47, 121]
def wr : Nat → List Nat
  | 0 => []
  | 1 => [61, 34, 34]
  | 2 => [61, 55]
  | 3 => [61, 34, 97, 92, 34, 98, 34]
  | 4 => [61, 34, 92, 92, 34]
  | _ => [61, 34, 120, 47, 121, 34]
def rOf (N : Int) : Nat := (N.fmod 3).toNat
def fOf (N : Int) : Nat := ((N.fdiv 3).fmod 6).toNat
theorem rOf_lt (N : Int) : N.fmod 3 = (rOf N : Int) ∧ rOf N < 3 := by
  have h1 := Int.fmod_nonneg_of_pos N (show (0 : Int) < 3 by decide)
  have h2 := Int.fmod_lt_of_pos N (show (0 : Int) < 3 by decide)
  unfold rOf; omega
theorem fOf_lt (N : Int) : (N.fdiv 3).fmod 6 = (fOf N : Int) ∧ fOf N < 6 := by
  have h1 := Int.fmod_nonneg_of_pos (N.fdiv 3) (show (0 : Int) < 6 by decide)
  have h2 := Int.fmod_lt_of_pos (N.fdiv 3) (show (0 : Int) < 6 by decide)
  unfold fOf; omega
theorem fl_130 (w : World) : (KF w).lookup 130 = some (fnObj 18 "_law_word" .none .none (.str "law_nb0228_01" 666) 129) := by kernel_rfl
theorem cd_130 (w : World) : codeIn (KF w) (.ref 129) (Str.ofString "_law_word") = true := by kernel_rfl
theorem call_130 {c : Cx} {m : Nm} {nw : Nw} {v : Value} {Q : Value → Nm → Nw → Prop} (hroom : c.d < 900)
    (h : ∀ g L', HH (c.dn g L') [(Str.ofString "number", v)] nw (execs (bodyAt 18) (envF 18 "_law_word" 130 129 L')) fun fl m' nw' => ∃ nw'', Sb nw'' nw' ∧ Q (retV fl) m nw'') : HH c m nw (call (.ref 130) [v]) Q :=
  H_call (binds := [(Str.ofString "number", v)]) (fl_130 c.w) rfl (cd_130 c.w) rfl hroom (fun s X => BindsTo.of_eq (by kernel_rfl)) (cellFree.elim (by decide +kernel)) (locs' (by kernel_rfl)) (by decide +kernel) (by decide +kernel) (by decide +kernel) h
theorem fl_137 (w : World) : (KF w).lookup 137 = some (fnObj 19 "_law_read" .none .none (.str "law_nb0228_01" 666) 136) := by kernel_rfl
theorem cd_137 (w : World) : codeIn (KF w) (.ref 136) (Str.ofString "_law_read") = true := by kernel_rfl
theorem call_137 {c : Cx} {m : Nm} {nw : Nw} {v : Value} {Q : Value → Nm → Nw → Prop} (hroom : c.d < 900)
    (h : ∀ g L', HH (c.dn g L') [(Str.ofString "text", v)] nw (execs (bodyAt 19) (envF 19 "_law_read" 137 136 L')) fun fl m' nw' => ∃ nw'', Sb nw'' nw' ∧ Q (retV fl) m nw'') : HH c m nw (call (.ref 137) [v]) Q :=
  H_call (binds := [(Str.ofString "text", v)]) (fl_137 c.w) rfl (cd_137 c.w) rfl hroom (fun s X => BindsTo.of_eq (by kernel_rfl)) (cellFree.elim (by decide +kernel)) (locs' (by kernel_rfl)) (by decide +kernel) (by decide +kernel) (by decide +kernel) h
theorem fl_142 (w : World) : (KF w).lookup 142 = some (fnObj 20 "_law_count" .none .none (.str "law_nb0228_01" 666) 141) := by kernel_rfl
theorem cd_142 (w : World) : codeIn (KF w) (.ref 141) (Str.ofString "_law_count") = true := by kernel_rfl
theorem call_142 {c : Cx} {m : Nm} {nw : Nw} {v : Value} {Q : Value → Nm → Nw → Prop} (hroom : c.d < 900)
    (h : ∀ g L', HH (c.dn g L') [(Str.ofString "head", v)] nw (execs (bodyAt 20) (envF 20 "_law_count" 142 141 L')) fun fl m' nw' => ∃ nw'', Sb nw'' nw' ∧ Q (retV fl) m nw'') : HH c m nw (call (.ref 142) [v]) Q :=
  H_call (binds := [(Str.ofString "head", v)]) (fl_142 c.w) rfl (cd_142 c.w) rfl hroom (fun s X => BindsTo.of_eq (by kernel_rfl)) (cellFree.elim (by decide +kernel)) (locs' (by kernel_rfl)) (by decide +kernel) (by decide +kernel) (by decide +kernel) h
theorem H_cut {α : Type} {c : Cx} {m : Nm} {nw : Nw} {t : Sem α} {Q : α → Nm → Nw → Prop} (P : α → Nw → Prop) (h1 : HH c m nw t fun a m' nw' => P a nw' ∧ m' = m ∧ nw' = nw) (h2 : ∀ a, P a nw → Q a m nw) : HH c m nw t Q :=
  H_mono h1 fun a m' nw' ⟨p, e1, e2⟩ => by rw [e1, e2]; rw [e2] at p; exact h2 a p
theorem word_ok {c : Cx} {m : Nm} {nw : Nw} {N : Int} {t : Tok} {Q : Value → Nm → Nw → Prop} (hroom : c.d < 880)
    (h : ∀ tA pA u t1 t2, OptIs u (val (fOf N)) → Q (.ref tA) m ((tA, tupO [.ref pA, .str (S (nmc (rOf N) :: wr (fOf N))) t2]) :: (pA, tupO [.str (S [nmc (rOf N)]) t1, u]) :: nw)) : HH c m nw (call (.ref 130) [.int N t]) Q := by
  refine call_130 (by omega) fun g L' => ?_
  obtain ⟨hr, hr3⟩ := rOf_lt N
  obtain ⟨hf, hf6⟩ := fOf_lt N
  generalize rOf N = r at *
  generalize fOf N = f at *
  show HH _ _ _ (execs (_ :: _) _) _
  walk_at "ex"
  walk_at "ev"
  walk_at "ev"
  walk_at "ev"
  walk_at "ev"
  walk_at "ev"
  walk_at "ev"
  walk_at "ev"
  walk_at "ev"
  walk_at "ev"
  refine ⟨by simp, fun a1 => ?_⟩
  walk_at "ev"
  walk_at "ev"
  walk_at "ev"
  refine H_mod_int (by decide) fun t1 => ?_
  rw [hr]
  refine H_cut (fun x nw' => ∃ t, x = .str (S [nmc r]) t) ?_ ?_
  · match r, hr3 with
    | 0, _ => exact H_item_list (.head _) (by decide) (by decide) (x := _) rfl ⟨⟨_, rfl⟩, rfl, rfl⟩
    | 1, _ => exact H_item_list (.head _) (by decide) (by decide) (x := _) rfl ⟨⟨_, rfl⟩, rfl, rfl⟩
    | 2, _ => exact H_item_list (.head _) (by decide) (by decide) (x := _) rfl ⟨⟨_, rfl⟩, rfl, rfl⟩
  rintro _ ⟨tn, rfl⟩
  (refine' H_Assign ?ha ?_ ?he; (case ha => decide +kernel); (case he => kernel_rfl))
  walk_at "ev"
  (iterate 6 (walk_at "ev"; walk_at "ev"; walk_at "ev"; walk_at "ev"; walk_at "ev"; walk_at "ev"; walk_at "ev"; refine ⟨by simp, fun _ => ?_⟩))
  walk_at "ev"
  refine ⟨by simp, fun a8 => ?_⟩
  walk_at "ex"
  walk_at "ev"
  walk_at "ev"
  walk_at "ev"
  walk_at "ev"
  walk_at "ev"
  walk_at "ev"
  refine H_div_int (by decide) (by decide) fun t3 => ?_
  walk_at "ev"
  refine H_mod_int (by decide) fun t4 => ?_
  rw [hf]
  refine H_cut (fun x nw' => ∃ a u tw, x = .ref a ∧ (a, tupO [u, .str (S (wr f)) tw]) ∈ nw' ∧ OptIs u (val f)) ?_ ?_
  · match f, hf6 with
    | 0, _ => exact H_item_list (.head _) (by decide) (by decide) (x := _) rfl ⟨⟨_, _, _, rfl, .tail _ (.tail _ (.tail _ (.tail _ (.tail _ (.tail _ (.head _)))))), rfl⟩, rfl, rfl⟩
    | 1, _ => exact H_item_list (.head _) (by decide) (by decide) (x := _) rfl ⟨⟨_, _, _, rfl, .tail _ (.tail _ (.tail _ (.tail _ (.tail _ (.head _))))), ⟨_, rfl⟩⟩, rfl, rfl⟩
    | 2, _ => exact H_item_list (.head _) (by decide) (by decide) (x := _) rfl ⟨⟨_, _, _, rfl, .tail _ (.tail _ (.tail _ (.tail _ (.head _)))), ⟨_, rfl⟩⟩, rfl, rfl⟩
    | 3, _ => exact H_item_list (.head _) (by decide) (by decide) (x := _) rfl ⟨⟨_, _, _, rfl, .tail _ (.tail _ (.tail _ (.head _))), ⟨_, rfl⟩⟩, rfl, rfl⟩
    | 4, _ => exact H_item_list (.head _) (by decide) (by decide) (x := _) rfl ⟨⟨_, _, _, rfl, .tail _ (.tail _ (.head _)), ⟨_, rfl⟩⟩, rfl, rfl⟩
    | 5, _ => exact H_item_list (.head _) (by decide) (by decide) (x := _) rfl ⟨⟨_, _, _, rfl, .tail _ (.head _), ⟨_, rfl⟩⟩, rfl, rfl⟩
  rintro x ⟨a, u, tw, rfl, hmem, hopt⟩
  refine ⟨_, _, _, rfl, hmem, ?_⟩
  walk_at "ex"
  walk_at "ev"
  walk_at "ev"
  walk_at "ev"
  walk_at "ev"
  walk_at "ev"
  walk_at "ev"
  walk_at "ev"
  walk_at "ev"
  refine ⟨by simp, fun pA => ?_⟩
  walk_at "ev"
  walk_at "ev"
  walk_at "ev"
  walk_at "ev"
  refine H_add_str (by have : (wr f).length ≤ 10 := (by unfold wr; split <;> decide); simp; omega) fun t5 => ?_
  walk_at "ev"
  refine ⟨by simp, fun tA => ?_⟩
  rw [show [nmc r] ++ wr f = nmc r :: wr f from rfl]
  exact ⟨(tA, tupO [.ref pA, .str (S (nmc r :: wr f)) t5]) :: (pA, tupO [.str (S [nmc r]) tn, u]) :: nw, by walk_at "sb", h tA pA u tn t5 hopt⟩
theorem sb_tail {p : Addr × Obj} {T nw : Nw} : Sb nw (T ++ p :: nw) := by
  induction T with
  | nil => exact Sb.drop Sb.refl
  | cons q T ih => exact Sb.drop ih
theorem sb_app {T l r : Nw} (h : Sb l r) : Sb (T ++ l) (T ++ r) := by
  induction T with
  | nil => exact h
  | cons p T ih => exact Sb.keep ih
theorem front {a : Addr} {o : Obj} {T : Nw} (h : (a, o) ∈ T) : ∃ T', List.Perm ((a, o) :: T') T ∧ ∀ p ∈ T, p ≠ (a, o) → p ∈ T' := by
  obtain ⟨x, y, rfl⟩ := List.append_of_mem h
  refine ⟨x ++ y, List.perm_middle.symm, fun p hp hne => ?_⟩
  simp only [List.mem_append, List.mem_cons] at hp ⊢
  rcases hp with hp | rfl | hp
  · exact .inl hp
  · exact absurd rfl hne
  · exact .inr hp
theorem Tups.mono2 {nw nw' : Nw} {vs : List Value} {ps : List (List Nat × Option (List Nat))} (h : Tups nw vs ps) (hs : ∀ q ∈ nw, (∃ us, q.2 = tupO us) → q ∈ nw') : Tups nw' vs ps := by
  induction h with
  | nil => exact .nil
  | cons h _ ih => exact .cons (let ⟨a, t, u, e, m, r⟩ := h; ⟨a, t, u, e, hs _ m ⟨_, rfl⟩, r⟩) ih
theorem tup_ne_list {us vs : List Value} {n : Nat} : tupO us ≠ listO vs n := fun e => by
  have := congrArg Obj.cls e
  simp at this
theorem read_ok {c : Cx} {m : Nm} {nw : Nw} {l : List Nat} {t : Tok} {k : Nat} {ps : List (List Nat × Option (List Nat))} {Q : Value → Nm → Nw → Prop} (hroom : c.d < 870) (hrd : RD k l ps) (hz : l.length ≤ 10000) (hp : ps.length ≤ 1000)
    (h : ∀ r vs n T, Tups T vs ps → Q (.ref r) m ((r, listO vs n) :: (T ++ nw))) : HH c m nw (call (.ref 137) [.str (S l) t]) Q := by
  refine call_137 (by omega) fun g L' => ?_
  show HH _ _ _ (execs (_ :: _) _) _
  walk_at "ex"
  walk_at "ev"
  walk_at "ev"
  refine H_callWith_K (fl_70 _) rfl ?_
  walk_at "ev"
  walk_at "ev"
  walk_at "ev"
  walk_at "ev"
  walk_at "ev"
  refine ⟨by simp, fun hv => ?_⟩
  walk_at "ev"
  refine split_ok (ts := [(l, t)]) (pss := [ps]) (by show c.d + 1 < 880; omega) (.head _) ?_ (by simp) rfl fun r rs T n hrows => ?_
  · intro i t' ht'
    cases i with
    | zero => simp at ht'; subst ht'; exact ⟨k, ps, rfl, hrd, hz, hp⟩
    | succ i => simp at ht'
  walk_at "ex"
  walk_at "ev"
  refine H_isTrue_Compare ?_
  walk_at "ev"
  walk_at "ev"
  refine H_callWith_b ?_
  walk_at "ev"
  walk_at "ev"
  walk_at "ev"
  cases ps with
  | nil =>
    have hr0 : rs = [] := by cases hrows; rfl
    subst hr0
    refine H_len_list (.head _) (by simp) fun t1 => ?_
    walk_at "ev"
    refine H_eq_int (H_truthy_bool (Br_false ?_))
    walk_at "ev"
    exact ⟨(r, listO [] n) :: nw, Sb.keep (sb_tail), h r [] n [] .nil⟩
  | cons p ps =>
    obtain ⟨a, vs, n', rfl, hmem, htu⟩ : ∃ a vs n', rs = [.ref a] ∧ (a, listO vs n') ∈ T ∧ Tups T vs (p :: ps) := by
      have hrows' : RowsIs T rs [p :: ps] := hrows
      cases hrows' with
      | cons h1 h2 =>
        cases h2
        obtain ⟨a, vs, n', rfl, hm, ht⟩ := h1
        exact ⟨a, vs, n', rfl, hm, ht⟩
    refine H_len_list (.head _) (by simp) fun t1 => ?_
    walk_at "ev"
    refine H_eq_int (H_truthy_bool (Br_true ?_))
    walk_at "ev"
    walk_at "ev"
    walk_at "ev"
    refine H_item_list (.head _) (by decide) (by decide) (x := .ref a) rfl ?_
    obtain ⟨T', hperm, hin⟩ := front hmem
    refine ⟨(a, listO vs n') :: (T' ++ nw), ?_, h a vs n' T' (htu.mono2 fun q hq ⟨us, e⟩ => hin q hq fun e2 => tup_ne_list (e.symm.trans (congrArg Prod.snd e2)))⟩
    refine Sb.drop ?_
    refine Sb.trans (Sb.perm (hperm.append_right nw)) ?_
    refine (sb_app (Sb.drop Sb.refl))
theorem RowsIs.each {nw : Nw} {vs : List Value} {pss : List (List (List Nat × Option (List Nat)))} (h : RowsIs nw vs pss) : ∀ v ∈ vs, ∃ a us n, v = .ref a ∧ (a, listO us n) ∈ nw ∧ ∃ ps, ps ∈ pss ∧ Tups nw us ps := by
  induction h with
  | nil => intro v hv; cases hv
  | cons hp _ ih =>
    intro v hv
    rcases List.mem_cons.mp hv with rfl | hv
    · obtain ⟨a, us, n, e, hm, ht⟩ := hp; exact ⟨a, us, n, e, hm, _, .head _, ht⟩
    · obtain ⟨a, us, n, e, hm, ps, hps, ht⟩ := ih v hv; exact ⟨a, us, n, e, hm, ps, .tail _ hps, ht⟩
theorem count_ok {c : Cx} {m : Nm} {nw : Nw} {l : List Nat} {t : Tok} {k : Nat} {ps : List (List Nat × Option (List Nat))} {Q : Value → Nm → Nw → Prop} (hroom : c.d < 870) (hrd : RD k l ps) (hz : l.length ≤ 10000) (hp : ps.length ≤ 1000)
    (h : ∀ t', Q (.int (ps.length : Int) t') m nw) : HH c m nw (call (.ref 142) [.str (S l) t]) Q := by
  refine call_142 (by omega) fun g L' => ?_
  show HH _ _ _ (execs (_ :: _) _) _
  walk_at "ex"
  walk_at "ev"
  walk_at "ev"
  refine H_callWith_b ?_
  walk_at "ev"
  refine H_lc (cl := []) (by kernel_rfl) (by decide +kernel) ?_
  walk_at "ev"
  walk_at "ev"
  refine H_callWith_K (fl_70 _) rfl ?_
  walk_at "ev"
  walk_at "ev"
  walk_at "ev"
  walk_at "ev"
  walk_at "ev"
  refine ⟨by simp, fun hv => ?_⟩
  walk_at "ev"
  refine split_ok (ts := [(l, t)]) (pss := [ps]) (by show c.d + 1 < 880; omega) (.head _) ?_ (by simp) rfl fun r rs T n hrows => ?_
  · intro i t' ht'
    cases i with
    | zero => simp at ht'; subst ht'; exact ⟨k, ps, rfl, hrd, hz, hp⟩
    | succ i => simp at ht'
  refine ⟨r, rs, n, _, fun _ y => ∃ t, y = .int (ps.length : Int) t, rfl, .head _, ?_, fun A s₁ G => lc_len G (by kernel_rfl) (by kernel_rfl) ?_, fun D ys n' hF => ?_⟩
  · rw [hrows.length]; exact Nat.le_trans (List.length_filter_le _ _) (by simp)
  · intro v hv
    obtain ⟨a, vs, n2, e, hm, ps', hps', ht⟩ := hrows.each v hv
    have : ps' = ps := by
      have := List.mem_filter.mp hps'
      simpa using this.1
    subst this
    exact ⟨a, vs, n2, e, .tail _ (List.mem_append_left _ hm), by rw [ht.length]; omega, fun t => ⟨t, by rw [ht.length]⟩⟩
  · walk_at "ev"
    have hint : IntsAre ys (if ps.isEmpty then [] else [(ps.length : Int)]) := by
      rw [List.filter_eq_self.mpr (fun _ _ => rfl)] at hF
      cases ps with
      | nil =>
        have hr0 : rs = [] := by cases hrows; rfl
        subst hr0
        cases hF
        exact .nil
      | cons p ps =>
        have hrows' : RowsIs T rs [p :: ps] := hrows
        cases hrows' with
        | cons h1 h2 =>
          cases h2
          cases hF with
          | cons f1 f2 =>
            cases f2
            obtain ⟨t1, rfl⟩ := f1
            exact .cons _ _ .nil
    refine H_sum (.head _) hint fun t' => ?_
    refine ⟨nw, Sb.drop (Sb.drop sb_tail), ?_⟩
    cases ps with
    | nil => exact h t'
    | cons p ps =>
      have := h t'
      show Q (.int (([((p :: ps).length : Int)] : List Int).sum) t') m nw
      simpa using this
section
variable {c : Cx} {m : Nm} {nw : Nw} {cs : Scope} {cl : List (Str × Addr)} {q : Str} {fo : Option Addr} {cd : Value} {fr : Option Addr} {env : Env}
theorem H_store_cellO {x : Str} {v : Value} {v₀ : Option Value} {ca : Addr} {oc : Obj} {nw' : List (Addr × Obj)} {Q : Unit → Nm → Nw → Prop} (hn : nmOk cs x .cell = true) (hc : cl.lookup x = some ca) (hd : oc.data = .cell v₀)
    (U : Up ca oc { oc with data := .cell (some v) } nw nw') (h : Q () m nw') : HH c m nw (storeName (envG cs c.L cl q fo cd fr) x v) Q := fun _ _ G => by
  obtain ⟨h1, h2, _⟩ := nmOk.elim hn
  have e : storeName (envG cs c.L cl q fo cd fr) x v = (do cellSet (← cellOf (envG cs c.L cl q fo cd fr) x) (some v)) := by
    unfold storeName
    have h2' : (envG cs c.L cl q fo cd fr).kindOf x = some .cell := h2
    simp only [h2', h1]
    rfl
  rw [e]
  refine wpAny_bind (wpAny_cellOf hc ?_)
  unfold cellSet
  refine wpAny_bind (wpAny_load (G.fm.get U.mem) ?_)
  rw [hd]
  exact wpAny_update (G.fm.get U.mem) ⟨_, _, G.heap' (G.fm.upd U rfl rfl rfl), h⟩
theorem H_assignC {x : Str} {p : Pos} {v : Value} {v₀ : Option Value} {ca : Addr} {oc : Obj} {nw' : List (Addr × Obj)} {Q : Unit → Nm → Nw → Prop} (hn : nmOk cs x .cell = true) (hc : cl.lookup x = some ca) (hd : oc.data = .cell v₀)
    (U : Up ca oc { oc with data := .cell (some v) } nw nw') (h : Q () m nw') : HH c m nw (assign (.Name x p) (envG cs c.L cl q fo cd fr) v) Q := fun A s G => wpAny_assign_Name (H_store_cellO hn hc hd U h A s G)
/-- a def with one cell, entered -/
theorem H_callC {f : Addr} {o : Obj} {fd : FuncData} {body : List Stmt} {args : List Value} {binds : List (Str × Value)} {cx : Str} {cv : Option Value} {m0 : Nm} {Q : Value → Nm → Nw → Prop}
    (hl : (KF c.w).lookup f = some o) (hdat : o.data = .func fd) (hcd : codeIn (KF c.w) fd.code fd.qualname = true) (hbody : fd.body = .stmts body) (hclo : fd.closure = []) (hgl : fd.globals = mainGlobals) (hbu : fd.builtins = builtinsNs) (hroom : c.d < 900)
    (hbind : bindArgs fd ⟨args, []⟩ = pure binds) (hcf : ∀ n, cellsFrom n fd.scope.names [] = [(cx, n)])
    (hkind : ∀ x ∈ binds, fd.scope.names.lookup x.1 = some .local ∨ (fd.scope.names.lookup x.1 = some .cell ∧ x.1 = cx))
    (hm0 : ∀ y v, m0.lookup y = some v → bindL (fun x => fd.scope.names.lookup x) binds (fun _ => none) y = some v) (hcv : bindC (fun x => fd.scope.names.lookup x) binds (fun _ => none) cx = cv)
    (hco : fd.scope.isCoroutine = false) (hgen : fd.scope.isGenerator = false) (hk : fd.scope.kind = .function)
    (h : ∀ g L' oc, oc.data = .cell cv → HH (c.dn g L') m0 ((L' + 1, oc) :: nw) (execs body (envG fd.scope L' [(cx, L' + 1)] (fd.qualname ++ ".<locals>.") (some f) fd.code (some L'))) fun fl m' nw' => ∃ nw'', Sb nw'' nw' ∧ Q (retV fl) m nw'') : HH c m nw (call (.ref f) args) Q := fun A s G => by
  obtain ⟨g, hid, hsz, hgs, hgk, hgL, hok, hfo, hled, hnd⟩ := ground G
  have XS : (KF c.w).In s.heap := G.fm.base.X.keeps G.fm.keep
  obtain ⟨p, lo, me, mg, mb, T⟩ := G.fm.base.T
  refine wpAny_call (codeAny_call_cells (body := body) (binds := binds) (Nat.lt_of_le_of_lt G.hd (Nat.lt_trans hroom (by decide))) (G.fm.getK hl) hdat (T.nolimit.keeps G.fm.keep) (codeRec_of XS hcd) hbody hbind hclo ?_ (fun s₁ x => ?_) hco hgen hk)
  · intro x hx
    rcases hkind x hx with h1 | ⟨h1, h2⟩
    · exact .inl h1
    · exact .inr ⟨h1, by rw [hcf, h2]; simp⟩
  have eE : callEnvC fd s.heap.objs.size f = envG fd.scope s.heap.objs.size [(cx, s.heap.objs.size + 1)] (fd.qualname ++ ".<locals>.") (some f) fd.code (some s.heap.objs.size) := by
    unfold callEnvC
    rw [hcf, hgl, hbu]
    rfl
  rw [eE] at x ⊢
  obtain ⟨h₁, tk, es, hk₁⟩ := x.done
  obtain ⟨oc, hoc, hocd⟩ := x.cell cx (s.heap.objs.size + 1) (by simp)
  have hns : s₁.heap.Ns s.heap.objs.size _ := x.toInCall.ns
  have hk₂ : ∀ b o, s.heap.get? b = some o → s₁.heap.get? b = some o := fun b o e => by rw [es]; exact hk₁ b o e
  have hocv : oc.data = .cell cv := by rw [hocd]; exact congrArg Data.cell hcv
  have G' : Gd (c.dn g s.heap.objs.size) m0 ((s.heap.objs.size + 1, oc) :: nw) (A.deeper (envG fd.scope s.heap.objs.size [(cx, s.heap.objs.size + 1)] (fd.qualname ++ ".<locals>.") (some f) fd.code (some s.heap.objs.size))) s₁ := by
    refine ⟨G.hh, Nat.succ_le_succ G.hd, Nat.add_le_add_right G.hu 3, ⟨⟨_, hns, hm0⟩, fun b o e => hk₂ b o (hgs b o e), Nat.le_of_eq hsz, G.fm.base.keeps hgk, hid, hok, ?_, fun q hq => ?_, ?_⟩, by rw [es]; exact G.gn, by rw [es]; exact G.os⟩
    · intro q hq fd' hd'
      rcases List.mem_cons.mp hq with rfl | hq
      · have hd2 : oc.data = .func fd' := hd'
        rw [hocv] at hd2; cases hd2
      · exact hfo q hq fd' hd'
    · rcases List.mem_cons.mp (show q ∈ (s.heap.objs.size + 1, oc) :: (nw ++ hid) from hq) with rfl | hq
      · refine ⟨hoc, Nat.succ_ne_self _, ?_⟩
        cases e : g.get? (s.heap.objs.size + 1) with
        | none => rfl
        | some o' => have := Heap.lt_size e; rw [hsz] at this; exact absurd this (Nat.not_lt.mpr (Nat.le_succ _))
      · exact ⟨hk₂ _ _ (hled q hq).1, Nat.ne_of_lt (Heap.lt_size (hled q hq).1), (hled q hq).2⟩
    · refine List.nodup_cons.mpr ⟨fun hm => ?_, hnd⟩
      obtain ⟨q, hq, e⟩ := List.mem_map.mp hm
      have h1 := Heap.lt_size (hled q hq).1
      have e' : q.1 = s.heap.objs.size + 1 := e
      rw [e'] at h1
      exact absurd h1 (Nat.not_lt.mpr (Nat.le_succ _))
  exact (h g s.heap.objs.size oc hocv).go _ _ G' fun fl s' m' nw' G'' ⟨nw'', hs, q⟩ => ⟨_, _, (leave G hgk hgL G'' ⟨rfl, rfl, rfl⟩).sub (fun _ _ e => e) hs, q⟩
end
section
variable {c : Cx} {m : Nm} {nw : Nw} {env : Env}
abbrev rgO (n : Nat) (t1 t t2 : Tok) : Obj := fldO "range" [.int 0 t1, .int (n : Int) t, .int 1 t2]
abbrev rgI (i n : Nat) : Obj := fldO "range_iterator" [rawInt i, rawInt ((n : Int) - i), rawInt 1]
theorem rg_size (n : Nat) : Builtin.Range.rangeSize 0 (n : Int) 1 = (n : Int) := by
  rw [rangeSize_one]
  split <;> omega
theorem rg_small {n : Nat} (h : n ≤ 100000) : Builtin.Range.small 0 (n : Int) 1 = true := by
  have hf : ∀ x : Int, 0 ≤ x → x ≤ 100001 → Builtin.Range.rangeFitsLong x = true := fun x h1 h2 => by
    unfold Builtin.Range.rangeFitsLong
    have a : (-9223372036854775808 ≤ x) := by omega
    have b : (x < 9223372036854775808) := by omega
    simp [a, b]
  unfold Builtin.Range.small
  rw [rg_size, hf 0 (by decide) (by decide), hf n (by omega) (by omega), hf 1 (by decide) (by decide)]
  have : Builtin.Range.rangeFitsLong ((n : Int) + (1 - 1)) = true := hf _ (by omega) (by omega)
  simp only [Bool.and_self, Bool.true_and, show (1 : Int) > 0 by decide, if_true, this, Bool.or_true]
theorem H_forR {target iter : Expr} {body : List Stmt} {pos : Pos} {rest : List Stmt} {Q : Flow → Nm → Nw → Prop} {n : Nat} (I : Nat → Nm → Nw → Prop) (hn : n ≤ 100000)
    (h0 : HH c m nw (eval iter env) fun v m₁ nw₁ => ∃ r t1 t t2, v = .ref r ∧ (r, rgO n t1 t t2) ∈ nw₁ ∧ I 0 m₁ nw₁)
    (turn : ∀ it o i m nw t, i < n → I i m nw → HH c m ((it, o) :: nw) (assign target env (.int (i : Int) t)) fun _ m₁ nw₁ => HH c m₁ nw₁ (execs body env) fun fl m₂ nw₂ => fl = .next ∧ ∃ nw₃, Sb ((it, o) :: nw₃) nw₂ ∧ I (i + 1) m₂ nw₃)
    (fin : ∀ m nw, I n m nw → HH c m nw (execs rest env) Q)
    (hs : ∀ x, foldedSetIterable iter env x = pure x := by intro _; rfl) (ht : ∀ it v, letOwnedTupleGo target it v = pure () := by intro _ _; rfl) :
    HH c m nw (execs (.For target iter body [] pos :: rest) env) Q :=
  H_cons fun A s G => by
    refine wpAny_For (h0.go A s G fun v s₁ m₁ nw₁ G₁ ⟨r, t1, t, t2, e, hr, hI⟩ => ?_) hs
    subst e
    refine wpAny_pyIter_range (a := 0) (b := (n : Int)) (c := 1) (G₁.fm.get hr) (rg_small hn) ?_
    refine codeAny_forLoop (fun k s' => ∃ i m' nw', k = n - i ∧ i ≤ n ∧ Gd c m' ((s₁.heap.objs.size, rgI i n) :: nw') A s' ∧ I i m' nw') ?_ (n - 0)
      ⟨0, m₁, nw₁, rfl, Nat.zero_le _, ?_, hI⟩ (ht _)
    rotate_left 1
    · have := G₁.heap' (G₁.fm.push (rgI 0 n) rfl rfl)
      rw [rg_size]
      have e : (n : Int) - ((0 : Nat) : Int) = n := by omega
      simp only [rgI, e] at this
      exact this
    rintro k s' ⟨i, m', nw', rfl, hi, G', hI'⟩
    by_cases hlt : i < n
    · refine wpAny_pyNext_range_item (x := (i : Int)) (left := (n : Int) - i) (step := 1) (G'.fm.get (.head _)) (by omega) fun h' hit' hsb => ?_
      have e1 : ((i : Int) + 1) = ((i + 1 : Nat) : Int) := by omega
      have e2 : (n : Int) - i - 1 = (n : Int) - ((i + 1 : Nat) : Int) := by omega
      have hit2 : h'.get? s₁.heap.objs.size = some (rgI (i + 1) n) := by
        have := hit'
        unfold IsRangeIter at this
        rw [e1, e2] at this
        exact this
      have G₂ : Gd c m' ((s₁.heap.objs.size, rgI (i + 1) n) :: nw') A { s' with heap := h', toks := s'.toks + 1 } := G'.heap (G'.fm.same hsb hit2 rfl) _
      refine (turn s₁.heap.objs.size (rgI (i + 1) n) i m' nw' s'.toks hlt hI').go A _ G₂ fun _ s₃ m₃ nw₃ G₃ h₃ => ?_
      refine h₃.go A _ G₃ fun fl s₄ m₄ nw₄ G₄ h₄ => ?_
      obtain ⟨rfl, nw₅, hsb5, hI5⟩ := h₄
      exact ⟨n - (i + 1), by omega, i + 1, m₄, nw₅, rfl, hlt, G₄.sub (fun _ _ e => e) hsb5, hI5⟩
    · refine wpAny_pyNext_range_end (x := (i : Int)) (left := (n : Int) - i) (step := 1) G'.hh (G'.fm.get (.head _)) (by omega) fun h' hxt => ?_
      have hie : i = n := by omega
      subst hie
      exact wpAny_execs_nil ⟨m', nw', G'.heap' (G'.fm.ext hxt), fin _ _ hI'⟩
theorem H_list_range {n : Nat} {r : Addr} {t1 t t2 : Tok} {Q : Value → Nm → Nw → Prop} (hr : (r, rgO n t1 t t2) ∈ nw) (hn : n ≤ 100000)
    (h : ∀ D vs k, vs.length = n → (∀ (i : Nat) v, vs[i]? = some v → ∃ t, v = .int (i : Int) t) → Q (.ref D) m ((D, listO vs k) :: nw)) : HH c m nw (call (.type "list") [.ref r]) Q := fun A s G => by
  refine call_list_range (a := 0) (b := (n : Int)) (c := 1) (n := n) G.hh (G.fm.get hr) (rg_small hn) (rg_size n) (by omega) fun h' tk acc' c' hk hD hit => ?_
  obtain ⟨mf, hid, F, hmf, hok, hfo, N, nd⟩ := G.split
  have hD' : h'.get? s.heap.objs.size = some (listO acc'.toList c') := by simpa using hD
  have N' : News c.g c.L h' ((s.heap.objs.size, listO acc'.toList c') :: (nw ++ hid)) := by
    intro p hp
    rcases List.mem_cons.mp hp with rfl | hp
    · refine ⟨hD', Nat.ne_of_gt F.ns.lt, ?_⟩
      cases e : c.g.get? s.heap.objs.size with
      | none => rfl
      | some o => exact absurd (Heap.lt_size (F.keep _ _ e)) (Nat.lt_irrefl _)
    · exact ⟨hk _ _ (N p hp).1, (N p hp).2⟩
  refine ⟨m, _, G.join1 (s' := { s with heap := h', toks := tk }) (F.keeps hk) hmf hok hfo N' nd (fun q hq => Heap.lt_size (N q hq).1) rfl rfl rfl, h s.heap.objs.size acc'.toList c' ?_ ?_⟩
  · simpa using hit.1
  · intro i v hv
    have := hit.2 i v (by simpa using hv)
    simpa using this
open PySem.SeqAt in
theorem pair_eqAt {A : Around} {s : Shared} {u v : Value} {p : List Nat × Option (List Nat)} (G : Gd c m nw A s) (hu : PairIs nw u p) (hv : PairIs nw v p) {A' : Around} (hA : A'.units < cLine) : EqAt A' s u v true := by
  obtain ⟨a, t, w, rfl, ha, ho⟩ := hu
  obtain ⟨b, t', w', rfl, hb, ho'⟩ := hv
  by_cases hab : a = b
  · subst hab; exact EqAt.same _
  · refine EqAt.of_refs hab ?_
    have key := RcAt.tuples (A := A') (s := s) (e := fun _ => true) (items := #[.str (S p.1) t, w]) (items2 := #[.str (S p.1) t', w']) ⟨_, G.fm.get ha, rfl, 0, rfl⟩ ⟨_, G.fm.get hb, rfl, 0, rfl⟩ hA ?_
    · exact key
    · intro j h1 h2
      match j, h1, h2 with
      | 0, _, _ =>
        have := EqAt.str_str (A := A'.in1) (s := s) (S p.1) t (S p.1) t'
        simpa using this
      | 1, _, _ =>
        show EqAt A'.in1 s w w' true
        cases hp : p.2 with
        | none =>
          rw [hp] at ho ho'
          have e1 : w = .none := ho
          have e2 : w' = .none := ho'
          rw [e1, e2]; exact EqAt.same _
        | some x =>
          rw [hp] at ho ho'
          obtain ⟨tx, e1⟩ := ho
          obtain ⟨ty, e2⟩ := ho'
          rw [e1, e2]
          have := EqAt.str_str (A := A'.in1) (s := s) (S x) tx (S x) ty
          simpa using this
theorem Tups.at {vs : List Value} {ps : List (List Nat × Option (List Nat))} (h : Tups nw vs ps) (j : Nat) (h1 : j < vs.length) : ∃ p, ps[j]? = some p ∧ PairIs nw vs[j] p := h.get (List.getElem?_eq_getElem h1)
open PySem.SeqAt in
theorem row_rcAt {A : Around} {s : Shared} {a b : Addr} {us vs : List Value} {n k : Nat} {ps : List (List Nat × Option (List Nat))} (G : Gd c m nw A s) (ha : (a, listO us n) ∈ nw) (hb : (b, listO vs k) ∈ nw) (hu : Tups nw us ps) (hv : Tups nw vs ps) {A' : Around} (hA : A'.units + 2 < cLine) :
    RcAt A' s (.ref a) (.ref b) true ∧ RcNeAt A' s (.ref a) (.ref b) false := by
  have he : ∀ j (h1 : j < us.toArray.size) (h2 : j < vs.toArray.size), EqAt A'.in1 s us.toArray[j] vs.toArray[j] ((fun _ => true) j) := by
    intro j h1 h2
    have h1' : j < us.length := by simpa using h1
    have h2' : j < vs.length := by simpa using h2
    obtain ⟨p, e1, q1⟩ := hu.at j h1'
    obtain ⟨p', e2, q2⟩ := hv.at j h2'
    rw [e1] at e2; cases e2
    have := pair_eqAt G q1 q2 (A' := A'.in1) (by show A'.units + 1 < cLine; omega)
    simpa using this
  have hsz : us.toArray.size = vs.toArray.size := by rw [List.size_toArray, List.size_toArray, hu.length, hv.length]
  have hall : (List.range us.toArray.size).all (fun _ => true) = true := by simp
  refine ⟨?_, ?_⟩
  · have := RcAt.lists (e := fun _ => true) ⟨_, G.fm.get ha, rfl, n, rfl⟩ ⟨_, G.fm.get hb, rfl, k, rfl⟩ hsz (by omega) he
    rw [hall] at this; exact this
  · have := RcNeAt.lists (e := fun _ => true) ⟨_, G.fm.get ha, rfl, n, rfl⟩ ⟨_, G.fm.get hb, rfl, k, rfl⟩ hsz (by omega) he
    rw [hall] at this; exact this
theorem H_ne_rows {a b : Addr} {us vs : List Value} {n k : Nat} {ps : List (List Nat × Option (List Nat))} {Q : Value → Nm → Nw → Prop} (ha : (a, listO us n) ∈ nw) (hb : (b, listO vs k) ∈ nw) (hu : Tups nw us ps) (hv : Tups nw vs ps) (hcu : c.u + 10 < cLine) (h : Q (.bool false) m nw) :
    HH c m nw (compareOp .NotEq (.ref a) (.ref b)) Q := fun A s G => (row_rcAt G ha hb hu hv (A' := A) (by have := G.hu; omega)).2 prg c.w _ _ ⟨_, _, G, h⟩
open PySem.SeqAt in
theorem H_eq_rows {a b : Addr} {us vs : List Value} {n k : Nat} {pss : List (List (List Nat × Option (List Nat)))} {Q : Value → Nm → Nw → Prop} (ha : (a, listO us n) ∈ nw) (hb : (b, listO vs k) ∈ nw) (hu : RowsIs nw us pss) (hv : RowsIs nw vs pss) (hcu : c.u + 10 < cLine) (h : Q (.bool true) m nw) :
    HH c m nw (compareOp .Eq (.ref a) (.ref b)) Q := fun A s G => by
  have hsz : us.toArray.size = vs.toArray.size := by rw [List.size_toArray, List.size_toArray, hu.length, hv.length]
  have hall : (List.range us.toArray.size).all (fun _ => true) = true := by simp
  have row_at : ∀ {xs : List Value} {qss : List (List (List Nat × Option (List Nat)))}, RowsIs nw xs qss → ∀ j (h1 : j < xs.length), ∃ ps, qss[j]? = some ps ∧ RowIs nw xs[j] ps := by
    intro xs qss hx
    induction hx with
    | nil => intro j h1; simp at h1
    | cons hp _ ih =>
      intro j h1
      cases j with
      | zero => exact ⟨_, rfl, hp⟩
      | succ j => simpa using ih j (by simpa using h1)
  have he : ∀ j (h1 : j < us.toArray.size) (h2 : j < vs.toArray.size), EqAt A.in1 s us.toArray[j] vs.toArray[j] ((fun _ => true) j) := by
    intro j h1 h2
    obtain ⟨p, e1, x, xs, n1, f1, m1, t1⟩ := row_at hu j (by simpa using h1)
    obtain ⟨p', e2, y, ys, n2, f2, m2, t2⟩ := row_at hv j (by simpa using h2)
    rw [e1] at e2; cases e2
    show EqAt A.in1 s us.toArray[j] vs.toArray[j] true
    have g1 : us.toArray[j] = .ref x := by simpa using f1
    have g2 : vs.toArray[j] = .ref y := by simpa using f2
    rw [g1, g2]
    by_cases hxy : x = y
    · rw [hxy]; exact EqAt.same _
    · exact EqAt.of_refs hxy (row_rcAt G m1 m2 t1 t2 (A' := A.in1) (by have := G.hu; show A.units + 1 + 2 < cLine; omega)).1
  have := RcAt.lists (e := fun _ => true) ⟨_, G.fm.get ha, rfl, n, rfl⟩ ⟨_, G.fm.get hb, rfl, k, rfl⟩ hsz (by have := G.hu; omega) he
  rw [hall] at this
  exact this prg c.w _ _ ⟨_, _, G, h⟩
end
/-! the sort's tree of questions, answered by a row -/
def kgo {α : Type} (n : Nat) (lt : Nat → Nat → Bool) : KasT α → Option α
  | .ret a => some a
  | .ask i j k => if i < n ∧ j < n then kgo n lt (k (lt i j)) else none
theorem kas_go {α : Type} {n : Nat} {lt : Nat → Nat → Bool} {cmp : Nat → Nat → (Bool → Shared → Prop) → Shared → Prop} {Q : α → Shared → Prop} {s : Shared} (hc : ∀ i j C, i < n → j < n → C (lt i j) s → cmp i j C s) : ∀ (t : KasT α) (a : α), kgo n lt t = some a → Q a s → t.kasWp cmp Q s
  | .ret a', a, e, q => by
    have : a' = a := Option.some.inj e
    subst this; exact q
  | .ask i j k, a, e, q => by
    unfold kgo at e
    split at e
    · rename_i h
      exact hc i j _ h.1 h.2 (kas_go hc (k (lt i j)) a e q)
    · cases e
theorem fl_147 (w : World) : (KF w).lookup 147 = some (fnObj 21 "_law_named" .none .none (.str "law_nb0228_01" 666) 146) := by kernel_rfl
theorem cd_147 (w : World) : codeIn (KF w) (.ref 146) (Str.ofString "_law_named") = true := by kernel_rfl
theorem call_147 {c : Cx} {m : Nm} {nw : Nw} {v : Value} {Q : Value → Nm → Nw → Prop} (hroom : c.d < 900)
    (h : ∀ g L' oc, oc.data = .cell none → HH (c.dn g L') [(Str.ofString "row", v)] ((L' + 1, oc) :: nw) (execs (bodyAt 21) (envG (scopeAt 21) L' [(Str.ofString "name", L' + 1)] (Str.ofString "_law_named" ++ ".<locals>.") (some 147) (.ref 146) (some L'))) fun fl m' nw' => ∃ nw'', Sb nw'' nw' ∧ Q (retV fl) m nw'') : HH c m nw (call (.ref 147) [v]) Q :=
  H_callC (binds := [(Str.ofString "row", v)]) (cx := Str.ofString "name") (cv := none) (m0 := [(Str.ofString "row", v)]) (fl_147 c.w) rfl (cd_147 c.w) rfl rfl rfl rfl hroom (by kernel_rfl) (fun n => by kernel_rfl) (by
      intro x hx
      rw [List.mem_singleton.mp hx]
      exact .inl (by kernel_rfl)) (by
      intro y u e
      rw [List.lookup_cons] at e
      by_cases hy : y = Str.ofString "row"
      · subst hy
        simp only [beq_self_eq_true] at e
        rw [← e]
        kernel_rfl
      · rw [beq_eq_false_iff_ne.mpr hy] at e; cases e) (by kernel_rfl) (by decide +kernel) (by decide +kernel) (by decide +kernel) h
theorem H_forE {c : Cx} {m : Nm} {nw : Nw} {env : Env} {target iter : Expr} {body : List Stmt} {pos : Pos} {rest : List Stmt} {Q : Flow → Nm → Nw → Prop}
    (h0 : HH c m nw (eval iter env) fun v m₁ nw₁ => ∃ (l : Addr) (vs : List Value) (n : Nat) (I : Nat → Nm → Nw → Prop), v = .ref l ∧ I 0 m₁ nw₁ ∧ (∀ i m nw, I i m nw → (l, listO vs n) ∈ nw) ∧
      (∀ it o i m nw v, vs[i]? = some v → I i m nw → HH c m ((it, o) :: nw) (assign target env v) fun _ m₁ nw₁ => HH c m₁ nw₁ (execs body env) fun fl m₂ nw₂ => fl = .next ∧ ∃ nw₃, Sb ((it, o) :: nw₃) nw₂ ∧ I (i + 1) m₂ nw₃) ∧
      (∀ m nw, I vs.length m nw → HH c m nw (execs rest env) Q))
    (hs : ∀ x, foldedSetIterable iter env x = pure x := by intro _; rfl) (ht : ∀ it v, letOwnedTupleGo target it v = pure () := by intro _ _; rfl) :
    HH c m nw (execs (.For target iter body [] pos :: rest) env) Q :=
  H_cons fun A s G => by
    refine wpAny_For (h0.go A s G fun v s₁ m₁ nw₁ G₁ ⟨l, vs, n, I, e, hI, hl, turn, fin⟩ => ?_) hs
    subst e
    refine wpAny_pyIter_list (items := vs.toArray) ⟨_, G₁.fm.get (hl _ _ _ hI), rfl, n, rfl⟩ ?_
    refine codeAny_forLoop (fun k s' => ∃ i m' nw' o, k = vs.length - i ∧ i ≤ vs.length ∧ LIt l i o ∧ Gd c m' ((s₁.heap.objs.size, o) :: nw') A s' ∧ I i m' nw') ?_ (vs.length - 0)
      ⟨0, m₁, nw₁, _, rfl, Nat.zero_le _, ⟨rfl, rfl⟩, G₁.heap' (G₁.fm.push _ rfl rfl), hI⟩ (ht _)
    rintro k s' ⟨i, m', nw', o, rfl, hi, hit, G', hI'⟩
    have hli := hl _ _ _ hI'
    by_cases hlt : i < vs.length
    · have hx : vs.toArray[i]? = some vs[i] := by simp [hlt]
      refine wpAny_pyNext_list_item (l := l) (i := i) ⟨_, G'.fm.get (.head _), hit.1, hit.2⟩ ⟨_, G'.fm.get (.tail _ hli), rfl, n, rfl⟩ hx fun h' hit' hsb => ?_
      obtain ⟨o', ho', hc', hd'⟩ := hit'
      have hit2 : LIt l (i + 1) o' := ⟨hc', hd'⟩
      have G₂ : Gd c m' ((s₁.heap.objs.size, o') :: nw') A { s' with heap := h' } := G'.heap' (G'.fm.same hsb ho' hit2.noFn)
      refine (turn s₁.heap.objs.size o' i m' nw' vs[i] (by simp [hlt]) hI').go A _ G₂ fun _ s₃ m₃ nw₃ G₃ h₃ => ?_
      refine h₃.go A _ G₃ fun fl s₄ m₄ nw₄ G₄ h₄ => ?_
      obtain ⟨rfl, nw₅, hsb5, hI5⟩ := h₄
      exact ⟨vs.length - (i + 1), by omega, i + 1, m₄, nw₅, o', rfl, hlt, hit2, G₄.sub (fun _ _ e => e) hsb5, hI5⟩
    · have hx : vs.toArray[i]? = none := by simp; omega
      refine wpAny_pyNext_list_end (l := l) (i := i) G'.hh ⟨_, G'.fm.get (.head _), hit.1, hit.2⟩ ⟨_, G'.fm.get (.tail _ hli), rfl, n, rfl⟩ hx fun h' hxt => ?_
      have hie : i = vs.length := by omega
      subst hie
      exact wpAny_execs_nil ⟨m', nw', G'.heap' (G'.fm.ext hxt), fin _ _ hI'⟩
theorem H_nodup {α : Type} {c : Cx} {m : Nm} {nw : Nw} {t : Sem α} {Q : α → Nm → Nw → Prop} (h : (nw.map (·.1)).Nodup → HH c m nw t Q) : HH c m nw t Q := fun A s G => by
  obtain ⟨hid, hok, hfo, l⟩ := G.fm.led
  refine h ?_ A s G
  have := l.2
  rw [List.map_append] at this
  exact (List.nodup_append.mp this).1
/-- the name that a pair bears, read off the ledger -/
def nmAt (nw : Nw) (v : Value) : List Nat := match v with
  | .ref a => match nw.lookup a with
    | some o => match o.data with
      | .seq items _ => match items[0]? with
        | some (Value.str x _) => x.cps.toList
        | _ => []
      | _ => []
    | none => []
  | _ => []
theorem nw_lookup {a : Addr} {o : Obj} : ∀ {nw : Nw}, (nw.map (·.1)).Nodup → (a, o) ∈ nw → nw.lookup a = some o
  | (b, ob) :: nw, nd, h => by
    rw [List.map_cons, List.nodup_cons] at nd
    rcases List.mem_cons.mp h with e | h
    · cases e; simp
    · have hne : a ≠ b := fun e => nd.1 (List.mem_map.mpr ⟨(a, o), h, e⟩)
      rw [List.lookup_cons, beq_eq_false_iff_ne.mpr hne]
      exact nw_lookup nd.2 h
theorem nmAt_pair {nw : Nw} {v : Value} {p : List Nat × Option (List Nat)} (nd : (nw.map (·.1)).Nodup) (h : PairIs nw v p) : nmAt nw v = p.1 := by
  obtain ⟨a, t, u, rfl, hm, _⟩ := h
  unfold nmAt
  simp only [nw_lookup nd hm]
  simp
theorem Tups.filter_len {nw : Nw} {vs : List Value} {ps : List (List Nat × Option (List Nat))} (nd : (nw.map (·.1)).Nodup) (h : Tups nw vs ps) (f : List Nat → Bool) : (vs.filter fun v => f (nmAt nw v)).length = (ps.filter fun p => f p.1).length := by
  induction h with
  | nil => rfl
  | cons hp _ ih =>
    rw [List.filter_cons, List.filter_cons, nmAt_pair nd hp]
    split <;> simp [ih]
set_option maxHeartbeats 1000000
theorem named_ok {c : Cx} {m : Nm} {nw : Nw} {rA : Addr} {vs : List Value} {n : Nat} {ps : List (List Nat × Option (List Nat))} {Q : Value → Nm → Nw → Prop} (hroom : c.d < 840) (hr : (rA, listO vs n) ∈ nw) (htu : Tups nw vs ps) (hlen : ps.length ≤ 30)
    (hL : ∀ x : List Nat, x.length = 1 → ∀ i p, ps[i]? = some p → decide (p.1 < x) = decide (i < (ps.filter fun p => decide (p.1 < x)).length))
    (hR : ∀ x : List Nat, x.length = 1 → ∀ i p, ps[i]? = some p → decide (x < p.1) = decide ((ps.filter fun p => !decide (x < p.1)).length ≤ i))
    (h : Q (.bool true) m nw) : HH c m nw (call (.ref 147) [.ref rA]) Q := by
  refine H_nodup fun nd => ?_
  refine call_147 (by omega) fun g L' oc hoc => ?_
  show HH _ _ _ (execs (_ :: _) _) _
  refine H_forE ?_
  walk_at "ev"
  (iterate 4 (walk_at "ev"; walk_at "ev"))
  walk_at "ev"
  refine ⟨by simp, fun l => ?_⟩
  rename_i ta tb tc td
  obtain ⟨ns, hns⟩ : ∃ ns, ns = [Value.str (Str.ofString "k") ta, .str (Str.ofString "m") tb, .str (Str.ofString "n") tc, .str (Str.ofString "p") td] := ⟨_, rfl⟩
  rw [← hns]
  refine ⟨l, ns, 0, fun i m' nw' => ∃ oc, (∃ v, oc.data = .cell v) ∧ m'.lookup (Str.ofString "row") = some (.ref rA) ∧ nw' = (l, listO ns) :: (L' + 1, oc) :: nw, rfl, ⟨oc, ⟨_, hoc⟩, by walk_at "lk", rfl⟩, ?_, ?_, ?_⟩
  · rintro i m' nw' ⟨oc, _, _, rfl⟩
    exact .head _
  · rintro it o i m' nw' v hv ⟨oc, ⟨v₀, hoc⟩, hrow, rfl⟩
    obtain ⟨x, t, hx1, rfl⟩ : ∃ x t, x.length = 1 ∧ v = .str (S x) t := by
      rw [hns] at hv
      match i, hv with
      | 0, hv => exact ⟨[107], _, rfl, (Option.some.inj hv).symm⟩
      | 1, hv => exact ⟨[109], _, rfl, (Option.some.inj hv).symm⟩
      | 2, hv => exact ⟨[110], _, rfl, (Option.some.inj hv).symm⟩
      | 3, hv => exact ⟨[112], _, rfl, (Option.some.inj hv).symm⟩
      | i + 4, hv => simp at hv
    refine H_assignC (oc := oc) (v₀ := v₀) (nw' := (it, o) :: (l, listO ns) :: (L' + 1, { oc with data := .cell (some (.str (S x) t)) }) :: nw) (by decide +kernel) (by simp) hoc (Up.tl (Up.tl Up.hd)) ?_
    have hlv := htu.length
    have hq0 : ∀ i v, vs[i]? = some v → ∃ p, ps[i]? = some p ∧ PairIs nw v p := fun i v hv => htu.get hv
    have hpv : ∀ v ∈ vs, ∃ p, PairIs nw v p ∧ nmAt nw v = p.1 := fun v hv => by
      obtain ⟨i, hi, e⟩ := List.getElem_of_mem hv
      obtain ⟨p, _, hp⟩ := hq0 i v (by rw [← e]; exact List.getElem?_eq_getElem hi)
      exact ⟨p, hp, nmAt_pair nd hp⟩
    show HH _ _ _ (execs (_ :: _) _) _
    walk_at "ex"
    refine H_isTrue_Compare ?_
    walk_at "ev"
    walk_at "ev"
    refine H_callWith_Kkw (fl_123 _) rfl ?_
    walk_at "ev"
    walk_at "ev"
    walk_at "ev"
    refine H_Name_cell (ca := L' + 1) (by decide +kernel) (by simp) (.tail _ (.tail _ (.head _))) rfl ?_
    walk_at "ev"
    refine H_Lambda (P := 144) (clos := []) (by decide) (by decide +kernel) rfl (by kernel_rfl) fun fa pm cv ctv => ?_
    refine bl_ok (x := .str (S x) t) (vs := vs) (n := n) (cnt := (ps.filter fun p => decide (p.1 < x)).length) (lt := fun i => decide (i < (ps.filter fun p => decide (p.1 < x)).length)) (by show c.d + 1 < 860; omega) (.tail _ (.tail _ (.tail _ (.tail _ hr)))) (.head _) rfl (by omega) ?_ (fun i _ => rfl) (by rw [hlv]; exact List.length_filter_le _ _) fun t1 => ?_
    · intro c' m' i v hw hd hv
      obtain ⟨p, hpi, a, tp, u, rfl, hmem, hopt⟩ := hq0 i v hv
      refine H_callLam (x := Str.ofString "pair") (.head _) (by have : (c.dn g L').d = c.d + 1 := rfl; omega) (by kernel_rfl) (cellFree.elim (by decide +kernel)) (by decide +kernel) rfl rfl rfl fun g' L2 => ?_
      walk_at "ev"
      walk_at "ev"
      walk_at "ev"
      refine H_item_tuple (k := 0) (.tail _ (.tail _ (.tail _ (.tail _ hmem)))) (by decide) rfl ?_
      refine ⟨_, Sb.refl, rfl, rfl, fun m3 Q3 hq3 => H_lt_str ?_⟩
      rw [hL x hx1 i p hpi]; exact hq3
    walk_at "ev"
    walk_at "ev"
    refine H_callWith_b ?_
    walk_at "ev"
    refine H_lc (cl := [(Str.ofString "name", L' + 1)]) (by kernel_rfl) (by decide +kernel) ?_
    walk_at "ev"
    refine ⟨rA, vs, n, fun v => decide (nmAt nw v < x), fun v y => y = v, rfl, .tail _ (.tail _ (.tail _ (.tail _ (hr)))), by omega, fun A s₁ G => lc_test (ca := L' + 1) (oc := { oc with data := .cell (some (.str (S x) t)) }) (nv := .str (S x) t) G (by kernel_rfl) (by kernel_rfl) (by simp) (.tail _ (.tail _ (.tail _ (.head _)))) rfl ?_ (fun a t => by with_unfolding_all rfl) (by with_unfolding_all rfl), fun D ys n' hF => ?_⟩
    · intro v hv
      obtain ⟨p, ⟨a, tp, u, rfl, hmem, hopt⟩, hnm⟩ := hpv v hv
      refine ⟨a, _, _, rfl, .tail _ (.tail _ (.tail _ (.tail _ (hmem)))), rfl, fun s E Q hq => P.lt_str ?_⟩
      rw [hnm] at hq; exact hq
    walk_at "ev"
    have hyl : ys.length = (ps.filter fun p => decide (p.1 < x)).length := by
      have h1 := hF.length
      rw [← h1]
      exact htu.filter_len nd (fun z => decide (z < x))
    refine H_len_list (.head _) (by rw [hyl]; exact Nat.le_trans (List.length_filter_le _ _) (by omega)) fun t2 => ?_
    rw [hyl]
    refine H_ne_int (H_truthy_bool ?_)
    rw [show (((((ps.filter fun p => decide (p.1 < x)).length : Nat) : Int)) != (((ps.filter fun p => decide (p.1 < x)).length : Nat) : Int)) = false by simp]
    refine Br_false ?_
    refine H_nil (Then_next ?_)
    refine H_wk (nw' := (it, o) :: (l, listO ns) :: (L' + 1, { oc with data := .cell (some (.str (S x) t)) }) :: nw) (by walk_at "sb") ?_
    walk_at "ex"
    refine H_isTrue_Compare ?_
    walk_at "ev"
    walk_at "ev"
    refine H_callWith_Kkw (fl_105 _) rfl ?_
    walk_at "ev"
    walk_at "ev"
    walk_at "ev"
    refine H_Name_cell (ca := L' + 1) (by decide +kernel) (by simp) (.tail _ (.tail _ (.head _))) rfl ?_
    walk_at "ev"
    refine H_Lambda (P := 144) (clos := []) (by decide) (by decide +kernel) rfl (by kernel_rfl) fun fa2 pm2 cv2 ctv2 => ?_
    refine br_ok (x := .str (S x) t) (vs := vs) (n := n) (cnt := (ps.filter fun p => !decide (x < p.1)).length) (lt := fun i => decide ((ps.filter fun p => !decide (x < p.1)).length ≤ i)) (by show c.d + 1 < 860; omega) (.tail _ (.tail _ (.tail _ (.tail _ hr)))) (.head _) rfl (by omega) ?_ (fun i _ => rfl) (by rw [hlv]; exact List.length_filter_le _ _) fun t3 => ?_
    · intro c' m' i v hw hd hv
      obtain ⟨p, hpi, a, tp, u, rfl, hmem, hopt⟩ := hq0 i v hv
      refine H_callLam (x := Str.ofString "pair") (.head _) (by have : (c.dn g L').d = c.d + 1 := rfl; omega) (by kernel_rfl) (cellFree.elim (by decide +kernel)) (by decide +kernel) rfl rfl rfl fun g' L2 => ?_
      walk_at "ev"
      walk_at "ev"
      walk_at "ev"
      refine H_item_tuple (k := 0) (.tail _ (.tail _ (.tail _ (.tail _ hmem)))) (by decide) rfl ?_
      refine ⟨_, Sb.refl, rfl, rfl, fun m3 Q3 hq3 => H_lt_str ?_⟩
      rw [hR x hx1 i p hpi]; exact hq3
    walk_at "ev"
    walk_at "ev"
    refine H_callWith_b ?_
    walk_at "ev"
    refine H_lc (cl := [(Str.ofString "name", L' + 1)]) (by kernel_rfl) (by decide +kernel) ?_
    walk_at "ev"
    refine ⟨rA, vs, n, fun v => !decide (x < nmAt nw v), fun v y => y = v, rfl, .tail _ (.tail _ (.tail _ (.tail _ (hr)))), by omega, fun A s₁ G => lc_test (ca := L' + 1) (oc := { oc with data := .cell (some (.str (S x) t)) }) (nv := .str (S x) t) G (by kernel_rfl) (by kernel_rfl) (by simp) (.tail _ (.tail _ (.tail _ (.head _)))) rfl ?_ (fun a t => by with_unfolding_all rfl) (by with_unfolding_all rfl), fun D ys n' hF => ?_⟩
    · intro v hv
      obtain ⟨p, ⟨a, tp, u, rfl, hmem, hopt⟩, hnm⟩ := hpv v hv
      refine ⟨a, _, _, rfl, .tail _ (.tail _ (.tail _ (.tail _ (hmem)))), rfl, fun s E Q hq => P.le_str ?_⟩
      rw [hnm] at hq; exact hq
    walk_at "ev"
    have hyl : ys.length = (ps.filter fun p => !decide (x < p.1)).length := by
      have h1 := hF.length
      rw [← h1]
      exact htu.filter_len nd (fun z => !decide (x < z))
    refine H_len_list (.head _) (by rw [hyl]; exact Nat.le_trans (List.length_filter_le _ _) (by omega)) fun t2 => ?_
    rw [hyl]
    refine H_ne_int (H_truthy_bool ?_)
    rw [show (((((ps.filter fun p => !decide (x < p.1)).length : Nat) : Int)) != (((ps.filter fun p => !decide (x < p.1)).length : Nat) : Int)) = false by simp]
    refine Br_false ?_
    refine H_nil (Then_next ?_)
    refine H_nil ?_
    exact ⟨rfl, (l, listO ns) :: (L' + 1, { oc with data := .cell (some (.str (S x) t)) }) :: nw, by walk_at "sb", _, ⟨_, rfl⟩, by walk_at "lk", rfl⟩
  · rintro m' nw' ⟨oc, _, hrow, rfl⟩
    walk_at "ex"
    walk_at "ev"
    exact ⟨nw, Sb.drop (Sb.drop Sb.refl), h⟩
set_option maxHeartbeats 1000000
theorem fl_152 (w : World) : (KF w).lookup 152 = some (fnObj 22 "_law_heads" .none .none (.str "law_nb0228_01" 666) 151) := by kernel_rfl
theorem cd_152 (w : World) : codeIn (KF w) (.ref 151) (Str.ofString "_law_heads") = true := by kernel_rfl
theorem call_152 {c : Cx} {m : Nm} {nw : Nw} {v1 v2 v3 v4 : Value} {Q : Value → Nm → Nw → Prop} (hroom : c.d < 900)
    (h : ∀ g L' oc, oc.data = .cell (some v1) → HH (c.dn g L') [(Str.ofString "count", v4), (Str.ofString "words", v3), (Str.ofString "row", v2)] ((L' + 1, oc) :: nw) (execs (bodyAt 22) (envG (scopeAt 22) L' [(Str.ofString "text", L' + 1)] (Str.ofString "_law_heads" ++ ".<locals>.") (some 152) (.ref 151) (some L'))) fun fl m' nw' => ∃ nw'', Sb nw'' nw' ∧ Q (retV fl) m nw'') : HH c m nw (call (.ref 152) [v1, v2, v3, v4]) Q :=
  H_callC (binds := [(Str.ofString "text", v1), (Str.ofString "row", v2), (Str.ofString "words", v3), (Str.ofString "count", v4)]) (cx := Str.ofString "text") (cv := some v1) (m0 := [(Str.ofString "count", v4), (Str.ofString "words", v3), (Str.ofString "row", v2)]) (fl_152 c.w) rfl (cd_152 c.w) rfl rfl rfl rfl hroom (by kernel_rfl) (fun n => by kernel_rfl) (by
      intro x hx
      simp only [List.mem_cons, List.not_mem_nil, or_false] at hx
      rcases hx with rfl | rfl | rfl | rfl
      · exact .inr ⟨by kernel_rfl, rfl⟩
      · exact .inl (by kernel_rfl)
      · exact .inl (by kernel_rfl)
      · exact .inl (by kernel_rfl)) (by
      intro y u e
      have key : bindL (fun x => (scopeAt 22).names.lookup x) [(Str.ofString "text", v1), (Str.ofString "row", v2), (Str.ofString "words", v3), (Str.ofString "count", v4)] (fun _ => none) =
          fun y => if y = Str.ofString "count" then some v4 else if y = Str.ofString "words" then some v3 else if y = Str.ofString "row" then some v2 else none := by kernel_rfl
      show bindL (fun x => (scopeAt 22).names.lookup x) _ _ y = some u
      rw [key]
      simp only [List.lookup_cons] at e
      show (if y = Str.ofString "count" then some v4 else if y = Str.ofString "words" then some v3 else if y = Str.ofString "row" then some v2 else none) = some u
      by_cases h1 : y = Str.ofString "count"
      · rw [if_pos h1]; rw [h1] at e; simpa using e
      · rw [if_neg h1]; rw [beq_eq_false_iff_ne.mpr h1] at e
        by_cases h2 : y = Str.ofString "words"
        · rw [if_pos h2]; rw [h2] at e; simpa using e
        · rw [if_neg h2]; simp only [beq_eq_false_iff_ne.mpr h2] at e
          by_cases h3 : y = Str.ofString "row"
          · rw [if_pos h3]; rw [h3] at e; simpa using e
          · simp [beq_eq_false_iff_ne.mpr h3] at e) (by kernel_rfl) (by decide +kernel) (by decide +kernel) (by decide +kernel) h
set_option maxHeartbeats 1000000
theorem sb_appl {T l r : Nw} (h : Sb l r) : Sb l (T ++ r) := by
  induction T with
  | nil => exact h
  | cons q T ih => exact Sb.drop ih
theorem Tups.take {nw : Nw} {vs : List Value} {ps : List (List Nat × Option (List Nat))} (h : Tups nw vs ps) (k : Nat) : Tups nw (vs.take k) (ps.take k) := by
  induction h generalizing k with
  | nil => simpa using Tups.nil
  | cons hp _ ih =>
    cases k with
    | zero => exact .nil
    | succ k => exact .cons hp (ih k)
theorem Tups.drop {nw : Nw} {vs : List Value} {ps : List (List Nat × Option (List Nat))} (h : Tups nw vs ps) (k : Nat) : Tups nw (vs.drop k) (ps.drop k) := by
  induction h generalizing k with
  | nil => simpa using Tups.nil
  | cons hp h ih =>
    cases k with
    | zero => exact .cons hp h
    | succ k => exact ih k
theorem heads_ok {c : Cx} {m : Nm} {nw : Nw} {l : List Nat} {t tk : Tok} {rA wA : Addr} {vs : List Value} {n nn : Nat} {ps : List (List Nat × Option (List Nat))} {wts : List (List Nat × Tok)} {ws : List (List Nat)} {k st : Nat} {cn : Nat → Nat} {wl : List Nat} {Q : Value → Nm → Nw → Prop}
    (hroom : c.d < 840) (hcu : c.u + 100 < cLine) (hr : (rA, listO vs n) ∈ nw) (htu : Tups nw vs ps) (hwm : (wA, listO (strVs wts) nn) ∈ nw) (hwt : wts.map (·.1) = ws) (hlen : ps.length = ws.length) (hw30 : ws.length ≤ 30) (hwl : ∀ w ∈ ws, w.length ≤ 300) (hk1 : 1 ≤ k) (hk2 : k ≤ ws.length) (hz : l.length ≤ 9000)
    (hlast : ws.getLast? = some wl) (hwll : wl.length ≤ l.length) (hst : st = (jn [59, 32] (ws.take (k - 1) ++ [[]])).length) (hstl : st ≤ l.length)
    (hcn : ∀ place, place ≤ l.length → ∃ kk qs, RD kk (l.take place) qs ∧ qs.length = cn place ∧ qs.length ≤ 1000)
    (hL : ∀ place, place ≤ l.length → decide (cn place < k) = decide (place < st + 1)) (hR : ∀ place, place ≤ l.length → decide (ws.length - 1 < cn place) = decide (l.length - wl.length + 1 ≤ place))
    (hR1 : ∃ kk, RD kk (l.take st) (ps.take (k - 1))) (hR2 : ∃ kk, RD kk (l.drop st) (ps.drop (k - 1)))
    (h : Q (.bool true) m nw) : HH c m nw (call (.ref 152) [.str (S l) t, .ref rA, .ref wA, .int (k : Int) tk]) Q := by
  refine call_152 (by omega) fun g L' oc hoc => ?_
  have hlv := htu.length
  show HH _ _ _ (execs (_ :: _) _) _
  -- places
  walk_at "ex"
  walk_at "ev"
  walk_at "ev"
  refine H_callWith_t ?_
  walk_at "ev"
  walk_at "ev"
  walk_at "ev"
  refine H_callWith_t ?_
  walk_at "ev"
  walk_at "ev"
  walk_at "ev"
  walk_at "ev"
  refine H_callWith_b ?_
  walk_at "ev"
  refine H_Name_cell (ca := L' + 1) (by decide +kernel) (by simp) (.head _) hoc ?_
  walk_at "ev"
  refine H_len_str (by omega) fun t1 => ?_
  walk_at "ev"
  refine H_add_int fun t2 => ?_
  walk_at "ev"
  rw [show (l.length : Int) + 1 = ((l.length + 1 : Nat) : Int) by omega]
  refine H_range fun r1 t3 t4 => ?_
  walk_at "ev"
  refine H_list_range (n := l.length + 1) (.head _) (by omega) fun D pl kp hpl hpi => ?_
  -- start
  walk_at "ex"
  walk_at "ev"
  walk_at "ev"
  refine H_callWith_b ?_
  walk_at "ev"
  refine H_Call_method F.plainAttrs_str F.slot_str_join F.type_str_join ?_
  walk_at "ev"
  refine ⟨TyAt.str, H_callWith_b ?_⟩
  walk_at "ev"
  walk_at "ev"
  walk_at "ev"
  walk_at "ev"
  walk_at "ev"
  walk_at "ev"
  walk_at "ev"
  walk_at "ev"
  walk_at "ev"
  walk_at "ev"
  refine H_sub_int fun t5 => ?_
  walk_at "ev"
  intro s1
  rw [show (k : Int) - 1 = ((k - 1 : Nat) : Int) by omega]
  refine H_lslice (vs := strVs wts) (n := nn) (pl := none) (pu := some (k - 1)) (.tail _ (.tail _ (.tail _ (.tail _ hwm)))) (.head _) .none (.int _ _) (by simp [strVs]; have := congrArg List.length hwt; simp at this; omega) fun s2 => ?_
  walk_at "ev"
  walk_at "ev"
  walk_at "ev"
  walk_at "ev"
  refine ⟨by simp, fun s3 => ?_⟩
  rename_i te
  have hwl0 : wts.length = ws.length := by have := congrArg List.length hwt; simpa using this
  refine H_add_list (.tail _ (.head _)) (.head _) (by simp [strVs]; omega) fun s4 => ?_
  have e4 : List.drop ((none : Option Nat).getD 0) (List.take ((some (k - 1)).getD (strVs wts).length) (strVs wts)) ++ [Value.str (Str.ofString "") te] = strVs (wts.take (k - 1) ++ [([], te)]) := by
    simp [strVs]
    decide +kernel
  rw [e4]
  walk_at "ev"
  have hls : ((wts.take (k - 1) ++ [([], te)]).map fun q : List Nat × Tok => q.1) = ws.take (k - 1) ++ [[]] := by
    rw [List.map_append, List.map_take, hwt]; rfl
  refine H_join (sep := [59, 32]) (l := wts.take (k - 1) ++ [([], te)]) (n := 0) (.head _) ?_ fun t9 => ?_
  · have := joinOk_small (sep := [59, 32]) (ls := ws.take (k - 1) ++ [[]]) (by simp) (by simp; omega) (by
      intro w hw
      rcases List.mem_append.mp hw with hw | hw
      · have := hwl w (List.mem_of_mem_take hw); omega
      · rw [List.mem_singleton.mp hw]; simp)
    rw [← hls, List.map_map] at this; exact this
  have hje : Txt.join (S [59, 32]) ((wts.take (k - 1) ++ [([], te)]).map fun p : List Nat × Tok => S p.1) = S (jn [59, 32] (ws.take (k - 1) ++ [[]])) := by
    rw [← join_S, ← hls, List.map_map]; rfl
  rw [hje]
  walk_at "ev"
  refine H_len_str (by rw [← hst]; omega) fun t10 => ?_
  rw [← hst]
  refine H_wk (nw' := (D, listO pl kp) :: (L' + 1, oc) :: nw) (by walk_at "sb") ?_
  -- the first search
  walk_at "ex"
  refine H_isTrue_Compare ?_
  walk_at "ev"
  walk_at "ev"
  refine H_callWith_Kkw (fl_123 _) rfl ?_
  walk_at "ev"
  walk_at "ev"
  walk_at "ev"
  walk_at "ev"
  walk_at "ev"
  refine H_Lambda (P := 149) (clos := [(Str.ofString "text", L' + 1)]) (by decide) (by decide +kernel) rfl (by kernel_rfl) fun fa pm cv ctv => ?_
  refine bl_ok (x := .int (k : Int) tk) (vs := pl) (n := kp) (cnt := st + 1) (lt := fun i => decide (i < st + 1)) (by show c.d + 1 < 860; omega) (.tail _ (.head _)) (.head _) rfl (by omega) ?_ (fun i _ => rfl) (by omega) fun t11 => ?_
  · intro c' m' i v hw hd hv
    have hil : i ≤ l.length := by
      rcases Nat.lt_or_ge i pl.length with h | h
      · omega
      · rw [List.getElem?_eq_none h] at hv; cases hv
    obtain ⟨tv, rfl⟩ := hpi i v hv
    obtain ⟨kk, qs, hrd, hql, hq1⟩ := hcn i hil
    refine H_callLam (x := Str.ofString "place") (.head _) (by have : (c.dn g L').d = c.d + 1 := rfl; omega) (by kernel_rfl) (cellFree.elim (by decide +kernel)) (by decide +kernel) rfl rfl rfl fun g' L2 => ?_
    walk_at "ev"
    walk_at "ev"
    refine H_callWith_K (fl_142 _) rfl ?_
    walk_at "ev"
    walk_at "ev"
    refine H_Name_free (ca := L' + 1) (by decide +kernel) (by simp) (.tail _ (.tail _ (.head _))) hoc ?_
    walk_at "ev"
    walk_at "ev"
    walk_at "ev"
    walk_at "ev"
    walk_at "ev"
    intro sl
    refine H_slice_to (.head _) (by omega) fun ts => ?_
    walk_at "ev"
    refine count_ok (by have : (c.dn g L').d = c.d + 1 := rfl; show c'.d + 1 < 870; omega) hrd (by rw [List.length_take]; omega) hq1 fun tq => ?_
    refine ⟨_, Sb.drop Sb.refl, rfl, rfl, fun m3 Q3 hq3 => ?_⟩
    rw [hql]
    refine H_lt_int ?_
    rw [show decide ((cn i : Int) < (k : Int)) = decide (cn i < k) by simp, hL i hil]
    exact hq3
  walk_at "ev"
  walk_at "ev"
  walk_at "ev"
  refine H_add_int fun t12 => ?_
  refine H_ne_int (H_truthy_bool ?_)
  rw [show (((st + 1 : Nat) : Int) != (st : Int) + 1) = false by simp]
  refine Br_false (H_nil (Then_next ?_))
  refine H_wk (nw' := (D, listO pl kp) :: (L' + 1, oc) :: nw) (by walk_at "sb") ?_
  -- the last word
  walk_at "ex"
  walk_at "ev"
  walk_at "ev"
  walk_at "ev"
  refine H_callWith_b ?_
  walk_at "ev"
  refine H_Name_cell (ca := L' + 1) (by decide +kernel) (by simp) (.tail _ (.head _)) hoc ?_
  walk_at "ev"
  refine H_len_str (by omega) fun t13 => ?_
  walk_at "ev"
  walk_at "ev"
  refine H_callWith_b ?_
  walk_at "ev"
  walk_at "ev"
  walk_at "ev"
  walk_at "ev"
  walk_at "ev"
  refine H_neg_int fun t14 => ?_
  obtain ⟨tl, htl⟩ : ∃ tl, (strVs wts).getLast? = some (.str (S wl) tl) := by
    rw [← hwt, List.getLast?_map] at hlast
    cases e : wts.getLast? with
    | none => rw [e] at hlast; cases hlast
    | some q =>
      rw [e] at hlast
      have : q.1 = wl := by simpa using hlast
      exact ⟨q.2, by rw [strVs, List.getLast?_map, e, ← this]; rfl⟩
  refine H_item_list_neg (.tail _ (.tail _ hwm)) htl ?_
  walk_at "ev"
  refine H_len_str (by omega) fun t15 => ?_
  refine H_sub_int fun t16 => ?_
  rw [show (l.length : Int) - (wl.length : Int) = ((l.length - wl.length : Nat) : Int) by omega]
  walk_at "ex"
  refine H_isTrue_Compare ?_
  walk_at "ev"
  walk_at "ev"
  refine H_callWith_Kkw (fl_105 _) rfl ?_
  walk_at "ev"
  walk_at "ev"
  walk_at "ev"
  walk_at "ev"
  walk_at "ev"
  walk_at "ev"
  refine H_callWith_b ?_
  walk_at "ev"
  walk_at "ev"
  walk_at "ev"
  refine H_len_list (.tail _ (.tail _ hr)) (by omega) fun t17 => ?_
  walk_at "ev"
  refine H_sub_int fun t18 => ?_
  walk_at "ev"
  rw [show (vs.length : Int) - 1 = ((ws.length - 1 : Nat) : Int) by omega]
  refine H_Lambda (P := 149) (clos := [(Str.ofString "text", L' + 1)]) (by decide) (by decide +kernel) rfl (by kernel_rfl) fun fa pm cv ctv => ?_
  refine br_ok (x := .int ((ws.length - 1 : Nat) : Int) t18) (vs := pl) (n := kp) (cnt := l.length - wl.length + 1) (lt := fun i => decide (l.length - wl.length + 1 ≤ i)) (by show c.d + 1 < 860; omega) (.tail _ (.head _)) (.head _) rfl (by omega) ?_ (fun i _ => rfl) (by omega) fun t19 => ?_
  · intro c' m' i v hw hd hv
    have hil : i ≤ l.length := by
      rcases Nat.lt_or_ge i pl.length with h | h
      · omega
      · rw [List.getElem?_eq_none h] at hv; cases hv
    obtain ⟨tv, rfl⟩ := hpi i v hv
    obtain ⟨kk, qs, hrd, hql, hq1⟩ := hcn i hil
    refine H_callLam (x := Str.ofString "place") (.head _) (by have : (c.dn g L').d = c.d + 1 := rfl; omega) (by kernel_rfl) (cellFree.elim (by decide +kernel)) (by decide +kernel) rfl rfl rfl fun g' L2 => ?_
    walk_at "ev"
    walk_at "ev"
    refine H_callWith_K (fl_142 _) rfl ?_
    walk_at "ev"
    walk_at "ev"
    refine H_Name_free (ca := L' + 1) (by decide +kernel) (by simp) (.tail _ (.tail _ (.head _))) hoc ?_
    walk_at "ev"
    walk_at "ev"
    walk_at "ev"
    walk_at "ev"
    walk_at "ev"
    intro sl
    refine H_slice_to (.head _) (by omega) fun ts => ?_
    walk_at "ev"
    refine count_ok (by have : (c.dn g L').d = c.d + 1 := rfl; show c'.d + 1 < 870; omega) hrd (by rw [List.length_take]; omega) hq1 fun tq => ?_
    refine ⟨_, Sb.drop Sb.refl, rfl, rfl, fun m3 Q3 hq3 => ?_⟩
    rw [hql]
    refine H_lt_int ?_
    rw [show decide (((ws.length - 1 : Nat) : Int) < (cn i : Int)) = decide (ws.length - 1 < cn i) by simp, hR i hil]
    exact hq3
  walk_at "ev"
  walk_at "ev"
  walk_at "ev"
  refine H_add_int fun t20 => ?_
  refine H_ne_int (H_truthy_bool ?_)
  rw [show (((l.length - wl.length + 1 : Nat) : Int) != ((l.length - wl.length : Nat) : Int) + 1) = false by simp]
  refine Br_false (H_nil (Then_next ?_))
  refine H_wk (nw' := (L' + 1, oc) :: nw) (by walk_at "sb") ?_
  refine H_Assign_lc (cl := []) (by kernel_rfl) (by kernel_rfl) (by decide +kernel) (by decide +kernel) ?_
  walk_at "ev"
  walk_at "ev"
  walk_at "ev"
  walk_at "ev"
  walk_at "ev"
  walk_at "ev"
  walk_at "ev"
  walk_at "ev"
  walk_at "ev"
  walk_at "ev"
  refine H_sub_int fun t21 => ?_
  walk_at "ev"
  intro s5
  rw [show (k : Int) - 1 = ((k - 1 : Nat) : Int) by omega]
  refine H_lslice (vs := vs) (n := n) (pl := none) (pu := some (k - 1)) (.tail _ (.tail _ hr)) (.head _) .none (.int _ _) (by omega) fun a1 => ?_
  walk_at "ev"
  walk_at "ev"
  walk_at "ev"
  walk_at "ev"
  walk_at "ev"
  walk_at "ev"
  walk_at "ev"
  walk_at "ev"
  refine H_sub_int fun t22 => ?_
  walk_at "ev"
  walk_at "ev"
  intro s6
  rw [show (k : Int) - 1 = ((k - 1 : Nat) : Int) by omega]
  refine H_lslice (vs := vs) (n := n) (pl := some (k - 1)) (pu := none) (.tail _ (.tail _ (.tail _ (.tail _ hr)))) (.head _) (.int _ _) .none (by omega) fun a2 => ?_
  refine H_nodup fun nd => ?_
  have hne : a1 ≠ a2 := fun e => by
    rw [List.map_cons, List.nodup_cons] at nd
    exact nd.1 (by simp [e])
  walk_at "ev"
  refine ⟨by simp, fun pA => ?_⟩
  have e1 : List.drop ((none : Option Nat).getD 0) (List.take ((some (k - 1)).getD vs.length) vs) = vs.take (k - 1) := by simp
  have e2 : List.drop ((some (k - 1)).getD 0) (List.take ((none : Option Nat).getD vs.length) vs) = vs.drop (k - 1) := by simp
  rw [e1, e2]
  refine ⟨pA, [.ref a1, .ref a2], 0, fun v => if v = .ref a1 then !(vs.take (k - 1)).isEmpty else !(vs.drop (k - 1)).isEmpty, fun v y => y = v, rfl, .head _, by simp, fun A s₁ G => lc_some G (by kernel_rfl) ?_, fun D ys n' hF => ?_⟩
  · intro v hv
    simp only [List.mem_cons, List.not_mem_nil, or_false] at hv
    rcases hv with rfl | rfl
    · exact ⟨a1, vs.take (k - 1), 0, rfl, .tail _ (.tail _ (.tail _ (.head _))), by rw [List.length_take]; omega, by simp⟩
    · exact ⟨a2, vs.drop (k - 1), 0, rfl, .tail _ (.head _), by rw [List.length_drop]; omega, by simp [Ne.symm hne]⟩
  obtain ⟨kk1, hR1⟩ := hR1
  obtain ⟨kk2, hR2⟩ := hR2
  walk_at "ex"
  refine H_Compare ?_
  walk_at "ev"
  walk_at "ev"
  refine H_callWith_K (fl_70 _) rfl ?_
  walk_at "ev"
  walk_at "ev"
  walk_at "ev"
  walk_at "ev"
  refine H_Name_cell (ca := L' + 1) (by decide +kernel) (by simp) (by walk_at "mem") hoc ?_
  walk_at "ev"
  walk_at "ev"
  walk_at "ev"
  walk_at "ev"
  walk_at "ev"
  intro s7
  refine H_slice_to (.head _) (by omega) fun t23 => ?_
  walk_at "ev"
  walk_at "ev"
  refine H_Name_cell (ca := L' + 1) (by decide +kernel) (by simp) (by walk_at "mem") hoc ?_
  walk_at "ev"
  walk_at "ev"
  walk_at "ev"
  walk_at "ev"
  walk_at "ev"
  intro s8
  refine H_slice_from (.head _) (by omega) fun t24 => ?_
  walk_at "ev"
  refine ⟨by simp, fun tA => ?_⟩
  walk_at "ev"
  refine split_ok (ts := [(l.take st, t23), (l.drop st, t24)]) (pss := [ps.take (k - 1), ps.drop (k - 1)]) (by show c.d + 1 < 880; omega) (.head _) ?_ (by simp) rfl fun r rs T nr hrows => ?_
  · intro i t' ht'
    match i, ht' with
    | 0, ht' => cases ht'; exact ⟨kk1, _, rfl, hR1, by rw [List.length_take]; omega, by rw [List.length_take]; omega⟩
    | 1, ht' => cases ht'; exact ⟨kk2, _, rfl, hR2, by rw [List.length_drop]; omega, by rw [List.length_drop]; omega⟩
    | i + 2, ht' => simp at ht'
  walk_at "ev"
  have hys : ys = [Value.ref a1, .ref a2].filter fun v => if v = .ref a1 then !(vs.take (k - 1)).isEmpty else !(vs.drop (k - 1)).isEmpty := by
    have : ∀ {us zs : List Value}, Paired (fun v y => y = v) us zs → zs = us := by
      intro us zs h
      induction h with
      | nil => rfl
      | cons h _ ih => rw [h, ih]
    exact this hF
  refine H_eq_rows (pss := [ps.take (k - 1), ps.drop (k - 1)].filter fun ps => !ps.isEmpty) (b := D) (vs := ys) (k := n') (.head _) (.tail _ (List.mem_append_right _ (by walk_at "mem"))) (hrows.mono fun q hq => .tail _ (List.mem_append_left _ hq)) ?_ (by show c.u + 3 + 10 < cLine; omega) ?_
  · have r1 : RowIs ((r, listO rs nr) :: (T ++ (tA, listO [Value.str (S (List.take st l)) t23, Value.str (S (List.drop st l)) t24]) :: (s8, fldO "slice" [Value.int (st : Int) t10, Value.none, Value.none]) :: (s7, fldO "slice" [Value.none, Value.int (st : Int) t10, Value.none]) :: (D, listO ys n') :: (pA, listO [Value.ref a1, Value.ref a2]) :: (a2, listO (vs.drop (k - 1))) :: (s6, fldO "slice" [Value.int ((k - 1 : Nat) : Int) t22, Value.none, Value.none]) :: (a1, listO (vs.take (k - 1))) :: (s5, fldO "slice" [Value.none, Value.int ((k - 1 : Nat) : Int) t21, Value.none]) :: (L' + 1, oc) :: nw)) (.ref a1) (ps.take (k - 1)) :=
      ⟨a1, vs.take (k - 1), 0, rfl, .tail _ (List.mem_append_right _ (by walk_at "mem")), (htu.take (k - 1)).mono fun q hq => .tail _ (List.mem_append_right _ (by walk_at "mem"))⟩
    have r2 : RowIs ((r, listO rs nr) :: (T ++ (tA, listO [Value.str (S (List.take st l)) t23, Value.str (S (List.drop st l)) t24]) :: (s8, fldO "slice" [Value.int (st : Int) t10, Value.none, Value.none]) :: (s7, fldO "slice" [Value.none, Value.int (st : Int) t10, Value.none]) :: (D, listO ys n') :: (pA, listO [Value.ref a1, Value.ref a2]) :: (a2, listO (vs.drop (k - 1))) :: (s6, fldO "slice" [Value.int ((k - 1 : Nat) : Int) t22, Value.none, Value.none]) :: (a1, listO (vs.take (k - 1))) :: (s5, fldO "slice" [Value.none, Value.int ((k - 1 : Nat) : Int) t21, Value.none]) :: (L' + 1, oc) :: nw)) (.ref a2) (ps.drop (k - 1)) :=
      ⟨a2, vs.drop (k - 1), 0, rfl, .tail _ (List.mem_append_right _ (by walk_at "mem")), (htu.drop (k - 1)).mono fun q hq => .tail _ (List.mem_append_right _ (by walk_at "mem"))⟩
    have em : ∀ {us : List Value} {qs : List (List Nat × Option (List Nat))}, us.length = qs.length → us.isEmpty = qs.isEmpty := by
      intro us qs h
      cases us <;> cases qs <;> simp_all
    have m1 : (vs.take (k - 1)).isEmpty = (ps.take (k - 1)).isEmpty := em (by rw [List.length_take, List.length_take, hlv])
    have m2 : (vs.drop (k - 1)).isEmpty = (ps.drop (k - 1)).isEmpty := em (by rw [List.length_drop, List.length_drop, hlv])
    have hgen : ∀ NW : Nw, RowIs NW (.ref a1) (ps.take (k - 1)) → RowIs NW (.ref a2) (ps.drop (k - 1)) → RowsIs NW ys ([ps.take (k - 1), ps.drop (k - 1)].filter fun ps => !ps.isEmpty) := by
      intro NW q1 q2
      rw [hys]
      simp only [List.filter_cons, List.filter_nil, if_true, m1, m2, Value.ref.injEq, Ne.symm hne, if_false]
      cases (ps.take (k - 1)).isEmpty <;> cases (ps.drop (k - 1)).isEmpty
      · exact .cons q1 (.cons q2 .nil)
      · exact .cons q1 .nil
      · exact .cons q2 .nil
      · exact .nil
    exact hgen _ r1 r2
  · exact ⟨nw, Sb.drop (sb_appl (by walk_at "sb")), h⟩
/-! the machine's word on the texts of this law -/
def OkTail (r : List Nat) : Prop := r = [] ∨ ∃ r', r = 59 :: r'
theorem tok_hit {n : Nat} (hn : n = 107 ∨ n = 109 ∨ n = 112) {t : List Nat} (ht : t = [] ∨ ∃ x t', t = x :: t' ∧ (x = 59 ∨ x = 61)) : hit ((at0 cTok 1 (n :: t)).runFor 10) 1 0 1 = true := by
  rcases ht with rfl | ⟨x, t', rfl, hx⟩
  · rcases hn with rfl | rfl | rfl <;> decide +kernel
  · have : n :: x :: t' = [n, x] ++ t' := rfl
    rw [this]
    refine search_hit (a := []) (by decide +kernel) (by rw [show (Sre.header cTok).1 = 1 by decide +kernel]; simp) ?_ ?_ <;> (rcases hn with rfl | rfl | rfl <;> rcases hx with rfl | rfl <;> decide +kernel)
theorem tok_miss (t : List Nat) : ∃ k, k ≤ 2 * (59 :: t).length + 20 ∧ miss ((at0 cTok 1 (59 :: t)).runFor k) = true := by
  obtain ⟨k, h1, h2⟩ := search_miss (code := cTok) (g := 1) (n := 5) (pre := [59]) (a := []) (b := t) (by decide +kernel) (by decide +kernel) (by decide +kernel) (by decide +kernel)
  exact ⟨k, by simpa using (by simp at h1 ⊢; omega : k ≤ 2 * (59 :: t).length + 20), h2⟩
theorem quo_miss59 (t : List Nat) : ∃ k, k ≤ 2 * (59 :: t).length + 20 ∧ miss ((at0 cQuo 1 (59 :: t)).runFor k) = true := by
  obtain ⟨k, h1, h2⟩ := search_miss (code := cQuo) (g := 1) (n := 4) (pre := [59]) (a := [59, 59]) (b := t) (by decide +kernel) (by decide +kernel) (by decide +kernel) (by decide +kernel)
  exact ⟨k, by simp at h1 ⊢; omega, h2⟩
theorem val_miss59 (t : List Nat) : ∃ k, k ≤ 2 * (59 :: t).length + 20 ∧ miss ((at0 cVal 1 (59 :: t)).runFor k) = true := by
  obtain ⟨k, h1, h2⟩ := search_miss (code := cVal) (g := 1) (n := 4) (pre := [59]) (a := []) (b := t) (by decide +kernel) (by decide +kernel) (by decide +kernel) (by decide +kernel)
  exact ⟨k, by simp at h1 ⊢; omega, h2⟩
theorem VF_none {r : List Nat} (hr : OkTail r) (hz : r.length ≤ 100000) : VF r none r := by
  rcases hr with rfl | ⟨r', rfl⟩
  · exact VF.n (st := 10) (st2 := 10) (by decide) (by decide +kernel) (by decide) (by decide +kernel)
  · obtain ⟨k1, a1, b1⟩ := quo_miss59 r'
    obtain ⟨k2, a2, b2⟩ := val_miss59 r'
    exact VF.n (st := k1) (st2 := k2) (by omega) b1 (by omega) b2
theorem VF_seven {r : List Nat} (hr : OkTail r) (hz : r.length ≤ 100000) : VF (61 :: 55 :: r) (some [55]) r := by
  rcases hr with rfl | ⟨r', rfl⟩
  · exact VF.v (t := [61, 55]) (st := 10) (st2 := 40) (e := 2) (g1 := 1) (g2 := 2) (by decide) (by decide +kernel) (by decide) (by decide +kernel) (by decide) (by decide) (by decide +kernel)
  · obtain ⟨k, h1, h2⟩ := search_miss (code := cQuo) (g := 1) (n := 7) (pre := [61, 55, 59]) (a := []) (b := r') (by decide +kernel) (by decide +kernel) (by decide +kernel) (by decide +kernel)
    have h3 : hit ((at0 cVal 1 ([61, 55, 59] ++ r')).runFor 40) 2 1 2 = true := search_hit (a := []) (by decide +kernel) (by decide +kernel) (by decide +kernel) (by decide +kernel)
    exact VF.v (t := 61 :: 55 :: 59 :: r') (st := k) (st2 := 40) (e := 2) (g1 := 1) (g2 := 2) (by simp at h1 hz; omega) h2 (by decide) h3 (by decide) (by decide) (show Txt.rstrip (S [55]) = S [55] by decide +kernel)
theorem SE_1 : SE [] [] := SE.none (st := 10) (by decide) (by decide +kernel)
theorem SE_5 : SE [120, 47, 121] [120, 47, 121] := SE.none (st := 60) (by decide) (by decide +kernel)
theorem SE_3 : SE [97, 92, 34, 98] [97, 34, 98] := SE.one (l := [97, 92, 34, 98]) (st := 40) (st2 := 40) (b := 1) (e := 3) (g1 := 2) (g2 := 3) (by decide) (by decide +kernel) (by decide) (by decide) (by decide) (by decide +kernel)
theorem SE_4 : SE [92, 92] [92] := SE.one (l := [92, 92]) (st := 40) (st2 := 40) (b := 0) (e := 2) (g1 := 1) (g2 := 2) (by decide) (by decide +kernel) (by decide) (by decide) (by decide) (by decide +kernel)
theorem VF_quo {f : Nat} (hf : f = 1 ∨ f = 3 ∨ f = 4 ∨ f = 5) {r : List Nat} (hr : OkTail r) : VF (wr f ++ r) (val f) r := by
  have key : hit ((at0 cQuo 1 (wr f ++ r)).runFor 40) (wr f).length 2 ((wr f).length - 1) = true := by
    rcases hr with rfl | ⟨r', rfl⟩
    · rcases hf with rfl | rfl | rfl | rfl <;> decide +kernel
    · rw [show wr f ++ 59 :: r' = (wr f ++ [59]) ++ r' by simp]
      refine search_hit (a := []) (by decide +kernel) (by rcases hf with rfl | rfl | rfl | rfl <;> decide +kernel) ?_ ?_ <;> (rcases hf with rfl | rfl | rfl | rfl <;> decide +kernel)
  rcases hf with rfl | rfl | rfl | rfl
  · exact VF.q (t := wr 1 ++ r) (v := []) (st := 40) (e := 3) (g1 := 2) (g2 := 2) (by decide) key (by decide) (by decide) SE_1
  · exact VF.q (t := wr 3 ++ r) (v := [97, 34, 98]) (st := 40) (e := 7) (g1 := 2) (g2 := 6) (by decide) key (by decide) (by decide) SE_3
  · exact VF.q (t := wr 4 ++ r) (v := [92]) (st := 40) (e := 5) (g1 := 2) (g2 := 4) (by decide) key (by decide) (by decide) SE_4
  · exact VF.q (t := wr 5 ++ r) (v := [120, 47, 121]) (st := 40) (e := 6) (g1 := 2) (g2 := 5) (by decide) key (by decide) (by decide) SE_5
theorem VF_word {f : Nat} (hf : f < 6) {r : List Nat} (hr : OkTail r) (hz : r.length ≤ 100000) : VF (wr f ++ r) (val f) r := by
  match f, hf with
  | 0, _ => exact VF_none hr hz
  | 1, _ => exact VF_quo (.inl rfl) hr
  | 2, _ => exact VF_seven hr hz
  | 3, _ => exact VF_quo (.inr (.inl rfl)) hr
  | 4, _ => exact VF_quo (.inr (.inr (.inl rfl))) hr
  | 5, _ => exact VF_quo (.inr (.inr (.inr rfl))) hr
def partOk (t : List Nat) : Bool := miss ((at0 cQuo 1 t).runFor 200) && hit ((at0 cVal 1 t).runFor 200) t.length 1 t.length && (Txt.rstrip (S (t.drop 1)) == S (t.drop 1))
theorem parts_ok : ∀ f, f < 6 → ∀ j, j < 7 → 0 < j → j < (wr f).length → partOk ((wr f).take j) = true := by decide +kernel
theorem VF_part {f j : Nat} (hf : f < 6) (h0 : 0 < j) (hj : j < (wr f).length) : ∃ v, VF ((wr f).take j) v [] := by
  have hl : (wr f).length ≤ 7 := by unfold wr; split <;> decide
  have h := parts_ok f hf j (by omega) h0 hj
  unfold partOk at h
  simp only [Bool.and_eq_true, beq_iff_eq] at h
  have hlen : ((wr f).take j).length = j := by rw [List.length_take]; omega
  refine ⟨some (((wr f).take j).drop 1), ?_⟩
  have := VF.v (t := (wr f).take j) (v := ((wr f).take j).drop 1) (st := 200) (st2 := 200) (e := ((wr f).take j).length) (g1 := 1) (g2 := ((wr f).take j).length) (by decide) h.1.1 (by decide) h.1.2 (by omega) (by omega) (by
    rw [List.take_of_length_le (by rw [List.length_drop]; exact Nat.le_refl _)]; exact h.2)
  rw [List.drop_length] at this
  exact this
theorem search_hit0 {code : Array Nat} {g n e : Nat} {pre a b : List Nat} (hf : noFirst code = true) (h0 : (Sre.header code).1 ≤ pre.length)
    (h : hit0 ((at0 code g (pre ++ a)).runFor n) 0 e = true) (hl : locs pre.length n (at0 code g (pre ++ a)) = true) : hit0 ((at0 code g (pre ++ b)).runFor n) 0 e = true := by
  obtain ⟨ls, _, e1⟩ := start_sim (g := g) (t := pre ++ b) (t0 := pre ++ a) hf (by rw [List.length_append]; omega) (by rw [List.length_append]; omega)
  have e2 := at0_text (g := g) (t := pre ++ a) hf (by rw [List.length_append]; omega)
  rw [e1, runFor_sim (by rw [List.length_append]; omega) n _ hl (by rw [e2.1]; exact agree_pre pre b a) (by rw [e2.2, List.length_append]; omega)]
  exact h
theorem not_comma (t : List Nat) : Txt.startswith (Txt.lstrip (S (59 :: t))) (Str.ofString ",") = false := by
  have h1 : Txt.lstrip (S (59 :: t)) = S (59 :: t) := by
    unfold Txt.lstrip Txt.stripBy
    have : stripSame Unicode.isSpace true false (S (59 :: t)) = true := by
      unfold stripSame stripHi stripLo
      have hs : Unicode.isSpace 59 = false := by decide +kernel
      simp [hs, Str.length]
    rw [this]; rfl
  rw [h1]
  unfold Txt.startswith
  have : Builtin.Str.subAt (S (59 :: t)) (Str.ofString ",") 0 = false := by
    unfold Builtin.Str.subAt
    have e : Str.ofString "," = S [44] := by decide +kernel
    rw [e]
    have e2 : (S (59 :: t)).cps.extract 0 (0 + (S [44]).length) = #[59] := by
      apply Array.toList_inj.mp
      simp [Str.length]
    rw [e2]
    decide +kernel
  rw [this]; simp
theorem RD_sp {k : Nat} {t : List Nat} {ps : List (List Nat × Option (List Nat))} (ht : t = [] ∨ ∃ n t', t = n :: t' ∧ (n = 107 ∨ n = 109 ∨ n = 112)) (hz : t.length ≤ 100000) (h : RD k t ps) : RD (k + 1) (59 :: 32 :: t) ps := by
  obtain ⟨k1, a1, b1⟩ := tok_miss (32 :: t)
  have h2 : hit0 ((at0 cTwin 0 (59 :: 32 :: t)).runFor 20) 0 2 = true := by
    rcases ht with rfl | ⟨n, t', rfl, hn⟩
    · decide +kernel
    · rw [show 59 :: 32 :: n :: t' = [59, 32, n] ++ t' from rfl]
      refine search_hit0 (a := []) (by decide +kernel) (by simp [show (Sre.header cTwin).1 = 0 by decide +kernel]) ?_ ?_ <;> (rcases hn with rfl | rfl | rfl <;> decide +kernel)
  obtain ⟨k3, a3, b3⟩ := late_miss (t := 59 :: 32 :: t) (s := 2) (by decide) (by simp)
  exact RD.sp (e := 2) (by simp) (by simp at a1; omega) b1 (not_comma _) (by decide) h2 (by simp at a3; omega) b3 h
theorem RD_59 : RD 1 [59] [] :=
  RD.sp (e := 1) (st := 40) (st2 := 20) (st3 := 20) (by simp) (by decide) (by decide +kernel) (not_comma _) (by decide) (by decide +kernel) (by decide) (by decide +kernel) RD.nil
theorem RD_wd {k n : Nat} {t t' : List Nat} {v : Option (List Nat)} {ps : List (List Nat × Option (List Nat))} (hn : n = 107 ∨ n = 109 ∨ n = 112) (ht : t = [] ∨ ∃ x t', t = x :: t' ∧ (x = 59 ∨ x = 61)) (hv : VF t v t') (h : RD k t' ps) : RD (k + 1) (n :: t) (([n], v) :: ps) :=
  RD.wd (st := 10) (by decide) (tok_hit hn ht) hv h
/-! texts of words -/
def wtx (w : Nat × Nat) : List Nat := nmc w.1 :: wr w.2
def wpr (w : Nat × Nat) : List Nat × Option (List Nat) := ([nmc w.1], val w.2)
def txt (ws : List (Nat × Nat)) : List Nat := jn [59, 32] (ws.map wtx)
theorem nmc_or (r : Nat) : nmc r = 107 ∨ nmc r = 109 ∨ nmc r = 112 := by unfold nmc; split <;> (try split) <;> simp
theorem wr_head (f : Nat) : wr f = [] ∨ ∃ t, wr f = 61 :: t := by unfold wr; split <;> simp
theorem tl_head {f : Nat} {r : List Nat} (hr : OkTail r) : wr f ++ r = [] ∨ ∃ x t', wr f ++ r = x :: t' ∧ (x = 59 ∨ x = 61) := by
  rcases wr_head f with e | ⟨t, e⟩
  · rw [e]
    rcases hr with rfl | ⟨r', rfl⟩
    · exact .inl rfl
    · exact .inr ⟨59, r', rfl, .inl rfl⟩
  · rw [e]; exact .inr ⟨61, t ++ r, rfl, .inr rfl⟩
theorem txt_cons (w w' : Nat × Nat) (ws : List (Nat × Nat)) : txt (w :: w' :: ws) = nmc w.1 :: (wr w.2 ++ (59 :: 32 :: txt (w' :: ws))) := by
  show wtx w ++ [59, 32] ++ jn [59, 32] ((w' :: ws).map wtx) = _
  simp [wtx, txt]
theorem txt_one (w : Nat × Nat) : txt [w] = nmc w.1 :: (wr w.2 ++ []) := by
  show wtx w = _
  simp [wtx]
theorem txt_head (w : Nat × Nat) (ws : List (Nat × Nat)) : ∃ t', txt (w :: ws) = nmc w.1 :: t' := by
  cases ws with
  | nil => exact ⟨_, txt_one w⟩
  | cons w' ws => exact ⟨_, txt_cons w w' ws⟩
theorem RD_txt : ∀ (ws : List (Nat × Nat)), (∀ w ∈ ws, w.2 < 6) → (txt ws).length ≤ 100000 → ∃ k, RD k (txt ws) (ws.map wpr)
  | [], _, _ => ⟨0, RD.nil⟩
  | [w], h, _ => by
    rw [txt_one]
    exact ⟨1, RD_wd (nmc_or _) (tl_head (.inl rfl)) (VF_word (h w (.head _)) (.inl rfl) (by simp)) RD.nil⟩
  | w :: w' :: ws, h, hz => by
    rw [txt_cons] at hz ⊢
    simp only [List.length_cons, List.length_append] at hz
    obtain ⟨k, ih⟩ := RD_txt (w' :: ws) (fun x hx => h x (.tail _ hx)) (by omega)
    obtain ⟨t', e⟩ := txt_head w' ws
    exact ⟨_, RD_wd (nmc_or _) (tl_head (.inr ⟨_, rfl⟩)) (VF_word (h w (.head _)) (.inr ⟨_, rfl⟩) (by simp; omega)) (RD_sp (.inr ⟨_, _, e, nmc_or _⟩) (by omega) ih)⟩
def begun : List (Nat × Nat) → Nat → Nat
  | [], _ => 0
  | w :: ws, p => if p = 0 then 0 else 1 + begun ws (p - (wtx w).length - 2)
theorem begun_zero (ws : List (Nat × Nat)) : begun ws 0 = 0 := by cases ws <;> simp [begun]
theorem RD_word_part {w : Nat × Nat} (hf : w.2 < 6) {p : Nat} (h0 : 0 < p) (hp : p ≤ (wtx w).length) : ∃ k qs, RD k ((wtx w).take p) qs ∧ qs.length = 1 := by
  obtain ⟨q, rfl⟩ : ∃ q, p = q + 1 := ⟨p - 1, by omega⟩
  have e : (wtx w).take (q + 1) = nmc w.1 :: (wr w.2).take q := rfl
  rw [e]
  have hq : q ≤ (wr w.2).length := by simpa [wtx] using hp
  by_cases hq0 : q = 0
  · subst hq0
    exact ⟨1, [([nmc w.1], none)], RD_wd (nmc_or _) (.inl rfl) (VF_none (.inl rfl) (by simp)) RD.nil, rfl⟩
  · by_cases hql : q = (wr w.2).length
    · rw [List.take_of_length_le (by omega)]
      have := VF_word hf (r := []) (.inl rfl) (by simp)
      rw [List.append_nil] at this
      have th := tl_head (f := w.2) (r := []) (.inl rfl)
      rw [List.append_nil] at th
      exact ⟨1, [([nmc w.1], val w.2)], RD_wd (nmc_or _) th this RD.nil, rfl⟩
    · obtain ⟨v, hv⟩ := VF_part hf (Nat.pos_of_ne_zero hq0) (by omega)
      refine ⟨1, [([nmc w.1], v)], RD_wd (nmc_or _) ?_ hv RD.nil, rfl⟩
      rcases wr_head w.2 with e | ⟨t, e⟩
      · rw [e] at hql; simp at hql; rw [e] at hq; simp at hq; exact absurd hq hq0
      · rw [e]
        obtain ⟨q', rfl⟩ : ∃ q', q = q' + 1 := ⟨q - 1, by omega⟩
        exact .inr ⟨61, t.take q', rfl, .inr rfl⟩
theorem RD_head : ∀ (ws : List (Nat × Nat)), (∀ w ∈ ws, w.2 < 6) → (txt ws).length ≤ 100000 → ∀ p, p ≤ (txt ws).length → ∃ k qs, RD k ((txt ws).take p) qs ∧ qs.length = begun ws p
  | [], _, _, p, hp => by
    have : p = 0 := by simpa [txt, jn] using hp
    subst this
    exact ⟨0, [], RD.nil, rfl⟩
  | [w], h, _, p, hp => by
    have e1 : txt [w] = wtx w := rfl
    rw [e1] at hp ⊢
    by_cases hp0 : p = 0
    · subst hp0; exact ⟨0, [], RD.nil, rfl⟩
    · obtain ⟨k, qs, h1, h2⟩ := RD_word_part (h w (.head _)) (Nat.pos_of_ne_zero hp0) hp
      exact ⟨k, qs, h1, by rw [h2]; simp [begun, hp0]⟩
  | w :: w' :: ws, h, hz, p, hp => by
    have e1 : txt (w :: w' :: ws) = wtx w ++ (59 :: 32 :: txt (w' :: ws)) := by
      rw [txt_cons]; rfl
    rw [e1] at hp ⊢
    rw [e1] at hz
    simp only [List.length_append, List.length_cons] at hz hp
    by_cases hp0 : p = 0
    · subst hp0; exact ⟨0, [], RD.nil, rfl⟩
    · have hb : begun (w :: w' :: ws) p = 1 + begun (w' :: ws) (p - (wtx w).length - 2) := by
        show (if p = 0 then 0 else _) = _
        rw [if_neg hp0]
      rw [hb]
      by_cases hpw : p ≤ (wtx w).length
      · rw [List.take_append_of_le_length hpw]
        obtain ⟨k, qs, h1, h2⟩ := RD_word_part (h w (.head _)) (Nat.pos_of_ne_zero hp0) hpw
        exact ⟨k, qs, h1, by rw [h2, show p - (wtx w).length - 2 = 0 by omega, begun_zero]⟩
      · obtain ⟨q, rfl⟩ : ∃ q, p = (wtx w).length + (q + 1) := ⟨p - (wtx w).length - 1, by omega⟩
        rw [List.take_length_add_append]
        have full : ∀ {k : Nat} {r : List Nat} {qs : List (List Nat × Option (List Nat))}, OkTail r → r.length ≤ 100000 → RD k r qs → RD (k + 1) (wtx w ++ r) (wpr w :: qs) := by
          intro k r qs hr hrz hrd
          exact RD_wd (nmc_or _) (tl_head hr) (VF_word (h w (.head _)) hr hrz) hrd
        cases q with
        | zero =>
          refine ⟨_, _, full (r := [59]) (.inr ⟨[], rfl⟩) (by simp) RD_59, ?_⟩
          rw [show (wtx w).length + (0 + 1) - (wtx w).length - 2 = 0 by omega, begun_zero]; rfl
        | succ q =>
          have e2 : List.take (q + 1 + 1) (59 :: 32 :: txt (w' :: ws)) = 59 :: 32 :: (txt (w' :: ws)).take q := rfl
          rw [e2, show (wtx w).length + (q + 1 + 1) - (wtx w).length - 2 = q by omega]
          obtain ⟨k, qs, h1, h2⟩ := RD_head (w' :: ws) (fun x hx => h x (.tail _ hx)) (by omega) q (by omega)
          obtain ⟨t', e⟩ := txt_head w' ws
          have ht : (txt (w' :: ws)).take q = [] ∨ ∃ n t', (txt (w' :: ws)).take q = n :: t' ∧ (n = 107 ∨ n = 109 ∨ n = 112) := by
            rw [e]
            cases q with
            | zero => exact .inl rfl
            | succ q => exact .inr ⟨_, _, rfl, nmc_or _⟩
          refine ⟨_, _, full (r := 59 :: 32 :: (txt (w' :: ws)).take q) (.inr ⟨_, rfl⟩) (by simp; omega) (RD_sp ht (by rw [List.length_take]; omega) h1), ?_⟩
          simp [h2]; omega
def pos (ws : List (Nat × Nat)) (j : Nat) : Nat := (jn [59, 32] ((ws.map wtx).take j ++ [[]])).length
theorem pos_zero (ws : List (Nat × Nat)) : pos ws 0 = 0 := by simp [pos, jn]
theorem pos_succ (w : Nat × Nat) (ws : List (Nat × Nat)) (j : Nat) : pos (w :: ws) (j + 1) = (wtx w).length + 2 + pos ws j := by
  unfold pos
  have e : ((w :: ws).map wtx).take (j + 1) ++ [[]] = wtx w :: ((ws.map wtx).take j ++ [[]]) := rfl
  rw [e]
  cases h : (ws.map wtx).take j ++ [[]] with
  | nil => simp at h
  | cons y r =>
    show (wtx w ++ [59, 32] ++ jn [59, 32] (y :: r)).length = _
    simp; omega
theorem begun_iff : ∀ (ws : List (Nat × Nat)) (j p : Nat), j < ws.length → (j < begun ws p ↔ pos ws j < p)
  | [], _, _, h => by simp at h
  | w :: ws, 0, p, _ => by
    rw [pos_zero]
    unfold begun
    split <;> omega
  | w :: ws, j + 1, p, h => by
    rw [pos_succ]
    unfold begun
    split
    · omega
    · have := begun_iff ws j (p - (wtx w).length - 2) (by simpa using h)
      omega
theorem txt_len : ∀ (ws : List (Nat × Nat)) (w : Nat × Nat), (txt (ws ++ [w])).length = pos (ws ++ [w]) ws.length + (wtx w).length
  | [], w => by simp [pos_zero, txt, jn]
  | v :: ws, w => by
    rw [List.cons_append, List.length_cons, pos_succ]
    have ih := txt_len ws w
    obtain ⟨u, r, e⟩ : ∃ u r, ws ++ [w] = u :: r := by
      cases ws with
      | nil => exact ⟨w, [], rfl⟩
      | cons u r => exact ⟨u, r ++ [w], rfl⟩
    rw [e] at ih ⊢
    rw [txt_cons]
    simp only [List.length_cons, List.length_append, wtx] at ih ⊢
    omega
theorem txt_split : ∀ (ws : List (Nat × Nat)) (j : Nat), j < ws.length → (txt ws).drop (pos ws j) = txt (ws.drop j) ∧ (txt ws).take (pos ws j) = (if j = 0 then [] else txt (ws.take j) ++ [59, 32]) ∧ pos ws j ≤ (txt ws).length
  | [], _, h => by simp at h
  | w :: ws, 0, _ => by simp [pos_zero]
  | [w], j + 1, h => by simp at h
  | w :: w' :: ws, j + 1, h => by
    obtain ⟨h1, h2, h3⟩ := txt_split (w' :: ws) j (by simpa using h)
    have e1 : txt (w :: w' :: ws) = (wtx w ++ [59, 32]) ++ txt (w' :: ws) := by rw [txt_cons]; simp [wtx]
    have e2 : pos (w :: w' :: ws) (j + 1) = (wtx w ++ [59, 32]).length + pos (w' :: ws) j := by rw [pos_succ]; simp
    rw [e1, e2]
    refine ⟨?_, ?_, ?_⟩
    · rw [List.drop_length_add_append, h1]; rfl
    · rw [List.take_length_add_append, h2, if_neg (show ¬ j + 1 = 0 by omega)]
      cases j with
      | zero => simp [txt, jn]
      | succ j =>
        rw [if_neg (show ¬ j + 1 = 0 by omega)]
        have e3 : (w :: w' :: ws).take (j + 1 + 1) = w :: w' :: ws.take j := rfl
        have e4 : (w' :: ws).take (j + 1) = w' :: ws.take j := rfl
        rw [e3, e4, txt_cons]
        simp [wtx]
    · simp only [List.length_append] at h3 ⊢; omega
theorem RD_txt_sep : ∀ (ws : List (Nat × Nat)), ws ≠ [] → (∀ w ∈ ws, w.2 < 6) → (txt ws).length ≤ 90000 → ∃ k, RD k (txt ws ++ [59, 32]) (ws.map wpr)
  | [], h, _, _ => absurd rfl h
  | [w], _, h, _ => by
    rw [txt_one]
    have := RD_wd (nmc_or w.1) (tl_head (f := w.2) (r := [59, 32]) (.inr ⟨_, rfl⟩)) (VF_word (h w (.head _)) (.inr ⟨_, rfl⟩) (by simp)) (RD_sp (.inl rfl) (by simp) RD.nil)
    exact ⟨_, by simpa [wpr] using this⟩
  | w :: w' :: ws, _, h, hz => by
    rw [txt_cons] at hz ⊢
    simp only [List.length_cons, List.length_append] at hz
    obtain ⟨k, ih⟩ := RD_txt_sep (w' :: ws) (by simp) (fun x hx => h x (.tail _ hx)) (by omega)
    obtain ⟨t', e⟩ := txt_head w' ws
    have := RD_wd (nmc_or w.1) (tl_head (f := w.2) (r := 59 :: 32 :: (txt (w' :: ws) ++ [59, 32])) (.inr ⟨_, rfl⟩)) (VF_word (h w (.head _)) (.inr ⟨_, rfl⟩) (by simp; omega)) (RD_sp (.inr ⟨_, _, by rw [e]; rfl, nmc_or _⟩) (by simp; omega) ih)
    exact ⟨_, by simpa [wpr] using this⟩
theorem JE_1 : JE [] [] := JE.none (st := 10) (by decide) (by decide +kernel)
theorem JE_5 : JE [120, 47, 121] [120, 47, 121] := JE.none (st := 60) (by decide) (by decide +kernel)
theorem JE_3 : JE [97, 34, 98] [97, 92, 34, 98] := JE.one (l := [97, 34, 98]) (st := 40) (st2 := 40) (b := 1) (e := 2) (g1 := 1) (g2 := 2) (by decide) (by decide +kernel) (by decide) (by decide) (by decide) (by decide +kernel)
theorem JE_4 : JE [92] [92, 92] := JE.one (l := [92]) (st := 40) (st2 := 40) (b := 0) (e := 1) (g1 := 0) (g2 := 1) (by decide) (by decide +kernel) (by decide) (by decide) (by decide) (by decide +kernel)
theorem JW_word (w : Nat × Nat) (hf : w.2 < 6) : JW (wpr w) (wtx w) := by
  obtain ⟨r, f⟩ := w
  match f, hf with
  | 0, _ => exact JW.n (k := [nmc r]) (by simp)
  | 1, _ => exact JW.q (k := [nmc r]) (v := []) (v' := []) (st := 20) (by simp) (by simp) (by simp) (by decide) (by decide +kernel) JE_1
  | 2, _ => exact JW.t (k := [nmc r]) (v := [55]) (st := 20) (by simp) (by simp) (by decide) (by decide +kernel)
  | 3, _ => exact JW.q (k := [nmc r]) (v := [97, 34, 98]) (v' := [97, 92, 34, 98]) (st := 40) (by simp) (by simp) (by simp) (by decide) (by decide +kernel) JE_3
  | 4, _ => exact JW.q (k := [nmc r]) (v := [92]) (v' := [92, 92]) (st := 20) (by simp) (by simp) (by simp) (by decide) (by decide +kernel) JE_4
  | 5, _ => exact JW.q (k := [nmc r]) (v := [120, 47, 121]) (v' := [120, 47, 121]) (st := 40) (by simp) (by simp) (by simp) (by decide) (by decide +kernel) JE_5
/-- the key of an entry: its name, then its order -/
def EntryIs (nw : Nw) (v : Value) (nm : List Nat) (o : Int) : Prop := ∃ a t t' x y, v = .ref a ∧ (a, tupO [.str (S nm) t, .int o t', x, y]) ∈ nw
def klt (a b : List Nat × Int) : Bool := if a.1 = b.1 then decide (a.2 < b.2) else decide (a.1 < b.1)
theorem S_inj {a b : List Nat} : (S a == S b) = decide (a = b) := by
  by_cases h : a = b
  · subst h; simp
  · have : ¬ S a = S b := fun e => h (by have := congrArg (fun x : Str => x.cps.toList) e; simpa using this)
    rw [beq_eq_false_iff_ne.mpr this, decide_eq_false h]
section
open PySem.SeqAt
theorem entry_lt {w : World} {nw : Nw} {A : Around} {s : Shared} {u v : Value} {n1 n2 : List Nat} {o1 o2 : Int} {C : Bool → Shared → Prop} (hu : EntryIs nw u n1 o1) (hv : EntryIs nw v n2 o2) (hd : u = v ∨ (n1, o1) ≠ (n2, o2)) (hk : ∀ a o, (a, o) ∈ nw → s.heap.get? a = some o)
    (h : C (klt (n1, o1) (n2, o2)) s) : wpAny (model prg w) A (keyLt' (tuples' true) u v) C (fun _ _ => False) s := by
  obtain ⟨a, t1, t2, x1, y1, rfl, ha⟩ := hu
  obtain ⟨b, t3, t4, x2, y2, rfl, hb⟩ := hv
  refine kat_lt (xs := #[.str (S n1) t1, .int o1 t2, x1, y1]) (ys := #[.str (S n2) t3, .int o2 t4, x2, y2]) (hk _ _ ha) rfl (hk _ _ hb) rfl ?_
  show KatLex _ _ _ _ _ _ [(.str (S n1) t1, .str (S n2) t3), (.int o1 t2, .int o2 t4), (x1, x2), (y1, y2)] 0 s
  refine kat_cons (EqAt.str_str (A := A) (s := s) (S n1) t1 (S n2) t3 _ _ _ _ ?_)
  rw [S_inj]
  refine kat_go (fun h1 => ?_) (fun h1 => ?_)
  · have e1 : n1 = n2 := of_decide_eq_true h1
    subst e1
    refine kat_yes (kat_cons (EqAt.int_int (A := A) (s := s) o1 t2 o2 t4 _ _ _ _ ?_))
    refine kat_go (fun h2 => ?_) (fun h2 => ?_)
    · have e2 : o1 = o2 := by simpa using h2
      subst e2
      have hab : a = b := by
        rcases hd with hd | hd
        · exact Value.ref.inj hd
        · exact absurd rfl hd
      subst hab
      have e3 := (hk _ _ ha).symm.trans (hk _ _ hb)
      have e4 : [Value.str (S n1) t1, .int o1 t2, x1, y1] = [.str (S n1) t3, .int o1 t4, x2, y2] := by
        have := congrArg Obj.data (Option.some.inj e3)
        simpa using this
      have e5 : x1 = x2 ∧ y1 = y2 := by simp at e4; exact ⟨e4.2.2.1, e4.2.2.2⟩
      rw [e5.1, e5.2]
      refine kat_yes (kat_cons (EqAt.same (A := A) (s := s) x2 _ _ _ _ (kat_yes (kat_cons (EqAt.same (A := A) (s := s) y2 _ _ _ _ (kat_yes (kat_nil ?_)))))))
      have : klt (n1, o1) (n1, o1) = false := by simp [klt]
      rw [this] at h
      exact h
    · refine kat_no (kat_one _ _ (P.lt_int ?_))
      have : klt (n1, o1) (n1, o2) = decide (o1 < o2) := by simp [klt]
      rw [this] at h
      exact h
  · have e1 : ¬ n1 = n2 := of_decide_eq_false h1
    refine kat_no (oneLt_str ?_)
    have : klt (n1, o1) (n2, o2) = decide (n1 < n2) := by simp [klt, e1]
    rw [this] at h
    exact h
end
section
variable {c : Cx} {m : Nm} {nw : Nw}
theorem katTups_of {h : Heap} : ∀ {vs : List Value}, (∀ v ∈ vs, ∃ nm o, EntryIs nw v nm o) → (∀ a o, (a, o) ∈ nw → h.get? a = some o) → ∃ fs, KatTups h vs fs ∧ fs.length = vs.length ∧ ∀ f ∈ fs, ∃ x t, f = .str x t
  | [], _, _ => ⟨[], KatTups.nil, rfl, fun f hf => by cases hf⟩
  | v :: vs, hv, hk => by
    obtain ⟨fs, h1, h2, h3⟩ := katTups_of (vs := vs) (fun u hu => hv u (.tail _ hu)) hk
    obtain ⟨nm, o, a, t, t', x, y, rfl, hm⟩ := hv v (.head _)
    refine ⟨.str (S nm) t :: fs, KatTups.cons (hk _ _ hm) rfl rfl rfl h1, by simp [h2], fun f hf => ?_⟩
    rcases List.mem_cons.mp hf with rfl | hf
    · exact ⟨_, _, rfl⟩
    · exact h3 f hf
theorem H_sorted2 {l : Addr} {vs : List Value} {n : Nat} {keys : Nat → List Nat × Int} {L : List Nat} {Q : Value → Nm → Nw → Prop} (hl : (l, listO vs n) ∈ nw) (h2 : 2 ≤ vs.length) (h64 : vs.length < 64)
    (hk : ∀ i, i < vs.length → EntryIs nw (vs.getD i .none) (keys i).1 (keys i).2) (hinj : ∀ i j, i < vs.length → j < vs.length → keys i = keys j → i = j)
    (hL : kgo vs.length (fun i j => klt (keys i) (keys j)) (kas_sort vs.length) = some L.toArray)
    (h : ∀ D k, Q (.ref D) m ((D, listO (L.map fun i => vs.getD i .none) k) :: nw)) : HH c m nw (call (.builtin "sorted") [.ref l]) Q := fun A s G => by
  obtain ⟨mf, hid, F, hmf, hok, hfo, N, nd⟩ := G.split
  refine kat_sorted (vs := vs) F N ⟨_, G.fm.get hl, rfl, n, rfl⟩ h2 h64 fun D e1 h' F' N' hD => ?_
  have hget : ∀ a o, (a, o) ∈ nw → h'.get? a = some o := fun a o hm => (N' (a, o) (.tail _ (List.mem_append_left _ hm))).1
  obtain ⟨fs, t1, t2, t3⟩ := katTups_of (nw := nw) (h := h') (vs := vs) (fun v hv => by
    obtain ⟨i, hi, e⟩ := List.getElem_of_mem hv
    have := hk i hi
    rw [List.getD_eq_getElem?_getD, List.getElem?_eq_getElem hi] at this
    exact ⟨_, _, e ▸ this⟩) hget
  refine kat_kind (s := { s with heap := h' }) (T := .type "str") t1 (by omega) (fun f hf => ?_) rfl ?_
  · obtain ⟨x, t, rfl⟩ := t3 f hf
    intro A Q E s hk q
    exact wpAny_pure q
  · refine kas_go (n := vs.length) (lt := fun i j => klt (keys i) (keys j)) ?_ (kas_sort vs.length) L.toArray hL ?_
    · intro i j C hi hj hC
      exact entry_lt (s := { s with heap := h' }) (hk i hi) (hk j hj) (by
        by_cases hij : i = j
        · exact .inl (by rw [hij])
        · exact .inr fun e => hij (hinj i j hi hj e)) hget hC
    · refine KasFin.intro F' N' (UpdF.head fun p hp => Nat.ne_of_lt (hD p hp)) fun h3 k F3 N3 => ?_
      have e : List.toArray (L.toArray.toList.map fun i => vs.getD i Value.none) = (L.map fun i => vs.getD i Value.none).toArray := by simp
      rw [e] at N3
      exact ⟨m, _, G.join1 (s' := { s with heap := h3 }) F3 hmf hok hfo N3 nd hD rfl rfl rfl, h D k⟩
end
section
variable {c : Cx} {m : Nm} {nw : Nw}
theorem H_sorted1 {l : Addr} {v : Value} {n : Nat} {Q : Value → Nm → Nw → Prop} (hl : (l, listO [v] n) ∈ nw) (h : ∀ D k, Q (.ref D) m ((D, listO [v] k) :: nw)) : HH c m nw (call (.builtin "sorted") [.ref l]) Q := fun A s G => by
  have hll : s.heap.IsList l [v].toArray := ⟨_, G.fm.get hl, rfl, n, rfl⟩
  obtain ⟨mf, hid, F, hmf, hok, hfo, N, nd⟩ := G.split
  refine Calls.call_function_entry kind_sorted plain_sorted entry_sorted (args_sorted1 _) ?_
  unfold Builtin.«sorted»
  refine wpAny_bind (m := checkCount "sorted" 1 1 _) (wpAny_pure ?_)
  refine wpAny_bind (collect_list hll ?_ (show 1 ≤ sizeLine by decide))
  refine wpAny_bind (wpAny_newList ?_ (show 1 ≤ sizeLine by decide))
  have hsz : ((s.heap.push (seqObj "list" #[] 0)).update s.heap.objs.size (Obj.mapSeq (· ++ [v].toArray))).objs.size = s.heap.objs.size + 1 := by
    rw [Heap.size_update, size_push']
  generalize hH : ((s.heap.push (seqObj "list" #[] 0)).update s.heap.objs.size (Obj.mapSeq (· ++ [v].toArray))) = H at hsz
  have hkH : ∀ b o, s.heap.get? b = some o → H.get? b = some o := fun b o q => by
    have hlt : b < s.heap.objs.size := Heap.lt_size q
    rw [← hH, Heap.get?_update_ne _ _ _ _ (Nat.ne_of_lt hlt), Heap.get?_push_ne _ _ _ (Nat.ne_of_lt hlt)]
    exact q
  have hoL : (H.push (seqObj "list" [v].toArray 0)).get? (s.heap.objs.size + 1) = some (seqObj "list" [v].toArray 0) := by
    rw [← hsz]; exact Heap.get?_push_size _ rfl
  show wpAny _ _ _ _ _ { s with heap := H.push (seqObj "list" [v].toArray 0) }
  rw [hsz]
  have hk1 : ∀ b o, s.heap.get? b = some o → (H.push (seqObj "list" [v].toArray 0)).get? b = some o := fun b o q => Heap.get?_push_of_some _ (hkH b o q)
  generalize hH1 : H.push (seqObj "list" [v].toArray 0) = H1 at hoL hk1
  have haD : s.heap.objs.size + 1 < H1.objs.size := Heap.lt_size hoL
  refine wpAny_bind (wpAny_holding (wpAny_call_entry slot_list_sort ⟨_, hoL, rfl⟩ entry_list_sort ?body (args_list_sort _)))
  case body =>
    rw [list_sort_plain]
    refine wpAny_bind (listItems_at (s := { s with heap := H1 }) hoL rfl ?_)
    refine wpAny_bind (listUpdate_at (s := { s with heap := H1 }) hoL rfl ?_ (show 1 ≤ sizeLine by decide) (Nat.zero_le _))
    obtain ⟨e1, ho1⟩ : ∃ e1, (H1.update (s.heap.objs.size + 1) (Obj.mapSeq fun _ => (#[] : Array Value))).get? (s.heap.objs.size + 1) = some (seqObj "list" #[] e1) := ⟨_, get?_update_seq hoL (fun _ => #[])⟩
    refine wpAny_bind (seqEpoch_at ho1 rfl ?_)
    refine wpAny_bind (wpAny_newTuple ?_ (show 1 ≤ sizeLine by decide))
    refine wpAny_bind (wpAny_newList ?_ (by decide))
    refine wpAny_holding ?_
    have ho6 : (((H1.update (s.heap.objs.size + 1) (Obj.mapSeq fun _ => (#[] : Array Value))).push (seqObj "tuple" [v].toArray 0)).push (seqObj "list" #[] 0)).get? (s.heap.objs.size + 1) = some (seqObj "list" #[] e1) := by
      rw [Heap.get?_push_ne _ _ _ (by rw [size_push', Heap.size_update]; exact Nat.ne_of_lt (Nat.lt_succ_of_lt haD)), Heap.get?_push_ne _ _ _ (by rw [Heap.size_update]; exact Nat.ne_of_lt haD)]
      exact ho1
    show wpAny (model prg c.w) _ _ _ _ { s with heap := ((H1.update (s.heap.objs.size + 1) (Obj.mapSeq fun _ => (#[] : Array Value))).push (seqObj "tuple" [v].toArray 0)).push (seqObj "list" #[] 0) }
    dsimp only
    have h2 : [v].toArray.size < 2 := by simp
    rw [if_pos h2, if_pos h2]
    refine wpAny_bind (wpAny_pure ?_)
    rw [StateT.run_pure]
    refine wpAny_bind (wpAny_pure ?_)
    dsimp only
    refine wpAny_bind (seqEpoch_at ho6 rfl ?_)
    refine wpAny_bind (listUpdate_at ho6 rfl ?_ (Nat.zero_le _) (by rw [Array.size_map]; show (pairsOf [v]).size ≤ _; rw [pairsOf_size, sizeLine_eq]; simp))
    simp only [bne_self_eq_false, Bool.false_eq_true, if_false]
    refine wpAny_pure ⟨_, rfl, wpAny_pure ⟨_, rfl, ?_⟩⟩
    have hX : Array.map (fun x => x.snd) (arrOf (SortSt.mk' general' ([v].toArray.zip [v].toArray) #[] 7 none)) = #[v] := by
      show Array.map (fun x => x.snd) ([v].toArray.zip [v].toArray) = #[v]
      simp
    rw [hX]
    obtain ⟨e4, hD4⟩ : ∃ e4, ((((H1.update (s.heap.objs.size + 1) (Obj.mapSeq fun _ => (#[] : Array Value))).push (seqObj "tuple" [v].toArray 0)).push (seqObj "list" #[] 0)).update (s.heap.objs.size + 1) (Obj.mapSeq fun _ => #[v])).get? (s.heap.objs.size + 1) = some (listO [v] e4) :=
      ⟨_, get?_update_seq ho6 (fun _ => #[v])⟩
    have hk4 : ∀ b o, s.heap.get? b = some o → ((((H1.update (s.heap.objs.size + 1) (Obj.mapSeq fun _ => (#[] : Array Value))).push (seqObj "tuple" [v].toArray 0)).push (seqObj "list" #[] 0)).update (s.heap.objs.size + 1) (Obj.mapSeq fun _ => #[v])).get? b = some o := fun b o q => by
      have hne : b ≠ s.heap.objs.size + 1 := Nat.ne_of_lt (Nat.lt_succ_of_lt (Heap.lt_size q))
      rw [Heap.get?_update_ne _ _ _ _ hne]
      refine Heap.get?_push_of_some _ (Heap.get?_push_of_some _ ?_)
      rw [Heap.get?_update_ne _ _ _ _ hne]
      exact hk1 b o q
    have N' : News c.g c.L ((((H1.update (s.heap.objs.size + 1) (Obj.mapSeq fun _ => (#[] : Array Value))).push (seqObj "tuple" [v].toArray 0)).push (seqObj "list" #[] 0)).update (s.heap.objs.size + 1) (Obj.mapSeq fun _ => #[v])) ((s.heap.objs.size + 1, listO [v] e4) :: (nw ++ hid)) := by
      intro p hp
      rcases List.mem_cons.mp hp with rfl | hp
      · refine ⟨hD4, Nat.ne_of_gt (Nat.lt_succ_of_lt F.ns.lt), ?_⟩
        cases e : c.g.get? (s.heap.objs.size + 1) with
        | none => rfl
        | some o => exact absurd (Heap.lt_size (F.keep _ _ e)) (Nat.not_lt.mpr (Nat.le_succ _))
      · exact ⟨hk4 _ _ (N p hp).1, (N p hp).2⟩
    exact ⟨m, _, G.join1 (s' := { s with heap := ((((H1.update (s.heap.objs.size + 1) (Obj.mapSeq fun _ => (#[] : Array Value))).push (seqObj "tuple" [v].toArray 0)).push (seqObj "list" #[] 0)).update (s.heap.objs.size + 1) (Obj.mapSeq fun _ => #[v])) }) (F.keeps hk4) hmf hok hfo N' nd (fun q hq => Nat.lt_succ_of_lt (Heap.lt_size (N q hq).1)) rfl rfl rfl, h _ e4⟩
end
/-! the row as it ought to be -/
theorem prefix_count {α : Type} {f : α → Bool} : ∀ {l : List α}, l.Pairwise (fun a b => f b = true → f a = true) → (∀ x ∈ l.take (l.filter f).length, f x = true) ∧ (∀ x ∈ l.drop (l.filter f).length, f x = false)
  | [], _ => ⟨fun x h => by simp at h, fun x h => by simp at h⟩
  | a :: l, h => by
    rw [List.pairwise_cons] at h
    obtain ⟨i1, i2⟩ := prefix_count (f := f) h.2
    cases ha : f a with
    | true =>
      have e : ((a :: l).filter f).length = (l.filter f).length + 1 := by simp [List.filter_cons, ha]
      rw [e]
      refine ⟨fun x hx => ?_, fun x hx => i2 x (by simpa using hx)⟩
      rw [List.take_succ_cons] at hx
      rcases List.mem_cons.mp hx with rfl | hx
      · exact ha
      · exact i1 x hx
    | false =>
      have hl : ∀ x ∈ l, f x = false := fun x hx => by
        cases hfx : f x with
        | false => rfl
        | true => rw [h.1 x hx hfx] at ha; cases ha
      have e : ((a :: l).filter f).length = 0 := by
        rw [List.filter_cons, ha]
        simp only [Bool.false_eq_true, if_false]
        rw [List.filter_eq_nil_iff.mpr (fun x hx => by rw [hl x hx]; simp)]
        rfl
      rw [e]
      refine ⟨fun x hx => by simp at hx, fun x hx => ?_⟩
      rw [List.drop_zero] at hx
      rcases List.mem_cons.mp hx with rfl | hx
      · exact ha
      · exact hl x hx
structure En where
  r : Nat
  f : Nat
  o : Int
def En.lt (a b : En) : Prop := nmc a.r < nmc b.r ∨ (nmc a.r = nmc b.r ∧ a.o < b.o)
def insAt (k : Nat) (e : En) (es : List En) : List En := es.take k ++ e :: es.drop k
def cntL (e : En) (es : List En) : Nat := (es.filter fun x => decide (nmc x.r < nmc e.r)).length
def cntR (e : En) (es : List En) : Nat := (es.filter fun x => !decide (nmc e.r < nmc x.r)).length
theorem insL_sorted {e : En} {es : List En} (hs : es.Pairwise En.lt) (ho : ∀ x ∈ es, e.o < x.o) : (insAt (cntL e es) e es).Pairwise En.lt := by
  obtain ⟨h1, h2⟩ := prefix_count (f := fun x : En => decide (nmc x.r < nmc e.r)) (l := es) (hs.imp fun {a b} hab hb => by
    unfold En.lt at hab
    simp only [decide_eq_true_eq] at hb ⊢
    omega)
  unfold insAt
  rw [List.pairwise_append]
  refine ⟨hs.sublist (List.take_sublist _ _), List.pairwise_cons.mpr ⟨fun x hx => ?_, hs.sublist (List.drop_sublist _ _)⟩, fun x hx y hy => ?_⟩
  · have a := h2 x hx
    have b := ho x (List.mem_of_mem_drop hx)
    unfold En.lt
    simp only [decide_eq_false_iff_not] at a
    omega
  · have a := h1 x hx
    simp only [decide_eq_true_eq] at a
    rcases List.mem_cons.mp hy with rfl | hy
    · exact .inl a
    · have := List.pairwise_append.mp (by rw [List.take_append_drop]; exact hs : (es.take (cntL e es) ++ es.drop (cntL e es)).Pairwise En.lt)
      exact this.2.2 x hx y hy
theorem insR_sorted {e : En} {es : List En} (hs : es.Pairwise En.lt) (ho : ∀ x ∈ es, x.o < e.o) : (insAt (cntR e es) e es).Pairwise En.lt := by
  obtain ⟨h1, h2⟩ := prefix_count (f := fun x : En => !decide (nmc e.r < nmc x.r)) (l := es) (hs.imp fun {a b} hab hb => by
    unfold En.lt at hab
    simp only [Bool.not_eq_true', decide_eq_false_iff_not] at hb ⊢
    omega)
  unfold insAt
  rw [List.pairwise_append]
  refine ⟨hs.sublist (List.take_sublist _ _), List.pairwise_cons.mpr ⟨fun x hx => ?_, hs.sublist (List.drop_sublist _ _)⟩, fun x hx y hy => ?_⟩
  · have a := h2 x hx
    simp only [Bool.not_eq_false', decide_eq_true_eq] at a
    exact .inl a
  · have a := h1 x hx
    have b := ho x (List.mem_of_mem_take hx)
    simp only [Bool.not_eq_true', decide_eq_false_iff_not] at a
    rcases List.mem_cons.mp hy with rfl | hy
    · unfold En.lt; omega
    · have := List.pairwise_append.mp (by rw [List.take_append_drop]; exact hs : (es.take (cntR e es) ++ es.drop (cntR e es)).Pairwise En.lt)
      exact this.2.2 x hx y hy
def ekey (e : En) : List Nat × Int := ([nmc e.r], e.o)
theorem one_lt (a b : Nat) : decide ([a] < [b]) = decide (a < b) := by
  by_cases h : a < b
  · rw [decide_eq_true h]; exact decide_eq_true (List.Lex.rel h)
  · rw [decide_eq_false h]
    refine decide_eq_false fun e => ?_
    cases e with
    | rel h' => exact h h'
    | cons h' => cases h'
theorem klt_ekey {a b : En} : klt (ekey a) (ekey b) = true ↔ En.lt a b := by
  unfold klt ekey En.lt
  by_cases h : nmc a.r = nmc b.r
  · simp [h]
  · have : ¬ ([nmc a.r] = [nmc b.r]) := fun e => h (by simpa using e)
    simp only [this, if_false, one_lt, decide_eq_true_eq]
    omega
/-! the plain law: what the row's order gives -/
theorem prefix_idx {α : Type} {f : α → Bool} {l : List α} (h : l.Pairwise (fun a b => f b = true → f a = true)) {i : Nat} {x : α} (hx : l[i]? = some x) : f x = decide (i < (l.filter f).length) := by
  obtain ⟨h1, h2⟩ := prefix_count h
  by_cases hi : i < (l.filter f).length
  · rw [decide_eq_true hi]
    exact h1 x (List.mem_of_getElem? (i := i) (by rw [List.getElem?_take, if_pos hi]; exact hx))
  · rw [decide_eq_false hi]
    refine h2 x (List.mem_of_getElem? (i := i - (l.filter f).length) ?_)
    rw [List.getElem?_drop, show (l.filter f).length + (i - (l.filter f).length) = i by omega]; exact hx
def En.w (e : En) : Nat × Nat := (e.r, e.f)
def En.pr (e : En) : List Nat × Option (List Nat) := wpr e.w
def En.tx (e : En) : List Nat := wtx e.w
def tx (es : List En) : List Nat := txt (es.map En.w)
theorem pr_w (es : List En) : (es.map En.w).map wpr = es.map En.pr := by rw [List.map_map]; rfl
theorem tx_w (es : List En) : (es.map En.w).map wtx = es.map En.tx := by rw [List.map_map]; rfl
theorem tx_jn (es : List En) : jn [59, 32] (es.map En.tx) = tx es := by unfold tx txt; rw [tx_w]
theorem wr_le (f : Nat) : (wr f).length ≤ 7 := by unfold wr; split <;> decide
theorem wtx_le (w : Nat × Nat) : (wtx w).length ≤ 8 := by have := wr_le w.2; simp [wtx]; omega
theorem txt_le : ∀ (ws : List (Nat × Nat)), (txt ws).length ≤ 10 * ws.length
  | [] => by simp [txt, jn]
  | [w] => by have := wtx_le w; simp [txt, jn]; omega
  | w :: w' :: ws => by
    have := wtx_le w
    have ih := txt_le (w' :: ws)
    rw [txt_cons]
    simp [wtx] at this ih ⊢
    omega
theorem tx_le (es : List En) : (tx es).length ≤ 10 * es.length := by have := txt_le (es.map En.w); simpa [tx] using this
theorem perm_insAt {e : En} {es ks : List En} {k : Nat} (h : es.Perm ks) : (insAt k e es).Perm (ks ++ [e]) := by
  unfold insAt
  refine List.perm_middle.trans ?_
  rw [List.take_append_drop]
  exact (h.cons e).trans (List.perm_append_comm (l₁ := [e]) (l₂ := ks))
theorem insAt_map {β : Type} (g : En → β) (k : Nat) (e : En) (es : List En) : (insAt k e es).map g = (es.map g).take k ++ g e :: (es.map g).drop k := by simp [insAt, List.map_take, List.map_drop]
theorem names_up {es : List En} (hs : es.Pairwise En.lt) : (es.map En.pr).Pairwise fun a b => ∃ x y, a.1 = [x] ∧ b.1 = [y] ∧ x ≤ y := by
  rw [List.pairwise_map]
  refine hs.imp fun {a b} hab => ⟨nmc a.r, nmc b.r, rfl, rfl, ?_⟩
  unfold En.lt at hab; omega
theorem one_ex {x : List Nat} (h : x.length = 1) : ∃ y, x = [y] := by
  match x, h with
  | [y], _ => exact ⟨y, rfl⟩
theorem cnt_L {es : List En} (hs : es.Pairwise En.lt) {x : List Nat} (hx : x.length = 1) : ∀ i p, (es.map En.pr)[i]? = some p → decide (p.1 < x) = decide (i < ((es.map En.pr).filter fun p => decide (p.1 < x)).length) := by
  intro i p hp
  obtain ⟨y, rfl⟩ := one_ex hx
  refine prefix_idx (f := fun p : List Nat × Option (List Nat) => decide (p.1 < [y])) ((names_up hs).imp fun {a b} ⟨u, v, e1, e2, huv⟩ hb => ?_) hp
  simp only [e1, e2, one_lt, decide_eq_true_eq] at hb ⊢
  omega
theorem cnt_R {es : List En} (hs : es.Pairwise En.lt) {x : List Nat} (hx : x.length = 1) : ∀ i p, (es.map En.pr)[i]? = some p → decide (x < p.1) = decide (((es.map En.pr).filter fun p => !decide (x < p.1)).length ≤ i) := by
  intro i p hp
  obtain ⟨y, rfl⟩ := one_ex hx
  have := prefix_idx (f := fun p : List Nat × Option (List Nat) => !decide ([y] < p.1)) ((names_up hs).imp fun {a b} ⟨u, v, e1, e2, huv⟩ hb => by
    simp only [e1, e2, one_lt, Bool.not_eq_true', decide_eq_false_iff_not] at hb ⊢
    omega) hp
  have h2 : decide ([y] < p.1) = !decide (i < ((es.map En.pr).filter fun p => !decide ([y] < p.1)).length) := by rw [← this, Bool.not_not]
  rw [h2]
  by_cases hi : i < ((es.map En.pr).filter fun p => !decide ([y] < p.1)).length
  · rw [decide_eq_true hi, decide_eq_false (by omega)]; rfl
  · rw [decide_eq_false hi, decide_eq_true (by omega)]; rfl
theorem cntL_eq (e : En) (es : List En) : ((es.map En.pr).filter fun p => decide (p.1 < [nmc e.r])).length = cntL e es := by
  unfold cntL
  rw [List.filter_map, List.length_map]
  congr 2
  funext x
  exact one_lt _ _
theorem cntR_eq (e : En) (es : List En) : ((es.map En.pr).filter fun p => !decide ([nmc e.r] < p.1)).length = cntR e es := by
  unfold cntR
  rw [List.filter_map, List.length_map]
  congr 2
  funext x
  exact congrArg (!·) (one_lt _ _)
theorem cntL_le (e : En) (es : List En) : cntL e es ≤ es.length := List.length_filter_le _ _
theorem cntR_le (e : En) (es : List En) : cntR e es ≤ es.length := List.length_filter_le _ _
theorem JW_all {es : List En} (hf : ∀ e ∈ es, e.f < 6) : ∀ (i : Nat) p, (es.map En.pr)[i]? = some p → ∃ w, (es.map En.tx)[i]? = some w ∧ JW p w := by
  intro i p hp
  rw [List.getElem?_map] at hp
  cases he : es[i]? with
  | none => rw [he] at hp; cases hp
  | some e =>
    rw [he] at hp
    cases hp
    exact ⟨e.tx, by rw [List.getElem?_map, he]; rfl, JW_word e.w (hf e (List.mem_of_getElem? he))⟩
theorem tx_f {es : List En} (hf : ∀ e ∈ es, e.f < 6) : ∀ w ∈ es.map En.w, w.2 < 6 := by
  intro w hw
  obtain ⟨e, he, rfl⟩ := List.mem_map.mp hw
  exact hf e he
theorem RD_tx {es : List En} (hf : ∀ e ∈ es, e.f < 6) (h9 : es.length ≤ 900) : ∃ k, RD k (tx es) (es.map En.pr) := by
  have := RD_txt (es.map En.w) (tx_f hf) (by have := tx_le es; unfold tx at this; omega)
  rw [pr_w] at this; exact this
/-- all that the last function asks of the row -/
theorem heads_facts {es : List En} (hf : ∀ e ∈ es, e.f < 6) (h9 : es.length ≤ 30) {k : Nat} (hk1 : 1 ≤ k) (hk2 : k ≤ es.length) :
    ∃ (st : Nat) (wl : List Nat) (cn : Nat → Nat), st = (jn [59, 32] ((es.map En.tx).take (k - 1) ++ [[]])).length ∧ (es.map En.tx).getLast? = some wl ∧ wl.length ≤ (tx es).length ∧ st ≤ (tx es).length ∧
      (∀ place, place ≤ (tx es).length → ∃ kk qs, RD kk ((tx es).take place) qs ∧ qs.length = cn place ∧ qs.length ≤ 1000) ∧
      (∀ place, place ≤ (tx es).length → decide (cn place < k) = decide (place < st + 1)) ∧
      (∀ place, place ≤ (tx es).length → decide ((es.map En.tx).length - 1 < cn place) = decide ((tx es).length - wl.length + 1 ≤ place)) ∧
      (∃ kk, RD kk ((tx es).take st) ((es.map En.pr).take (k - 1))) ∧ ∃ kk, RD kk ((tx es).drop st) ((es.map En.pr).drop (k - 1)) := by
  have hz := tx_le es
  have hlast : ∃ fs e, es = fs ++ [e] := by
    rcases List.eq_nil_or_concat es with h | ⟨fs, e, h⟩
    · rw [h] at hk2; simp at hk2; omega
    · exact ⟨fs, e, by rw [h]; simp⟩
  obtain ⟨fs, e, hfe⟩ := hlast
  have htl : (tx es).length = pos (es.map En.w) (es.length - 1) + e.tx.length := by
    have := txt_len (fs.map En.w) e.w
    have e1 : fs.map En.w ++ [e.w] = es.map En.w := by rw [hfe]; simp
    rw [e1] at this
    have e2 : (fs.map En.w).length = es.length - 1 := by rw [hfe]; simp
    rw [e2] at this
    exact this
  have hbl : ∀ ws : List (Nat × Nat), ∀ p, begun ws p ≤ ws.length := by
    intro ws
    induction ws with
    | nil => intro p; simp [begun]
    | cons w ws ih => intro p; unfold begun; split <;> (try simp); have := ih (p - (wtx w).length - 2); omega
  have hwlen : (es.map En.w).length = es.length := by simp
  obtain ⟨s1, s2, s3⟩ := txt_split (es.map En.w) (k - 1) (by rw [hwlen]; omega)
  refine ⟨pos (es.map En.w) (k - 1), e.tx, begun (es.map En.w), ?_, ?_, ?_, s3, ?_, ?_, ?_, ?_, ?_⟩
  · unfold pos; rw [tx_w]
  · rw [hfe]; simp
  · omega
  · intro place hp
    obtain ⟨kk, qs, h1, h2⟩ := RD_head (es.map En.w) (tx_f hf) (by unfold tx at hz; omega) place hp
    refine ⟨kk, qs, h1, h2, ?_⟩
    rw [h2]
    have := hbl (es.map En.w) place
    omega
  · intro place hp
    have := begun_iff (es.map En.w) (k - 1) place (by rw [hwlen]; omega)
    by_cases h : begun (es.map En.w) place < k
    · rw [decide_eq_true h, decide_eq_true (by omega)]
    · rw [decide_eq_false h, decide_eq_false (by omega)]
  · intro place hp
    have := begun_iff (es.map En.w) (es.length - 1) place (by rw [hwlen]; omega)
    have e3 : (es.map En.tx).length = es.length := by simp
    rw [e3]
    by_cases h : es.length - 1 < begun (es.map En.w) place
    · rw [decide_eq_true h, decide_eq_true (by omega)]
    · rw [decide_eq_false h, decide_eq_false (by omega)]
  · have e4 : (tx es).take (pos (es.map En.w) (k - 1)) = _ := s2
    rw [e4, ← pr_w, ← List.map_take (f := wpr)]
    by_cases hk : k - 1 = 0
    · rw [if_pos hk, hk]
      exact ⟨0, RD.nil⟩
    · rw [if_neg hk]
      refine RD_txt_sep _ (fun h => ?_) (fun w hw => tx_f hf w (List.mem_of_mem_take hw)) ?_
      · have := congrArg List.length h
        rw [List.length_take, hwlen, List.length_nil] at this
        omega
      · have := txt_le ((es.map En.w).take (k - 1))
        rw [List.length_take, hwlen] at this
        omega
  · have e5 : (tx es).drop (pos (es.map En.w) (k - 1)) = _ := s1
    rw [e5, ← pr_w, ← List.map_drop (f := wpr)]
    refine RD_txt _ (fun w hw => tx_f hf w (List.mem_of_mem_drop hw)) ?_
    have := txt_le ((es.map En.w).drop (k - 1))
    rw [List.length_drop, hwlen] at this
    omega
/-! the list of entries, sorted -/
inductive A2 {α β : Type} (R : α → β → Prop) : List α → List β → Prop
  | nil : A2 R [] []
  | cons {a : α} {b : β} {l : List α} {r : List β} : R a b → A2 R l r → A2 R (a :: l) (b :: r)
theorem A2.mono {α β : Type} {R R' : α → β → Prop} {l : List α} {r : List β} (h : A2 R l r) (hr : ∀ a b, R a b → R' a b) : A2 R' l r := by
  induction h with
  | nil => exact .nil
  | cons h _ ih => exact .cons (hr _ _ h) ih
theorem A2.length {α β : Type} {R : α → β → Prop} {l : List α} {r : List β} (h : A2 R l r) : l.length = r.length := by
  induction h with
  | nil => rfl
  | cons _ _ ih => simp [ih]
theorem A2.append {α β : Type} {R : α → β → Prop} {l l' : List α} {r r' : List β} (h : A2 R l r) (h' : A2 R l' r') : A2 R (l ++ l') (r ++ r') := by
  induction h with
  | nil => exact h'
  | cons h _ ih => exact .cons h ih
theorem A2.getD {α β : Type} {R : α → β → Prop} {l : List α} {r : List β} (h : A2 R l r) (a : α) (b : β) : ∀ i, i < r.length → R (l.getD i a) (r.getD i b) := by
  induction h with
  | nil => intro i hi; simp at hi
  | cons h _ ih =>
    intro i hi
    cases i with
    | zero => exact h
    | succ i => simpa using ih i (by simpa using hi)
theorem A2.ofMap {α β γ : Type} {R : α → β → Prop} {f : γ → α} {g : γ → β} : ∀ {L : List γ}, (∀ x ∈ L, R (f x) (g x)) → A2 R (L.map f) (L.map g)
  | [], _ => .nil
  | x :: L, h => .cons (h x (.head _)) (A2.ofMap fun y hy => h y (.tail _ hy))
theorem A2.mem {α β : Type} {R : α → β → Prop} {l : List α} {r : List β} (h : A2 R l r) : ∀ a ∈ l, ∃ b ∈ r, R a b := by
  induction h with
  | nil => intro a ha; cases ha
  | cons h _ ih =>
    intro a ha
    rcases List.mem_cons.mp ha with rfl | ha
    · exact ⟨_, .head _, h⟩
    · obtain ⟨b, hb, hr⟩ := ih a ha; exact ⟨b, .tail _ hb, hr⟩
/-- an entry of the list known -/
def EntIs (nw : Nw) (v : Value) (e : En) : Prop := ∃ a t t' pA t2, v = .ref a ∧ (a, tupO [.str (S [nmc e.r]) t, .int e.o t', .ref pA, .str (S e.tx) t2]) ∈ nw ∧ PairIs nw (.ref pA) e.pr
theorem EntIs.mono {nw nw' : Nw} {v : Value} {e : En} (h : EntIs nw v e) (hs : ∀ q ∈ nw, (∃ us, q.2 = tupO us) → q ∈ nw') : EntIs nw' v e := by
  obtain ⟨a, t, t', pA, t2, e1, hm, b, tb, u, e2, hm2, ho⟩ := h
  exact ⟨a, t, t', pA, t2, e1, hs _ hm ⟨_, rfl⟩, b, tb, u, e2, hs _ hm2 ⟨_, rfl⟩, ho⟩
theorem go_congr {α : Type} {n : Nat} {lt lt' : Nat → Nat → Bool} (h : ∀ i j, i < n → j < n → lt i j = lt' i j) : ∀ t : KasT α, kgo n lt t = kgo n lt' t
  | .ret a => rfl
  | .ask i j k => by
    unfold kgo
    split
    · rename_i hij
      rw [h i j hij.1 hij.2]
      exact go_congr h _
    · rfl
/-! the rows of names and sides that can come, each sorted once -/
theorem En.lt_irrefl (a : En) : ¬ En.lt a a := by unfold En.lt; omega
theorem En.lt_asymm {a b : En} (h : En.lt a b) : ¬ En.lt b a := by unfold En.lt at *; omega
theorem sorted_one : ∀ {l r : List En}, l.Perm r → l.Pairwise En.lt → r.Pairwise En.lt → l = r
  | [], r, hp, _, _ => by
    have := hp.symm.eq_nil
    rw [this]
  | a :: l, [], hp, _, _ => by
    have := hp.length_eq
    simp at this
  | a :: l, b :: r, hp, hl, hr => by
    rw [List.pairwise_cons] at hl hr
    have hab : a = b := by
      apply Classical.byContradiction
      intro hne
      have h1 : a ∈ b :: r := hp.mem_iff.mp (.head _)
      have h2 : b ∈ a :: l := hp.mem_iff.mpr (.head _)
      rcases List.mem_cons.mp h1 with e | h1
      · exact hne e
      rcases List.mem_cons.mp h2 with e | h2
      · exact hne e.symm
      exact En.lt_asymm (hl.1 b h2) (hr.1 a h1)
    subst hab
    rw [sorted_one (List.Perm.cons_inv hp) hl.2 hr.2]
def oddN (N : Int) : Bool := (N.fdiv 18).fmod 2 == 1
def cf (N : Int) : Nat × Bool := (rOf N, oddN N)
def ordC (b : Bool) (j : Nat) : Int := match b with
  | true => -(j : Int) - 1
  | false => (j : Int) + 1
theorem ordC_inj {a b : Bool} {i j : Nat} (h : ordC a i = ordC b j) : i = j := by
  cases a <;> cases b <;> simp only [ordC] at h <;> omega
def enOf (N : Int) (j : Nat) : En := ⟨rOf N, fOf N, ordC (oddN N) j⟩
def ens : Nat → List Int → List En
  | _, [] => []
  | j, N :: r => enOf N j :: ens (j + 1) r
theorem ens_snoc (N : Int) : ∀ (l : List Int) (j : Nat), ens j (l ++ [N]) = ens j l ++ [enOf N (j + l.length)]
  | [], j => rfl
  | M :: l, j => by
    show enOf M j :: ens (j + 1) (l ++ [N]) = _
    rw [ens_snoc N l (j + 1)]
    show _ = enOf M j :: (ens (j + 1) l ++ [enOf N (j + (l.length + 1))])
    rw [show j + 1 + l.length = j + (l.length + 1) by omega]
theorem ens_len : ∀ (l : List Int) (j : Nat), (ens j l).length = l.length
  | [], _ => rfl
  | M :: l, j => by simp [ens, ens_len l (j + 1)]
def kC (C : List (Nat × Bool)) (i : Nat) : List Nat × Int := ([nmc (C.getD i (0, false)).1], ordC (C.getD i (0, false)).2 i)
def ltC (C : List (Nat × Bool)) (i j : Nat) : Bool := klt (kC C i) (kC C j)
theorem ens_key : ∀ (l : List Int) (j i : Nat), i < l.length → ekey ((ens j l).getD i ⟨0, 0, 0⟩) = ([nmc ((l.map cf).getD i (0, false)).1], ordC ((l.map cf).getD i (0, false)).2 (j + i))
  | [], _, _, h => by simp at h
  | M :: l, j, 0, _ => rfl
  | M :: l, j, i + 1, h => by
    have := ens_key l (j + 1) i (by simpa using h)
    rw [show j + 1 + i = j + (i + 1) by omega] at this
    simpa [ens] using this
def srt (C : List (Nat × Bool)) : List Nat → Bool
  | [] => true
  | x :: l => (l.all fun y => ltC C x y) && srt C l
theorem srt_pw {C : List (Nat × Bool)} : ∀ {l : List Nat}, srt C l = true → l.Pairwise fun x y => ltC C x y = true
  | [], _ => .nil
  | x :: l, h => by
    unfold srt at h
    rw [Bool.and_eq_true, List.all_eq_true] at h
    exact .cons h.1 (srt_pw h.2)
def chk (C : List (Nat × Bool)) : Bool := match kgo C.length (ltC C) (kas_sort C.length) with
  | some a => a.toList.isPerm (List.range C.length) && srt C a.toList
  | none => false
def codes : List (Nat × Bool) := [(0, false), (0, true), (1, false), (1, true), (2, false), (2, true)]
def fixed : List (Nat × Bool) := [(1, false), (0, false), (1, true), (1, false), (2, false)]
def chkUp (C : List (Nat × Bool)) : Bool := [2, 3, 4, 5, 6, 7].all fun i => Nat.blt C.length i || chk (C.take i)
theorem chk_0 : chkUp fixed = true := by decide +kernel
theorem chk_1 : (codes.all fun a => chkUp (a :: fixed)) = true := by decide +kernel
theorem chk_2 : (codes.all fun a => codes.all fun b => chkUp (a :: b :: fixed)) = true := by decide +kernel
theorem cf_mem (N : Int) : cf N ∈ codes := by
  have h := (rOf_lt N).2
  unfold cf
  generalize rOf N = r at h
  generalize oddN N = b
  match r, h, b with
  | 0, _, false => decide
  | 0, _, true => decide
  | 1, _, false => decide
  | 1, _, true => decide
  | 2, _, false => decide
  | 2, _, true => decide
/-- the numbers so far are sorted rightly -/
def Cfg (Ms : List Int) : Prop := 2 ≤ Ms.length → chk (Ms.map cf) = true
theorem Cfg_of {Ns : List Int} (h : chkUp (Ns.map cf) = true) (h7 : Ns.length ≤ 7) {i : Nat} (hi : i ≤ Ns.length) : Cfg (Ns.take i) := by
  intro h2
  rw [List.length_take] at h2
  have := List.all_eq_true.mp h i (by simp; omega)
  rw [Bool.or_eq_true] at this
  rcases this with h | h
  · have := Nat.le_of_ble_eq_true h
    rw [List.length_map] at this; omega
  · rw [List.map_take]; exact h
theorem Cfg_all (ns : List Int) {i : Nat} (hi : i ≤ (ns.take 2 ++ [10, 0, 31, 4, 17]).length) : Cfg ((ns.take 2 ++ [10, 0, 31, 4, 17]).take i) := by
  refine Cfg_of ?_ ?_ hi
  · have hf : ([10, 0, 31, 4, 17] : List Int).map cf = fixed := by decide +kernel
    rw [List.map_append, hf]
    match ns with
    | [] => exact chk_0
    | [a] => exact List.all_eq_true.mp chk_1 _ (cf_mem a)
    | a :: b :: _ => exact List.all_eq_true.mp (List.all_eq_true.mp chk_2 _ (cf_mem a)) _ (cf_mem b)
  · rw [List.length_append, List.length_take]; simp; omega
theorem H_sortedE {c : Cx} {m : Nm} {nw : Nw} {kA : Addr} {kvs : List Value} {kn : Nat} {ks es : List En} {Ms : List Int} {Q : Value → Nm → Nw → Prop} (hl : (kA, listO kvs kn) ∈ nw) (hk : A2 (EntIs nw) kvs ks) (h1 : 1 ≤ ks.length) (h7 : ks.length ≤ 7) (hks : ks = ens 0 Ms) (hcf : Cfg Ms) (hs : es.Pairwise En.lt) (hp : es.Perm ks)
    (h : ∀ D ovs k, A2 (EntIs nw) ovs es → Q (.ref D) m ((D, listO ovs k) :: nw)) : HH c m nw (call (.builtin "sorted") [.ref kA]) Q := by
  have hlen := hk.length
  by_cases h2 : 2 ≤ ks.length
  · have hml : Ms.length = ks.length := by rw [hks, ens_len]
    have hcl : (Ms.map cf).length = ks.length := by rw [List.length_map, hml]
    have hkey : ∀ i, i < ks.length → ekey (ks.getD i ⟨0, 0, 0⟩) = kC (Ms.map cf) i := fun i hi => by
      have := ens_key Ms 0 i (by omega)
      rw [hks, this, Nat.zero_add]; rfl
    have hck := hcf (by omega)
    unfold chk at hck
    rw [hcl] at hck
    have hgc := go_congr (n := ks.length) (lt := fun i j => klt (ekey (ks.getD i ⟨0, 0, 0⟩)) (ekey (ks.getD j ⟨0, 0, 0⟩))) (lt' := ltC (Ms.map cf)) (fun i j hi hj => by
      show klt _ _ = ltC _ _ _
      rw [hkey i hi, hkey j hj]; rfl) (kas_sort ks.length)
    cases hg : kgo ks.length (ltC (Ms.map cf)) (kas_sort ks.length) with
    | none => rw [hg] at hck; cases hck
    | some a =>
      rw [hg] at hck hgc
      rw [Bool.and_eq_true] at hck
      have hA : a.toList.Perm (List.range ks.length) := List.isPerm_iff.mp hck.1
      have hpw := srt_pw hck.2
      have hmem : ∀ i ∈ a.toList, i < ks.length := fun i hi => List.mem_range.mp (hA.mem_iff.mp hi)
      have hks2 : (List.range ks.length).map (fun i => ks.getD i ⟨0, 0, 0⟩) = ks := by
        apply List.ext_getElem
        · simp
        · intro i h1 h2
          simp [List.getD_eq_getElem?_getD, h2]
      have hes : es = a.toList.map fun i => ks.getD i ⟨0, 0, 0⟩ := by
        refine sorted_one (hp.trans ?_) hs ?_
        · have := hA.map fun i => ks.getD i ⟨0, 0, 0⟩
          rw [hks2] at this
          exact this.symm
        · rw [List.pairwise_map]
          refine hpw.imp_of_mem fun {x y} hx hy hxy => ?_
          refine klt_ekey.mp ?_
          rw [hkey x (hmem x hx), hkey y (hmem y hy)]
          exact hxy
      refine H_sorted2 (keys := fun i => ekey (ks.getD i ⟨0, 0, 0⟩)) (L := a.toList) hl (by omega) (by omega) ?_ ?_ ?_ fun D k => h D _ k ?_
      · intro i hi
        obtain ⟨b, t, t', pA, t2, e1, hm, _⟩ := hk.getD .none ⟨0, 0, 0⟩ i (by omega)
        exact ⟨b, t, t', _, _, e1, hm⟩
      · intro i j hi hj e
        have e' : ekey (ks.getD i ⟨0, 0, 0⟩) = ekey (ks.getD j ⟨0, 0, 0⟩) := e
        rw [hkey i (by omega), hkey j (by omega)] at e'
        exact ordC_inj (congrArg Prod.snd e')
      · rw [hlen]
        exact hgc
      · rw [hes]
        exact A2.ofMap fun i hi => hk.getD .none ⟨0, 0, 0⟩ i (hmem i hi)
  · cases hk with
    | nil => simp at h1
    | cons h0 hr =>
      cases hr with
      | cons _ _ => simp at h2
      | nil =>
        have : es = [_] := List.perm_singleton.mp hp
        subst this
        exact H_sorted1 hl fun D k => h D _ k (.cons h0 .nil)
set_option maxHeartbeats 1000000
def lawTurn : List Stmt := match nthS (bodyAt 23) 5 with | some (.For _ _ b _ _) => b | _ => []
abbrev envL (fl0 L : Addr) : Env := envF 23 "law" fl0 156 L
theorem nw_one {a : Addr} {o o' : Obj} {nw : Nw} (nd : (nw.map (·.1)).Nodup) (h : (a, o) ∈ nw) (h' : (a, o') ∈ nw) : o = o' := by
  have e := (nw_lookup nd h).symm.trans (nw_lookup nd h')
  exact Option.some.inj e
theorem tupO_inj {us vs : List Value} (h : tupO us = tupO vs) : us = vs := by
  have := congrArg Obj.data h
  simpa using this
def F3 (nw : Nw) (v y : Value) : Prop := ∃ a u1 u2 u3, v = .ref a ∧ (a, tupO [u1, u2, u3, y]) ∈ nw
def F2 (nw : Nw) (v y : Value) : Prop := ∃ a u1 u2 u3, v = .ref a ∧ (a, tupO [u1, u2, y, u3]) ∈ nw
theorem words_of {nw : Nw} (nd : (nw.map (·.1)).Nodup) {ovs : List Value} {es : List En} (h : A2 (EntIs nw) ovs es) : ∀ {ys : List Value}, Paired (F3 nw) ovs ys → ∃ wts : List (List Nat × Tok), ys = strVs wts ∧ wts.map (·.1) = es.map En.tx := by
  induction h with
  | nil => intro ys hp; cases hp; exact ⟨[], rfl, rfl⟩
  | @cons v0 e l r h _ ih =>
    intro ys hp
    cases hp with
    | cons h1 h2 =>
      obtain ⟨wts, e1, e2⟩ := ih h2
      obtain ⟨a, t, t', pA, t2, rfl, hm, _⟩ := h
      obtain ⟨a', u1, u2, u3, e3, hm'⟩ := h1
      cases e3
      have := tupO_inj (nw_one nd hm hm')
      simp only [List.cons.injEq] at this
      refine ⟨(e.tx, t2) :: wts, ?_, by simp [e2]⟩
      rw [e1, ← this.2.2.2.1]
      rfl
theorem pairs_of {nw : Nw} (nd : (nw.map (·.1)).Nodup) {ovs : List Value} {es : List En} (h : A2 (EntIs nw) ovs es) : ∀ {ys : List Value}, Paired (F2 nw) ovs ys → Tups nw ys (es.map En.pr) := by
  induction h with
  | nil => intro ys hp; cases hp; exact .nil
  | cons h _ ih =>
    intro ys hp
    cases hp with
    | cons h1 h2 =>
      obtain ⟨a, t, t', pA, t2, rfl, hm, hpr⟩ := h
      obtain ⟨a', u1, u2, u3, e3, hm'⟩ := h1
      cases e3
      have := tupO_inj (nw_one nd hm hm')
      simp only [List.cons.injEq] at this
      refine .cons ?_ (ih h2)
      rw [← this.2.2.1]; exact hpr
theorem rest_ok {c : Cx} {fl0 : Addr} {m : Nm} {nw : Nw} {rA kA : Addr} {rvs kvs : List Value} {rn kn : Nat} {ks es : List En} {Ms : List Int} {Q : Flow → Nm → Nw → Prop} (hroom : c.d < 800) (hcu : c.u + 100 < cLine)
    (hmr : m.lookup (Str.ofString "row") = some (.ref rA)) (hmk : m.lookup (Str.ofString "known") = some (.ref kA))
    (hr : (rA, listO rvs rn) ∈ nw) (htu : Tups nw rvs (es.map En.pr)) (hk : (kA, listO kvs kn) ∈ nw) (hke : A2 (EntIs nw) kvs ks)
    (h1 : 1 ≤ ks.length) (h7 : ks.length ≤ 7) (hks : ks = ens 0 Ms) (hcf : Cfg Ms) (hs : es.Pairwise En.lt) (hp : es.Perm ks) (hf : ∀ e ∈ es, e.f < 6)
    (h : ∀ tt oA wA wts wn, wts.map (·.1) = es.map En.tx → Q .next ((Str.ofString "words", .ref wA) :: (Str.ofString "order", .ref oA) :: (Str.ofString "text", .str (S (tx es)) tt) :: m) ((wA, listO (strVs wts) wn) :: nw)) :
    HH c m nw (execs (lawTurn.drop 3) (envL fl0 c.L)) Q := by
  have hlen := hp.length_eq
  show HH _ _ _ (execs (_ :: _) _) _
  -- text
  walk_at "ex"
  walk_at "ev"
  walk_at "ev"
  refine H_callWith_K (fl_87 _) rfl ?_
  walk_at "ev"
  walk_at "ev"
  walk_at "ev"
  walk_at "ev"
  walk_at "ev"
  refine ⟨by simp, fun la => ?_⟩
  walk_at "ev"
  refine join_ok (ws := es.map En.tx) (ps := es.map En.pr) (by omega) (.head _) (.tail _ hr) (htu.mono fun q hq => .tail _ hq) (by simp) (JW_all hf) ?_ (by simp; omega) ?_ fun tt => ?_
  · intro e
    have := congrArg List.length e
    simp at this
    rw [this] at hlen; simp at hlen; omega
  · intro w hw
    obtain ⟨e, _, rfl⟩ := List.mem_map.mp hw
    have := wtx_le e.w
    show (wtx e.w).length ≤ _
    omega
  rw [tx_jn]
  refine H_wk (nw' := nw) (Sb.drop Sb.refl) ?_
  -- order
  walk_at "ex"
  walk_at "ev"
  walk_at "ev"
  refine H_callWith_b ?_
  walk_at "ev"
  walk_at "ev"
  walk_at "ev"
  refine H_sortedE hk hke h1 h7 hks hcf hs hp fun oA ovs ok hov => ?_
  refine H_nodup fun nd => ?_
  have hov' : A2 (EntIs ((oA, listO ovs ok) :: nw)) ovs es := hov.mono fun v e he => he.mono fun q hq _ => .tail _ hq
  have hol : ovs.length = es.length := hov.length
  -- words
  refine H_Assign_lc (cl := []) (by kernel_rfl) (by kernel_rfl) (by decide +kernel) (by decide +kernel) ?_
  walk_at "ev"
  refine ⟨oA, ovs, ok, fun _ => true, F3 ((oA, listO ovs ok) :: nw), rfl, .head _, by omega, fun A s₁ G => lc_item (k := 3) G (by kernel_rfl) (by decide) ?_ (fun a t => by with_unfolding_all rfl), fun wA ys wn hF => ?_⟩
  · intro v hv
    obtain ⟨e, _, a, t, t', pA, t2, rfl, hm, _⟩ := hov'.mem v hv
    exact ⟨a, _, _, rfl, hm, rfl, a, _, _, _, rfl, hm⟩
  rw [List.filter_eq_self.mpr (fun _ _ => rfl)] at hF
  obtain ⟨wts, rfl, hwts⟩ := words_of nd hov' hF
  refine H_nodup fun nd2 => ?_
  have hov2 : A2 (EntIs ((wA, listO (strVs wts) wn) :: (oA, listO ovs ok) :: nw)) ovs es := hov'.mono fun v e he => he.mono fun q hq _ => .tail _ hq
  -- the test
  walk_at "ex"
  refine H_isTrue_Or ?_
  refine H_isTrue_Compare ?_
  walk_at "ev"
  refine H_lc (cl := []) (by kernel_rfl) (by decide +kernel) ?_
  walk_at "ev"
  refine ⟨oA, ovs, ok, fun _ => true, F2 ((wA, listO (strVs wts) wn) :: (oA, listO ovs ok) :: nw), rfl, .tail _ (.head _), by omega, fun A s₁ G => lc_item (k := 2) G (by kernel_rfl) (by decide) ?_ (fun a t => by with_unfolding_all rfl), fun pA ys pn hF2 => ?_⟩
  · intro v hv
    obtain ⟨e, _, a, t, t', pA, t2, rfl, hm, _⟩ := hov2.mem v hv
    exact ⟨a, _, _, rfl, hm, rfl, a, _, _, _, rfl, hm⟩
  rw [List.filter_eq_self.mpr (fun _ _ => rfl)] at hF2
  have hps := pairs_of nd2 hov2 hF2
  refine H_ne_rows (ps := es.map En.pr) (.tail _ (.tail _ (.tail _ hr))) (.head _) (htu.mono fun q hq => .tail _ (.tail _ (.tail _ hq))) (hps.mono fun q hq => .tail _ hq) (by omega) ?_
  refine H_truthy_bool (Br_false ?_)
  refine H_isTrue_Compare ?_
  walk_at "ev"
  refine H_Call_method F.plainAttrs_str F.slot_str_join F.type_str_join ?_
  walk_at "ev"
  refine ⟨TyAt.str, H_callWith_b ?_⟩
  walk_at "ev"
  walk_at "ev"
  walk_at "ev"
  refine H_join (sep := [59, 32]) (l := wts) (n := wn) (.tail _ (.head _)) ?_ fun t9 => ?_
  · have := joinOk_small (sep := [59, 32]) (ls := es.map En.tx) (by simp) (by simp; omega) (by
      intro w hw
      obtain ⟨e, _, rfl⟩ := List.mem_map.mp hw
      have := wtx_le e.w
      show (wtx e.w).length ≤ _
      omega)
    rw [← hwts, List.map_map] at this; exact this
  have hje : Txt.join (S [59, 32]) (wts.map fun p : List Nat × Tok => S p.1) = S (tx es) := by
    rw [← tx_jn, ← join_S, ← hwts, List.map_map]; rfl
  rw [hje]
  refine H_ne_str (H_truthy_bool ?_)
  rw [show (tx es != tx es) = false by simp]
  refine Br_false (H_nil (Then_next ?_))
  refine H_wk (nw' := (wA, listO (strVs wts) wn) :: nw) (by walk_at "sb") (H_nil ?_)
  exact h tt oA wA wts wn hwts
set_option maxHeartbeats 1000000
/-- what holds between the turns -/
def Inv (nA : Addr) (nvs : List Value) (Ns : List Int) (kA : Addr) (i : Nat) (m : Nm) (nw : Nw) : Prop :=
  ∃ (ks es : List En) (kvs : List Value) (kn : Nat) (tt : Tok) (T : Nw) (rA : Addr) (rvs : List Value) (rn : Nat) (wA : Addr) (wts : List (List Nat × Tok)) (wn : Nat),
    nw = (nA, listO nvs) :: (kA, listO kvs kn) :: T ∧ m.lookup (Str.ofString "numbers") = some (.ref nA) ∧ m.lookup (Str.ofString "known") = some (.ref kA) ∧ m.lookup (Str.ofString "text") = some (.str (S (tx es)) tt) ∧
    m.lookup (Str.ofString "row") = some (.ref rA) ∧ m.lookup (Str.ofString "words") = some (.ref wA) ∧ (rA, listO rvs rn) ∈ T ∧ Tups T rvs (es.map En.pr) ∧ (wA, listO (strVs wts) wn) ∈ T ∧ wts.map (·.1) = es.map En.tx ∧
    A2 (EntIs T) kvs ks ∧ ks.length = i ∧ ks = ens 0 (Ns.take i) ∧ (∀ e ∈ ks, e.f < 6 ∧ -(i : Int) ≤ e.o ∧ e.o ≤ i) ∧ es.Pairwise En.lt ∧ es.Perm ks
theorem after_ok {c : Cx} {fl0 : Addr} {m : Nm} {nA kA it r kE pA : Addr} {o : Obj} {nvs rvs kvs : List Value} {Ns : List Int} {rn kn i : Nat} {T : Nw} {ks es : List En} {e : En} {t t1 t2 : Tok} {t' : Tok} {u : Value}
    (hroom : c.d < 800) (hcu : c.u + 100 < cLine) (hmn : m.lookup (Str.ofString "numbers") = some (.ref nA)) (hmk : m.lookup (Str.ofString "known") = some (.ref kA)) (hmr : m.lookup (Str.ofString "row") = some (.ref r))
    (htu : Tups ((pA, tupO [.str (S [nmc e.r]) t1, u]) :: T) rvs (es.map En.pr)) (hu : OptIs u (val e.f)) (hke : A2 (EntIs T) kvs ks) (hi : ks.length = i) (h7 : i + 1 ≤ 7)
    (hb : ∀ x ∈ ks, x.f < 6 ∧ -(i : Int) ≤ x.o ∧ x.o ≤ i) (hf : e.f < 6) (ho : -((i : Int) + 1) ≤ e.o ∧ e.o ≤ i + 1) (hs : es.Pairwise En.lt) (hp : es.Perm (ks ++ [e])) (hks : ks ++ [e] = ens 0 (Ns.take (i + 1))) (hcf : Cfg (Ns.take (i + 1))) :
    HH c m ((kE, tupO [.str (S [nmc e.r]) t, .int e.o t', .ref pA, .str (S e.tx) t2]) :: (r, listO rvs rn) :: (pA, tupO [.str (S [nmc e.r]) t1, u]) :: (it, o) :: (nA, listO nvs) :: (kA, listO (kvs ++ [.ref kE]) kn) :: T)
      (execs (lawTurn.drop 3) (envL fl0 c.L)) fun fl m₂ nw₂ => fl = .next ∧ ∃ nw₃, Sb ((it, o) :: nw₃) nw₂ ∧ ∃ nwI, Sb nwI nw₃ ∧ Inv nA nvs Ns kA (i + 1) m₂ nwI := by
  have hent : ∀ NW : Nw, (kE, tupO [.str (S [nmc e.r]) t, .int e.o t', .ref pA, .str (S e.tx) t2]) ∈ NW → (pA, tupO [.str (S [nmc e.r]) t1, u]) ∈ NW → EntIs NW (.ref kE) e := fun NW h1 h2 => ⟨kE, t, t', pA, t2, rfl, h1, pA, t1, u, rfl, h2, hu⟩
  have hbe : ∀ x ∈ ks ++ [e], x.f < 6 ∧ -((i + 1 : Nat) : Int) ≤ x.o ∧ x.o ≤ (i + 1 : Nat) := by
    intro x hx
    rcases List.mem_append.mp hx with hx | hx
    · have := hb x hx; omega
    · rw [List.mem_singleton.mp hx]; omega
  have hkl : (ks ++ [e]).length = i + 1 := by simp [hi]
  refine rest_ok (rA := r) (kA := kA) (rvs := rvs) (kvs := kvs ++ [.ref kE]) (ks := ks ++ [e]) (es := es) hroom hcu hmr hmk (.tail _ (.head _)) ?_ (.tail _ (.tail _ (.tail _ (.tail _ (.tail _ (.head _)))))) ?_ (by omega) (by omega) hks hcf hs hp ?_ fun tt oA wA wts wn hwts => ?_
  · refine htu.mono fun q hq => ?_
    rcases List.mem_cons.mp hq with rfl | hq
    · exact .tail _ (.tail _ (.head _))
    · exact .tail _ (.tail _ (.tail _ (.tail _ (.tail _ (.tail _ hq)))))
  · refine (hke.mono fun v x hx => hx.mono fun q hq _ => .tail _ (.tail _ (.tail _ (.tail _ (.tail _ (.tail _ hq)))))).append (.cons (hent _ (.head _) (.tail _ (.tail _ (.head _)))) .nil)
  · intro x hx
    exact (hbe x (hp.mem_iff.mp hx)).1
  · have hperm : List.Perm ((it, o) :: (nA, listO nvs) :: (kA, listO (kvs ++ [Value.ref kE]) kn) :: (wA, listO (strVs wts) wn) :: (kE, tupO [Value.str (S [nmc e.r]) t, Value.int e.o t', Value.ref pA, Value.str (S e.tx) t2]) :: (r, listO rvs rn) :: (pA, tupO [Value.str (S [nmc e.r]) t1, u]) :: T) ((wA, listO (strVs wts) wn) :: (kE, tupO [Value.str (S [nmc e.r]) t, Value.int e.o t', Value.ref pA, Value.str (S e.tx) t2]) :: (r, listO rvs rn) :: (pA, tupO [Value.str (S [nmc e.r]) t1, u]) :: (it, o) :: (nA, listO nvs) :: (kA, listO (kvs ++ [Value.ref kE]) kn) :: T) :=
      (List.perm_append_comm (l₁ := [(it, o), (nA, listO nvs), (kA, listO (kvs ++ [Value.ref kE]) kn)]) (l₂ := [(wA, listO (strVs wts) wn), (kE, tupO [Value.str (S [nmc e.r]) t, Value.int e.o t', Value.ref pA, Value.str (S e.tx) t2]), (r, listO rvs rn), (pA, tupO [Value.str (S [nmc e.r]) t1, u])])).append_right T
    refine ⟨rfl, (nA, listO nvs) :: (kA, listO (kvs ++ [Value.ref kE]) kn) :: (wA, listO (strVs wts) wn) :: (kE, tupO [Value.str (S [nmc e.r]) t, Value.int e.o t', Value.ref pA, Value.str (S e.tx) t2]) :: (r, listO rvs rn) :: (pA, tupO [Value.str (S [nmc e.r]) t1, u]) :: T, Sb.perm hperm, _, Sb.refl, ?_⟩
    refine ⟨ks ++ [e], es, kvs ++ [.ref kE], kn, tt, (wA, listO (strVs wts) wn) :: (kE, tupO [.str (S [nmc e.r]) t, .int e.o t', .ref pA, .str (S e.tx) t2]) :: (r, listO rvs rn) :: (pA, tupO [.str (S [nmc e.r]) t1, u]) :: T, r, rvs, rn, wA, wts, wn, rfl, ?_, ?_, ?_, ?_, ?_, .tail _ (.tail _ (.head _)), ?_, .head _, hwts, ?_, hkl, hks, hbe, hs, hp⟩
    · walk_at "lk"
    · walk_at "lk"
    · walk_at "lk"
    · walk_at "lk"
    · walk_at "lk"
    · exact htu.mono fun q hq => .tail _ (.tail _ (.tail _ hq))
    · exact (hke.mono fun v x hx => hx.mono fun q hq _ => .tail _ (.tail _ (.tail _ (.tail _ hq)))).append (.cons (hent _ (.tail _ (.head _)) (.tail _ (.tail _ (.tail _ (.head _))))) .nil)
set_option maxHeartbeats 2000000
theorem ints_get {vs : List Value} {ns : List Int} (h : IntsAre vs ns) : ∀ i, i < ns.length → ∃ N t, ns[i]? = some N ∧ vs[i]? = some (.int N t) := by
  induction h with
  | nil => intro i hi; simp at hi
  | cons n t _ ih =>
    intro i hi
    cases i with
    | zero => exact ⟨n, t, rfl, rfl⟩
    | succ i => simpa using ih i (by simpa using hi)
theorem ints_len {vs : List Value} {ns : List Int} (h : IntsAre vs ns) : vs.length = ns.length := by
  induction h with
  | nil => rfl
  | cons n t _ ih => simp [ih]
theorem sb_swap {X T' T : Nw} : Sb (X ++ (T' ++ T)) (T' ++ (X ++ T)) := by
  refine Sb.perm ?_
  rw [← List.append_assoc, ← List.append_assoc]
  exact List.perm_append_comm.append_right T
theorem ins_tups {pA : Addr} {T T' : Nw} {vs : List Value} {es : List En} {e : En} {t1 : Tok} {u : Value} {k : Nat} (htu : Tups T' vs (es.map En.pr)) (hu : OptIs u (val e.f)) :
    Tups ((pA, tupO [.str (S [nmc e.r]) t1, u]) :: (T' ++ T)) (vs.take k ++ .ref pA :: vs.drop k) ((insAt k e es).map En.pr) := by
  have h2 : Tups ((pA, tupO [.str (S [nmc e.r]) t1, u]) :: (T' ++ T)) vs (es.map En.pr) := htu.mono fun q hq => .tail _ (List.mem_append_left _ hq)
  rw [insAt_map]
  exact (h2.take k).append (.cons ⟨pA, t1, u, rfl, .head _, hu⟩ (h2.drop k))
theorem turn_ok {c : Cx} {fl0 : Addr} {nA kA it : Addr} {o : Obj} {nvs : List Value} {Ns : List Int} {i : Nat} {m : Nm} {nw : Nw} {t : Tok} {p : Pos} (hroom : c.d < 800) (hcu : c.u + 100 < cLine) (hI : IntsAre nvs Ns) (h7 : Ns.length ≤ 7) (hcf : ∀ k, k ≤ Ns.length → Cfg (Ns.take k)) (hi : i < Ns.length) (hinv : Inv nA nvs Ns kA i m nw) :
    HH c m ((it, o) :: nw) (assign (.Name (Str.ofString "turn") p) (envL fl0 c.L) (.int (i : Int) t)) fun _ m₁ nw₁ => HH c m₁ nw₁ (execs lawTurn (envL fl0 c.L)) fun fl m₂ nw₂ => fl = .next ∧ ∃ nw₃, Sb ((it, o) :: nw₃) nw₂ ∧ ∃ nwI, Sb nwI nw₃ ∧ Inv nA nvs Ns kA (i + 1) m₂ nwI := by
  obtain ⟨ks, es, kvs, kn, tt, T, rA, rvs, rn, wA, wts, wn, rfl, hmn, hmk, hmt, hmr, hmw, -, -, -, -, hke, hkl, hks, hb, hs, hp⟩ := hinv
  obtain ⟨N, tN, hNi, hN⟩ := ints_get hI i hi
  have hens : ks ++ [enOf N i] = ens 0 (Ns.take (i + 1)) := by
    rw [List.take_add_one, hNi, Option.toList_some, ens_snoc, ← hks, List.length_take, Nat.zero_add, Nat.min_eq_left (by omega)]
  have hel : es.length = i := by rw [hp.length_eq, hkl]
  have hfe : ∀ e ∈ es, e.f < 6 := fun e he => (hb e (hp.mem_iff.mp he)).1
  have hf6 := (fOf_lt N).2
  obtain ⟨kk, hrd⟩ := RD_tx hfe (by omega)
  have hz := tx_le es
  refine H_assignN (by decide +kernel) ?_
  show HH _ _ _ (execs (_ :: _) _) _
  walk_at "ex"
  walk_at "ev"
  walk_at "ev"
  refine H_callWith_K (fl_130 _) rfl ?_
  walk_at "ev"
  walk_at "ev"
  walk_at "ev"
  walk_at "ev"
  refine H_item_list (.tail _ (.head _)) (by omega) (by omega) (x := .int N tN) (by simpa using hN) ?_
  walk_at "ev"
  refine word_ok (by omega) fun tA pA u t1 t2 hopt => ?_
  refine ⟨_, _, _, rfl, .head _, ?_⟩
  walk_at "ex"
  walk_at "ev"
  walk_at "ev"
  refine H_callWith_K (fl_137 _) rfl ?_
  walk_at "ev"
  walk_at "ev"
  walk_at "ev"
  refine read_ok (ps := es.map En.pr) (by omega) hrd (by omega) (by simp; omega) fun r vs n T' htu => ?_
  have hvl : vs.length = es.length := by rw [htu.length]; simp
  refine H_wk (nw' := (r, listO vs n) :: (tA, tupO [.ref pA, .str (S (nmc (rOf N) :: wr (fOf N))) t2]) :: (pA, tupO [.str (S [nmc (rOf N)]) t1, u]) :: (it, o) :: (nA, listO nvs) :: (kA, listO kvs kn) :: (T' ++ T))
    (Sb.keep (sb_swap (X := [(tA, tupO [.ref pA, .str (S (nmc (rOf N) :: wr (fOf N))) t2]), (pA, tupO [.str (S [nmc (rOf N)]) t1, u]), (it, o), (nA, listO nvs), (kA, listO kvs kn)]))) ?_
  walk_at "ex"
  refine H_isTrue_Compare ?_
  walk_at "ev"
  walk_at "ev"
  walk_at "ev"
  walk_at "ev"
  walk_at "ev"
  refine H_item_list (.tail _ (.tail _ (.tail _ (.tail _ (.head _))))) (by omega) (by omega) (x := .int N tN) (by simpa using hN) ?_
  walk_at "ev"
  refine H_div_int (by decide) (by decide) fun t3 => ?_
  walk_at "ev"
  refine H_mod_int (by decide) fun t4 => ?_
  walk_at "ev"
  refine H_eq_int (H_truthy_bool (Br_of (fun hb1 => ?_) (fun hb1 => ?_)))
  · show HH _ _ _ (execs (_ :: _) _) _
    walk_at "ex"
    walk_at "ev"
    walk_at "ev"
    refine H_callWith_Kkw (fl_114 _) rfl ?_
    walk_at "ev"
    walk_at "ev"
    walk_at "ev"
    walk_at "ev"
    walk_at "ev"
    refine H_Lambda (P := 154) (clos := []) (by decide) (by decide +kernel) rfl (by kernel_rfl) fun fa pm cv ctv => ?_
    refine il_ok (x := .ref pA) (vs := vs) (n := n) (cnt := cntL ⟨rOf N, fOf N, -(i : Int) - 1⟩ es) (lt := fun j => decide (j < cntL ⟨rOf N, fOf N, -(i : Int) - 1⟩ es)) (P := fun kx => ∃ t, kx = .str (S [nmc (rOf N)]) t) (by omega) (.tail _ (.head _)) (.head _) rfl (by omega) ?_ ?_ (fun j _ => rfl) (by rw [hvl]; exact cntL_le _ _) (Up.tl Up.hd) ?_
    · intro c' m' hw hd
      refine H_callLam (x := Str.ofString "other") (.head _) (by omega) (by kernel_rfl) (cellFree.elim (by decide +kernel)) (by decide +kernel) rfl rfl rfl fun g' L2 => ?_
      walk_at "ev"
      walk_at "ev"
      walk_at "ev"
      refine H_item_tuple (k := 0) (.tail _ (.tail _ (.tail _ (.head _)))) (by decide) rfl ?_
      exact ⟨_, Sb.refl, rfl, rfl, _, rfl⟩
    · rintro _ ⟨tk, rfl⟩ c' m' j v hw hd hv
      obtain ⟨q, hqj, a, tq, uq, rfl, hmem, hoq⟩ := htu.get hv
      refine H_callLam (x := Str.ofString "other") (.head _) (by omega) (by kernel_rfl) (cellFree.elim (by decide +kernel)) (by decide +kernel) rfl rfl rfl fun g' L2 => ?_
      walk_at "ev"
      walk_at "ev"
      walk_at "ev"
      refine H_item_tuple (k := 0) (.tail _ (.tail _ (.tail _ (.tail _ (.tail _ (.tail _ (.tail _ (List.mem_append_left _ hmem)))))))) (by decide) rfl ?_
      refine ⟨_, Sb.refl, rfl, rfl, fun m3 Q3 hq3 => H_lt_str ?_⟩
      have := cnt_L hs (x := [nmc (rOf N)]) rfl j q hqj
      rw [cntL_eq ⟨rOf N, fOf N, -(i : Int) - 1⟩] at this
      rw [this]; exact hq3
    walk_at "ex"
    refine H_Call_method F.plainAttrs_list slot_list_append type_list_append ?_
    walk_at "ev"
    refine ⟨TyAt.led (o := listO kvs kn) (by walk_at "mem"), H_callWith_b ?_⟩
    walk_at "ev"
    walk_at "ev"
    walk_at "ev"
    walk_at "ev"
    walk_at "ev"
    walk_at "ev"
    refine H_item_tuple (k := 0) (.tail _ (.tail _ (.tail _ (.head _)))) (by decide) rfl ?_
    walk_at "ev"
    walk_at "ev"
    walk_at "ev"
    walk_at "ev"
    refine H_neg_int fun t5 => ?_
    walk_at "ev"
    refine H_sub_int fun t6 => ?_
    walk_at "ev"
    walk_at "ev"
    walk_at "ev"
    walk_at "ev"
    walk_at "ev"
    refine ⟨by simp, fun kE => ?_⟩
    walk_at "ev"
    apply H_append
    focus walk_at "up"
    focus (rw [hke.length]; omega)
    refine H_nil (Then_next ?_)
    refine H_wk (nw' := (kE, tupO [.str (S [nmc (rOf N)]) t1, .int (-(i : Int) - 1) t6, .ref pA, .str (S (nmc (rOf N) :: wr (fOf N))) t2]) :: (r, listO (vs.take (cntL ⟨rOf N, fOf N, -(i : Int) - 1⟩ es) ++ .ref pA :: vs.drop (cntL ⟨rOf N, fOf N, -(i : Int) - 1⟩ es)) (n + 1)) :: (pA, tupO [.str (S [nmc (rOf N)]) t1, u]) :: (it, o) :: (nA, listO nvs) :: (kA, listO (kvs ++ [.ref kE]) (kn + 1)) :: (T' ++ T)) (by walk_at "sb") ?_
    exact after_ok (e := ⟨rOf N, fOf N, -(i : Int) - 1⟩) (es := insAt (cntL ⟨rOf N, fOf N, -(i : Int) - 1⟩ es) ⟨rOf N, fOf N, -(i : Int) - 1⟩ es) (ks := ks) (i := i) hroom hcu (by walk_at "lk") (by walk_at "lk") (by walk_at "lk") (ins_tups htu hopt) hopt
      (hke.mono fun v x hx => hx.mono fun q hq _ => List.mem_append_right _ hq) hkl (by omega) hb hf6 ⟨by show -((i : Int) + 1) ≤ -(i : Int) - 1; omega, by show -(i : Int) - 1 ≤ i + 1; omega⟩
      (insL_sorted hs fun x hx => by have := hb x (hp.mem_iff.mp hx); show -(i : Int) - 1 < x.o; omega) (perm_insAt hp)
      (by rw [← hens]; have : oddN N = true := hb1; simp only [enOf, this, ordC]) (hcf _ (by omega))
  · show HH _ _ _ (execs (_ :: _) _) _
    walk_at "ex"
    walk_at "ev"
    walk_at "ev"
    refine H_callWith_Kkw (fl_96 _) rfl ?_
    walk_at "ev"
    walk_at "ev"
    walk_at "ev"
    walk_at "ev"
    walk_at "ev"
    refine H_Lambda (P := 154) (clos := []) (by decide) (by decide +kernel) rfl (by kernel_rfl) fun fa pm cv ctv => ?_
    refine ir_ok (x := .ref pA) (vs := vs) (n := n) (cnt := cntR ⟨rOf N, fOf N, (i : Int) + 1⟩ es) (lt := fun j => decide (cntR ⟨rOf N, fOf N, (i : Int) + 1⟩ es ≤ j)) (P := fun kx => ∃ t, kx = .str (S [nmc (rOf N)]) t) (by omega) (.tail _ (.head _)) (.head _) rfl (by omega) ?_ ?_ (fun j _ => rfl) (by rw [hvl]; exact cntR_le _ _) (Up.tl Up.hd) ?_
    · intro c' m' hw hd
      refine H_callLam (x := Str.ofString "other") (.head _) (by omega) (by kernel_rfl) (cellFree.elim (by decide +kernel)) (by decide +kernel) rfl rfl rfl fun g' L2 => ?_
      walk_at "ev"
      walk_at "ev"
      walk_at "ev"
      refine H_item_tuple (k := 0) (.tail _ (.tail _ (.tail _ (.head _)))) (by decide) rfl ?_
      exact ⟨_, Sb.refl, rfl, rfl, _, rfl⟩
    · rintro _ ⟨tk, rfl⟩ c' m' j v hw hd hv
      obtain ⟨q, hqj, a, tq, uq, rfl, hmem, hoq⟩ := htu.get hv
      refine H_callLam (x := Str.ofString "other") (.head _) (by omega) (by kernel_rfl) (cellFree.elim (by decide +kernel)) (by decide +kernel) rfl rfl rfl fun g' L2 => ?_
      walk_at "ev"
      walk_at "ev"
      walk_at "ev"
      refine H_item_tuple (k := 0) (.tail _ (.tail _ (.tail _ (.tail _ (.tail _ (.tail _ (.tail _ (List.mem_append_left _ hmem)))))))) (by decide) rfl ?_
      refine ⟨_, Sb.refl, rfl, rfl, fun m3 Q3 hq3 => H_lt_str ?_⟩
      have := cnt_R hs (x := [nmc (rOf N)]) rfl j q hqj
      rw [cntR_eq ⟨rOf N, fOf N, (i : Int) + 1⟩] at this
      rw [this]; exact hq3
    walk_at "ex"
    refine H_Call_method F.plainAttrs_list slot_list_append type_list_append ?_
    walk_at "ev"
    refine ⟨TyAt.led (o := listO kvs kn) (by walk_at "mem"), H_callWith_b ?_⟩
    walk_at "ev"
    walk_at "ev"
    walk_at "ev"
    walk_at "ev"
    walk_at "ev"
    walk_at "ev"
    refine H_item_tuple (k := 0) (.tail _ (.tail _ (.tail _ (.head _)))) (by decide) rfl ?_
    walk_at "ev"
    walk_at "ev"
    walk_at "ev"
    walk_at "ev"
    refine H_add_int fun t6 => ?_
    walk_at "ev"
    walk_at "ev"
    walk_at "ev"
    walk_at "ev"
    walk_at "ev"
    refine ⟨by simp, fun kE => ?_⟩
    walk_at "ev"
    apply H_append
    focus walk_at "up"
    focus (rw [hke.length]; omega)
    refine H_nil (Then_next ?_)
    refine H_wk (nw' := (kE, tupO [.str (S [nmc (rOf N)]) t1, .int ((i : Int) + 1) t6, .ref pA, .str (S (nmc (rOf N) :: wr (fOf N))) t2]) :: (r, listO (vs.take (cntR ⟨rOf N, fOf N, (i : Int) + 1⟩ es) ++ .ref pA :: vs.drop (cntR ⟨rOf N, fOf N, (i : Int) + 1⟩ es)) (n + 1)) :: (pA, tupO [.str (S [nmc (rOf N)]) t1, u]) :: (it, o) :: (nA, listO nvs) :: (kA, listO (kvs ++ [.ref kE]) (kn + 1)) :: (T' ++ T)) (by walk_at "sb") ?_
    exact after_ok (e := ⟨rOf N, fOf N, (i : Int) + 1⟩) (es := insAt (cntR ⟨rOf N, fOf N, (i : Int) + 1⟩ es) ⟨rOf N, fOf N, (i : Int) + 1⟩ es) (ks := ks) (i := i) hroom hcu (by walk_at "lk") (by walk_at "lk") (by walk_at "lk") (ins_tups htu hopt) hopt
      (hke.mono fun v x hx => hx.mono fun q hq _ => List.mem_append_right _ hq) hkl (by omega) hb hf6 ⟨by show -((i : Int) + 1) ≤ (i : Int) + 1; omega, by show (i : Int) + 1 ≤ i + 1; omega⟩
      (insR_sorted hs fun x hx => by have := hb x (hp.mem_iff.mp hx); show x.o < (i : Int) + 1; omega) (perm_insAt hp)
      (by rw [← hens]; have : oddN N = false := hb1; simp only [enOf, this, ordC]) (hcf _ (by omega))
set_option maxHeartbeats 2000000
theorem H_lslice_g {c : Cx} {m : Nm} {nw : Nw} {value : Expr} {lo hi : Option Expr} {sp : Pos} {l a : Addr} {vs : List Value} {vl vu : Value} {pl pu : Option Nat} {Q : Value → Nm → Nw → Prop} (hm : c.g.IsList l vs.toArray) (hs : (a, fldO "slice" [vl, vu, .none]) ∈ nw)
    (hl : IsPart vl (pl.map Int.ofNat)) (hu : IsPart vu (pu.map Int.ofNat)) (hz : vs.length ≤ 1000000)
    (h : ∀ r, Q (.ref r) m ((r, listO ((vs.take (pu.getD vs.length)).drop (pl.getD 0))) :: nw)) : HH c m nw (subscriptTail value (.Slice lo hi none sp) (.ref l) (.ref a)) Q := fun A s G => by
  obtain ⟨o, ho, hc, n, hd⟩ := hm
  exact tail_any (T := "list") ⟨_, G.fm.keep _ _ ho, hc⟩ list_getitem_lookup (wpAny_getItem_list_slice (items := vs.toArray) (st := none) ⟨_, G.fm.keep _ _ ho, hc, n, hd⟩ ⟨_, G.fm.get hs, rfl, rfl⟩ hl hu .none (by simp)
    ⟨_, _, G.heap' (G.fm.push _ rfl rfl), by
      rw [pick_list]
      exact h _⟩ (by rw [List.size_toArray]; exact Nat.le_trans hz (by decide))) (by with_unfolding_all rfl)
theorem ints_take {vs : List Value} {ns : List Int} (h : IntsAre vs ns) : ∀ k, IntsAre (vs.take k) (ns.take k) := by
  induction h with
  | nil => intro k; simpa using IntsAre.nil
  | cons n t _ ih =>
    intro k
    cases k with
    | zero => exact .nil
    | succ k => exact .cons n t (ih k)
theorem ints_append {vs ws : List Value} {ns ms : List Int} (h : IntsAre vs ns) (h' : IntsAre ws ms) : IntsAre (vs ++ ws) (ns ++ ms) := by
  induction h with
  | nil => exact h'
  | cons n t _ ih => exact .cons n t ih
theorem end_ok {c : Cx} {fl0 : Addr} {m : Nm} {nw : Nw} {nA kA : Addr} {nvs : List Value} {Ns : List Int} (hroom : c.d < 800) (hcu : c.u + 100 < cLine) (hI : IntsAre nvs Ns) (h1 : 1 ≤ Ns.length) (h7 : Ns.length ≤ 7) (hinv : Inv nA nvs Ns kA Ns.length m nw) :
    HH c m nw (execs ((bodyAt 23).drop 6) (envL fl0 c.L)) fun fl _ _ => fl = .ret (.bool true) := by
  obtain ⟨ks, es, kvs, kn, tt, T, rA, rvs, rn, wA, wts, wn, rfl, hmn, hmk, hmt, hmr, hmw, hr, htu, hw, hwts, hke, hkl, -, hb, hs, hp⟩ := hinv
  have hel : es.length = Ns.length := by rw [hp.length_eq, hkl]
  have hfe : ∀ e ∈ es, e.f < 6 := fun e he => (hb e (hp.mem_iff.mp he)).1
  have hz := tx_le es
  have hnl := ints_len hI
  show HH _ _ _ (execs (_ :: _) _) _
  walk_at "ex"
  refine H_isTrue_Not ?_
  refine H_isTrue_value ?_
  walk_at "ev"
  walk_at "ev"
  refine H_callWith_K (fl_147 _) rfl ?_
  walk_at "ev"
  walk_at "ev"
  walk_at "ev"
  refine named_ok (ps := es.map En.pr) (by omega) (.tail _ (.tail _ hr)) (htu.mono fun q hq => .tail _ (.tail _ hq)) (by simp; omega) (fun x hx => cnt_L hs hx) (fun x hx => cnt_R hs hx) ?_
  refine H_truthy_bool (Br_false ?_)
  refine H_nil (Then_next ?_)
  walk_at "ex"
  walk_at "ev"
  walk_at "ev"
  refine H_callWith_K (fl_152 _) rfl ?_
  walk_at "ev"
  walk_at "ev"
  walk_at "ev"
  walk_at "ev"
  walk_at "ev"
  walk_at "ev"
  walk_at "ev"
  walk_at "ev"
  walk_at "ev"
  walk_at "ev"
  walk_at "ev"
  walk_at "ev"
  refine H_callWith_b ?_
  walk_at "ev"
  walk_at "ev"
  walk_at "ev"
  refine H_sum (.head _) hI fun t1 => ?_
  walk_at "ev"
  walk_at "ev"
  refine H_callWith_b ?_
  walk_at "ev"
  walk_at "ev"
  walk_at "ev"
  refine H_len_list (.head _) (by omega) fun t2 => ?_
  refine H_mod_int (by omega) fun t3 => ?_
  refine H_add_int fun t4 => ?_
  walk_at "ev"
  obtain ⟨k, hk, hk1, hk2⟩ : ∃ k : Nat, (1 : Int) + Ns.sum.fmod (nvs.length : Int) = (k : Int) ∧ 1 ≤ k ∧ k ≤ es.length := by
    have a1 := Int.fmod_nonneg_of_pos Ns.sum (show (0 : Int) < (nvs.length : Int) by omega)
    have a2 := Int.fmod_lt_of_pos Ns.sum (show (0 : Int) < (nvs.length : Int) by omega)
    exact ⟨(1 + Ns.sum.fmod (nvs.length : Int)).toNat, by omega, by omega, by omega⟩
  rw [hk]
  obtain ⟨st, wl, cn, f1, f2, f3, f4, f5, f6, f7, f8, f9⟩ := heads_facts hfe (by omega) hk1 hk2
  exact heads_ok (ps := es.map En.pr) (ws := es.map En.tx) (wts := wts) (k := k) (st := st) (cn := cn) (wl := wl) (by omega) hcu (.tail _ (.tail _ hr)) (htu.mono fun q hq => .tail _ (.tail _ hq)) (.tail _ (.tail _ hw)) hwts (by simp) (by simp; omega)
    (fun w hw => by
      obtain ⟨e, _, rfl⟩ := List.mem_map.mp hw
      have := wtx_le e.w
      show (wtx e.w).length ≤ _
      omega) hk1 (by simpa using hk2) (by omega) f2 f3 f1 f4 f5 f6 f7 f8 f9 rfl
theorem law_ok {c : Cx} {fl0 : Addr} {a : Addr} {vs : List Value} {ns : List Int} (hroom : c.d < 800) (hcu : c.u + 100 < cLine) (hg : c.g.IsList a vs.toArray) (hI : IntsAre vs ns) (hlen : ns.length ≤ 63) :
    HH c [(Str.ofString "script", .ref a)] [] (execs (bodyAt 23) (envL fl0 c.L)) fun fl _ _ => fl = .ret (.bool true) := by
  have hvl := ints_len hI
  show HH _ _ _ (execs (_ :: _) _) _
  walk_at "ex"
  walk_at "ev"
  walk_at "ev"
  walk_at "ev"
  walk_at "ev"
  walk_at "ev"
  walk_at "ev"
  walk_at "ev"
  walk_at "ev"
  intro sl
  refine H_lslice_g (vs := vs) (pl := none) (pu := some 2) hg (.head _) .none (.int _ _) (by omega) fun r1 => ?_
  walk_at "ev"
  (iterate 5 (walk_at "ev"; walk_at "ev"))
  walk_at "ev"
  refine ⟨by simp, fun b1 => ?_⟩
  refine H_add_list (.tail _ (.head _)) (.head _) (by simp; omega) fun nA => ?_
  rename_i q1 q2 q3 q4 q5
  have hNs : IntsAre (List.drop ((none : Option Nat).getD 0) (List.take ((some 2).getD vs.length) vs) ++ [.int 10 q1, .int 0 q2, .int 31 q3, .int 4 q4, .int 17 q5]) (ns.take 2 ++ [10, 0, 31, 4, 17]) := by
    refine ints_append ?_ (.cons _ _ (.cons _ _ (.cons _ _ (.cons _ _ (.cons _ _ .nil)))))
    simpa using ints_take hI 2
  generalize hnv : List.drop ((none : Option Nat).getD 0) (List.take ((some 2).getD vs.length) vs) ++ [.int 10 q1, .int 0 q2, .int 31 q3, .int 4 q4, .int 17 q5] = nvs at hNs ⊢
  have hNl : 5 ≤ (ns.take 2 ++ [10, 0, 31, 4, 17]).length ∧ (ns.take 2 ++ [10, 0, 31, 4, 17]).length ≤ 7 := by
    rw [List.length_append, List.length_take]; simp; omega
  have hcf : ∀ k, k ≤ (ns.take 2 ++ [10, 0, 31, 4, 17]).length → Cfg ((ns.take 2 ++ [10, 0, 31, 4, 17]).take k) := fun k hk => Cfg_all ns hk
  generalize (ns.take 2 ++ [10, 0, 31, 4, 17]) = Ns at hNs hNl hcf
  have hnl := ints_len hNs
  walk_at "ex"
  walk_at "ev"
  rename_i tx0
  walk_at "ex"
  walk_at "ev"
  walk_at "ev"
  refine ⟨by simp, fun kA => ?_⟩
  walk_at "ex"
  walk_at "ev"
  walk_at "ev"
  refine ⟨by simp, fun rA => ?_⟩
  walk_at "ex"
  walk_at "ev"
  walk_at "ev"
  refine ⟨by simp, fun wA => ?_⟩
  refine H_forR (n := Ns.length) (fun i m nw => ∃ nwI, Sb nwI nw ∧ Inv nA nvs Ns kA i m nwI) (by omega) ?_ ?_ ?_
  · walk_at "ev"
    walk_at "ev"
    refine H_callWith_t ?_
    walk_at "ev"
    walk_at "ev"
    walk_at "ev"
    refine H_callWith_b ?_
    walk_at "ev"
    walk_at "ev"
    walk_at "ev"
    refine H_len_list (by walk_at "mem") (by omega) fun t1 => ?_
    walk_at "ev"
    rw [hnl]
    refine H_range fun rg t2 t3 => ?_
    refine ⟨rg, _, _, _, rfl, .head _, (nA, listO nvs) :: (kA, listO []) :: [(wA, listO []), (rA, listO [])], ?_, ?_⟩
    · refine Sb.drop (Sb.trans (Sb.perm ?_) (show Sb ((wA, listO []) :: (rA, listO []) :: (kA, listO []) :: (nA, listO nvs) :: []) _ by walk_at "sb"))
      exact (List.perm_append_comm (l₁ := [(nA, listO nvs), (kA, listO [])]) (l₂ := [(wA, listO []), (rA, listO [])])).trans (((List.Perm.swap (kA, listO []) (nA, listO nvs) []).cons _).cons _)
    · refine ⟨[], [], [], 0, tx0, [(wA, listO []), (rA, listO [])], rA, [], 0, wA, [], 0, rfl, by walk_at "lk", by walk_at "lk", ?_, by walk_at "lk", by walk_at "lk", .tail _ (.head _), .nil, .head _, rfl, .nil, rfl, rfl, fun e he => (by cases he), .nil, .refl _⟩
      rw [show S (tx []) = Str.ofString "" from by decide +kernel]
      walk_at "lk"
  · rintro it o i m nw t hi ⟨nwI, hsb, hinv⟩
    exact H_wk (Sb.keep hsb) (turn_ok hroom hcu hNs (by omega) hcf hi hinv)
  · rintro m nw ⟨nwI, hsb, hinv⟩
    exact H_wk hsb (end_ok hroom hcu hNs (by omega) (by omega) hinv)
set_option maxHeartbeats 2000000
theorem grown_of {hid : Nw} {h : Heap} (hok : HidOk hid) (hm : ∀ p ∈ hid, h.get? p.1 = some p.2) : ∀ {tabs : List (Addr × Addr)}, (∀ q ∈ tabs, q ∈ tabs5) → GrownAll tabs h
  | [], _ => True.intro
  | q :: r, hq => by
    obtain ⟨ps, hp, _⟩ := hok.tab q (hq q (.head _))
    exact ⟨⟨ps, hm _ hp⟩, grown_of hok hm fun x hx => hq x (.tail _ hx)⟩
theorem hid0_ok : HidOk [(149, tabObj #[]), (144, tabObj #[]), (65, tabObj #[]), (82, tabObj #[]), (154, tabObj #[])] := by
  refine ⟨fun q hq => ⟨#[], ?_, True.intro, fun pos cv h => ?_⟩⟩
  · simp only [tabs5, List.mem_cons, List.not_mem_nil, or_false] at hq
    rcases hq with rfl | rfl | rfl | rfl | rfl <;> simp
  · simp [codeAmong] at h
theorem top_ok {w : World} {fl0 : Addr} {s₁ : Shared} {h₁ : Heap} {tk : Nat} {a : Addr} {vs : List Value} {ns : List Int} {p : Program} {loose : List Str} {mean : ExcName → Option Value} {mg mb mf : Str → Option Value} {Q : Flow → Shared → Prop} {E : Value → Shared → Prop}
    (X' : (KF w).In (ghostOf s₁.heap tabs5)) (T' : Top p loose mean mg mb (ghostOf s₁.heap tabs5)) (F' : Fr (ghostOf s₁.heap tabs5) s₁.heap.objs.size h₁ mf) (hmf : mf (Str.ofString "script") = some (.ref a))
    (lifted : (ghostOf s₁.heap tabs5).IsList a vs.toArray) (hC : ∀ q ∈ tabs5, CodeHd (ghostOf s₁.heap tabs5) q.1 q.2)
    (N' : News (ghostOf s₁.heap tabs5) s₁.heap.objs.size h₁ [(149, tabObj #[]), (144, tabObj #[]), (65, tabObj #[]), (82, tabObj #[]), (154, tabObj #[])]) (hg : s₁.gens = #[]) (hI : IntsAre vs ns) (hlen : ns.length ≤ 63)
    (hq : ∀ s' : Shared, (∀ b o, (ghostOf s₁.heap tabs5).get? b = some o → s'.heap.get? b = some o) → s'.os = s₁.os → s'.gens = #[] → GrownAll tabs5 s'.heap → Q (.ret (.bool true)) s') :
    wpAny (model prg w) (callerA.deeper (envL fl0 s₁.heap.objs.size)) (execs (bodyAt 23) (envL fl0 s₁.heap.objs.size)) Q E { heap := h₁, gens := s₁.gens, drawn := s₁.drawn, toks := tk, os := s₁.os } := by
  obtain ⟨s, es⟩ : ∃ s : Shared, s = { heap := h₁, gens := s₁.gens, drawn := s₁.drawn, toks := tk, os := s₁.os } := ⟨_, rfl⟩
  have hs : s.heap = h₁ := by rw [es]
  have hsg : s.gens = s₁.gens := by rw [es]
  have hso : s.os = s₁.os := by rw [es]
  rw [← es]
  have G : Gd ⟨w, ghostOf s₁.heap tabs5, s₁.heap.objs.size, 310, 10, #[], s₁.os⟩ [(Str.ofString "script", .ref a)] [] (callerA.deeper (envL fl0 s₁.heap.objs.size)) s := by
    refine ⟨rfl, ?_, ?_, ⟨⟨mf, by rw [hs]; exact F'.ns, fun y v e => ?_⟩, by rw [hs]; exact F'.keep, F'.above, ⟨X', ⟨_, _, _, _, _, T'⟩, hC⟩, _, hid0_ok, fun q hq => (nomatch hq), by rw [hs]; exact ⟨N', by decide⟩⟩, hsg.trans hg, hso⟩
    · show (callerA.deeper (envL fl0 s₁.heap.objs.size)).depth ≤ 310
      exact Nat.le_of_ble_eq_true rfl
    · show (callerA.deeper (envL fl0 s₁.heap.objs.size)).units ≤ 10
      exact Nat.le_of_ble_eq_true rfl
    · rw [List.lookup_cons] at e
      by_cases hy : y = Str.ofString "script"
      · subst hy
        simp only [beq_self_eq_true] at e
        rw [← e]; exact hmf
      · rw [beq_eq_false_iff_ne.mpr hy] at e; cases e
  refine (law_ok (c := ⟨w, ghostOf s₁.heap tabs5, s₁.heap.objs.size, 310, 10, #[], s₁.os⟩) (by show 310 < 800; decide) (by show 10 + 100 < cLine; decide) lifted hI hlen).go _ _ G fun fl s' m' nw' G' e => ?_
  subst e
  obtain ⟨hid, hok, hfo, l⟩ := G'.fm.led
  exact hq s' G'.fm.keep G'.os G'.gn (grown_of hok (fun p hp => (l.1 p (List.mem_append_right _ hp)).1) fun q hq => hq)
end Mine
set_option maxHeartbeats 4000000 in
theorem PySem.Challenge.cw_nb0228_01_holds : PySem.Challenge.rw_nb0228_01.Holds := by
  refine Mine.hd ?_
  k_go0
  refine Mine.top_ok (by assumption) (by assumption) (by assumption) ?hm (by assumption) ?hc (by assumption) (by assumption) (by assumption) ?hl ?hq
  case hm => kernel_rfl
  case hc =>
    intro q hq
    simp only [Mine.tabs5, List.mem_cons, List.not_mem_nil, or_false] at hq
    rcases hq with rfl | rfl | rfl | rfl | rfl <;> with_reducible assumption
  case hl => omega
  case hq =>
    intro s' h1 h2 h3 h4
    refine ⟨⟨.inl ⟨.bool true, .bool true, [], rfl, fun _ => rfl, .bool true, ?hpo9, fun _ => ⟨.nil, fun a h => nomatch h⟩⟩, h1, h2, h3⟩, h4⟩
    refine' postW_of ?s9 ?v9 ?e9
    (case s9 => o_shape)
    (case v9 => wtm_val)
    (case e9 => w_fin)
